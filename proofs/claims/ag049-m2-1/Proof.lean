import JvmDerived
import JvmDerived.Pilot.@@N@@Statement
import JvmDerived.Pilot.@@N@@Code
set_option linter.unusedVariables false
set_option linter.unusedSimpArgs false
namespace Jvm.Pilot.@@N@@
open Jvm Jvm.ClassFile Sem Op Lib Jvm.Free Jvm.Stand Jvm.LawKit Jvm.RoadKit Bundle Jvm.Pilot.@@N@@.Jvm.D
/-! own_..: the walk in goal form: own_Go says that from a frame on the run comes to its end as the contract says; every step turns the goal for one frame into the goal for the next, so a branch is a case split and a join a 'have'. -/
def own_Post (s : State) (Q : Option Value → Heap → List Loc → Prop) (cs ss : Nat) (o : Outcome) (u : State) : Prop := ∃ v L, o = .returned v ∧ Q v u.heap L ∧ FrameEnd s o u L cs ss
def own_Go (p : Program) (e : Env) (below : List Frame) (Qf : Outcome → State → Prop) (T : State) (g : JFrame) : Prop := ∃ s₂ o, Steps p.tables e below (T.setTop g) s₂ ∧ s₂.status = .running ∧ Ended s₂ below o ∧ Qf o s₂
abbrev own_Met (l : Launch) (Z : State) (y : MethodName) (bytes : ByteArray) (maxL : Nat) (ret : Option FieldType) (ws : List Jvm.Cond) (rm : Room) (as' : Array Value) (h0 : Heap) (cs ss : Nat) (Q : Option Value → Heap → List Loc → Prop) : Prop :=
  MetFree l y (head1 (Jvm.Cond.code y bytes maxL ret :: ws) rm) (fun a U => a = as' ∧ Z.Warmed39 U.vm ∧ U.heap = h0) (fun _ _ _ _ _ => True) (fun _ U o U' => ∃ v L, o = .returned v ∧ Q v U'.heap L ∧ FrameEnd U o U' L cs ss)
def own_b (b : Bool) : Int32 := if b then 1 else 0
theorem own_b_t {b : Bool} (h : b = true) : own_b b = 1 := by subst h; rfl
theorem own_b_f {b : Bool} (h : ¬ b = true) : own_b b = 0 := by rw [Bool.eq_false_iff.mpr h]; rfl
theorem own_b_n {b : Bool} (h : b = true) : ¬ own_b b = 0 := by subst h; decide
theorem own_b_nar (b : Bool) : nar .boolean (own_b b) = own_b b := by cases b <;> rfl
theorem own_b_fits (b : Bool) : fits .boolean (.int (own_b b)) = true := by cases b <;> rfl
theorem own_b_inj {a b : Bool} (h : own_b a = own_b b) : a = b := by cases a <;> cases b <;> first | rfl | exact absurd h (by decide)
section Own
variable {p : Program} {l : Launch} {e : Env} {R : Room} {s : State} {m : MethodId} {args : Array Value} {below : List Frame} {meth : Method} {c : Code} {T T' : State} {locs : List Loc} {cells slots : Nat} {Z : State} {a0 : Array Value} {h : Heap}
theorem own_go {Qf : Outcome → State → Prop} {g g' : JFrame} (h : ∀ t, Steps p.tables e below (T'.setTop g') t → Steps p.tables e below (T.setTop g) t) (k : own_Go p e below Qf T' g') : own_Go p e below Qf T g := by
  obtain ⟨s₂, o, h1, h2⟩ := k
  exact ⟨s₂, o, h _ h1, h2⟩
theorem own_cast {Qf : Outcome → State → Prop} {g g' : JFrame} (q : g = g') (k : own_Go p e below Qf T g') : own_Go p e below Qf T g := q ▸ k
theorem own_met {y : MethodName} {bytes : ByteArray} {maxL : Nat} {ret : Option FieldType} {ws : List Jvm.Cond} {rm : Room} {as' : Array Value} {h0 : Heap} {cs ss : Nat} {Q : Option Value → Heap → List Loc → Prop} (hp : plainFor y = true)
    (body : ∀ (p : Program) (e : Env) (s : State) (m : MethodId) (below : List Frame) (meth : Method) (c : Code) (s₁ : State), BodyLoose p l y (head1 (Jvm.Cond.code y bytes maxL ret :: ws) rm) bytes maxL ret e s m as' below meth c s₁ → c.maxLocals = maxL → Z.Warmed39 s.vm →
      Stand p l e rm s m as' below meth c s₁ [] 0 0 → s₁.heap = h0 → own_Go p e below (own_Post s Q cs ss) s₁ (entryFrame m as' maxL)) : own_Met l Z y bytes maxL ret ws rm as' h0 cs ss Q := by
  refine MetFree.of_bodySF hp hisR ?_
  intro p e s m args below meth c s₁ Bd hml0 hP hK
  obtain ⟨rfl, hZ, hh⟩ := hP
  exact body p e s m below meth c s₁ Bd hml0 hZ (Stand.of_body Bd) (by rw [← hh, Bd.state]; rfl)
theorem own_retN (X : Stand p l e R s m args below meth c T locs cells slots) (hx : p.tables.exec = Jvm.exec) (t : FieldType) (hret : meth.sig.returnType = some t) (hlk : meth.locks = false) (ht : t = .boolean ∨ t = .byte ∨ t = .char ∨ t = .short) {pc : Nat} {Ls : Array Slot} {z : Int32} {rest : List Value} (hd : decode c.code pc = .ok (.ireturn, 1))
    {Q : Option Value → Heap → List Loc → Prop} {cs ss : Nat} (hc : cells ≤ cs) (hs : slots ≤ ss) (hQ : Q (some (.int (nar t z))) T.heap locs) : own_Go p e below (own_Post s Q cs ss) T (mkF m pc Ls (.int z :: rest)) := by
  obtain ⟨fs, hr, hrun, hended, hW, hsame⟩ := X.leave (v := some (.int (nar t z))) (fun h => by rw [hret] at h; cases h) hlk
  exact ⟨_, _, retN X hx hret ht hd hr, hrun, hended, _, _, rfl, hQ, ⟨_, rfl⟩, hW, hsame.mono hc hs⟩
theorem own_retI (X : Stand p l e R s m args below meth c T locs cells slots) (hx : p.tables.exec = Jvm.exec) (hret : meth.sig.returnType = some .int) (hlk : meth.locks = false) {pc : Nat} {Ls : Array Slot} {z : Int32} {rest : List Value} (hd : decode c.code pc = .ok (.ireturn, 1))
    {Q : Option Value → Heap → List Loc → Prop} {cs ss : Nat} (hc : cells ≤ cs) (hs : slots ≤ ss) (hQ : Q (some (.int z)) T.heap locs) : own_Go p e below (own_Post s Q cs ss) T (mkF m pc Ls (.int z :: rest)) := by
  obtain ⟨fs, hr, hrun, hended, hW, hsame⟩ := X.leave (v := some (.int z)) (fun h => by rw [hret] at h; cases h) hlk
  exact ⟨_, _, retOut X hx hret rfl (Or.inl ⟨rfl, Or.inl rfl, _, rfl⟩) hd hr, hrun, hended, _, _, rfl, hQ, ⟨_, rfl⟩, hW, hsame.mono hc hs⟩
theorem own_retJ (X : Stand p l e R s m args below meth c T locs cells slots) (hx : p.tables.exec = Jvm.exec) (hret : meth.sig.returnType = some .long) (hlk : meth.locks = false) {pc : Nat} {Ls : Array Slot} {z : Int64} {rest : List Value} (hd : decode c.code pc = .ok (.lreturn, 1))
    {Q : Option Value → Heap → List Loc → Prop} {cs ss : Nat} (hc : cells ≤ cs) (hs : slots ≤ ss) (hQ : Q (some (.long z)) T.heap locs) : own_Go p e below (own_Post s Q cs ss) T (mkF m pc Ls (.long z :: rest)) := by
  obtain ⟨fs, hr, hrun, hended, hW, hsame⟩ := X.leave (v := some (.long z)) (fun h => by rw [hret] at h; cases h) hlk
  exact ⟨_, _, retOut X hx hret rfl (Or.inr (Or.inl ⟨rfl, rfl, _, rfl⟩)) hd hr, hrun, hended, _, _, rfl, hQ, ⟨_, rfl⟩, hW, hsame.mono hc hs⟩
theorem own_retA (X : Stand p l e R s m args below meth c T locs cells slots) (hx : p.tables.exec = Jvm.exec) {t : FieldType} (hret : meth.sig.returnType = some t) (hlk : meth.locks = false) (ht : t.isReference = true) {pc : Nat} {Ls : Array Slot} {w : Value} {rest : List Value} (hw : w.isRef = true) (hd : decode c.code pc = .ok (.areturn, 1))
    {Q : Option Value → Heap → List Loc → Prop} {cs ss : Nat} (hc : cells ≤ cs) (hs : slots ≤ ss) (hQ : Q (some w) T.heap locs) : own_Go p e below (own_Post s Q cs ss) T (mkF m pc Ls (w :: rest)) := by
  obtain ⟨fs, hr, hrun, hended, hW, hsame⟩ := X.leave (v := some w) (fun h => by rw [hret] at h; cases h) hlk
  have hn : narrow t w = w := by rcases ref_cases hw with rfl | ⟨a, rfl⟩ <;> cases t <;> first | rfl | cases ht
  exact ⟨_, _, retOut X hx hret hn (Or.inr (Or.inr (Or.inr (Or.inr ⟨rfl, ht, hw⟩)))) hd hr, hrun, hended, _, _, rfl, hQ, ⟨_, rfl⟩, hW, hsame.mono hc hs⟩
theorem own_retV (X : Stand p l e R s m args below meth c T locs cells slots) (hx : p.tables.exec = Jvm.exec) (hret : meth.sig.returnType = none) (hlk : meth.locks = false) {pc : Nat} {Ls : Array Slot} (hd : decode c.code pc = .ok (.return_, 1))
    {Q : Option Value → Heap → List Loc → Prop} {cs ss : Nat} (hc : cells ≤ cs) (hs : slots ≤ ss) (hQ : Q none T.heap locs) : own_Go p e below (own_Post s Q cs ss) T (mkF m pc Ls []) := by
  obtain ⟨fs, hr, hrun, hended, hW, hsame⟩ := X.leave (v := none) (fun _ => rfl) hlk
  exact ⟨_, _, X.returnOut hx hret hd hr, hrun, hended, _, _, rfl, hQ, ⟨_, rfl⟩, hW, hsame.mono hc hs⟩
theorem own_callS (X : Stand p l e R s m args below meth c T locs cells slots) (hx : p.tables.exec = Jvm.exec) (hZ : Z.Warmed39 s.vm) {own : String} {index : Nat} {y : MethodName} {bytes : ByteArray} {maxL : Nat} {ret : Option FieldType} (hown : s.vm.findClass own = some m.cls)
    (w1 : (Jvm.Cond.methodLink own index y).before a0 Z = true) (w2 : (Jvm.Cond.static y).before a0 Z = true) (w3 : (Jvm.Cond.initialized y.cls).before a0 Z = true) (w4 : (Jvm.Cond.code y bytes maxL ret).before a0 Z = true)
    (hy : y.cls ≠ "java/lang/invoke/MethodHandle" ∧ y.cls ≠ "java/lang/invoke/VarHandle") {rm : Room} {argsL : List Value} {Q : Option Value → Heap → List Loc → Prop} (hM : own_Met l Z y bytes maxL ret [] rm argsL.toArray h rm.cells rm.slots Q) (eT : T.heap = h)
    {g : JFrame} (hg : g.method = m) (hsize : g.locals.size = c.maxLocals) {rest : List Value} (hlen : ∀ sig, parseMethodDescriptor y.desc = some sig → argsL.length = sig.parameters.length) (hstack : g.stack = argsL.reverse ++ rest)
    (hdg : decode c.code g.pc = .ok (.invokestatic index, 3)) {W : Nat} (hW : 2 * g.monitorRoom + (rest.map fun v => v.category).sum ≤ W) (hf : rm.frames + 1 ≤ R.frames) (hl : W + (maxL + 11) + rm.locals ≤ R.locals) (hc : cells + rm.cells ≤ R.cells) (hs : slots + rm.slots ≤ R.slots) :
    ∃ (v : Option Value) (T' : State) (L : List Loc), Q v T'.heap L ∧ Stand p l e R s m args below meth c T' (locs ++ L) (cells + rm.cells) (slots + rm.slots) ∧
      ∀ t, Steps p.tables e below (T'.setTop { g with pc := g.pc + 3, stack := v.toList ++ rest }) t → Steps p.tables e below (T.setTop g) t := by
  obtain ⟨v, _, ⟨T', L', k', n'⟩, -, X', ⟨L, hQ, l1, l2, l3⟩, st⟩ := Jvm.LawKit.callS X hx hown (mvT hZ w1) (mvT hZ w2) (mvT hZ w3) (mvT hZ w4) hy (backOf (W := W) hM hZ w4 w3 hf hl) hg hsize hlen hstack hW hdg (fun _ _ => ⟨rfl, eT, hc, hs⟩)
  dsimp only [Pt.U, Pt.locs, Pt.cells, Pt.slots] at X' l1 l2 l3 st hQ
  subst l1 l2 l3
  exact ⟨v, T', L, hQ, X', st⟩
theorem own_callI (X : Stand p l e R s m args below meth c T locs cells slots) (hx : p.tables.exec = Jvm.exec) (hZ : Z.Warmed39 s.vm) {own : String} {index : Nat} {y : MethodName} {bytes : ByteArray} {maxL : Nat} (hy1 : y.name = "<init>") (hown : s.vm.findClass own = some m.cls)
    (w1 : (Jvm.Cond.methodLink own index y).before a0 Z = true) (w2 : (Jvm.Cond.instanceMethod y).before a0 Z = true) (w3 : (Jvm.Cond.initialized y.cls).before a0 Z = true) (w4 : (Jvm.Cond.code y bytes maxL none).before a0 Z = true)
    (hy : y.cls ≠ "java/lang/invoke/MethodHandle" ∧ y.cls ≠ "java/lang/invoke/VarHandle") {rm : Room} {a : Addr} {argsL : List Value} {Q : Option Value → Heap → List Loc → Prop} (hM : own_Met l Z y bytes maxL none [] rm (.ref a :: argsL).toArray h rm.cells rm.slots Q) (eT : T.heap = h)
    {g : JFrame} (hg : g.method = m) (hsize : g.locals.size = c.maxLocals) {rest : List Value} (hlen : ∀ sig, parseMethodDescriptor y.desc = some sig → argsL.length = sig.parameters.length) (hstack : g.stack = argsL.reverse ++ .ref a :: rest)
    (hdg : decode c.code g.pc = .ok (.invokespecial index, 3)) {W : Nat} (hW : 2 * g.monitorRoom + (rest.map fun v => v.category).sum ≤ W) (hf : rm.frames + 1 ≤ R.frames) (hl : W + (maxL + 11) + rm.locals ≤ R.locals) (hc : cells + rm.cells ≤ R.cells) (hs : slots + rm.slots ≤ R.slots) :
    ∃ (v : Option Value) (T' : State) (L : List Loc), Q v T'.heap L ∧ Stand p l e R s m args below meth c T' (locs ++ L) (cells + rm.cells) (slots + rm.slots) ∧
      ∀ t, Steps p.tables e below (T'.setTop { g with pc := g.pc + 3, stack := v.toList ++ rest }) t → Steps p.tables e below (T.setTop g) t := by
  obtain ⟨v, _, ⟨T', L', k', n'⟩, -, X', ⟨L, hQ, l1, l2, l3⟩, st⟩ := X.specialBack hx hy1 hown (mvT hZ w1) (mvT hZ w2) (mvT hZ w4) hy (backOf (W := W) hM hZ w4 w3 hf hl) hg hsize (Steps.refl _) hlen hstack hW hdg (fun _ _ => ⟨rfl, eT, hc, hs⟩)
  dsimp only [Pt.U, Pt.locs, Pt.cells, Pt.slots] at X' l1 l2 l3 st hQ
  subst l1 l2 l3
  exact ⟨v, T', L, hQ, X', fun _ k => st.trans k⟩
theorem own_callV (X : Stand p l e R s m args below meth c T locs cells slots) (hx : p.tables.exec = Jvm.exec) (hZ : Z.Warmed39 s.vm) {own C : String} {index : Nat} {y z : MethodName} {bytes : ByteArray} {maxL : Nat} {ret : Option FieldType} (hown : s.vm.findClass own = some m.cls)
    (w1 : (Jvm.Cond.methodLink own index y).before a0 Z = true) (w2 : (Jvm.Cond.declares y).before a0 Z = true) (hnf : NotFace s y) (ws : (Jvm.Cond.selects C y z).before a0 Z = true) (wi : (Jvm.Cond.instanceMethod z).before a0 Z = true) (w3 : (Jvm.Cond.initialized z.cls).before a0 Z = true) (w4 : (Jvm.Cond.code z bytes maxL ret).before a0 Z = true)
    (hy : y.cls ≠ "java/lang/invoke/MethodHandle" ∧ y.cls ≠ "java/lang/invoke/VarHandle") {rm : Room} {a : Addr} {argsL : List Value} {Q : Option Value → Heap → List Loc → Prop} (hM : own_Met l Z z bytes maxL ret [] rm (.ref a :: argsL).toArray h rm.cells rm.slots Q) (eT : T.heap = h) (E : Exa Z h a C)
    {g : JFrame} (hg : g.method = m) (hsize : g.locals.size = c.maxLocals) {rest : List Value} (hlen : ∀ sig, parseMethodDescriptor y.desc = some sig → argsL.length = sig.parameters.length) (hstack : g.stack = argsL.reverse ++ .ref a :: rest)
    (hdg : decode c.code g.pc = .ok (.invokevirtual index, 3)) {W : Nat} (hW : 2 * g.monitorRoom + (rest.map fun v => v.category).sum ≤ W) (hf : rm.frames + 1 ≤ R.frames) (hl : W + (maxL + 11) + rm.locals ≤ R.locals) (hc : cells + rm.cells ≤ R.cells) (hs : slots + rm.slots ≤ R.slots) :
    ∃ (v : Option Value) (T' : State) (L : List Loc), Q v T'.heap L ∧ Stand p l e R s m args below meth c T' (locs ++ L) (cells + rm.cells) (slots + rm.slots) ∧
      ∀ t, Steps p.tables e below (T'.setTop { g with pc := g.pc + 3, stack := v.toList ++ rest }) t → Steps p.tables e below (T.setTop g) t := by
  obtain ⟨cq, kq, qa, qb, qc⟩ := isOf hZ eT E
  obtain ⟨v, _, ⟨T', L', k', n'⟩, -, X', ⟨L, hQ, l1, l2, l3⟩, st⟩ := X.virtualBack hx hown (mvT hZ w1) (mvT hZ w2) hnf (mvT hZ ws) (mvT hZ wi) hy (backOf (W := W) hM hZ w4 w3 hf hl) qa qc hg hsize (Steps.refl _) hlen hstack hW hdg (fun _ _ => ⟨rfl, eT, hc, hs⟩)
  dsimp only [Pt.U, Pt.locs, Pt.cells, Pt.slots] at X' l1 l2 l3 st hQ
  subst l1 l2 l3
  exact ⟨v, T', L, hQ, X', fun _ k => st.trans k⟩
theorem own_callF (X : Stand p l e R s m args below meth c T locs cells slots) (hx : p.tables.exec = Jvm.exec) (hZ : Z.Warmed39 s.vm) {own C : String} {index count : Nat} {xi y : MethodName} {bytes : ByteArray} {maxL : Nat} {ret : Option FieldType} (hown : s.vm.findClass own = some m.cls)
    (w1 : (Jvm.Cond.methodLink own index xi).before args s = true) (w2 : (Jvm.Cond.declares xi).before args s = true) (wf : (Jvm.Cond.interfaceMethod xi.cls xi.cls xi.name xi.desc).before args s = true) (ws : (Jvm.Cond.selects C xi y).before args s = true) (wi : (Jvm.Cond.instanceMethod y).before args s = true) (wp : (Jvm.Cond.publicMethod y).before args s = true) (wu : (Jvm.Cond.unhidden C xi.name xi.desc).before args s = true) (wc : (Jvm.Cond.castable C xi.cls).before args s = true) (w3 : (Jvm.Cond.initialized y.cls).before a0 Z = true) (w4 : (Jvm.Cond.code y bytes maxL ret).before a0 Z = true)
    (hy : xi.cls ≠ "java/lang/invoke/MethodHandle" ∧ xi.cls ≠ "java/lang/invoke/VarHandle") {rm : Room} {a : Addr} {argsL : List Value} {Q : Option Value → Heap → List Loc → Prop} (hM : own_Met l Z y bytes maxL ret [] rm (.ref a :: argsL).toArray h rm.cells rm.slots Q) (eT : T.heap = h) (E : Exa Z h a C)
    {g : JFrame} (hg : g.method = m) (hsize : g.locals.size = c.maxLocals) {rest : List Value} (hlen : ∀ sig, parseMethodDescriptor xi.desc = some sig → argsL.length = sig.parameters.length) (hstack : g.stack = argsL.reverse ++ .ref a :: rest)
    (hdg : decode c.code g.pc = .ok (.invokeinterface index count, 5)) {W : Nat} (hW : 2 * g.monitorRoom + (rest.map fun v => v.category).sum ≤ W) (hf : rm.frames + 1 ≤ R.frames) (hl : W + (maxL + 11) + rm.locals ≤ R.locals) (hc : cells + rm.cells ≤ R.cells) (hs : slots + rm.slots ≤ R.slots) :
    ∃ (v : Option Value) (T' : State) (L : List Loc), Q v T'.heap L ∧ Stand p l e R s m args below meth c T' (locs ++ L) (cells + rm.cells) (slots + rm.slots) ∧
      ∀ t, Steps p.tables e below (T'.setTop { g with pc := g.pc + 5, stack := v.toList ++ rest }) t → Steps p.tables e below (T.setTop g) t := by
  obtain ⟨cq, kq, qa, qb, qc⟩ := isOf hZ eT E
  obtain ⟨v, _, ⟨T', L', k', n'⟩, -, X', ⟨L, hQ, l1, l2, l3⟩, st⟩ := X.interfaceBack hx hown w1 w2 wf ws wi wp wu wc hy (backOf (W := W) hM hZ w4 w3 hf hl) qa qb qc hg hsize (Steps.refl _) hlen hstack hW hdg (fun _ _ => ⟨rfl, eT, hc, hs⟩)
  dsimp only [Pt.U, Pt.locs, Pt.cells, Pt.slots] at X' l1 l2 l3 st hQ
  subst l1 l2 l3
  exact ⟨v, T', L, hQ, X', fun _ k => st.trans k⟩
theorem own_irem {g : JFrame} {target : State} (X : Stand p l e R s m args below meth c T locs cells slots) (hx : p.tables.exec = Jvm.exec) (hg : g.method = m) {x y : Int32} {rest : List Value} (hd : decode c.code g.pc = .ok (.irem, 1)) (hs : g.stack = .int y :: .int x :: rest) (hy : y ≠ 0)
    (hr : Steps p.tables e below (T.setTop { g with pc := g.pc + 1, stack := .int (x % y) :: rest }) target) : Steps p.tables e below (T.setTop g) target := iremM X hx hg hd hs hy hr
theorem own_lrem {g : JFrame} {target : State} (X : Stand p l e R s m args below meth c T locs cells slots) (hx : p.tables.exec = Jvm.exec) (hg : g.method = m) {x y : Int64} {rest : List Value} (hd : decode c.code g.pc = .ok (.lrem, 1)) (hs : g.stack = .long y :: .long x :: rest) (hy : y ≠ 0)
    (hr : Steps p.tables e below (T.setTop { g with pc := g.pc + 1, stack := .long (x % y) :: rest }) target) : Steps p.tables e below (T.setTop g) target :=
  XS.lrem X.here hx hg hd hs hy (by rw [lrem_mod]; exact hr)
theorem own_fldJ {t : Term} {C n d : String} {a : Addr} {z : Int64} (ht : t.eval args s none [] s = some (.ref a)) (q : (Jvm.Cond.eq (.field t C n d) (.long z)).value args s none s [] = some true) : Fld s s.heap a C n d (.long z) := by
  obtain ⟨x, y, ha, hb, -, k2⟩ := cmp_v (Or.inl q)
  obtain rfl : y = .long z := Option.some.inj (hb.symm.trans (long_at z))
  obtain ⟨w, rfl⟩ := k2
  have e : w = z := gotT (eq_L ha hb) q
  subst e
  exact Fld.start ((fld_at ht).symm.trans ha)
theorem own_staI {C n d : String} {z : Int32} (q : (Jvm.Cond.eq (.static C n d) (.int z)).value args s none s [] = some true) (hi : (Jvm.Cond.initializedFor C n d).before args s = true ∨ ((Jvm.Cond.initialized C).before args s = true ∧ (Jvm.Cond.laysStatic C n d).before args s = true)) : Sta s s.heap C n d (.int z) := by
  obtain ⟨x, y, ha, hb, -, k2⟩ := cmp_v (Or.inl q)
  obtain rfl : y = .int z := Option.some.inj (hb.symm.trans (Term.int_eval z))
  obtain ⟨w, rfl⟩ := k2
  have e : w = z := gotT (Cond.eq_ints ha hb) q
  subst e
  exact Sta.start ha hi
theorem own_ns_exa {a : Addr} {C : String} (E : Exa Z h a C) : ∃ c : Cell, h[a]? = some c ∧ c.vm.isStatics = false := by
  obtain ⟨c, k, h1, -, -, h4, -⟩ := E
  exact ⟨c, h1, h4⟩
theorem own_ns_arv {a : Addr} {k : ClassId} {ty : FieldType} {z : Int32} {vs : List Value} {dv : Value} (F : Arv Z h a k ty z vs dv) : ∃ c : Cell, h[a]? = some c ∧ c.vm.isStatics = false := by
  obtain ⟨c, A, -⟩ := F
  exact ⟨c, A.1, A.plain⟩
theorem own_sta_keep {h' : Heap} {C n d : String} {w : Value} {ws : List Addr} (F : Sta Z h C n d w) (K : Keep h h' ws) (hn : ∀ x ∈ ws, ∃ c : Cell, h[x]? = some c ∧ c.vm.isStatics = false) : Sta Z h' C n d w := by
  obtain ⟨cf, i, k, f, st, cell, h1, h2, h3, h4, h5, h6, h7⟩ := F
  exact ⟨cf, i, k, f, st, cell, h1, h2, h3, h4, K.2.1 st cell h5 (fun q => by obtain ⟨c, e1, e2⟩ := hn st q; cases h5.symm.trans e1; rw [e2] at h6; cases h6), h6, h7⟩
end Own
def own_max (a b : Int64) : Int64 := if a < b then b else a
theorem own_cap (c : Int64) : ¬ own_max 1 c < 1 := by
  unfold own_max
  have e : (1 : Int64).toInt = 1 := by decide
  by_cases h : 1 < c
  · rw [if_pos h]; simp only [Int64.lt_iff_toInt_lt] at h ⊢; omega
  · rw [if_neg h]; simp only [Int64.lt_iff_toInt_lt]; omega
theorem own_nz (a : Int64) : (a &&& (4611686018427387903 : Int64)) + (1 : Int64) ≠ 0 := by
  have h1 := c_maskL a (4611686018427387903 : Int64) 62 (by decide) (by decide)
  have h2 := c_ladd (a &&& (4611686018427387903 : Int64)) (1 : Int64)
  have e : (1 : Int64).toInt = 1 := by decide
  have e0 : (0 : Int64).toInt = 0 := by decide
  have h3 := rng64 ((a &&& (4611686018427387903 : Int64)) + (1 : Int64))
  rw [e] at h2
  intro q
  rw [q, e0] at h2 h3
  omega
theorem d1_0 : decode jdk_29_method_66_code 0 = .ok (.lload_n 0, 1) := by decide +kernel
theorem d1_1 : decode jdk_29_method_66_code 1 = .ok (.lload_n 2, 1) := by decide +kernel
theorem d1_2 : decode jdk_29_method_66_code 2 = .ok (.lcmp, 1) := by decide +kernel
theorem d1_3 : decode jdk_29_method_66_code 3 = .ok (.ifCond .lt 7, 3) := by decide +kernel
theorem d1_6 : decode jdk_29_method_66_code 6 = .ok (.lload_n 0, 1) := by decide +kernel
theorem d1_7 : decode jdk_29_method_66_code 7 = .ok (.goto 4, 3) := by decide +kernel
theorem d1_10 : decode jdk_29_method_66_code 10 = .ok (.lload_n 2, 1) := by decide +kernel
theorem d1_11 : decode jdk_29_method_66_code 11 = .ok (.lreturn, 1) := by decide +kernel
theorem ef_rm1 (m : MethodId) (q0 : Int64) (q1 : Int64) : entryFrame m #[(.long q0), (.long q1)] 4 = mkF m 0 #[.val (.long q0), .second, .val (.long q1), .second] [] := by first | (simp [entryFrame, mkF, argsToLocals, Value.category]; done) | rfl
set_option maxRecDepth 65536 in
set_option maxHeartbeats 40000000 in
theorem rm1 (l : Launch) (Z : State) (a0 : Array Value) (hw : ∀ d ∈ tables_1, d.before a0 Z = true) (q0 : Int64) (q1 : Int64)  (h0 : Heap) :
    own_Met l Z (⟨"java/lang/Math", "max", "(JJ)J"⟩ : MethodName) jdk_29_method_66_code 4 (some .long) [] ({ frames := 0, cells := 0, slots := 0, locals := 0 } : Room) #[(.long q0), (.long q1)] h0 0 0 (fun v h L => v = some (.long (own_max q0 q1)) ∧ h = h0 ∧ L = []) := by
  refine own_met (Jvm.Free.JP.mathPlain rfl (by decide +kernel)) ?_
  intro p e s m below meth c s₁ Bd hml0 hZ X0 e0
  have hx := Bd.exec
  have hby := Bd.bytes
  have hml : c.maxLocals = 4 := hml0
  have hown : s.vm.findClass "java/lang/Math" = some m.cls := findClass_of_methodNamed Bd.named
  have hnm := (name_of_methodNamed Bd.named Bd.method).1
  refine own_cast (ef_rm1 m q0 q1) ?_
  generalize hQQ : (fun (v : Option Value) (h : Heap) (L : List Loc) => v = some (.long (own_max q0 q1)) ∧ h = h0 ∧ L = []) = QQ
  refine own_go (g' := (mkF m 1 #[.val (.long q0), .second, .val (.long q1), .second] [(.long q0)])) (fun _ kgo => XS.lloadN X0.here hx rfl (hb hby d1_0) rfl kgo) ?_
  refine own_go (g' := (mkF m 2 #[.val (.long q0), .second, .val (.long q1), .second] [(.long q1), (.long q0)])) (fun _ kgo => XS.lloadN X0.here hx rfl (hb hby d1_1) rfl kgo) ?_
  refine own_go (g' := (mkF m 3 #[.val (.long q0), .second, .val (.long q1), .second] [(.int (lcmpW q0 q1))])) (fun _ kgo => XS.lcmp X0.here hx rfl (hb hby d1_2) rfl kgo) ?_
  by_cases hc1 : q0 < q1
  ·
    refine own_go (g' := (mkF m 10 #[.val (.long q0), .second, .val (.long q1), .second] [])) (fun _ kgo => XS.ifYes X0.here hx rfl (pc0 := 3) (pc' := 10) rfl (hb hby d1_3) rfl ((if0 _ _).trans (tlt ((lw_lt _ _).mpr hc1)).1) (by decide) (by decide) kgo) ?_
    refine own_go (g' := (mkF m 11 #[.val (.long q0), .second, .val (.long q1), .second] [(.long q1)])) (fun _ kgo => XS.lloadN X0.here hx rfl (hb hby d1_10) rfl kgo) ?_
    refine own_retJ X0 hx Bd.returns Bd.notSynchronized (hb hby d1_11) (by decide) (by decide) ?_
    show QQ _ s₁.heap _
    rw [e0]
    rw [← hQQ]
    exact ⟨by rw [show own_max q0 q1 = q1 from if_pos hc1], rfl, rfl⟩
  ·
    refine own_go (g' := (mkF m 6 #[.val (.long q0), .second, .val (.long q1), .second] [])) (fun _ kgo => XS.ifNo X0.here hx rfl (hb hby d1_3) rfl ((if0 _ _).trans (flt (mt (lw_lt _ _).mp hc1)).1) kgo) ?_
    refine own_go (g' := (mkF m 7 #[.val (.long q0), .second, .val (.long q1), .second] [(.long q0)])) (fun _ kgo => XS.lloadN X0.here hx rfl (hb hby d1_6) rfl kgo) ?_
    refine own_go (g' := (mkF m 11 #[.val (.long q0), .second, .val (.long q1), .second] [(.long q0)])) (fun _ kgo => XS.goto X0.here hx rfl (pc0 := 7) (pc' := 11) rfl (hb hby d1_7) (by decide) (by decide) kgo) ?_
    refine own_retJ X0 hx Bd.returns Bd.notSynchronized (hb hby d1_11) (by decide) (by decide) ?_
    show QQ _ s₁.heap _
    rw [e0]
    rw [← hQQ]
    exact ⟨by rw [show own_max q0 q1 = q0 from if_neg hc1], rfl, rfl⟩
theorem d8_0 : decode jdk_22_method_1_code 0 = .ok (.aload_n 0, 1) := by decide +kernel
theorem d8_1 : decode jdk_22_method_1_code 1 = .ok (.invokespecial 1, 3) := by decide +kernel
theorem d8_4 : decode jdk_22_method_1_code 4 = .ok (.return_, 1) := by decide +kernel
theorem pn_rm8 : plainName "java/util/AbstractCollection" = true := by first | (simp [plainName, overriddenIn]; done) | decide +kernel
theorem ef_rm8 (m : MethodId) (o0 : Addr) : entryFrame m #[(.ref o0)] 1 = mkF m 0 #[.val (.ref o0)] [] := by first | (simp [entryFrame, mkF, argsToLocals, Value.category]; done) | rfl
set_option maxRecDepth 65536 in
set_option maxHeartbeats 40000000 in
theorem rm8 (l : Launch) (Z : State) (a0 : Array Value) (hw : ∀ d ∈ tables_1, d.before a0 Z = true) (o0 : Addr)  (h0 : Heap) :
    own_Met l Z (⟨"java/util/AbstractCollection", "<init>", "()V"⟩ : MethodName) jdk_22_method_1_code 1 none [] ({ frames := 1, cells := 0, slots := 0, locals := 12 } : Room) #[(.ref o0)] h0 0 0 (fun v h L => v = none ∧ h = h0 ∧ L = []) := by
  refine own_met (plainFor_of_name pn_rm8) ?_
  intro p e s m below meth c s₁ Bd hml0 hZ X0 e0
  have hx := Bd.exec
  have hby := Bd.bytes
  have hml : c.maxLocals = 1 := hml0
  have hown : s.vm.findClass "java/util/AbstractCollection" = some m.cls := findClass_of_methodNamed Bd.named
  have hnm := (name_of_methodNamed Bd.named Bd.method).1
  refine own_cast (ef_rm8 m o0) ?_
  generalize hQQ : (fun (v : Option Value) (h : Heap) (L : List Loc) => v = none ∧ h = h0 ∧ L = []) = QQ
  refine own_go (g' := (mkF m 1 #[.val (.ref o0)] [(.ref o0)])) (fun _ kgo => XS.aloadN X0.here hx rfl (hb hby d8_0) rfl rfl kgo) ?_
  obtain ⟨T1, X1, e1, st1⟩ := initO X0 hx hZ hown (hw _ (List.mem_of_getElem? (i := 47) rfl)) (hw _ (List.mem_of_getElem? (i := 13) rfl)) (hw _ (List.mem_of_getElem? (i := 14) rfl)) e0 (g := (mkF m 1 #[.val (.ref o0)] [(.ref o0)])) rfl (by rw [hml]; rfl) rfl (hb hby d8_1) (by decide) (W := 0) (by show 2 * 0 + _ ≤ _; exact Nat.le_of_eq rfl) (by decide)
  refine own_go (g' := (mkF m 4 #[.val (.ref o0)] [])) (st1) ?_
  refine own_retV X1 hx Bd.returns Bd.notSynchronized (hb hby d8_4) (by decide) (by decide) ?_
  show QQ _ T1.heap _
  rw [e1]
  rw [← hQQ]
  exact ⟨rfl, rfl, rfl⟩
theorem d7_0 : decode jdk_91_method_1_code 0 = .ok (.aload_n 0, 1) := by decide +kernel
theorem d7_1 : decode jdk_91_method_1_code 1 = .ok (.invokespecial 1, 3) := by decide +kernel
theorem d7_4 : decode jdk_91_method_1_code 4 = .ok (.return_, 1) := by decide +kernel
theorem pn_rm7 : plainName "java/util/AbstractSet" = true := by first | (simp [plainName, overriddenIn]; done) | decide +kernel
theorem pd7_0 : parseMethodDescriptor "()V" = some ⟨[], none⟩ := by decide +kernel
theorem ef_rm7 (m : MethodId) (o0 : Addr) : entryFrame m #[(.ref o0)] 1 = mkF m 0 #[.val (.ref o0)] [] := by first | (simp [entryFrame, mkF, argsToLocals, Value.category]; done) | rfl
set_option maxRecDepth 65536 in
set_option maxHeartbeats 40000000 in
theorem rm7 (l : Launch) (Z : State) (a0 : Array Value) (hw : ∀ d ∈ tables_1, d.before a0 Z = true) (o0 : Addr)  (h0 : Heap) :
    own_Met l Z (⟨"java/util/AbstractSet", "<init>", "()V"⟩ : MethodName) jdk_91_method_1_code 1 none [] ({ frames := 2, cells := 0, slots := 0, locals := 24 } : Room) #[(.ref o0)] h0 0 0 (fun v h L => v = none ∧ h = h0 ∧ L = []) := by
  refine own_met (plainFor_of_name pn_rm7) ?_
  intro p e s m below meth c s₁ Bd hml0 hZ X0 e0
  have hx := Bd.exec
  have hby := Bd.bytes
  have hml : c.maxLocals = 1 := hml0
  have hown : s.vm.findClass "java/util/AbstractSet" = some m.cls := findClass_of_methodNamed Bd.named
  have hnm := (name_of_methodNamed Bd.named Bd.method).1
  refine own_cast (ef_rm7 m o0) ?_
  generalize hQQ : (fun (v : Option Value) (h : Heap) (L : List Loc) => v = none ∧ h = h0 ∧ L = []) = QQ
  refine own_go (g' := (mkF m 1 #[.val (.ref o0)] [(.ref o0)])) (fun _ kgo => XS.aloadN X0.here hx rfl (hb hby d7_0) rfl rfl kgo) ?_
  obtain ⟨v1, T1, L1, hQ1, X1, st1⟩ := own_callI X0 hx hZ (y := (⟨"java/util/AbstractCollection", "<init>", "()V"⟩ : MethodName)) rfl hown (hw _ (List.mem_of_getElem? (i := 41) rfl)) (hw _ (List.mem_of_getElem? (i := 42) rfl)) (hw _ (List.mem_of_getElem? (i := 45) rfl)) (hw _ (List.mem_of_getElem? (i := 46) rfl)) ⟨by decide, by decide⟩ (a := o0) (argsL := []) (rm8 l Z a0 hw o0 h0) e0 (g := (mkF m 1 #[.val (.ref o0)] [(.ref o0)])) rfl (by rw [hml]; rfl) (rest := []) (lenOf pd7_0 rfl) rfl (hb hby d7_1) (W := 0) (by show 2 * 0 + _ ≤ _; exact Nat.le_of_eq rfl) (by decide) (by decide) (by decide) (by decide)
  obtain ⟨rfl, e1, rfl⟩ := hQ1
  refine own_go (g' := (mkF m 4 #[.val (.ref o0)] [])) (st1) ?_
  refine own_retV X1 hx Bd.returns Bd.notSynchronized (hb hby d7_4) (by decide) (by decide) ?_
  show QQ _ T1.heap _
  rw [e1]
  rw [← hQQ]
  exact ⟨rfl, rfl, rfl⟩
theorem d11_0 : decode jdk_71_method_1_code 0 = .ok (.aload_n 0, 1) := by decide +kernel
theorem d11_1 : decode jdk_71_method_1_code 1 = .ok (.invokespecial 1, 3) := by decide +kernel
theorem d11_4 : decode jdk_71_method_1_code 4 = .ok (.return_, 1) := by decide +kernel
theorem pn_rm11 : plainName "java/util/AbstractMap" = true := by first | (simp [plainName, overriddenIn]; done) | decide +kernel
theorem ef_rm11 (m : MethodId) (o0 : Addr) : entryFrame m #[(.ref o0)] 1 = mkF m 0 #[.val (.ref o0)] [] := by first | (simp [entryFrame, mkF, argsToLocals, Value.category]; done) | rfl
set_option maxRecDepth 65536 in
set_option maxHeartbeats 40000000 in
theorem rm11 (l : Launch) (Z : State) (a0 : Array Value) (hw : ∀ d ∈ tables_1, d.before a0 Z = true) (o0 : Addr)  (h0 : Heap) :
    own_Met l Z (⟨"java/util/AbstractMap", "<init>", "()V"⟩ : MethodName) jdk_71_method_1_code 1 none [] ({ frames := 1, cells := 0, slots := 0, locals := 12 } : Room) #[(.ref o0)] h0 0 0 (fun v h L => v = none ∧ h = h0 ∧ L = []) := by
  refine own_met (plainFor_of_name pn_rm11) ?_
  intro p e s m below meth c s₁ Bd hml0 hZ X0 e0
  have hx := Bd.exec
  have hby := Bd.bytes
  have hml : c.maxLocals = 1 := hml0
  have hown : s.vm.findClass "java/util/AbstractMap" = some m.cls := findClass_of_methodNamed Bd.named
  have hnm := (name_of_methodNamed Bd.named Bd.method).1
  refine own_cast (ef_rm11 m o0) ?_
  generalize hQQ : (fun (v : Option Value) (h : Heap) (L : List Loc) => v = none ∧ h = h0 ∧ L = []) = QQ
  refine own_go (g' := (mkF m 1 #[.val (.ref o0)] [(.ref o0)])) (fun _ kgo => XS.aloadN X0.here hx rfl (hb hby d11_0) rfl rfl kgo) ?_
  obtain ⟨T1, X1, e1, st1⟩ := initO X0 hx hZ hown (hw _ (List.mem_of_getElem? (i := 67) rfl)) (hw _ (List.mem_of_getElem? (i := 13) rfl)) (hw _ (List.mem_of_getElem? (i := 14) rfl)) e0 (g := (mkF m 1 #[.val (.ref o0)] [(.ref o0)])) rfl (by rw [hml]; rfl) rfl (hb hby d11_1) (by decide) (W := 0) (by show 2 * 0 + _ ≤ _; exact Nat.le_of_eq rfl) (by decide)
  refine own_go (g' := (mkF m 4 #[.val (.ref o0)] [])) (st1) ?_
  refine own_retV X1 hx Bd.returns Bd.notSynchronized (hb hby d11_4) (by decide) (by decide) ?_
  show QQ _ T1.heap _
  rw [e1]
  rw [← hQQ]
  exact ⟨rfl, rfl, rfl⟩
theorem d14_0 : decode jdk_33_method_47_code 0 = .ok (.iload_n 0, 1) := by decide +kernel
theorem d14_1 : decode jdk_33_method_47_code 1 = .ok (.ifCond .gt 14, 3) := by decide +kernel
theorem d14_15 : decode jdk_33_method_47_code 15 = .ok (.bipush 31, 2) := by decide +kernel
theorem d14_17 : decode jdk_33_method_47_code 17 = .ok (.istore_n 1, 1) := by decide +kernel
theorem d14_18 : decode jdk_33_method_47_code 18 = .ok (.iload_n 0, 1) := by decide +kernel
theorem d14_19 : decode jdk_33_method_47_code 19 = .ok (.ldc_w 264, 3) := by decide +kernel
theorem d14_22 : decode jdk_33_method_47_code 22 = .ok (.if_icmp .lt 11, 3) := by decide +kernel
theorem d14_33 : decode jdk_33_method_47_code 33 = .ok (.iload_n 0, 1) := by decide +kernel
theorem d14_34 : decode jdk_33_method_47_code 34 = .ok (.sipush 256, 3) := by decide +kernel
theorem d14_37 : decode jdk_33_method_47_code 37 = .ok (.if_icmp .lt 11, 3) := by decide +kernel
theorem d14_48 : decode jdk_33_method_47_code 48 = .ok (.iload_n 0, 1) := by decide +kernel
theorem d14_49 : decode jdk_33_method_47_code 49 = .ok (.bipush 16, 2) := by decide +kernel
theorem d14_51 : decode jdk_33_method_47_code 51 = .ok (.if_icmp .lt 10, 3) := by decide +kernel
theorem d14_61 : decode jdk_33_method_47_code 61 = .ok (.iload_n 0, 1) := by decide +kernel
theorem d14_62 : decode jdk_33_method_47_code 62 = .ok (.iconst 4, 1) := by decide +kernel
theorem d14_63 : decode jdk_33_method_47_code 63 = .ok (.if_icmp .lt 10, 3) := by decide +kernel
theorem d14_66 : decode jdk_33_method_47_code 66 = .ok (.iinc 1 (-2), 3) := by decide +kernel
theorem d14_69 : decode jdk_33_method_47_code 69 = .ok (.iload_n 0, 1) := by decide +kernel
theorem d14_70 : decode jdk_33_method_47_code 70 = .ok (.iconst 2, 1) := by decide +kernel
theorem d14_71 : decode jdk_33_method_47_code 71 = .ok (.iushr, 1) := by decide +kernel
theorem d14_72 : decode jdk_33_method_47_code 72 = .ok (.istore_n 0, 1) := by decide +kernel
theorem d14_73 : decode jdk_33_method_47_code 73 = .ok (.iload_n 1, 1) := by decide +kernel
theorem d14_74 : decode jdk_33_method_47_code 74 = .ok (.iload_n 0, 1) := by decide +kernel
theorem d14_75 : decode jdk_33_method_47_code 75 = .ok (.iconst 1, 1) := by decide +kernel
theorem d14_76 : decode jdk_33_method_47_code 76 = .ok (.iushr, 1) := by decide +kernel
theorem d14_77 : decode jdk_33_method_47_code 77 = .ok (.isub, 1) := by decide +kernel
theorem d14_78 : decode jdk_33_method_47_code 78 = .ok (.ireturn, 1) := by decide +kernel
theorem pn_rm14 : plainName "java/lang/Integer" = true := by first | (simp [plainName, overriddenIn]; done) | decide +kernel
theorem ef_rm14 (m : MethodId)  : entryFrame m #[(.int (15 : Int32))] 2 = mkF m 0 #[.val (.int (15 : Int32)), .unset] [] := by first | (simp [entryFrame, mkF, argsToLocals, Value.category]; done) | rfl
set_option maxRecDepth 65536 in
set_option maxHeartbeats 40000000 in
theorem rm14 (l : Launch) (Z : State) (a0 : Array Value) (hw : ∀ d ∈ tables_1, d.before a0 Z = true)   (h0 : Heap) :
    own_Met l Z (⟨"java/lang/Integer", "numberOfLeadingZeros", "(I)I"⟩ : MethodName) jdk_33_method_47_code 2 (some .int) [] ({ frames := 0, cells := 0, slots := 0, locals := 0 } : Room) #[(.int (15 : Int32))] h0 0 0 (fun v h L => v = some (.int (28 : Int32)) ∧ h = h0 ∧ L = []) := by
  refine own_met (plainFor_of_name pn_rm14) ?_
  intro p e s m below meth c s₁ Bd hml0 hZ X0 e0
  have hx := Bd.exec
  have hby := Bd.bytes
  have hml : c.maxLocals = 2 := hml0
  have hown : s.vm.findClass "java/lang/Integer" = some m.cls := findClass_of_methodNamed Bd.named
  have hnm := (name_of_methodNamed Bd.named Bd.method).1
  refine own_cast (ef_rm14 m ) ?_
  generalize hQQ : (fun (v : Option Value) (h : Heap) (L : List Loc) => v = some (.int (28 : Int32)) ∧ h = h0 ∧ L = []) = QQ
  refine own_go (g' := (mkF m 1 #[.val (.int (15 : Int32)), .unset] [(.int (15 : Int32))])) (fun _ kgo => XS.iloadN X0.here hx rfl (hb hby d14_0) rfl kgo) ?_
  refine own_go (g' := (mkF m 15 #[.val (.int (15 : Int32)), .unset] [])) (fun _ kgo => XS.ifYes X0.here hx rfl (pc0 := 1) (pc' := 15) rfl (hb hby d14_1) rfl ((if0 _ _).trans (tlt (by decide)).2.2.1) (by decide) (by decide) kgo) ?_
  refine own_go (g' := (mkF m 17 #[.val (.int (15 : Int32)), .unset] [(.int (31 : Int32))])) (fun _ kgo => XS.bipush X0.here hx rfl (hb hby d14_15) kgo) ?_
  refine own_go (g' := (mkF m 18 #[.val (.int (15 : Int32)), .val (.int (31 : Int32))] [])) (fun _ kgo => XS.istoreN X0.here hx rfl (hb hby d14_17) rfl (l' := #[.val (.int (15 : Int32)), .val (.int (31 : Int32))]) rfl kgo) ?_
  refine own_go (g' := (mkF m 19 #[.val (.int (15 : Int32)), .val (.int (31 : Int32))] [(.int (15 : Int32))])) (fun _ kgo => XS.iloadN X0.here hx rfl (hb hby d14_18) rfl kgo) ?_
  refine own_go (g' := (mkF m 22 #[.val (.int (15 : Int32)), .val (.int (31 : Int32))] [(.int (65536 : Int32)), (.int (15 : Int32))])) (X0.ldcwInt hx hown (mvT hZ (hw _ (List.mem_of_getElem? (i := 82) rfl))) (g := (mkF m 19 #[.val (.int (15 : Int32)), .val (.int (31 : Int32))] [(.int (15 : Int32))])) rfl (hb hby d14_19)) ?_
  refine own_go (g' := (mkF m 33 #[.val (.int (15 : Int32)), .val (.int (31 : Int32))] [])) (fun _ kgo => XS.icmpYes X0.here hx rfl (pc0 := 22) (pc' := 33) rfl (hb hby d14_22) rfl (tlt (by decide)).1 (by decide) (by decide) kgo) ?_
  refine own_go (g' := (mkF m 34 #[.val (.int (15 : Int32)), .val (.int (31 : Int32))] [(.int (15 : Int32))])) (fun _ kgo => XS.iloadN X0.here hx rfl (hb hby d14_33) rfl kgo) ?_
  refine own_go (g' := (mkF m 37 #[.val (.int (15 : Int32)), .val (.int (31 : Int32))] [(.int (256 : Int32)), (.int (15 : Int32))])) (fun _ kgo => XS.sipush X0.here hx rfl (hb hby d14_34) kgo) ?_
  refine own_go (g' := (mkF m 48 #[.val (.int (15 : Int32)), .val (.int (31 : Int32))] [])) (fun _ kgo => XS.icmpYes X0.here hx rfl (pc0 := 37) (pc' := 48) rfl (hb hby d14_37) rfl (tlt (by decide)).1 (by decide) (by decide) kgo) ?_
  refine own_go (g' := (mkF m 49 #[.val (.int (15 : Int32)), .val (.int (31 : Int32))] [(.int (15 : Int32))])) (fun _ kgo => XS.iloadN X0.here hx rfl (hb hby d14_48) rfl kgo) ?_
  refine own_go (g' := (mkF m 51 #[.val (.int (15 : Int32)), .val (.int (31 : Int32))] [(.int (16 : Int32)), (.int (15 : Int32))])) (fun _ kgo => XS.bipush X0.here hx rfl (hb hby d14_49) kgo) ?_
  refine own_go (g' := (mkF m 61 #[.val (.int (15 : Int32)), .val (.int (31 : Int32))] [])) (fun _ kgo => XS.icmpYes X0.here hx rfl (pc0 := 51) (pc' := 61) rfl (hb hby d14_51) rfl (tlt (by decide)).1 (by decide) (by decide) kgo) ?_
  refine own_go (g' := (mkF m 62 #[.val (.int (15 : Int32)), .val (.int (31 : Int32))] [(.int (15 : Int32))])) (fun _ kgo => XS.iloadN X0.here hx rfl (hb hby d14_61) rfl kgo) ?_
  refine own_go (g' := (mkF m 63 #[.val (.int (15 : Int32)), .val (.int (31 : Int32))] [(.int (4 : Int32)), (.int (15 : Int32))])) (fun _ kgo => XS.iconst X0.here hx rfl (hb hby d14_62) kgo) ?_
  refine own_go (g' := (mkF m 66 #[.val (.int (15 : Int32)), .val (.int (31 : Int32))] [])) (fun _ kgo => XS.icmpNo X0.here hx rfl (hb hby d14_63) rfl (flt (by decide)).1 kgo) ?_
  refine own_go (g' := (mkF m 69 #[.val (.int (15 : Int32)), .val (.int (29 : Int32))] [])) (fun _ kgo => XS.iinc X0.here hx rfl (hb hby d14_66) rfl (l' := #[.val (.int (15 : Int32)), .val (.int (29 : Int32))]) rfl kgo) ?_
  refine own_go (g' := (mkF m 70 #[.val (.int (15 : Int32)), .val (.int (29 : Int32))] [(.int (15 : Int32))])) (fun _ kgo => XS.iloadN X0.here hx rfl (hb hby d14_69) rfl kgo) ?_
  refine own_go (g' := (mkF m 71 #[.val (.int (15 : Int32)), .val (.int (29 : Int32))] [(.int (2 : Int32)), (.int (15 : Int32))])) (fun _ kgo => XS.iconst X0.here hx rfl (hb hby d14_70) kgo) ?_
  refine own_go (g' := (mkF m 72 #[.val (.int (15 : Int32)), .val (.int (29 : Int32))] [(.int (3 : Int32))])) (fun _ kgo => XS.iushr X0.here hx rfl (hb hby d14_71) rfl kgo) ?_
  refine own_go (g' := (mkF m 73 #[.val (.int (3 : Int32)), .val (.int (29 : Int32))] [])) (fun _ kgo => XS.istoreN X0.here hx rfl (hb hby d14_72) rfl (l' := #[.val (.int (3 : Int32)), .val (.int (29 : Int32))]) rfl kgo) ?_
  refine own_go (g' := (mkF m 74 #[.val (.int (3 : Int32)), .val (.int (29 : Int32))] [(.int (29 : Int32))])) (fun _ kgo => XS.iloadN X0.here hx rfl (hb hby d14_73) rfl kgo) ?_
  refine own_go (g' := (mkF m 75 #[.val (.int (3 : Int32)), .val (.int (29 : Int32))] [(.int (3 : Int32)), (.int (29 : Int32))])) (fun _ kgo => XS.iloadN X0.here hx rfl (hb hby d14_74) rfl kgo) ?_
  refine own_go (g' := (mkF m 76 #[.val (.int (3 : Int32)), .val (.int (29 : Int32))] [(.int (1 : Int32)), (.int (3 : Int32)), (.int (29 : Int32))])) (fun _ kgo => XS.iconst X0.here hx rfl (hb hby d14_75) kgo) ?_
  refine own_go (g' := (mkF m 77 #[.val (.int (3 : Int32)), .val (.int (29 : Int32))] [(.int (1 : Int32)), (.int (29 : Int32))])) (fun _ kgo => XS.iushr X0.here hx rfl (hb hby d14_76) rfl kgo) ?_
  refine own_go (g' := (mkF m 78 #[.val (.int (3 : Int32)), .val (.int (29 : Int32))] [(.int (28 : Int32))])) (fun _ kgo => XS.isub X0.here hx rfl (hb hby d14_77) rfl kgo) ?_
  refine own_retI X0 hx Bd.returns Bd.notSynchronized (hb hby d14_78) (by decide) (by decide) ?_
  show QQ _ s₁.heap _
  rw [e0]
  rw [← hQQ]
  exact ⟨rfl, rfl, rfl⟩
theorem d13_0 : decode jdk_69_method_4_code 0 = .ok (.iconst (-1), 1) := by decide +kernel
theorem d13_1 : decode jdk_69_method_4_code 1 = .ok (.iload_n 0, 1) := by decide +kernel
theorem d13_2 : decode jdk_69_method_4_code 2 = .ok (.iconst 1, 1) := by decide +kernel
theorem d13_3 : decode jdk_69_method_4_code 3 = .ok (.isub, 1) := by decide +kernel
theorem d13_4 : decode jdk_69_method_4_code 4 = .ok (.invokestatic 34, 3) := by decide +kernel
theorem d13_7 : decode jdk_69_method_4_code 7 = .ok (.iushr, 1) := by decide +kernel
theorem d13_8 : decode jdk_69_method_4_code 8 = .ok (.istore_n 1, 1) := by decide +kernel
theorem d13_9 : decode jdk_69_method_4_code 9 = .ok (.iload_n 1, 1) := by decide +kernel
theorem d13_10 : decode jdk_69_method_4_code 10 = .ok (.ifCond .ge 7, 3) := by decide +kernel
theorem d13_17 : decode jdk_69_method_4_code 17 = .ok (.iload_n 1, 1) := by decide +kernel
theorem d13_18 : decode jdk_69_method_4_code 18 = .ok (.ldc 42, 2) := by decide +kernel
theorem d13_20 : decode jdk_69_method_4_code 20 = .ok (.if_icmp .lt 8, 3) := by decide +kernel
theorem d13_28 : decode jdk_69_method_4_code 28 = .ok (.iload_n 1, 1) := by decide +kernel
theorem d13_29 : decode jdk_69_method_4_code 29 = .ok (.iconst 1, 1) := by decide +kernel
theorem d13_30 : decode jdk_69_method_4_code 30 = .ok (.iadd, 1) := by decide +kernel
theorem d13_31 : decode jdk_69_method_4_code 31 = .ok (.ireturn, 1) := by decide +kernel
theorem pn_rm13 : plainName "java/util/HashMap" = true := by first | (simp [plainName, overriddenIn]; done) | decide +kernel
theorem pd13_0 : parseMethodDescriptor "(I)I" = some ⟨[.int], some .int⟩ := by decide +kernel
theorem ef_rm13 (m : MethodId)  : entryFrame m #[(.int (16 : Int32))] 2 = mkF m 0 #[.val (.int (16 : Int32)), .unset] [] := by first | (simp [entryFrame, mkF, argsToLocals, Value.category]; done) | rfl
set_option maxRecDepth 65536 in
set_option maxHeartbeats 40000000 in
theorem rm13 (l : Launch) (Z : State) (a0 : Array Value) (hw : ∀ d ∈ tables_1, d.before a0 Z = true)   (h0 : Heap) :
    own_Met l Z (⟨"java/util/HashMap", "tableSizeFor", "(I)I"⟩ : MethodName) jdk_69_method_4_code 2 (some .int) [] ({ frames := 1, cells := 0, slots := 0, locals := 14 } : Room) #[(.int (16 : Int32))] h0 0 0 (fun v h L => v = some (.int (16 : Int32)) ∧ h = h0 ∧ L = []) := by
  refine own_met (plainFor_of_name pn_rm13) ?_
  intro p e s m below meth c s₁ Bd hml0 hZ X0 e0
  have hx := Bd.exec
  have hby := Bd.bytes
  have hml : c.maxLocals = 2 := hml0
  have hown : s.vm.findClass "java/util/HashMap" = some m.cls := findClass_of_methodNamed Bd.named
  have hnm := (name_of_methodNamed Bd.named Bd.method).1
  refine own_cast (ef_rm13 m ) ?_
  generalize hQQ : (fun (v : Option Value) (h : Heap) (L : List Loc) => v = some (.int (16 : Int32)) ∧ h = h0 ∧ L = []) = QQ
  refine own_go (g' := (mkF m 1 #[.val (.int (16 : Int32)), .unset] [(.int (-1 : Int32))])) (fun _ kgo => XS.iconst X0.here hx rfl (hb hby d13_0) kgo) ?_
  refine own_go (g' := (mkF m 2 #[.val (.int (16 : Int32)), .unset] [(.int (16 : Int32)), (.int (-1 : Int32))])) (fun _ kgo => XS.iloadN X0.here hx rfl (hb hby d13_1) rfl kgo) ?_
  refine own_go (g' := (mkF m 3 #[.val (.int (16 : Int32)), .unset] [(.int (1 : Int32)), (.int (16 : Int32)), (.int (-1 : Int32))])) (fun _ kgo => XS.iconst X0.here hx rfl (hb hby d13_2) kgo) ?_
  refine own_go (g' := (mkF m 4 #[.val (.int (16 : Int32)), .unset] [(.int (15 : Int32)), (.int (-1 : Int32))])) (fun _ kgo => XS.isub X0.here hx rfl (hb hby d13_3) rfl kgo) ?_
  obtain ⟨v1, T1, L1, hQ1, X1, st1⟩ := own_callS X0 hx hZ (y := (⟨"java/lang/Integer", "numberOfLeadingZeros", "(I)I"⟩ : MethodName)) hown (hw _ (List.mem_of_getElem? (i := 78) rfl)) (hw _ (List.mem_of_getElem? (i := 79) rfl)) (hw _ (List.mem_of_getElem? (i := 80) rfl)) (hw _ (List.mem_of_getElem? (i := 81) rfl)) ⟨by decide, by decide⟩ (argsL := [(.int (15 : Int32))]) (rm14 l Z a0 hw h0) e0 (g := (mkF m 4 #[.val (.int (16 : Int32)), .unset] [(.int (15 : Int32)), (.int (-1 : Int32))])) rfl (by rw [hml]; rfl) (rest := [(.int (-1 : Int32))]) (lenOf pd13_0 rfl) rfl (hb hby d13_4) (W := 1) (by show 2 * 0 + _ ≤ _; exact Nat.le_of_eq rfl) (by decide) (by decide) (by decide) (by decide)
  obtain ⟨rfl, e1, rfl⟩ := hQ1
  refine own_go (g' := (mkF m 7 #[.val (.int (16 : Int32)), .unset] [(.int (28 : Int32)), (.int (-1 : Int32))])) (st1) ?_
  refine own_go (g' := (mkF m 8 #[.val (.int (16 : Int32)), .unset] [(.int (15 : Int32))])) (fun _ kgo => XS.iushr X1.here hx rfl (hb hby d13_7) rfl kgo) ?_
  refine own_go (g' := (mkF m 9 #[.val (.int (16 : Int32)), .val (.int (15 : Int32))] [])) (fun _ kgo => XS.istoreN X1.here hx rfl (hb hby d13_8) rfl (l' := #[.val (.int (16 : Int32)), .val (.int (15 : Int32))]) rfl kgo) ?_
  refine own_go (g' := (mkF m 10 #[.val (.int (16 : Int32)), .val (.int (15 : Int32))] [(.int (15 : Int32))])) (fun _ kgo => XS.iloadN X1.here hx rfl (hb hby d13_9) rfl kgo) ?_
  refine own_go (g' := (mkF m 17 #[.val (.int (16 : Int32)), .val (.int (15 : Int32))] [])) (fun _ kgo => XS.ifYes X1.here hx rfl (pc0 := 10) (pc' := 17) rfl (hb hby d13_10) rfl ((if0 _ _).trans (flt (by decide)).2.1) (by decide) (by decide) kgo) ?_
  refine own_go (g' := (mkF m 18 #[.val (.int (16 : Int32)), .val (.int (15 : Int32))] [(.int (15 : Int32))])) (fun _ kgo => XS.iloadN X1.here hx rfl (hb hby d13_17) rfl kgo) ?_
  refine own_go (g' := (mkF m 20 #[.val (.int (16 : Int32)), .val (.int (15 : Int32))] [(.int (1073741824 : Int32)), (.int (15 : Int32))])) (X1.ldcInt hx hown (mvT hZ (hw _ (List.mem_of_getElem? (i := 68) rfl))) (g := (mkF m 18 #[.val (.int (16 : Int32)), .val (.int (15 : Int32))] [(.int (15 : Int32))])) rfl (hb hby d13_18)) ?_
  refine own_go (g' := (mkF m 28 #[.val (.int (16 : Int32)), .val (.int (15 : Int32))] [])) (fun _ kgo => XS.icmpYes X1.here hx rfl (pc0 := 20) (pc' := 28) rfl (hb hby d13_20) rfl (tlt (by decide)).1 (by decide) (by decide) kgo) ?_
  refine own_go (g' := (mkF m 29 #[.val (.int (16 : Int32)), .val (.int (15 : Int32))] [(.int (15 : Int32))])) (fun _ kgo => XS.iloadN X1.here hx rfl (hb hby d13_28) rfl kgo) ?_
  refine own_go (g' := (mkF m 30 #[.val (.int (16 : Int32)), .val (.int (15 : Int32))] [(.int (1 : Int32)), (.int (15 : Int32))])) (fun _ kgo => XS.iconst X1.here hx rfl (hb hby d13_29) kgo) ?_
  refine own_go (g' := (mkF m 31 #[.val (.int (16 : Int32)), .val (.int (15 : Int32))] [(.int (16 : Int32))])) (fun _ kgo => XS.iadd X1.here hx rfl (hb hby d13_30) rfl kgo) ?_
  refine own_retI X1 hx Bd.returns Bd.notSynchronized (hb hby d13_31) (by decide) (by decide) ?_
  show QQ _ T1.heap _
  rw [e1]
  rw [← hQQ]
  exact ⟨rfl, rfl, rfl⟩
theorem d12_0 : decode jdk_118_method_6_code 0 = .ok (.fload_n 0, 1) := by decide +kernel
theorem d12_1 : decode jdk_118_method_6_code 1 = .ok (.fload_n 0, 1) := by decide +kernel
theorem d12_2 : decode jdk_118_method_6_code 2 = .ok (.fcmp .l, 1) := by decide +kernel
theorem d12_3 : decode jdk_118_method_6_code 3 = .ok (.ifCond .eq 7, 3) := by decide +kernel
theorem d12_10 : decode jdk_118_method_6_code 10 = .ok (.iconst 0, 1) := by decide +kernel
theorem d12_11 : decode jdk_118_method_6_code 11 = .ok (.ireturn, 1) := by decide +kernel
theorem ef_rm12 (m : MethodId)  : entryFrame m #[(.float (1061158912 : UInt32))] 1 = mkF m 0 #[.val (.float (1061158912 : UInt32))] [] := by first | (simp [entryFrame, mkF, argsToLocals, Value.category]; done) | rfl
set_option maxRecDepth 65536 in
set_option maxHeartbeats 40000000 in
theorem rm12 (l : Launch) (Z : State) (a0 : Array Value) (hw : ∀ d ∈ tables_1, d.before a0 Z = true)   (h0 : Heap) :
    own_Met l Z (⟨"java/lang/Float", "isNaN", "(F)Z"⟩ : MethodName) jdk_118_method_6_code 1 (some .boolean) [] ({ frames := 0, cells := 0, slots := 0, locals := 0 } : Room) #[(.float (1061158912 : UInt32))] h0 0 0 (fun v h L => v = some (.int (0 : Int32)) ∧ h = h0 ∧ L = []) := by
  refine own_met (by decide +kernel) ?_
  intro p e s m below meth c s₁ Bd hml0 hZ X0 e0
  have hx := Bd.exec
  have hby := Bd.bytes
  have hml : c.maxLocals = 1 := hml0
  have hown : s.vm.findClass "java/lang/Float" = some m.cls := findClass_of_methodNamed Bd.named
  have hnm := (name_of_methodNamed Bd.named Bd.method).1
  refine own_cast (ef_rm12 m ) ?_
  generalize hQQ : (fun (v : Option Value) (h : Heap) (L : List Loc) => v = some (.int (0 : Int32)) ∧ h = h0 ∧ L = []) = QQ
  refine own_go (g' := (mkF m 1 #[.val (.float (1061158912 : UInt32))] [(.float (1061158912 : UInt32))])) (fun _ kgo => XS.floadN X0.here hx rfl (hb hby d12_0) rfl kgo) ?_
  refine own_go (g' := (mkF m 2 #[.val (.float (1061158912 : UInt32))] [(.float (1061158912 : UInt32)), (.float (1061158912 : UInt32))])) (fun _ kgo => XS.floadN X0.here hx rfl (hb hby d12_1) rfl kgo) ?_
  refine own_go (g' := (mkF m 3 #[.val (.float (1061158912 : UInt32))] [(.int (0 : Int32))])) (fun _ kgo => XS.fcmpS (v := (0 : Int32)) X0.here hx rfl (hb hby d12_2) rfl (by decide +kernel) kgo) ?_
  refine own_go (g' := (mkF m 10 #[.val (.float (1061158912 : UInt32))] [])) (fun _ kgo => XS.ifYes X0.here hx rfl (pc0 := 3) (pc' := 10) rfl (hb hby d12_3) rfl ((if0 _ _).trans (teq (by decide)).1) (by decide) (by decide) kgo) ?_
  refine own_go (g' := (mkF m 11 #[.val (.float (1061158912 : UInt32))] [(.int (0 : Int32))])) (fun _ kgo => XS.iconst X0.here hx rfl (hb hby d12_10) kgo) ?_
  refine own_retN X0 hx .boolean Bd.returns Bd.notSynchronized (by simp) (hb hby d12_11) (by decide) (by decide) ?_
  show QQ _ s₁.heap _
  rw [e0]
  rw [← hQQ]
  exact ⟨rfl, rfl, rfl⟩
theorem d10_0 : decode jdk_69_method_5_code 0 = .ok (.aload_n 0, 1) := by decide +kernel
theorem d10_1 : decode jdk_69_method_5_code 1 = .ok (.invokespecial 43, 3) := by decide +kernel
theorem d10_4 : decode jdk_69_method_5_code 4 = .ok (.iload_n 1, 1) := by decide +kernel
theorem d10_5 : decode jdk_69_method_5_code 5 = .ok (.ifCond .ge 30, 3) := by decide +kernel
theorem d10_35 : decode jdk_69_method_5_code 35 = .ok (.iload_n 1, 1) := by decide +kernel
theorem d10_36 : decode jdk_69_method_5_code 36 = .ok (.ldc 42, 2) := by decide +kernel
theorem d10_38 : decode jdk_69_method_5_code 38 = .ok (.if_icmp .le 6, 3) := by decide +kernel
theorem d10_44 : decode jdk_69_method_5_code 44 = .ok (.fload_n 2, 1) := by decide +kernel
theorem d10_45 : decode jdk_69_method_5_code 45 = .ok (.fconst 0, 1) := by decide +kernel
theorem d10_46 : decode jdk_69_method_5_code 46 = .ok (.fcmp .g, 1) := by decide +kernel
theorem d10_47 : decode jdk_69_method_5_code 47 = .ok (.ifCond .le 10, 3) := by decide +kernel
theorem d10_50 : decode jdk_69_method_5_code 50 = .ok (.fload_n 2, 1) := by decide +kernel
theorem d10_51 : decode jdk_69_method_5_code 51 = .ok (.invokestatic 70, 3) := by decide +kernel
theorem d10_54 : decode jdk_69_method_5_code 54 = .ok (.ifCond .eq 30, 3) := by decide +kernel
theorem d10_84 : decode jdk_69_method_5_code 84 = .ok (.aload_n 0, 1) := by decide +kernel
theorem d10_85 : decode jdk_69_method_5_code 85 = .ok (.fload_n 2, 1) := by decide +kernel
theorem d10_86 : decode jdk_69_method_5_code 86 = .ok (.putfield 81, 3) := by decide +kernel
theorem d10_89 : decode jdk_69_method_5_code 89 = .ok (.aload_n 0, 1) := by decide +kernel
theorem d10_90 : decode jdk_69_method_5_code 90 = .ok (.iload_n 1, 1) := by decide +kernel
theorem d10_91 : decode jdk_69_method_5_code 91 = .ok (.invokestatic 85, 3) := by decide +kernel
theorem d10_94 : decode jdk_69_method_5_code 94 = .ok (.putfield 88, 3) := by decide +kernel
theorem d10_97 : decode jdk_69_method_5_code 97 = .ok (.return_, 1) := by decide +kernel
theorem pn_hm : plainName "java/util/HashMap" = true := by first | (simp [plainName, overriddenIn]; done) | decide +kernel
theorem pd10_0 : parseMethodDescriptor "()V" = some ⟨[], none⟩ := by decide +kernel
theorem pd10_1 : parseMethodDescriptor "(F)Z" = some ⟨[.float], some .boolean⟩ := by decide +kernel
theorem pd10_2 : parseMethodDescriptor "(I)I" = some ⟨[.int], some .int⟩ := by decide +kernel
theorem ef_hm (m : MethodId) (o0 : Addr) : entryFrame m #[(.ref o0), (.int (16 : Int32)), (.float (1061158912 : UInt32))] 3 = mkF m 0 #[.val (.ref o0), .val (.int (16 : Int32)), .val (.float (1061158912 : UInt32))] [] := by first | (simp [entryFrame, mkF, argsToLocals, Value.category]; done) | rfl
set_option maxRecDepth 65536 in
set_option maxHeartbeats 40000000 in
theorem hm (l : Launch) (Z : State) (a0 : Array Value) (hw : ∀ d ∈ tables_1, d.before a0 Z = true) (o0 : Addr)  (h0 : Heap) (n0 : Nat) (Z0 : n0 ≤ h0.size) (g_o0 : n0 ≤ o0) (P0 : Exa Z h0 o0 "java/util/LinkedHashMap") (P1 : Fld Z h0 o0 "java/util/HashMap" "loadFactor" "F" (.float (0 : UInt32))) (P2 : Fld Z h0 o0 "java/util/HashMap" "threshold" "I" (.int (0 : Int32))) (P3 : Fld Z h0 o0 "java/util/HashMap" "size" "I" (.int (0 : Int32))) (P4 : Fld Z h0 o0 "java/util/LinkedHashMap" "putMode" "I" (.int (0 : Int32))) (P5 : Fld Z h0 o0 "java/util/LinkedHashMap" "accessOrder" "Z" (.int (0 : Int32))) :
    own_Met l Z (⟨"java/util/HashMap", "<init>", "(IF)V"⟩ : MethodName) jdk_69_method_5_code 3 none [] ({ frames := 2, cells := 0, slots := 0, locals := 28 } : Room) #[(.ref o0), (.int (16 : Int32)), (.float (1061158912 : UInt32))] h0 0 0 (fun v h L => v = none ∧ Fr n0 L ∧ Keep h0 h [o0] ∧ Exa Z h o0 "java/util/LinkedHashMap" ∧ Fld Z h o0 "java/util/HashMap" "size" "I" (.int (0 : Int32)) ∧ Fld Z h o0 "java/util/LinkedHashMap" "putMode" "I" (.int (0 : Int32)) ∧ Fld Z h o0 "java/util/LinkedHashMap" "accessOrder" "Z" (.int (0 : Int32))) := by
  refine own_met (plainFor_of_name pn_hm) ?_
  intro p e s m below meth c s₁ Bd hml0 hZ X0 e0
  have hx := Bd.exec
  have hby := Bd.bytes
  have hml : c.maxLocals = 3 := hml0
  have hown : s.vm.findClass "java/util/HashMap" = some m.cls := findClass_of_methodNamed Bd.named
  have hnm := (name_of_methodNamed Bd.named Bd.method).1
  refine own_cast (ef_hm m o0) ?_
  generalize hQQ : (fun (v : Option Value) (h : Heap) (L : List Loc) => v = none ∧ Fr n0 L ∧ Keep h0 h [o0] ∧ Exa Z h o0 "java/util/LinkedHashMap" ∧ Fld Z h o0 "java/util/HashMap" "size" "I" (.int (0 : Int32)) ∧ Fld Z h o0 "java/util/LinkedHashMap" "putMode" "I" (.int (0 : Int32)) ∧ Fld Z h o0 "java/util/LinkedHashMap" "accessOrder" "Z" (.int (0 : Int32))) = QQ
  have N0 := Fr.nil n0
  have K0 := Keep.refl h0 [o0]
  refine own_go (g' := (mkF m 1 #[.val (.ref o0), .val (.int (16 : Int32)), .val (.float (1061158912 : UInt32))] [(.ref o0)])) (fun _ kgo => XS.aloadN X0.here hx rfl (hb hby d10_0) rfl rfl kgo) ?_
  obtain ⟨v1, T1, L1, hQ1, X1, st1⟩ := own_callI X0 hx hZ (y := (⟨"java/util/AbstractMap", "<init>", "()V"⟩ : MethodName)) rfl hown (hw _ (List.mem_of_getElem? (i := 61) rfl)) (hw _ (List.mem_of_getElem? (i := 62) rfl)) (hw _ (List.mem_of_getElem? (i := 65) rfl)) (hw _ (List.mem_of_getElem? (i := 66) rfl)) ⟨by decide, by decide⟩ (a := o0) (argsL := []) (rm11 l Z a0 hw o0 h0) e0 (g := (mkF m 1 #[.val (.ref o0), .val (.int (16 : Int32)), .val (.float (1061158912 : UInt32))] [(.ref o0)])) rfl (by rw [hml]; rfl) (rest := []) (lenOf pd10_0 rfl) rfl (hb hby d10_1) (W := 0) (by show 2 * 0 + _ ≤ _; exact Nat.le_of_eq rfl) (by decide) (by decide) (by decide) (by decide)
  obtain ⟨rfl, e1, rfl⟩ := hQ1
  have N1 := Fr.app N0 (Fr.nil n0)
  refine own_go (g' := (mkF m 4 #[.val (.ref o0), .val (.int (16 : Int32)), .val (.float (1061158912 : UInt32))] [])) (st1) ?_
  refine own_go (g' := (mkF m 5 #[.val (.ref o0), .val (.int (16 : Int32)), .val (.float (1061158912 : UInt32))] [(.int (16 : Int32))])) (fun _ kgo => XS.iloadN X1.here hx rfl (hb hby d10_4) rfl kgo) ?_
  refine own_go (g' := (mkF m 35 #[.val (.ref o0), .val (.int (16 : Int32)), .val (.float (1061158912 : UInt32))] [])) (fun _ kgo => XS.ifYes X1.here hx rfl (pc0 := 5) (pc' := 35) rfl (hb hby d10_5) rfl ((if0 _ _).trans (flt (by decide)).2.1) (by decide) (by decide) kgo) ?_
  refine own_go (g' := (mkF m 36 #[.val (.ref o0), .val (.int (16 : Int32)), .val (.float (1061158912 : UInt32))] [(.int (16 : Int32))])) (fun _ kgo => XS.iloadN X1.here hx rfl (hb hby d10_35) rfl kgo) ?_
  refine own_go (g' := (mkF m 38 #[.val (.ref o0), .val (.int (16 : Int32)), .val (.float (1061158912 : UInt32))] [(.int (1073741824 : Int32)), (.int (16 : Int32))])) (X1.ldcInt hx hown (mvT hZ (hw _ (List.mem_of_getElem? (i := 68) rfl))) (g := (mkF m 36 #[.val (.ref o0), .val (.int (16 : Int32)), .val (.float (1061158912 : UInt32))] [(.int (16 : Int32))])) rfl (hb hby d10_36)) ?_
  refine own_go (g' := (mkF m 44 #[.val (.ref o0), .val (.int (16 : Int32)), .val (.float (1061158912 : UInt32))] [])) (fun _ kgo => XS.icmpYes X1.here hx rfl (pc0 := 38) (pc' := 44) rfl (hb hby d10_38) rfl (flt (by decide)).2.2.2 (by decide) (by decide) kgo) ?_
  refine own_go (g' := (mkF m 45 #[.val (.ref o0), .val (.int (16 : Int32)), .val (.float (1061158912 : UInt32))] [(.float (1061158912 : UInt32))])) (fun _ kgo => XS.floadN X1.here hx rfl (hb hby d10_44) rfl kgo) ?_
  refine own_go (g' := (mkF m 46 #[.val (.ref o0), .val (.int (16 : Int32)), .val (.float (1061158912 : UInt32))] [(.float (0 : UInt32)), (.float (1061158912 : UInt32))])) (fun _ kgo => XS.fconst0 X1.here hx rfl (hb hby d10_45) (by decide +kernel) kgo) ?_
  refine own_go (g' := (mkF m 47 #[.val (.ref o0), .val (.int (16 : Int32)), .val (.float (1061158912 : UInt32))] [(.int (1 : Int32))])) (fun _ kgo => XS.fcmpS (v := (1 : Int32)) X1.here hx rfl (hb hby d10_46) rfl (by decide +kernel) kgo) ?_
  refine own_go (g' := (mkF m 50 #[.val (.ref o0), .val (.int (16 : Int32)), .val (.float (1061158912 : UInt32))] [])) (fun _ kgo => XS.ifNo X1.here hx rfl (hb hby d10_47) rfl ((if0 _ _).trans (tlt (by decide)).2.2.2) kgo) ?_
  refine own_go (g' := (mkF m 51 #[.val (.ref o0), .val (.int (16 : Int32)), .val (.float (1061158912 : UInt32))] [(.float (1061158912 : UInt32))])) (fun _ kgo => XS.floadN X1.here hx rfl (hb hby d10_50) rfl kgo) ?_
  obtain ⟨v2, T2, L2, hQ2, X2, st2⟩ := own_callS X1 hx hZ (y := (⟨"java/lang/Float", "isNaN", "(F)Z"⟩ : MethodName)) hown (hw _ (List.mem_of_getElem? (i := 69) rfl)) (hw _ (List.mem_of_getElem? (i := 70) rfl)) (hw _ (List.mem_of_getElem? (i := 71) rfl)) (hw _ (List.mem_of_getElem? (i := 72) rfl)) ⟨by decide, by decide⟩ (argsL := [(.float (1061158912 : UInt32))]) (rm12 l Z a0 hw h0) e1 (g := (mkF m 51 #[.val (.ref o0), .val (.int (16 : Int32)), .val (.float (1061158912 : UInt32))] [(.float (1061158912 : UInt32))])) rfl (by rw [hml]; rfl) (rest := []) (lenOf pd10_1 rfl) rfl (hb hby d10_51) (W := 0) (by show 2 * 0 + _ ≤ _; exact Nat.le_of_eq rfl) (by decide) (by decide) (by decide) (by decide)
  obtain ⟨rfl, e2, rfl⟩ := hQ2
  have N2 := Fr.app N1 (Fr.nil n0)
  refine own_go (g' := (mkF m 54 #[.val (.ref o0), .val (.int (16 : Int32)), .val (.float (1061158912 : UInt32))] [(.int (0 : Int32))])) (st2) ?_
  refine own_go (g' := (mkF m 84 #[.val (.ref o0), .val (.int (16 : Int32)), .val (.float (1061158912 : UInt32))] [])) (fun _ kgo => XS.ifYes X2.here hx rfl (pc0 := 54) (pc' := 84) rfl (hb hby d10_54) rfl ((if0 _ _).trans (teq (by decide)).1) (by decide) (by decide) kgo) ?_
  refine own_go (g' := (mkF m 85 #[.val (.ref o0), .val (.int (16 : Int32)), .val (.float (1061158912 : UInt32))] [(.ref o0)])) (fun _ kgo => XS.aloadN X2.here hx rfl (hb hby d10_84) rfl rfl kgo) ?_
  refine own_go (g' := (mkF m 86 #[.val (.ref o0), .val (.int (16 : Int32)), .val (.float (1061158912 : UInt32))] [(.float (1061158912 : UInt32)), (.ref o0)])) (fun _ kgo => XS.floadN X2.here hx rfl (hb hby d10_85) rfl kgo) ?_
  obtain ⟨T3, h3, X3, e3, W3, st3⟩ := putF X2 hx hZ hown (host := "") (Or.inl (hw _ (List.mem_of_getElem? (i := 73) rfl))) Via.refl e2 P1 P0 (Or.inr ⟨(hw _ (List.mem_of_getElem? (i := 74) rfl)), rfl, hnm⟩) (hw _ (List.mem_of_getElem? (i := 49) rfl)) (ty := .float) (by decide) rfl rfl (g := (mkF m 86 #[.val (.ref o0), .val (.int (16 : Int32)), .val (.float (1061158912 : UInt32))] [(.float (1061158912 : UInt32)), (.ref o0)])) rfl rfl (hb hby d10_86)
  have fw3 := Fld.same W3 P1
  have N3 := Fr.snoc X3 N2 g_o0
  have Z3 : n0 ≤ h3.size := by rw [W3.size]; exact Z0
  have K3 : Keep h0 h3 [o0] := K0.wr W3 (Or.inl (List.mem_of_getElem? (i := 0) rfl))
  refine own_go (g' := (mkF m 89 #[.val (.ref o0), .val (.int (16 : Int32)), .val (.float (1061158912 : UInt32))] [])) (st3) ?_
  refine own_go (g' := (mkF m 90 #[.val (.ref o0), .val (.int (16 : Int32)), .val (.float (1061158912 : UInt32))] [(.ref o0)])) (fun _ kgo => XS.aloadN X3.here hx rfl (hb hby d10_89) rfl rfl kgo) ?_
  refine own_go (g' := (mkF m 91 #[.val (.ref o0), .val (.int (16 : Int32)), .val (.float (1061158912 : UInt32))] [(.int (16 : Int32)), (.ref o0)])) (fun _ kgo => XS.iloadN X3.here hx rfl (hb hby d10_90) rfl kgo) ?_
  obtain ⟨v4, T4, L4, hQ4, X4, st4⟩ := own_callS X3 hx hZ (y := (⟨"java/util/HashMap", "tableSizeFor", "(I)I"⟩ : MethodName)) hown (hw _ (List.mem_of_getElem? (i := 75) rfl)) (hw _ (List.mem_of_getElem? (i := 76) rfl)) (hw _ (List.mem_of_getElem? (i := 59) rfl)) (hw _ (List.mem_of_getElem? (i := 77) rfl)) ⟨by decide, by decide⟩ (argsL := [(.int (16 : Int32))]) (rm13 l Z a0 hw h3) e3 (g := (mkF m 91 #[.val (.ref o0), .val (.int (16 : Int32)), .val (.float (1061158912 : UInt32))] [(.int (16 : Int32)), (.ref o0)])) rfl (by rw [hml]; rfl) (rest := [(.ref o0)]) (lenOf pd10_2 rfl) rfl (hb hby d10_91) (W := 1) (by show 2 * 0 + _ ≤ _; exact Nat.le_of_eq rfl) (by decide) (by decide) (by decide) (by decide)
  obtain ⟨rfl, e4, rfl⟩ := hQ4
  have N4 := Fr.app N3 (Fr.nil n0)
  refine own_go (g' := (mkF m 94 #[.val (.ref o0), .val (.int (16 : Int32)), .val (.float (1061158912 : UInt32))] [(.int (16 : Int32)), (.ref o0)])) (st4) ?_
  have fx5 : Fld Z h3 o0 "java/util/HashMap" "threshold" "I" (.int (0 : Int32)) := (Fld.other W3 P2 (Or.inr (slot_ne (Or.inl (hw _ (List.mem_of_getElem? (i := 84) rfl))) (Or.inr (hw _ (List.mem_of_getElem? (i := 74) rfl))) (by decide) (t := .int) (t' := .float) (by decide) (by decide))))
  have fx6 : Exa Z h3 o0 "java/util/LinkedHashMap" := (Exa.wr W3 P0)
  obtain ⟨T7, h7, X7, e7, W7, st7⟩ := putF X4 hx hZ hown (host := "") (Or.inl (hw _ (List.mem_of_getElem? (i := 83) rfl))) Via.refl e4 fx5 fx6 (Or.inl (hw _ (List.mem_of_getElem? (i := 84) rfl))) (hw _ (List.mem_of_getElem? (i := 49) rfl)) (ty := .int) (by decide) rfl rfl (g := (mkF m 94 #[.val (.ref o0), .val (.int (16 : Int32)), .val (.float (1061158912 : UInt32))] [(.int (16 : Int32)), (.ref o0)])) rfl rfl (hb hby d10_94)
  have fw7 := Fld.same W7 fx5
  have N7 := Fr.snoc X7 N4 g_o0
  have Z7 : n0 ≤ h7.size := by rw [W7.size]; exact Z3
  have K7 : Keep h0 h7 [o0] := K3.wr W7 (Or.inl (List.mem_of_getElem? (i := 0) rfl))
  refine own_go (g' := (mkF m 97 #[.val (.ref o0), .val (.int (16 : Int32)), .val (.float (1061158912 : UInt32))] [])) (st7) ?_
  refine own_retV X7 hx Bd.returns Bd.notSynchronized (hb hby d10_97) (by decide) (by decide) ?_
  show QQ _ T7.heap _
  rw [e7]
  have fx8 : Exa Z h7 o0 "java/util/LinkedHashMap" := (Exa.wr W7 fx6)
  have fx9 : Fld Z h7 o0 "java/util/HashMap" "size" "I" (.int (0 : Int32)) := (Fld.other W7 (Fld.other W3 P3 (Or.inr (slot_ne (Or.inl (hw _ (List.mem_of_getElem? (i := 153) rfl))) (Or.inr (hw _ (List.mem_of_getElem? (i := 74) rfl))) (by decide) (t := .int) (t' := .float) (by decide) (by decide)))) (Or.inr (slot_ne (Or.inl (hw _ (List.mem_of_getElem? (i := 153) rfl))) (Or.inl (hw _ (List.mem_of_getElem? (i := 84) rfl))) (by decide) (t := .int) (t' := .int) (by decide) (by decide))))
  have fx10 : Fld Z h7 o0 "java/util/LinkedHashMap" "putMode" "I" (.int (0 : Int32)) := (Fld.other W7 (Fld.other W3 P4 (Or.inr (slot_ne (Or.inl (hw _ (List.mem_of_getElem? (i := 86) rfl))) (Or.inr (hw _ (List.mem_of_getElem? (i := 74) rfl))) (by decide) (t := .int) (t' := .float) (by decide) (by decide)))) (Or.inr (slot_ne (Or.inl (hw _ (List.mem_of_getElem? (i := 86) rfl))) (Or.inl (hw _ (List.mem_of_getElem? (i := 84) rfl))) (by decide) (t := .int) (t' := .int) (by decide) (by decide))))
  have fx11 : Fld Z h7 o0 "java/util/LinkedHashMap" "accessOrder" "Z" (.int (0 : Int32)) := (Fld.other W7 (Fld.other W3 P5 (Or.inr (slot_ne (Or.inr (hw _ (List.mem_of_getElem? (i := 88) rfl))) (Or.inr (hw _ (List.mem_of_getElem? (i := 74) rfl))) (by decide) (t := .boolean) (t' := .float) (by decide) (by decide)))) (Or.inr (slot_ne (Or.inr (hw _ (List.mem_of_getElem? (i := 88) rfl))) (Or.inl (hw _ (List.mem_of_getElem? (i := 84) rfl))) (by decide) (t := .boolean) (t' := .int) (by decide) (by decide))))
  rw [← hQQ]
  exact ⟨rfl, N7, K7, fx8, fx9, fx10, fx11⟩
theorem d9_0 : decode jdk_94_method_14_code 0 = .ok (.aload_n 0, 1) := by decide +kernel
theorem d9_1 : decode jdk_94_method_14_code 1 = .ok (.iload_n 1, 1) := by decide +kernel
theorem d9_2 : decode jdk_94_method_14_code 2 = .ok (.fload_n 2, 1) := by decide +kernel
theorem d9_3 : decode jdk_94_method_14_code 3 = .ok (.invokespecial 81, 3) := by decide +kernel
theorem d9_6 : decode jdk_94_method_14_code 6 = .ok (.aload_n 0, 1) := by decide +kernel
theorem d9_7 : decode jdk_94_method_14_code 7 = .ok (.iconst 0, 1) := by decide +kernel
theorem d9_8 : decode jdk_94_method_14_code 8 = .ok (.putfield 1, 3) := by decide +kernel
theorem d9_11 : decode jdk_94_method_14_code 11 = .ok (.aload_n 0, 1) := by decide +kernel
theorem d9_12 : decode jdk_94_method_14_code 12 = .ok (.iconst 0, 1) := by decide +kernel
theorem d9_13 : decode jdk_94_method_14_code 13 = .ok (.putfield 64, 3) := by decide +kernel
theorem d9_16 : decode jdk_94_method_14_code 16 = .ok (.return_, 1) := by decide +kernel
theorem pn_lm : plainName "java/util/LinkedHashMap" = true := by first | (simp [plainName, overriddenIn]; done) | decide +kernel
theorem pd9_0 : parseMethodDescriptor "(IF)V" = some ⟨[.int, .float], none⟩ := by decide +kernel
theorem ef_lm (m : MethodId) (o0 : Addr) : entryFrame m #[(.ref o0), (.int (16 : Int32)), (.float (1061158912 : UInt32))] 3 = mkF m 0 #[.val (.ref o0), .val (.int (16 : Int32)), .val (.float (1061158912 : UInt32))] [] := by first | (simp [entryFrame, mkF, argsToLocals, Value.category]; done) | rfl
set_option maxRecDepth 65536 in
set_option maxHeartbeats 40000000 in
theorem lm (l : Launch) (Z : State) (a0 : Array Value) (hw : ∀ d ∈ tables_1, d.before a0 Z = true) (o0 : Addr)  (h0 : Heap) (n0 : Nat) (Z0 : n0 ≤ h0.size) (g_o0 : n0 ≤ o0) (P0 : Exa Z h0 o0 "java/util/LinkedHashMap") (P1 : Fld Z h0 o0 "java/util/HashMap" "loadFactor" "F" (.float (0 : UInt32))) (P2 : Fld Z h0 o0 "java/util/HashMap" "threshold" "I" (.int (0 : Int32))) (P3 : Fld Z h0 o0 "java/util/HashMap" "size" "I" (.int (0 : Int32))) (P4 : Fld Z h0 o0 "java/util/LinkedHashMap" "putMode" "I" (.int (0 : Int32))) (P5 : Fld Z h0 o0 "java/util/LinkedHashMap" "accessOrder" "Z" (.int (0 : Int32))) :
    own_Met l Z (⟨"java/util/LinkedHashMap", "<init>", "(IF)V"⟩ : MethodName) jdk_94_method_14_code 3 none [] ({ frames := 3, cells := 0, slots := 0, locals := 42 } : Room) #[(.ref o0), (.int (16 : Int32)), (.float (1061158912 : UInt32))] h0 0 0 (fun v h L => v = none ∧ Fr n0 L ∧ Keep h0 h [o0] ∧ Exa Z h o0 "java/util/LinkedHashMap" ∧ Fld Z h o0 "java/util/HashMap" "size" "I" (.int (0 : Int32))) := by
  refine own_met (plainFor_of_name pn_lm) ?_
  intro p e s m below meth c s₁ Bd hml0 hZ X0 e0
  have hx := Bd.exec
  have hby := Bd.bytes
  have hml : c.maxLocals = 3 := hml0
  have hown : s.vm.findClass "java/util/LinkedHashMap" = some m.cls := findClass_of_methodNamed Bd.named
  have hnm := (name_of_methodNamed Bd.named Bd.method).1
  refine own_cast (ef_lm m o0) ?_
  generalize hQQ : (fun (v : Option Value) (h : Heap) (L : List Loc) => v = none ∧ Fr n0 L ∧ Keep h0 h [o0] ∧ Exa Z h o0 "java/util/LinkedHashMap" ∧ Fld Z h o0 "java/util/HashMap" "size" "I" (.int (0 : Int32))) = QQ
  have N0 := Fr.nil n0
  have K0 := Keep.refl h0 [o0]
  refine own_go (g' := (mkF m 1 #[.val (.ref o0), .val (.int (16 : Int32)), .val (.float (1061158912 : UInt32))] [(.ref o0)])) (fun _ kgo => XS.aloadN X0.here hx rfl (hb hby d9_0) rfl rfl kgo) ?_
  refine own_go (g' := (mkF m 2 #[.val (.ref o0), .val (.int (16 : Int32)), .val (.float (1061158912 : UInt32))] [(.int (16 : Int32)), (.ref o0)])) (fun _ kgo => XS.iloadN X0.here hx rfl (hb hby d9_1) rfl kgo) ?_
  refine own_go (g' := (mkF m 3 #[.val (.ref o0), .val (.int (16 : Int32)), .val (.float (1061158912 : UInt32))] [(.float (1061158912 : UInt32)), (.int (16 : Int32)), (.ref o0)])) (fun _ kgo => XS.floadN X0.here hx rfl (hb hby d9_2) rfl kgo) ?_
  obtain ⟨v1, T1, L1, hQ1, X1, st1⟩ := own_callI X0 hx hZ (y := (⟨"java/util/HashMap", "<init>", "(IF)V"⟩ : MethodName)) rfl hown (hw _ (List.mem_of_getElem? (i := 55) rfl)) (hw _ (List.mem_of_getElem? (i := 56) rfl)) (hw _ (List.mem_of_getElem? (i := 59) rfl)) (hw _ (List.mem_of_getElem? (i := 60) rfl)) ⟨by decide, by decide⟩ (a := o0) (argsL := [(.int (16 : Int32)), (.float (1061158912 : UInt32))]) (hm l Z a0 hw o0 h0 n0 Z0 g_o0 P0 P1 P2 P3 P4 P5) e0 (g := (mkF m 3 #[.val (.ref o0), .val (.int (16 : Int32)), .val (.float (1061158912 : UInt32))] [(.float (1061158912 : UInt32)), (.int (16 : Int32)), (.ref o0)])) rfl (by rw [hml]; rfl) (rest := []) (lenOf pd9_0 rfl) rfl (hb hby d9_3) (W := 0) (by show 2 * 0 + _ ≤ _; exact Nat.le_of_eq rfl) (by decide) (by decide) (by decide) (by decide)
  obtain ⟨rfl, Nq1, Kq1, q1_0, q1_1, q1_2, q1_3⟩ := hQ1
  have N1 := Fr.app N0 Nq1
  have Z1 : n0 ≤ T1.heap.size := Nat.le_trans Z0 Kq1.1
  have KK1 : Keep h0 T1.heap [o0] := K0.trans Kq1 (allS (Or.inl (List.mem_of_getElem? (i := 0) rfl)) all0)
  refine own_go (g' := (mkF m 6 #[.val (.ref o0), .val (.int (16 : Int32)), .val (.float (1061158912 : UInt32))] [])) (st1) ?_
  refine own_go (g' := (mkF m 7 #[.val (.ref o0), .val (.int (16 : Int32)), .val (.float (1061158912 : UInt32))] [(.ref o0)])) (fun _ kgo => XS.aloadN X1.here hx rfl (hb hby d9_6) rfl rfl kgo) ?_
  refine own_go (g' := (mkF m 8 #[.val (.ref o0), .val (.int (16 : Int32)), .val (.float (1061158912 : UInt32))] [(.int (0 : Int32)), (.ref o0)])) (fun _ kgo => XS.iconst X1.here hx rfl (hb hby d9_7) kgo) ?_
  obtain ⟨T2, h2, X2, e2, W2, st2⟩ := putF X1 hx hZ hown (host := "") (Or.inl (hw _ (List.mem_of_getElem? (i := 85) rfl))) Via.refl rfl q1_2 q1_0 (Or.inl (hw _ (List.mem_of_getElem? (i := 86) rfl))) (hw _ (List.mem_of_getElem? (i := 49) rfl)) (ty := .int) (by decide) rfl rfl (g := (mkF m 8 #[.val (.ref o0), .val (.int (16 : Int32)), .val (.float (1061158912 : UInt32))] [(.int (0 : Int32)), (.ref o0)])) rfl rfl (hb hby d9_8)
  have fw2 := Fld.same W2 q1_2
  have N2 := Fr.snoc X2 N1 g_o0
  have Z2 : n0 ≤ h2.size := by rw [W2.size]; exact Z1
  have K2 : Keep h0 h2 [o0] := KK1.wr W2 (Or.inl (List.mem_of_getElem? (i := 0) rfl))
  refine own_go (g' := (mkF m 11 #[.val (.ref o0), .val (.int (16 : Int32)), .val (.float (1061158912 : UInt32))] [])) (st2) ?_
  refine own_go (g' := (mkF m 12 #[.val (.ref o0), .val (.int (16 : Int32)), .val (.float (1061158912 : UInt32))] [(.ref o0)])) (fun _ kgo => XS.aloadN X2.here hx rfl (hb hby d9_11) rfl rfl kgo) ?_
  refine own_go (g' := (mkF m 13 #[.val (.ref o0), .val (.int (16 : Int32)), .val (.float (1061158912 : UInt32))] [(.int (0 : Int32)), (.ref o0)])) (fun _ kgo => XS.iconst X2.here hx rfl (hb hby d9_12) kgo) ?_
  have fx3 : Fld Z h2 o0 "java/util/LinkedHashMap" "accessOrder" "Z" (.int (0 : Int32)) := (Fld.other W2 q1_3 (Or.inr (slot_ne (Or.inr (hw _ (List.mem_of_getElem? (i := 88) rfl))) (Or.inl (hw _ (List.mem_of_getElem? (i := 86) rfl))) (by decide) (t := .boolean) (t' := .int) (by decide) (by decide))))
  have fx4 : Exa Z h2 o0 "java/util/LinkedHashMap" := (Exa.wr W2 q1_0)
  obtain ⟨T5, h5, X5, e5, W5, st5⟩ := putFN X2 hx hZ hown (hw _ (List.mem_of_getElem? (i := 87) rfl)) Via.refl e2 fx3 fx4 (Or.inr ⟨(hw _ (List.mem_of_getElem? (i := 88) rfl)), rfl, hnm⟩) (hw _ (List.mem_of_getElem? (i := 49) rfl)) (ty := .boolean) (v := (.int (0 : Int32))) (v' := (.int (0 : Int32))) (by decide) rfl rfl (g := (mkF m 13 #[.val (.ref o0), .val (.int (16 : Int32)), .val (.float (1061158912 : UInt32))] [(.int (0 : Int32)), (.ref o0)])) rfl rfl (hb hby d9_13)
  have fw5 := Fld.same W5 fx3
  have N5 := Fr.snoc X5 N2 g_o0
  have Z5 : n0 ≤ h5.size := by rw [W5.size]; exact Z2
  have K5 : Keep h0 h5 [o0] := K2.wr W5 (Or.inl (List.mem_of_getElem? (i := 0) rfl))
  refine own_go (g' := (mkF m 16 #[.val (.ref o0), .val (.int (16 : Int32)), .val (.float (1061158912 : UInt32))] [])) (st5) ?_
  refine own_retV X5 hx Bd.returns Bd.notSynchronized (hb hby d9_16) (by decide) (by decide) ?_
  show QQ _ T5.heap _
  rw [e5]
  have fx6 : Exa Z h5 o0 "java/util/LinkedHashMap" := (Exa.wr W5 fx4)
  have fx7 : Fld Z h5 o0 "java/util/HashMap" "size" "I" (.int (0 : Int32)) := (Fld.other W5 (Fld.other W2 q1_1 (Or.inr (slot_ne (Or.inl (hw _ (List.mem_of_getElem? (i := 153) rfl))) (Or.inl (hw _ (List.mem_of_getElem? (i := 86) rfl))) (by decide) (t := .int) (t' := .int) (by decide) (by decide)))) (Or.inr (slot_ne (Or.inl (hw _ (List.mem_of_getElem? (i := 153) rfl))) (Or.inr (hw _ (List.mem_of_getElem? (i := 88) rfl))) (by decide) (t := .int) (t' := .boolean) (by decide) (by decide))))
  rw [← hQQ]
  exact ⟨rfl, N5, K5, fx6, fx7⟩
theorem d6_0 : decode jdk_93_method_5_code 0 = .ok (.aload_n 0, 1) := by decide +kernel
theorem d6_1 : decode jdk_93_method_5_code 1 = .ok (.invokespecial 1, 3) := by decide +kernel
theorem d6_4 : decode jdk_93_method_5_code 4 = .ok (.aload_n 0, 1) := by decide +kernel
theorem d6_5 : decode jdk_93_method_5_code 5 = .ok (.new 42, 3) := by decide +kernel
theorem d6_8 : decode jdk_93_method_5_code 8 = .ok (.dup, 1) := by decide +kernel
theorem d6_9 : decode jdk_93_method_5_code 9 = .ok (.iload_n 1, 1) := by decide +kernel
theorem d6_10 : decode jdk_93_method_5_code 10 = .ok (.fload_n 2, 1) := by decide +kernel
theorem d6_11 : decode jdk_93_method_5_code 11 = .ok (.invokespecial 44, 3) := by decide +kernel
theorem d6_14 : decode jdk_93_method_5_code 14 = .ok (.putfield 10, 3) := by decide +kernel
theorem d6_17 : decode jdk_93_method_5_code 17 = .ok (.return_, 1) := by decide +kernel
theorem pn_hset : plainName "java/util/HashSet" = true := by first | (simp [plainName, overriddenIn]; done) | decide +kernel
theorem pd6_0 : parseMethodDescriptor "()V" = some ⟨[], none⟩ := by decide +kernel
theorem pd6_1 : parseMethodDescriptor "(IF)V" = some ⟨[.int, .float], none⟩ := by decide +kernel
theorem ef_hset (m : MethodId) (o0 : Addr) : entryFrame m #[(.ref o0), (.int (16 : Int32)), (.float (1061158912 : UInt32)), (.int (1 : Int32))] 4 = mkF m 0 #[.val (.ref o0), .val (.int (16 : Int32)), .val (.float (1061158912 : UInt32)), .val (.int (1 : Int32))] [] := by first | (simp [entryFrame, mkF, argsToLocals, Value.category]; done) | rfl
set_option maxRecDepth 65536 in
set_option maxHeartbeats 40000000 in
theorem hset (l : Launch) (Z : State) (a0 : Array Value) (hw : ∀ d ∈ tables_1, d.before a0 Z = true) (o0 : Addr)  (h0 : Heap) (n0 : Nat) (Z0 : n0 ≤ h0.size) (g_o0 : n0 ≤ o0) (P0 : Exa Z h0 o0 "java/util/LinkedHashSet") (P1 : Fld Z h0 o0 "java/util/HashSet" "map" "Ljava/util/HashMap;" .null) :
    own_Met l Z (⟨"java/util/HashSet", "<init>", "(IFZ)V"⟩ : MethodName) jdk_93_method_5_code 4 none [] ({ frames := 4, cells := 1, slots := 12, locals := 58 } : Room) #[(.ref o0), (.int (16 : Int32)), (.float (1061158912 : UInt32)), (.int (1 : Int32))] h0 1 12 (fun v h L => ∃ (mp : Addr), v = none ∧ Fr n0 L ∧ Keep h0 h [o0] ∧ h0.size ≤ mp ∧ Exa Z h o0 "java/util/LinkedHashSet" ∧ Fld Z h o0 "java/util/HashSet" "map" "Ljava/util/HashMap;" (.ref mp) ∧ Exa Z h mp "java/util/LinkedHashMap" ∧ Fld Z h mp "java/util/HashMap" "size" "I" (.int (0 : Int32))) := by
  refine own_met (plainFor_of_name pn_hset) ?_
  intro p e s m below meth c s₁ Bd hml0 hZ X0 e0
  have hx := Bd.exec
  have hby := Bd.bytes
  have hml : c.maxLocals = 4 := hml0
  have hown : s.vm.findClass "java/util/HashSet" = some m.cls := findClass_of_methodNamed Bd.named
  have hnm := (name_of_methodNamed Bd.named Bd.method).1
  refine own_cast (ef_hset m o0) ?_
  generalize hQQ : (fun (v : Option Value) (h : Heap) (L : List Loc) => ∃ (mp : Addr), v = none ∧ Fr n0 L ∧ Keep h0 h [o0] ∧ h0.size ≤ mp ∧ Exa Z h o0 "java/util/LinkedHashSet" ∧ Fld Z h o0 "java/util/HashSet" "map" "Ljava/util/HashMap;" (.ref mp) ∧ Exa Z h mp "java/util/LinkedHashMap" ∧ Fld Z h mp "java/util/HashMap" "size" "I" (.int (0 : Int32))) = QQ
  have N0 := Fr.nil n0
  have K0 := Keep.refl h0 [o0]
  refine own_go (g' := (mkF m 1 #[.val (.ref o0), .val (.int (16 : Int32)), .val (.float (1061158912 : UInt32)), .val (.int (1 : Int32))] [(.ref o0)])) (fun _ kgo => XS.aloadN X0.here hx rfl (hb hby d6_0) rfl rfl kgo) ?_
  obtain ⟨v1, T1, L1, hQ1, X1, st1⟩ := own_callI X0 hx hZ (y := (⟨"java/util/AbstractSet", "<init>", "()V"⟩ : MethodName)) rfl hown (hw _ (List.mem_of_getElem? (i := 35) rfl)) (hw _ (List.mem_of_getElem? (i := 36) rfl)) (hw _ (List.mem_of_getElem? (i := 39) rfl)) (hw _ (List.mem_of_getElem? (i := 40) rfl)) ⟨by decide, by decide⟩ (a := o0) (argsL := []) (rm7 l Z a0 hw o0 h0) e0 (g := (mkF m 1 #[.val (.ref o0), .val (.int (16 : Int32)), .val (.float (1061158912 : UInt32)), .val (.int (1 : Int32))] [(.ref o0)])) rfl (by rw [hml]; rfl) (rest := []) (lenOf pd6_0 rfl) rfl (hb hby d6_1) (W := 0) (by show 2 * 0 + _ ≤ _; exact Nat.le_of_eq rfl) (by decide) (by decide) (by decide) (by decide)
  obtain ⟨rfl, e1, rfl⟩ := hQ1
  have N1 := Fr.app N0 (Fr.nil n0)
  refine own_go (g' := (mkF m 4 #[.val (.ref o0), .val (.int (16 : Int32)), .val (.float (1061158912 : UInt32)), .val (.int (1 : Int32))] [])) (st1) ?_
  refine own_go (g' := (mkF m 5 #[.val (.ref o0), .val (.int (16 : Int32)), .val (.float (1061158912 : UInt32)), .val (.int (1 : Int32))] [(.ref o0)])) (fun _ kgo => XS.aloadN X1.here hx rfl (hb hby d6_4) rfl rfl kgo) ?_
  obtain ⟨T2, h2, X2, e2, E2, A2, D2, -, st2⟩ := newO X1 hx hZ hown (hw _ (List.mem_of_getElem? (i := 48) rfl)) (hw _ (List.mem_of_getElem? (i := 49) rfl)) (hw _ (List.mem_of_getElem? (i := 50) rfl)) e1 (g := (mkF m 5 #[.val (.ref o0), .val (.int (16 : Int32)), .val (.float (1061158912 : UInt32)), .val (.int (1 : Int32))] [(.ref o0)])) rfl (hb hby d6_5) (by decide) (by decide)
  obtain ⟨b2, ad2⟩ : ∃ z, z = h0.size := ⟨_, rfl⟩
  rw [← ad2] at A2 D2 st2
  have ne_o0_b2 : o0 ≠ b2 := Nat.ne_of_lt (by rw [ad2]; exact P0.lt)
  have ge_b2 : n0 ≤ b2 := by rw [ad2]; exact Z0
  have sz_b2 : h0.size ≤ b2 := by rw [ad2]; exact K0.1
  have Z2 : n0 ≤ h2.size := Nat.le_trans Z0 E2.1
  have K2 : Keep h0 h2 [o0] := K0.ext E2
  have F2_loadFactor : Fld Z h2 b2 "java/util/HashMap" "loadFactor" "F" (.float (0 : UInt32)) := D2 (Or.inr (hw _ (List.mem_of_getElem? (i := 74) rfl))) (ty := .float) (by decide)
  have F2_threshold : Fld Z h2 b2 "java/util/HashMap" "threshold" "I" (.int (0 : Int32)) := D2 (Or.inl (hw _ (List.mem_of_getElem? (i := 84) rfl))) (ty := .int) (by decide)
  have F2_putMode : Fld Z h2 b2 "java/util/LinkedHashMap" "putMode" "I" (.int (0 : Int32)) := D2 (Or.inl (hw _ (List.mem_of_getElem? (i := 86) rfl))) (ty := .int) (by decide)
  have F2_accessOrder : Fld Z h2 b2 "java/util/LinkedHashMap" "accessOrder" "Z" (.int (0 : Int32)) := D2 (Or.inr (hw _ (List.mem_of_getElem? (i := 88) rfl))) (ty := .boolean) (by decide)
  have F2_size : Fld Z h2 b2 "java/util/HashMap" "size" "I" (.int (0 : Int32)) := D2 (Or.inl (hw _ (List.mem_of_getElem? (i := 153) rfl))) (ty := .int) (by decide)
  refine own_go (g' := (mkF m 8 #[.val (.ref o0), .val (.int (16 : Int32)), .val (.float (1061158912 : UInt32)), .val (.int (1 : Int32))] [(.ref b2), (.ref o0)])) (st2) ?_
  refine own_go (g' := (mkF m 9 #[.val (.ref o0), .val (.int (16 : Int32)), .val (.float (1061158912 : UInt32)), .val (.int (1 : Int32))] [(.ref b2), (.ref b2), (.ref o0)])) (fun _ kgo => XS.dup X2.here hx rfl (hb hby d6_8) rfl rfl kgo) ?_
  refine own_go (g' := (mkF m 10 #[.val (.ref o0), .val (.int (16 : Int32)), .val (.float (1061158912 : UInt32)), .val (.int (1 : Int32))] [(.int (16 : Int32)), (.ref b2), (.ref b2), (.ref o0)])) (fun _ kgo => XS.iloadN X2.here hx rfl (hb hby d6_9) rfl kgo) ?_
  refine own_go (g' := (mkF m 11 #[.val (.ref o0), .val (.int (16 : Int32)), .val (.float (1061158912 : UInt32)), .val (.int (1 : Int32))] [(.float (1061158912 : UInt32)), (.int (16 : Int32)), (.ref b2), (.ref b2), (.ref o0)])) (fun _ kgo => XS.floadN X2.here hx rfl (hb hby d6_10) rfl kgo) ?_
  obtain ⟨v3, T3, L3, hQ3, X3, st3⟩ := own_callI X2 hx hZ (y := (⟨"java/util/LinkedHashMap", "<init>", "(IF)V"⟩ : MethodName)) rfl hown (hw _ (List.mem_of_getElem? (i := 51) rfl)) (hw _ (List.mem_of_getElem? (i := 52) rfl)) (hw _ (List.mem_of_getElem? (i := 50) rfl)) (hw _ (List.mem_of_getElem? (i := 54) rfl)) ⟨by decide, by decide⟩ (a := b2) (argsL := [(.int (16 : Int32)), (.float (1061158912 : UInt32))]) (lm l Z a0 hw b2 h2 n0 Z2 ge_b2 A2 F2_loadFactor F2_threshold F2_size F2_putMode F2_accessOrder) e2 (g := (mkF m 11 #[.val (.ref o0), .val (.int (16 : Int32)), .val (.float (1061158912 : UInt32)), .val (.int (1 : Int32))] [(.float (1061158912 : UInt32)), (.int (16 : Int32)), (.ref b2), (.ref b2), (.ref o0)])) rfl (by rw [hml]; rfl) (rest := [(.ref b2), (.ref o0)]) (lenOf pd6_1 rfl) rfl (hb hby d6_11) (W := 2) (by show 2 * 0 + _ ≤ _; exact Nat.le_of_eq rfl) (by decide) (by decide) (by decide) (by decide)
  obtain ⟨rfl, Nq3, Kq3, q3_0, q3_1⟩ := hQ3
  have N3 := Fr.app N1 Nq3
  have Z3 : n0 ≤ T3.heap.size := Nat.le_trans Z2 Kq3.1
  have KK3 : Keep h0 T3.heap [o0] := K2.trans Kq3 (allS (Or.inr sz_b2) all0)
  refine own_go (g' := (mkF m 14 #[.val (.ref o0), .val (.int (16 : Int32)), .val (.float (1061158912 : UInt32)), .val (.int (1 : Int32))] [(.ref b2), (.ref o0)])) (st3) ?_
  have fx4 : Fld Z T3.heap o0 "java/util/HashSet" "map" "Ljava/util/HashMap;" .null := (Fld.keep (Fld.ext E2 P1) Kq3 (ninS ne_o0_b2 nin0))
  have fx5 : Exa Z T3.heap o0 "java/util/LinkedHashSet" := (Exa.keep (Exa.ext E2 P0) Kq3)
  obtain ⟨T6, h6, X6, e6, W6, st6⟩ := putF X3 hx hZ hown (host := "") (Or.inl (hw _ (List.mem_of_getElem? (i := 89) rfl))) Via.refl rfl fx4 fx5 (Or.inl (hw _ (List.mem_of_getElem? (i := 90) rfl))) (hw _ (List.mem_of_getElem? (i := 23) rfl)) (ty := (.object "java/util/HashMap")) (by decide) rfl rfl (g := (mkF m 14 #[.val (.ref o0), .val (.int (16 : Int32)), .val (.float (1061158912 : UInt32)), .val (.int (1 : Int32))] [(.ref b2), (.ref o0)])) rfl rfl (hb hby d6_14)
  have fw6 := Fld.same W6 fx4
  have N6 := Fr.snoc X6 N3 g_o0
  have Z6 : n0 ≤ h6.size := by rw [W6.size]; exact Z3
  have K6 : Keep h0 h6 [o0] := KK3.wr W6 (Or.inl (List.mem_of_getElem? (i := 0) rfl))
  refine own_go (g' := (mkF m 17 #[.val (.ref o0), .val (.int (16 : Int32)), .val (.float (1061158912 : UInt32)), .val (.int (1 : Int32))] [])) (st6) ?_
  refine own_retV X6 hx Bd.returns Bd.notSynchronized (hb hby d6_17) (by decide) (by decide) ?_
  show QQ _ T6.heap _
  rw [e6]
  have fx7 : Exa Z h6 o0 "java/util/LinkedHashSet" := (Exa.wr W6 fx5)
  have fx8 : Exa Z h6 b2 "java/util/LinkedHashMap" := (Exa.wr W6 q3_0)
  have fx9 : Fld Z h6 b2 "java/util/HashMap" "size" "I" (.int (0 : Int32)) := (Fld.other W6 q3_1 (Or.inl (Ne.symm ne_o0_b2)))
  rw [← hQQ]
  exact ⟨b2, rfl, N6, K6, sz_b2, fx7, fw6, fx8, fx9⟩
theorem d5_0 : decode jdk_2620_method_3_code 0 = .ok (.aload_n 0, 1) := by decide +kernel
theorem d5_1 : decode jdk_2620_method_3_code 1 = .ok (.bipush 16, 2) := by decide +kernel
theorem d5_3 : decode jdk_2620_method_3_code 3 = .ok (.ldc 7, 2) := by decide +kernel
theorem d5_5 : decode jdk_2620_method_3_code 5 = .ok (.iconst 1, 1) := by decide +kernel
theorem d5_6 : decode jdk_2620_method_3_code 6 = .ok (.invokespecial 1, 3) := by decide +kernel
theorem d5_9 : decode jdk_2620_method_3_code 9 = .ok (.return_, 1) := by decide +kernel
theorem pn_lset : plainName "java/util/LinkedHashSet" = true := by first | (simp [plainName, overriddenIn]; done) | decide +kernel
theorem pd5_0 : parseMethodDescriptor "(IFZ)V" = some ⟨[.int, .float, .boolean], none⟩ := by decide +kernel
theorem ef_lset (m : MethodId) (o0 : Addr) : entryFrame m #[(.ref o0)] 1 = mkF m 0 #[.val (.ref o0)] [] := by first | (simp [entryFrame, mkF, argsToLocals, Value.category]; done) | rfl
set_option maxRecDepth 65536 in
set_option maxHeartbeats 40000000 in
theorem lset (l : Launch) (Z : State) (a0 : Array Value) (hw : ∀ d ∈ tables_1, d.before a0 Z = true) (o0 : Addr)  (h0 : Heap) (n0 : Nat) (Z0 : n0 ≤ h0.size) (g_o0 : n0 ≤ o0) (P0 : Exa Z h0 o0 "java/util/LinkedHashSet") (P1 : Fld Z h0 o0 "java/util/HashSet" "map" "Ljava/util/HashMap;" .null) :
    own_Met l Z (⟨"java/util/LinkedHashSet", "<init>", "()V"⟩ : MethodName) jdk_2620_method_3_code 1 none [] ({ frames := 5, cells := 1, slots := 12, locals := 73 } : Room) #[(.ref o0)] h0 1 12 (fun v h L => ∃ (mp : Addr), v = none ∧ Fr n0 L ∧ Keep h0 h [o0] ∧ h0.size ≤ mp ∧ Exa Z h o0 "java/util/LinkedHashSet" ∧ Fld Z h o0 "java/util/HashSet" "map" "Ljava/util/HashMap;" (.ref mp) ∧ Exa Z h mp "java/util/LinkedHashMap" ∧ Fld Z h mp "java/util/HashMap" "size" "I" (.int (0 : Int32))) := by
  refine own_met (plainFor_of_name pn_lset) ?_
  intro p e s m below meth c s₁ Bd hml0 hZ X0 e0
  have hx := Bd.exec
  have hby := Bd.bytes
  have hml : c.maxLocals = 1 := hml0
  have hown : s.vm.findClass "java/util/LinkedHashSet" = some m.cls := findClass_of_methodNamed Bd.named
  have hnm := (name_of_methodNamed Bd.named Bd.method).1
  refine own_cast (ef_lset m o0) ?_
  generalize hQQ : (fun (v : Option Value) (h : Heap) (L : List Loc) => ∃ (mp : Addr), v = none ∧ Fr n0 L ∧ Keep h0 h [o0] ∧ h0.size ≤ mp ∧ Exa Z h o0 "java/util/LinkedHashSet" ∧ Fld Z h o0 "java/util/HashSet" "map" "Ljava/util/HashMap;" (.ref mp) ∧ Exa Z h mp "java/util/LinkedHashMap" ∧ Fld Z h mp "java/util/HashMap" "size" "I" (.int (0 : Int32))) = QQ
  have N0 := Fr.nil n0
  have K0 := Keep.refl h0 [o0]
  refine own_go (g' := (mkF m 1 #[.val (.ref o0)] [(.ref o0)])) (fun _ kgo => XS.aloadN X0.here hx rfl (hb hby d5_0) rfl rfl kgo) ?_
  refine own_go (g' := (mkF m 3 #[.val (.ref o0)] [(.int (16 : Int32)), (.ref o0)])) (fun _ kgo => XS.bipush X0.here hx rfl (hb hby d5_1) kgo) ?_
  refine own_go (g' := (mkF m 5 #[.val (.ref o0)] [(.float (1061158912 : UInt32)), (.int (16 : Int32)), (.ref o0)])) (X0.ldcFloatC hx hown (mvT hZ (hw _ (List.mem_of_getElem? (i := 28) rfl))) (g := (mkF m 3 #[.val (.ref o0)] [(.int (16 : Int32)), (.ref o0)])) rfl (hb hby d5_3)) ?_
  refine own_go (g' := (mkF m 6 #[.val (.ref o0)] [(.int (1 : Int32)), (.float (1061158912 : UInt32)), (.int (16 : Int32)), (.ref o0)])) (fun _ kgo => XS.iconst X0.here hx rfl (hb hby d5_5) kgo) ?_
  obtain ⟨v1, T1, L1, hQ1, X1, st1⟩ := own_callI X0 hx hZ (y := (⟨"java/util/HashSet", "<init>", "(IFZ)V"⟩ : MethodName)) rfl hown (hw _ (List.mem_of_getElem? (i := 29) rfl)) (hw _ (List.mem_of_getElem? (i := 30) rfl)) (hw _ (List.mem_of_getElem? (i := 33) rfl)) (hw _ (List.mem_of_getElem? (i := 34) rfl)) ⟨by decide, by decide⟩ (a := o0) (argsL := [(.int (16 : Int32)), (.float (1061158912 : UInt32)), (.int (1 : Int32))]) (hset l Z a0 hw o0 h0 n0 Z0 g_o0 P0 P1) e0 (g := (mkF m 6 #[.val (.ref o0)] [(.int (1 : Int32)), (.float (1061158912 : UInt32)), (.int (16 : Int32)), (.ref o0)])) rfl (by rw [hml]; rfl) (rest := []) (lenOf pd5_0 rfl) rfl (hb hby d5_6) (W := 0) (by show 2 * 0 + _ ≤ _; exact Nat.le_of_eq rfl) (by decide) (by decide) (by decide) (by decide)
  obtain ⟨mp1, rfl, Nq1, Kq1, pr1_0, q1_0, q1_1, q1_2, q1_3⟩ := hQ1
  have ne_o0_mp1 : o0 ≠ mp1 := Nat.ne_of_lt (Nat.lt_of_lt_of_le P0.lt pr1_0)
  have ge_mp1 : n0 ≤ mp1 := Nat.le_trans Z0 pr1_0
  have sz_mp1 : h0.size ≤ mp1 := Nat.le_trans K0.1 pr1_0
  have N1 := Fr.app N0 Nq1
  have Z1 : n0 ≤ T1.heap.size := Nat.le_trans Z0 Kq1.1
  have KK1 : Keep h0 T1.heap [o0] := K0.trans Kq1 (allS (Or.inl (List.mem_of_getElem? (i := 0) rfl)) all0)
  refine own_go (g' := (mkF m 9 #[.val (.ref o0)] [])) (st1) ?_
  refine own_retV X1 hx Bd.returns Bd.notSynchronized (hb hby d5_9) (by decide) (by decide) ?_
  show QQ _ T1.heap _
  rw [← hQQ]
  exact ⟨mp1, rfl, N1, KK1, sz_mp1, q1_0, q1_1, q1_2, q1_3⟩
theorem d4_0 : decode prog_42_method_1_code 0 = .ok (.aload_n 0, 1) := by decide +kernel
theorem d4_1 : decode prog_42_method_1_code 1 = .ok (.invokespecial 1, 3) := by decide +kernel
theorem d4_4 : decode prog_42_method_1_code 4 = .ok (.aload_n 0, 1) := by decide +kernel
theorem d4_5 : decode prog_42_method_1_code 5 = .ok (.new 7, 3) := by decide +kernel
theorem d4_8 : decode prog_42_method_1_code 8 = .ok (.dup, 1) := by decide +kernel
theorem d4_9 : decode prog_42_method_1_code 9 = .ok (.invokespecial 9, 3) := by decide +kernel
theorem d4_12 : decode prog_42_method_1_code 12 = .ok (.putfield 10, 3) := by decide +kernel
theorem d4_15 : decode prog_42_method_1_code 15 = .ok (.return_, 1) := by decide +kernel
theorem pn_wai : plainName "com/example/firm_tread/firmtread/destination/Waiters" = true := by first | (simp [plainName, overriddenIn]; done) | decide +kernel
theorem pd4_0 : parseMethodDescriptor "()V" = some ⟨[], none⟩ := by decide +kernel
theorem ef_wai (m : MethodId) (o0 : Addr) : entryFrame m #[(.ref o0)] 1 = mkF m 0 #[.val (.ref o0)] [] := by first | (simp [entryFrame, mkF, argsToLocals, Value.category]; done) | rfl
set_option maxRecDepth 65536 in
set_option maxHeartbeats 40000000 in
theorem wai (l : Launch) (Z : State) (a0 : Array Value) (hw : ∀ d ∈ tables_1, d.before a0 Z = true) (o0 : Addr)  (h0 : Heap) (n0 : Nat) (Z0 : n0 ≤ h0.size) (g_o0 : n0 ≤ o0) (P0 : Exa Z h0 o0 "com/example/firm_tread/firmtread/destination/Waiters") (P1 : Fld Z h0 o0 "com/example/firm_tread/firmtread/destination/Waiters" "waiting" "Ljava/util/Set;" .null) :
    own_Met l Z (⟨"com/example/firm_tread/firmtread/destination/Waiters", "<init>", "()V"⟩ : MethodName) prog_42_method_1_code 1 none [] ({ frames := 6, cells := 2, slots := 13, locals := 87 } : Room) #[(.ref o0)] h0 2 13 (fun v h L => ∃ (ls : Addr), ∃ (mp : Addr), v = none ∧ Fr n0 L ∧ Keep h0 h [o0] ∧ h0.size ≤ ls ∧ h0.size ≤ mp ∧ Exa Z h o0 "com/example/firm_tread/firmtread/destination/Waiters" ∧ Fld Z h o0 "com/example/firm_tread/firmtread/destination/Waiters" "waiting" "Ljava/util/Set;" (.ref ls) ∧ Exa Z h ls "java/util/LinkedHashSet" ∧ Fld Z h ls "java/util/HashSet" "map" "Ljava/util/HashMap;" (.ref mp) ∧ Exa Z h mp "java/util/LinkedHashMap" ∧ Fld Z h mp "java/util/HashMap" "size" "I" (.int (0 : Int32))) := by
  refine own_met (plainFor_of_name pn_wai) ?_
  intro p e s m below meth c s₁ Bd hml0 hZ X0 e0
  have hx := Bd.exec
  have hby := Bd.bytes
  have hml : c.maxLocals = 1 := hml0
  have hown : s.vm.findClass "com/example/firm_tread/firmtread/destination/Waiters" = some m.cls := findClass_of_methodNamed Bd.named
  have hnm := (name_of_methodNamed Bd.named Bd.method).1
  refine own_cast (ef_wai m o0) ?_
  generalize hQQ : (fun (v : Option Value) (h : Heap) (L : List Loc) => ∃ (ls : Addr), ∃ (mp : Addr), v = none ∧ Fr n0 L ∧ Keep h0 h [o0] ∧ h0.size ≤ ls ∧ h0.size ≤ mp ∧ Exa Z h o0 "com/example/firm_tread/firmtread/destination/Waiters" ∧ Fld Z h o0 "com/example/firm_tread/firmtread/destination/Waiters" "waiting" "Ljava/util/Set;" (.ref ls) ∧ Exa Z h ls "java/util/LinkedHashSet" ∧ Fld Z h ls "java/util/HashSet" "map" "Ljava/util/HashMap;" (.ref mp) ∧ Exa Z h mp "java/util/LinkedHashMap" ∧ Fld Z h mp "java/util/HashMap" "size" "I" (.int (0 : Int32))) = QQ
  have N0 := Fr.nil n0
  have K0 := Keep.refl h0 [o0]
  refine own_go (g' := (mkF m 1 #[.val (.ref o0)] [(.ref o0)])) (fun _ kgo => XS.aloadN X0.here hx rfl (hb hby d4_0) rfl rfl kgo) ?_
  obtain ⟨T1, X1, e1, st1⟩ := initO X0 hx hZ hown (hw _ (List.mem_of_getElem? (i := 21) rfl)) (hw _ (List.mem_of_getElem? (i := 13) rfl)) (hw _ (List.mem_of_getElem? (i := 14) rfl)) e0 (g := (mkF m 1 #[.val (.ref o0)] [(.ref o0)])) rfl (by rw [hml]; rfl) rfl (hb hby d4_1) (by decide) (W := 0) (by show 2 * 0 + _ ≤ _; exact Nat.le_of_eq rfl) (by decide)
  refine own_go (g' := (mkF m 4 #[.val (.ref o0)] [])) (st1) ?_
  refine own_go (g' := (mkF m 5 #[.val (.ref o0)] [(.ref o0)])) (fun _ kgo => XS.aloadN X1.here hx rfl (hb hby d4_4) rfl rfl kgo) ?_
  obtain ⟨T2, h2, X2, e2, E2, A2, D2, -, st2⟩ := newO X1 hx hZ hown (hw _ (List.mem_of_getElem? (i := 22) rfl)) (hw _ (List.mem_of_getElem? (i := 23) rfl)) (hw _ (List.mem_of_getElem? (i := 24) rfl)) e1 (g := (mkF m 5 #[.val (.ref o0)] [(.ref o0)])) rfl (hb hby d4_5) (by decide) (by decide)
  obtain ⟨b2, ad2⟩ : ∃ z, z = h0.size := ⟨_, rfl⟩
  rw [← ad2] at A2 D2 st2
  have ne_o0_b2 : o0 ≠ b2 := Nat.ne_of_lt (by rw [ad2]; exact P0.lt)
  have ge_b2 : n0 ≤ b2 := by rw [ad2]; exact Z0
  have sz_b2 : h0.size ≤ b2 := by rw [ad2]; exact K0.1
  have Z2 : n0 ≤ h2.size := Nat.le_trans Z0 E2.1
  have K2 : Keep h0 h2 [o0] := K0.ext E2
  have F2_map : Fld Z h2 b2 "java/util/HashSet" "map" "Ljava/util/HashMap;" .null := D2 (Or.inl (hw _ (List.mem_of_getElem? (i := 90) rfl))) (ty := (.object "java/util/HashMap")) (by decide)
  refine own_go (g' := (mkF m 8 #[.val (.ref o0)] [(.ref b2), (.ref o0)])) (st2) ?_
  refine own_go (g' := (mkF m 9 #[.val (.ref o0)] [(.ref b2), (.ref b2), (.ref o0)])) (fun _ kgo => XS.dup X2.here hx rfl (hb hby d4_8) rfl rfl kgo) ?_
  obtain ⟨v3, T3, L3, hQ3, X3, st3⟩ := own_callI X2 hx hZ (y := (⟨"java/util/LinkedHashSet", "<init>", "()V"⟩ : MethodName)) rfl hown (hw _ (List.mem_of_getElem? (i := 25) rfl)) (hw _ (List.mem_of_getElem? (i := 26) rfl)) (hw _ (List.mem_of_getElem? (i := 24) rfl)) (hw _ (List.mem_of_getElem? (i := 27) rfl)) ⟨by decide, by decide⟩ (a := b2) (argsL := []) (lset l Z a0 hw b2 h2 n0 Z2 ge_b2 A2 F2_map) e2 (g := (mkF m 9 #[.val (.ref o0)] [(.ref b2), (.ref b2), (.ref o0)])) rfl (by rw [hml]; rfl) (rest := [(.ref b2), (.ref o0)]) (lenOf pd4_0 rfl) rfl (hb hby d4_9) (W := 2) (by show 2 * 0 + _ ≤ _; exact Nat.le_of_eq rfl) (by decide) (by decide) (by decide) (by decide)
  obtain ⟨mp3, rfl, Nq3, Kq3, pr3_0, q3_0, q3_1, q3_2, q3_3⟩ := hQ3
  have fx4 : Exa Z h2 o0 "com/example/firm_tread/firmtread/destination/Waiters" := (Exa.ext E2 P0)
  have ne_o0_mp3 : o0 ≠ mp3 := Nat.ne_of_lt (Nat.lt_of_lt_of_le fx4.lt pr3_0)
  have ne_b2_mp3 : b2 ≠ mp3 := Nat.ne_of_lt (Nat.lt_of_lt_of_le A2.lt pr3_0)
  have ge_mp3 : n0 ≤ mp3 := Nat.le_trans Z2 pr3_0
  have sz_mp3 : h0.size ≤ mp3 := Nat.le_trans K2.1 pr3_0
  have N3 := Fr.app N0 Nq3
  have Z3 : n0 ≤ T3.heap.size := Nat.le_trans Z2 Kq3.1
  have KK3 : Keep h0 T3.heap [o0] := K2.trans Kq3 (allS (Or.inr sz_b2) all0)
  refine own_go (g' := (mkF m 12 #[.val (.ref o0)] [(.ref b2), (.ref o0)])) (st3) ?_
  have fx5 : Fld Z T3.heap o0 "com/example/firm_tread/firmtread/destination/Waiters" "waiting" "Ljava/util/Set;" .null := (Fld.keep (Fld.ext E2 P1) Kq3 (ninS ne_o0_b2 nin0))
  have fx6 : Exa Z T3.heap o0 "com/example/firm_tread/firmtread/destination/Waiters" := (Exa.keep fx4 Kq3)
  obtain ⟨T7, h7, X7, e7, W7, st7⟩ := putF X3 hx hZ hown (host := "") (Or.inl (hw _ (List.mem_of_getElem? (i := 91) rfl))) Via.refl rfl fx5 fx6 (Or.inr ⟨(hw _ (List.mem_of_getElem? (i := 92) rfl)), rfl, hnm⟩) (hw _ (List.mem_of_getElem? (i := 16) rfl)) (ty := (.object "java/util/Set")) (by decide) rfl rfl (g := (mkF m 12 #[.val (.ref o0)] [(.ref b2), (.ref o0)])) rfl rfl (hb hby d4_12)
  have fw7 := Fld.same W7 fx5
  have N7 := Fr.snoc X7 N3 g_o0
  have Z7 : n0 ≤ h7.size := by rw [W7.size]; exact Z3
  have K7 : Keep h0 h7 [o0] := KK3.wr W7 (Or.inl (List.mem_of_getElem? (i := 0) rfl))
  refine own_go (g' := (mkF m 15 #[.val (.ref o0)] [])) (st7) ?_
  refine own_retV X7 hx Bd.returns Bd.notSynchronized (hb hby d4_15) (by decide) (by decide) ?_
  show QQ _ T7.heap _
  rw [e7]
  have fx8 : Exa Z h7 o0 "com/example/firm_tread/firmtread/destination/Waiters" := (Exa.wr W7 fx6)
  have fx9 : Exa Z h7 b2 "java/util/LinkedHashSet" := (Exa.wr W7 q3_0)
  have fx10 : Fld Z h7 b2 "java/util/HashSet" "map" "Ljava/util/HashMap;" (.ref mp3) := (Fld.other W7 q3_1 (Or.inl (Ne.symm ne_o0_b2)))
  have fx11 : Exa Z h7 mp3 "java/util/LinkedHashMap" := (Exa.wr W7 q3_2)
  have fx12 : Fld Z h7 mp3 "java/util/HashMap" "size" "I" (.int (0 : Int32)) := (Fld.other W7 q3_3 (Or.inl (Ne.symm ne_o0_mp3)))
  rw [← hQQ]
  exact ⟨b2, mp3, rfl, N7, K7, sz_b2, sz_mp3, fx8, fw7, fx9, fx10, fx11, fx12⟩
theorem d2_0 : decode prog_29_method_1_code 0 = .ok (.aload_n 0, 1) := by decide +kernel
theorem d2_1 : decode prog_29_method_1_code 1 = .ok (.invokespecial 1, 3) := by decide +kernel
theorem d2_4 : decode prog_29_method_1_code 4 = .ok (.aload_n 0, 1) := by decide +kernel
theorem d2_5 : decode prog_29_method_1_code 5 = .ok (.new 7, 3) := by decide +kernel
theorem d2_8 : decode prog_29_method_1_code 8 = .ok (.dup, 1) := by decide +kernel
theorem d2_9 : decode prog_29_method_1_code 9 = .ok (.invokespecial 9, 3) := by decide +kernel
theorem d2_12 : decode prog_29_method_1_code 12 = .ok (.putfield 10, 3) := by decide +kernel
theorem d2_15 : decode prog_29_method_1_code 15 = .ok (.aload_n 0, 1) := by decide +kernel
theorem d2_16 : decode prog_29_method_1_code 16 = .ok (.new 7, 3) := by decide +kernel
theorem d2_19 : decode prog_29_method_1_code 19 = .ok (.dup, 1) := by decide +kernel
theorem d2_20 : decode prog_29_method_1_code 20 = .ok (.invokespecial 9, 3) := by decide +kernel
theorem d2_23 : decode prog_29_method_1_code 23 = .ok (.putfield 16, 3) := by decide +kernel
theorem d2_26 : decode prog_29_method_1_code 26 = .ok (.lload_n 1, 1) := by decide +kernel
theorem d2_27 : decode prog_29_method_1_code 27 = .ok (.lconst 1, 1) := by decide +kernel
theorem d2_28 : decode prog_29_method_1_code 28 = .ok (.lcmp, 1) := by decide +kernel
theorem d2_29 : decode prog_29_method_1_code 29 = .ok (.ifCond .ge 27, 3) := by decide +kernel
theorem d2_56 : decode prog_29_method_1_code 56 = .ok (.aload_n 0, 1) := by decide +kernel
theorem d2_57 : decode prog_29_method_1_code 57 = .ok (.lload_n 1, 1) := by decide +kernel
theorem d2_58 : decode prog_29_method_1_code 58 = .ok (.putfield 38, 3) := by decide +kernel
theorem d2_61 : decode prog_29_method_1_code 61 = .ok (.return_, 1) := by decide +kernel
theorem pn_fil : plainName "com/example/firm_tread/firmtread/destination/Fill" = true := by first | (simp [plainName, overriddenIn]; done) | decide +kernel
theorem pd2_0 : parseMethodDescriptor "()V" = some ⟨[], none⟩ := by decide +kernel
theorem ef_fil (m : MethodId) (o0 : Addr) (q1 : Int64) : entryFrame m #[(.ref o0), (.long q1)] 3 = mkF m 0 #[.val (.ref o0), .val (.long q1), .second] [] := by first | (simp [entryFrame, mkF, argsToLocals, Value.category]; done) | rfl
set_option maxRecDepth 65536 in
set_option maxHeartbeats 40000000 in
theorem fil (l : Launch) (Z : State) (a0 : Array Value) (hw : ∀ d ∈ tables_1, d.before a0 Z = true) (o0 : Addr) (q1 : Int64)  (h0 : Heap) (n0 : Nat) (Z0 : n0 ≤ h0.size) (g_o0 : n0 ≤ o0) (P0 : Exa Z h0 o0 "com/example/firm_tread/firmtread/destination/Fill") (P1 : Fld Z h0 o0 "com/example/firm_tread/firmtread/destination/Fill" "waiters" "Lcom/example/firm_tread/firmtread/destination/Waiters;" .null) (P2 : Fld Z h0 o0 "com/example/firm_tread/firmtread/destination/Fill" "owing" "Lcom/example/firm_tread/firmtread/destination/Waiters;" .null) (P3 : Fld Z h0 o0 "com/example/firm_tread/firmtread/destination/Fill" "cap" "J" (.long (0 : Int64))) (P4 : Fld Z h0 o0 "com/example/firm_tread/firmtread/destination/Fill" "octets" "J" (.long (0 : Int64))) (P5 : Fld Z h0 o0 "com/example/firm_tread/firmtread/destination/Fill" "full" "Z" (.int (0 : Int32))) (P6 : Fld Z h0 o0 "com/example/firm_tread/firmtread/destination/Fill" "fillings" "J" (.long (0 : Int64))) (P7 : Fld Z h0 o0 "com/example/firm_tread/firmtread/destination/Fill" "owed" "J" (.long (0 : Int64))) (hcap : ¬ q1 < 1) :
    own_Met l Z (⟨"com/example/firm_tread/firmtread/destination/Fill", "<init>", "(J)V"⟩ : MethodName) prog_29_method_1_code 3 none [] ({ frames := 7, cells := 6, slots := 28, locals := 101 } : Room) #[(.ref o0), (.long q1)] h0 6 28 (fun v h L => ∃ (w1 : Addr), ∃ (l1 : Addr), ∃ (m1 : Addr), ∃ (w2 : Addr), ∃ (l2 : Addr), ∃ (m2 : Addr), v = none ∧ Fr n0 L ∧ Keep h0 h [o0] ∧ h0.size ≤ w1 ∧ h0.size ≤ l1 ∧ h0.size ≤ m1 ∧ h0.size ≤ w2 ∧ h0.size ≤ l2 ∧ h0.size ≤ m2 ∧ Exa Z h o0 "com/example/firm_tread/firmtread/destination/Fill" ∧ Fld Z h o0 "com/example/firm_tread/firmtread/destination/Fill" "cap" "J" (.long q1) ∧ Fld Z h o0 "com/example/firm_tread/firmtread/destination/Fill" "octets" "J" (.long (0 : Int64)) ∧ Fld Z h o0 "com/example/firm_tread/firmtread/destination/Fill" "full" "Z" (.int (own_b false)) ∧ Fld Z h o0 "com/example/firm_tread/firmtread/destination/Fill" "fillings" "J" (.long (0 : Int64)) ∧ Fld Z h o0 "com/example/firm_tread/firmtread/destination/Fill" "owed" "J" (.long (0 : Int64)) ∧ Fld Z h o0 "com/example/firm_tread/firmtread/destination/Fill" "waiters" "Lcom/example/firm_tread/firmtread/destination/Waiters;" (.ref w1) ∧ Exa Z h w1 "com/example/firm_tread/firmtread/destination/Waiters" ∧ Fld Z h w1 "com/example/firm_tread/firmtread/destination/Waiters" "waiting" "Ljava/util/Set;" (.ref l1) ∧ Exa Z h l1 "java/util/LinkedHashSet" ∧ Fld Z h l1 "java/util/HashSet" "map" "Ljava/util/HashMap;" (.ref m1) ∧ Exa Z h m1 "java/util/LinkedHashMap" ∧ Fld Z h m1 "java/util/HashMap" "size" "I" (.int (0 : Int32)) ∧ Fld Z h o0 "com/example/firm_tread/firmtread/destination/Fill" "owing" "Lcom/example/firm_tread/firmtread/destination/Waiters;" (.ref w2) ∧ Exa Z h w2 "com/example/firm_tread/firmtread/destination/Waiters" ∧ Fld Z h w2 "com/example/firm_tread/firmtread/destination/Waiters" "waiting" "Ljava/util/Set;" (.ref l2) ∧ Exa Z h l2 "java/util/LinkedHashSet" ∧ Fld Z h l2 "java/util/HashSet" "map" "Ljava/util/HashMap;" (.ref m2) ∧ Exa Z h m2 "java/util/LinkedHashMap" ∧ Fld Z h m2 "java/util/HashMap" "size" "I" (.int (0 : Int32))) := by
  refine own_met (plainFor_of_name pn_fil) ?_
  intro p e s m below meth c s₁ Bd hml0 hZ X0 e0
  have hx := Bd.exec
  have hby := Bd.bytes
  have hml : c.maxLocals = 3 := hml0
  have hown : s.vm.findClass "com/example/firm_tread/firmtread/destination/Fill" = some m.cls := findClass_of_methodNamed Bd.named
  have hnm := (name_of_methodNamed Bd.named Bd.method).1
  refine own_cast (ef_fil m o0 q1) ?_
  generalize hQQ : (fun (v : Option Value) (h : Heap) (L : List Loc) => ∃ (w1 : Addr), ∃ (l1 : Addr), ∃ (m1 : Addr), ∃ (w2 : Addr), ∃ (l2 : Addr), ∃ (m2 : Addr), v = none ∧ Fr n0 L ∧ Keep h0 h [o0] ∧ h0.size ≤ w1 ∧ h0.size ≤ l1 ∧ h0.size ≤ m1 ∧ h0.size ≤ w2 ∧ h0.size ≤ l2 ∧ h0.size ≤ m2 ∧ Exa Z h o0 "com/example/firm_tread/firmtread/destination/Fill" ∧ Fld Z h o0 "com/example/firm_tread/firmtread/destination/Fill" "cap" "J" (.long q1) ∧ Fld Z h o0 "com/example/firm_tread/firmtread/destination/Fill" "octets" "J" (.long (0 : Int64)) ∧ Fld Z h o0 "com/example/firm_tread/firmtread/destination/Fill" "full" "Z" (.int (own_b false)) ∧ Fld Z h o0 "com/example/firm_tread/firmtread/destination/Fill" "fillings" "J" (.long (0 : Int64)) ∧ Fld Z h o0 "com/example/firm_tread/firmtread/destination/Fill" "owed" "J" (.long (0 : Int64)) ∧ Fld Z h o0 "com/example/firm_tread/firmtread/destination/Fill" "waiters" "Lcom/example/firm_tread/firmtread/destination/Waiters;" (.ref w1) ∧ Exa Z h w1 "com/example/firm_tread/firmtread/destination/Waiters" ∧ Fld Z h w1 "com/example/firm_tread/firmtread/destination/Waiters" "waiting" "Ljava/util/Set;" (.ref l1) ∧ Exa Z h l1 "java/util/LinkedHashSet" ∧ Fld Z h l1 "java/util/HashSet" "map" "Ljava/util/HashMap;" (.ref m1) ∧ Exa Z h m1 "java/util/LinkedHashMap" ∧ Fld Z h m1 "java/util/HashMap" "size" "I" (.int (0 : Int32)) ∧ Fld Z h o0 "com/example/firm_tread/firmtread/destination/Fill" "owing" "Lcom/example/firm_tread/firmtread/destination/Waiters;" (.ref w2) ∧ Exa Z h w2 "com/example/firm_tread/firmtread/destination/Waiters" ∧ Fld Z h w2 "com/example/firm_tread/firmtread/destination/Waiters" "waiting" "Ljava/util/Set;" (.ref l2) ∧ Exa Z h l2 "java/util/LinkedHashSet" ∧ Fld Z h l2 "java/util/HashSet" "map" "Ljava/util/HashMap;" (.ref m2) ∧ Exa Z h m2 "java/util/LinkedHashMap" ∧ Fld Z h m2 "java/util/HashMap" "size" "I" (.int (0 : Int32))) = QQ
  have N0 := Fr.nil n0
  have K0 := Keep.refl h0 [o0]
  refine own_go (g' := (mkF m 1 #[.val (.ref o0), .val (.long q1), .second] [(.ref o0)])) (fun _ kgo => XS.aloadN X0.here hx rfl (hb hby d2_0) rfl rfl kgo) ?_
  obtain ⟨T1, X1, e1, st1⟩ := initO X0 hx hZ hown (hw _ (List.mem_of_getElem? (i := 12) rfl)) (hw _ (List.mem_of_getElem? (i := 13) rfl)) (hw _ (List.mem_of_getElem? (i := 14) rfl)) e0 (g := (mkF m 1 #[.val (.ref o0), .val (.long q1), .second] [(.ref o0)])) rfl (by rw [hml]; rfl) rfl (hb hby d2_1) (by decide) (W := 0) (by show 2 * 0 + _ ≤ _; exact Nat.le_of_eq rfl) (by decide)
  refine own_go (g' := (mkF m 4 #[.val (.ref o0), .val (.long q1), .second] [])) (st1) ?_
  refine own_go (g' := (mkF m 5 #[.val (.ref o0), .val (.long q1), .second] [(.ref o0)])) (fun _ kgo => XS.aloadN X1.here hx rfl (hb hby d2_4) rfl rfl kgo) ?_
  obtain ⟨T2, h2, X2, e2, E2, A2, D2, -, st2⟩ := newO X1 hx hZ hown (hw _ (List.mem_of_getElem? (i := 15) rfl)) (hw _ (List.mem_of_getElem? (i := 16) rfl)) (hw _ (List.mem_of_getElem? (i := 17) rfl)) e1 (g := (mkF m 5 #[.val (.ref o0), .val (.long q1), .second] [(.ref o0)])) rfl (hb hby d2_5) (by decide) (by decide)
  obtain ⟨b2, ad2⟩ : ∃ z, z = h0.size := ⟨_, rfl⟩
  rw [← ad2] at A2 D2 st2
  have ne_o0_b2 : o0 ≠ b2 := Nat.ne_of_lt (by rw [ad2]; exact P0.lt)
  have ge_b2 : n0 ≤ b2 := by rw [ad2]; exact Z0
  have sz_b2 : h0.size ≤ b2 := by rw [ad2]; exact K0.1
  have Z2 : n0 ≤ h2.size := Nat.le_trans Z0 E2.1
  have K2 : Keep h0 h2 [o0] := K0.ext E2
  have F2_waiting : Fld Z h2 b2 "com/example/firm_tread/firmtread/destination/Waiters" "waiting" "Ljava/util/Set;" .null := D2 (Or.inr (hw _ (List.mem_of_getElem? (i := 92) rfl))) (ty := (.object "java/util/Set")) (by decide)
  refine own_go (g' := (mkF m 8 #[.val (.ref o0), .val (.long q1), .second] [(.ref b2), (.ref o0)])) (st2) ?_
  refine own_go (g' := (mkF m 9 #[.val (.ref o0), .val (.long q1), .second] [(.ref b2), (.ref b2), (.ref o0)])) (fun _ kgo => XS.dup X2.here hx rfl (hb hby d2_8) rfl rfl kgo) ?_
  obtain ⟨v3, T3, L3, hQ3, X3, st3⟩ := own_callI X2 hx hZ (y := (⟨"com/example/firm_tread/firmtread/destination/Waiters", "<init>", "()V"⟩ : MethodName)) rfl hown (hw _ (List.mem_of_getElem? (i := 18) rfl)) (hw _ (List.mem_of_getElem? (i := 19) rfl)) (hw _ (List.mem_of_getElem? (i := 17) rfl)) (hw _ (List.mem_of_getElem? (i := 20) rfl)) ⟨by decide, by decide⟩ (a := b2) (argsL := []) (wai l Z a0 hw b2 h2 n0 Z2 ge_b2 A2 F2_waiting) e2 (g := (mkF m 9 #[.val (.ref o0), .val (.long q1), .second] [(.ref b2), (.ref b2), (.ref o0)])) rfl (by rw [hml]; rfl) (rest := [(.ref b2), (.ref o0)]) (lenOf pd2_0 rfl) rfl (hb hby d2_9) (W := 2) (by show 2 * 0 + _ ≤ _; exact Nat.le_of_eq rfl) (by decide) (by decide) (by decide) (by decide)
  obtain ⟨ls3, mp3, rfl, Nq3, Kq3, pr3_0, pr3_1, q3_0, q3_1, q3_2, q3_3, q3_4, q3_5⟩ := hQ3
  have fx4 : Exa Z h2 o0 "com/example/firm_tread/firmtread/destination/Fill" := (Exa.ext E2 P0)
  have ne_o0_ls3 : o0 ≠ ls3 := Nat.ne_of_lt (Nat.lt_of_lt_of_le fx4.lt pr3_0)
  have ne_b2_ls3 : b2 ≠ ls3 := Nat.ne_of_lt (Nat.lt_of_lt_of_le A2.lt pr3_0)
  have ge_ls3 : n0 ≤ ls3 := Nat.le_trans Z2 pr3_0
  have sz_ls3 : h0.size ≤ ls3 := Nat.le_trans K2.1 pr3_0
  have ne_o0_mp3 : o0 ≠ mp3 := Nat.ne_of_lt (Nat.lt_of_lt_of_le fx4.lt pr3_1)
  have ne_b2_mp3 : b2 ≠ mp3 := Nat.ne_of_lt (Nat.lt_of_lt_of_le A2.lt pr3_1)
  have ge_mp3 : n0 ≤ mp3 := Nat.le_trans Z2 pr3_1
  have sz_mp3 : h0.size ≤ mp3 := Nat.le_trans K2.1 pr3_1
  have N3 := Fr.app N0 Nq3
  have Z3 : n0 ≤ T3.heap.size := Nat.le_trans Z2 Kq3.1
  have KK3 : Keep h0 T3.heap [o0] := K2.trans Kq3 (allS (Or.inr sz_b2) all0)
  refine own_go (g' := (mkF m 12 #[.val (.ref o0), .val (.long q1), .second] [(.ref b2), (.ref o0)])) (st3) ?_
  have fx5 : Fld Z T3.heap o0 "com/example/firm_tread/firmtread/destination/Fill" "waiters" "Lcom/example/firm_tread/firmtread/destination/Waiters;" .null := (Fld.keep (Fld.ext E2 P1) Kq3 (ninS ne_o0_b2 nin0))
  have fx6 : Exa Z T3.heap o0 "com/example/firm_tread/firmtread/destination/Fill" := (Exa.keep fx4 Kq3)
  obtain ⟨T7, h7, X7, e7, W7, st7⟩ := putF X3 hx hZ hown (host := "") (Or.inl (hw _ (List.mem_of_getElem? (i := 93) rfl))) Via.refl rfl fx5 fx6 (Or.inr ⟨(hw _ (List.mem_of_getElem? (i := 94) rfl)), rfl, hnm⟩) (hw _ (List.mem_of_getElem? (i := 7) rfl)) (ty := (.object "com/example/firm_tread/firmtread/destination/Waiters")) (by decide) rfl rfl (g := (mkF m 12 #[.val (.ref o0), .val (.long q1), .second] [(.ref b2), (.ref o0)])) rfl rfl (hb hby d2_12)
  have fw7 := Fld.same W7 fx5
  have N7 := Fr.snoc X7 N3 g_o0
  have Z7 : n0 ≤ h7.size := by rw [W7.size]; exact Z3
  have K7 : Keep h0 h7 [o0] := KK3.wr W7 (Or.inl (List.mem_of_getElem? (i := 0) rfl))
  refine own_go (g' := (mkF m 15 #[.val (.ref o0), .val (.long q1), .second] [])) (st7) ?_
  refine own_go (g' := (mkF m 16 #[.val (.ref o0), .val (.long q1), .second] [(.ref o0)])) (fun _ kgo => XS.aloadN X7.here hx rfl (hb hby d2_15) rfl rfl kgo) ?_
  obtain ⟨T8, h8, X8, e8, E8, A8, D8, -, st8⟩ := newO X7 hx hZ hown (hw _ (List.mem_of_getElem? (i := 15) rfl)) (hw _ (List.mem_of_getElem? (i := 16) rfl)) (hw _ (List.mem_of_getElem? (i := 17) rfl)) e7 (g := (mkF m 16 #[.val (.ref o0), .val (.long q1), .second] [(.ref o0)])) rfl (hb hby d2_16) (by decide) (by decide)
  obtain ⟨b8, ad8⟩ : ∃ z, z = h7.size := ⟨_, rfl⟩
  rw [← ad8] at A8 D8 st8
  have fx9 : Exa Z h7 o0 "com/example/firm_tread/firmtread/destination/Fill" := (Exa.wr W7 fx6)
  have ne_o0_b8 : o0 ≠ b8 := Nat.ne_of_lt (by rw [ad8]; exact fx9.lt)
  have fx10 : Exa Z h7 b2 "com/example/firm_tread/firmtread/destination/Waiters" := (Exa.wr W7 q3_0)
  have ne_b2_b8 : b2 ≠ b8 := Nat.ne_of_lt (by rw [ad8]; exact fx10.lt)
  have fx11 : Exa Z h7 ls3 "java/util/LinkedHashSet" := (Exa.wr W7 q3_2)
  have ne_ls3_b8 : ls3 ≠ b8 := Nat.ne_of_lt (by rw [ad8]; exact fx11.lt)
  have fx12 : Exa Z h7 mp3 "java/util/LinkedHashMap" := (Exa.wr W7 q3_4)
  have ne_mp3_b8 : mp3 ≠ b8 := Nat.ne_of_lt (by rw [ad8]; exact fx12.lt)
  have ge_b8 : n0 ≤ b8 := by rw [ad8]; exact Z7
  have sz_b8 : h0.size ≤ b8 := by rw [ad8]; exact K7.1
  have Z8 : n0 ≤ h8.size := Nat.le_trans Z7 E8.1
  have K8 : Keep h0 h8 [o0] := K7.ext E8
  have F8_waiting : Fld Z h8 b8 "com/example/firm_tread/firmtread/destination/Waiters" "waiting" "Ljava/util/Set;" .null := D8 (Or.inr (hw _ (List.mem_of_getElem? (i := 92) rfl))) (ty := (.object "java/util/Set")) (by decide)
  refine own_go (g' := (mkF m 19 #[.val (.ref o0), .val (.long q1), .second] [(.ref b8), (.ref o0)])) (st8) ?_
  refine own_go (g' := (mkF m 20 #[.val (.ref o0), .val (.long q1), .second] [(.ref b8), (.ref b8), (.ref o0)])) (fun _ kgo => XS.dup X8.here hx rfl (hb hby d2_19) rfl rfl kgo) ?_
  obtain ⟨v13, T13, L13, hQ13, X13, st13⟩ := own_callI X8 hx hZ (y := (⟨"com/example/firm_tread/firmtread/destination/Waiters", "<init>", "()V"⟩ : MethodName)) rfl hown (hw _ (List.mem_of_getElem? (i := 18) rfl)) (hw _ (List.mem_of_getElem? (i := 19) rfl)) (hw _ (List.mem_of_getElem? (i := 17) rfl)) (hw _ (List.mem_of_getElem? (i := 20) rfl)) ⟨by decide, by decide⟩ (a := b8) (argsL := []) (wai l Z a0 hw b8 h8 n0 Z8 ge_b8 A8 F8_waiting) e8 (g := (mkF m 20 #[.val (.ref o0), .val (.long q1), .second] [(.ref b8), (.ref b8), (.ref o0)])) rfl (by rw [hml]; rfl) (rest := [(.ref b8), (.ref o0)]) (lenOf pd2_0 rfl) rfl (hb hby d2_20) (W := 2) (by show 2 * 0 + _ ≤ _; exact Nat.le_of_eq rfl) (by decide) (by decide) (by decide) (by decide)
  obtain ⟨ls13, mp13, rfl, Nq13, Kq13, pr13_0, pr13_1, q13_0, q13_1, q13_2, q13_3, q13_4, q13_5⟩ := hQ13
  have fx14 : Exa Z h8 o0 "com/example/firm_tread/firmtread/destination/Fill" := (Exa.ext E8 fx9)
  have ne_o0_ls13 : o0 ≠ ls13 := Nat.ne_of_lt (Nat.lt_of_lt_of_le fx14.lt pr13_0)
  have fx15 : Exa Z h8 b2 "com/example/firm_tread/firmtread/destination/Waiters" := (Exa.ext E8 fx10)
  have ne_b2_ls13 : b2 ≠ ls13 := Nat.ne_of_lt (Nat.lt_of_lt_of_le fx15.lt pr13_0)
  have fx16 : Exa Z h8 ls3 "java/util/LinkedHashSet" := (Exa.ext E8 fx11)
  have ne_ls3_ls13 : ls3 ≠ ls13 := Nat.ne_of_lt (Nat.lt_of_lt_of_le fx16.lt pr13_0)
  have fx17 : Exa Z h8 mp3 "java/util/LinkedHashMap" := (Exa.ext E8 fx12)
  have ne_mp3_ls13 : mp3 ≠ ls13 := Nat.ne_of_lt (Nat.lt_of_lt_of_le fx17.lt pr13_0)
  have ne_b8_ls13 : b8 ≠ ls13 := Nat.ne_of_lt (Nat.lt_of_lt_of_le A8.lt pr13_0)
  have ge_ls13 : n0 ≤ ls13 := Nat.le_trans Z8 pr13_0
  have sz_ls13 : h0.size ≤ ls13 := Nat.le_trans K8.1 pr13_0
  have ne_o0_mp13 : o0 ≠ mp13 := Nat.ne_of_lt (Nat.lt_of_lt_of_le fx14.lt pr13_1)
  have ne_b2_mp13 : b2 ≠ mp13 := Nat.ne_of_lt (Nat.lt_of_lt_of_le fx15.lt pr13_1)
  have ne_ls3_mp13 : ls3 ≠ mp13 := Nat.ne_of_lt (Nat.lt_of_lt_of_le fx16.lt pr13_1)
  have ne_mp3_mp13 : mp3 ≠ mp13 := Nat.ne_of_lt (Nat.lt_of_lt_of_le fx17.lt pr13_1)
  have ne_b8_mp13 : b8 ≠ mp13 := Nat.ne_of_lt (Nat.lt_of_lt_of_le A8.lt pr13_1)
  have ge_mp13 : n0 ≤ mp13 := Nat.le_trans Z8 pr13_1
  have sz_mp13 : h0.size ≤ mp13 := Nat.le_trans K8.1 pr13_1
  have N13 := Fr.app N7 Nq13
  have Z13 : n0 ≤ T13.heap.size := Nat.le_trans Z8 Kq13.1
  have KK13 : Keep h0 T13.heap [o0] := K8.trans Kq13 (allS (Or.inr sz_b8) all0)
  refine own_go (g' := (mkF m 23 #[.val (.ref o0), .val (.long q1), .second] [(.ref b8), (.ref o0)])) (st13) ?_
  have fx18 : Fld Z T13.heap o0 "com/example/firm_tread/firmtread/destination/Fill" "owing" "Lcom/example/firm_tread/firmtread/destination/Waiters;" .null := (Fld.keep (Fld.ext E8 (Fld.other W7 (Fld.keep (Fld.ext E2 P2) Kq3 (ninS ne_o0_b2 nin0)) (Or.inr (slot_ne (Or.inr (hw _ (List.mem_of_getElem? (i := 96) rfl))) (Or.inr (hw _ (List.mem_of_getElem? (i := 94) rfl))) (by decide) (t := (.object "com/example/firm_tread/firmtread/destination/Waiters")) (t' := (.object "com/example/firm_tread/firmtread/destination/Waiters")) (by decide) (by decide))))) Kq13 (ninS ne_o0_b8 nin0))
  have fx19 : Exa Z T13.heap o0 "com/example/firm_tread/firmtread/destination/Fill" := (Exa.keep fx14 Kq13)
  obtain ⟨T20, h20, X20, e20, W20, st20⟩ := putF X13 hx hZ hown (host := "") (Or.inl (hw _ (List.mem_of_getElem? (i := 95) rfl))) Via.refl rfl fx18 fx19 (Or.inr ⟨(hw _ (List.mem_of_getElem? (i := 96) rfl)), rfl, hnm⟩) (hw _ (List.mem_of_getElem? (i := 7) rfl)) (ty := (.object "com/example/firm_tread/firmtread/destination/Waiters")) (by decide) rfl rfl (g := (mkF m 23 #[.val (.ref o0), .val (.long q1), .second] [(.ref b8), (.ref o0)])) rfl rfl (hb hby d2_23)
  have fw20 := Fld.same W20 fx18
  have N20 := Fr.snoc X20 N13 g_o0
  have Z20 : n0 ≤ h20.size := by rw [W20.size]; exact Z13
  have K20 : Keep h0 h20 [o0] := KK13.wr W20 (Or.inl (List.mem_of_getElem? (i := 0) rfl))
  refine own_go (g' := (mkF m 26 #[.val (.ref o0), .val (.long q1), .second] [])) (st20) ?_
  refine own_go (g' := (mkF m 27 #[.val (.ref o0), .val (.long q1), .second] [(.long q1)])) (fun _ kgo => XS.lloadN X20.here hx rfl (hb hby d2_26) rfl kgo) ?_
  refine own_go (g' := (mkF m 28 #[.val (.ref o0), .val (.long q1), .second] [(.long (1 : Int64)), (.long q1)])) (fun _ kgo => XS.lconst X20.here hx rfl (hb hby d2_27) kgo) ?_
  refine own_go (g' := (mkF m 29 #[.val (.ref o0), .val (.long q1), .second] [(.int (lcmpW q1 (1 : Int64)))])) (fun _ kgo => XS.lcmp X20.here hx rfl (hb hby d2_28) rfl kgo) ?_
  refine own_go (g' := (mkF m 56 #[.val (.ref o0), .val (.long q1), .second] [])) (fun _ kgo => XS.ifYes X20.here hx rfl (pc0 := 29) (pc' := 56) rfl (hb hby d2_29) rfl ((if0 _ _).trans (flt (mt (lw_lt _ _).mp hcap)).2.1) (by decide) (by decide) kgo) ?_
  refine own_go (g' := (mkF m 57 #[.val (.ref o0), .val (.long q1), .second] [(.ref o0)])) (fun _ kgo => XS.aloadN X20.here hx rfl (hb hby d2_56) rfl rfl kgo) ?_
  refine own_go (g' := (mkF m 58 #[.val (.ref o0), .val (.long q1), .second] [(.long q1), (.ref o0)])) (fun _ kgo => XS.lloadN X20.here hx rfl (hb hby d2_57) rfl kgo) ?_
  have fx21 : Fld Z h20 o0 "com/example/firm_tread/firmtread/destination/Fill" "cap" "J" (.long (0 : Int64)) := (Fld.other W20 (Fld.keep (Fld.ext E8 (Fld.other W7 (Fld.keep (Fld.ext E2 P3) Kq3 (ninS ne_o0_b2 nin0)) (Or.inr (slot_ne (Or.inr (hw _ (List.mem_of_getElem? (i := 98) rfl))) (Or.inr (hw _ (List.mem_of_getElem? (i := 94) rfl))) (by decide) (t := .long) (t' := (.object "com/example/firm_tread/firmtread/destination/Waiters")) (by decide) (by decide))))) Kq13 (ninS ne_o0_b8 nin0)) (Or.inr (slot_ne (Or.inr (hw _ (List.mem_of_getElem? (i := 98) rfl))) (Or.inr (hw _ (List.mem_of_getElem? (i := 96) rfl))) (by decide) (t := .long) (t' := (.object "com/example/firm_tread/firmtread/destination/Waiters")) (by decide) (by decide))))
  have fx22 : Exa Z h20 o0 "com/example/firm_tread/firmtread/destination/Fill" := (Exa.wr W20 fx19)
  obtain ⟨T23, h23, X23, e23, W23, st23⟩ := putF X20 hx hZ hown (host := "") (Or.inl (hw _ (List.mem_of_getElem? (i := 97) rfl))) Via.refl e20 fx21 fx22 (Or.inr ⟨(hw _ (List.mem_of_getElem? (i := 98) rfl)), rfl, hnm⟩) (hw _ (List.mem_of_getElem? (i := 7) rfl)) (ty := .long) (by decide) rfl rfl (g := (mkF m 58 #[.val (.ref o0), .val (.long q1), .second] [(.long q1), (.ref o0)])) rfl rfl (hb hby d2_58)
  have fw23 := Fld.same W23 fx21
  have N23 := Fr.snoc X23 N20 g_o0
  have Z23 : n0 ≤ h23.size := by rw [W23.size]; exact Z20
  have K23 : Keep h0 h23 [o0] := K20.wr W23 (Or.inl (List.mem_of_getElem? (i := 0) rfl))
  refine own_go (g' := (mkF m 61 #[.val (.ref o0), .val (.long q1), .second] [])) (st23) ?_
  refine own_retV X23 hx Bd.returns Bd.notSynchronized (hb hby d2_61) (by decide) (by decide) ?_
  show QQ _ T23.heap _
  rw [e23]
  have fx24 : Exa Z h23 o0 "com/example/firm_tread/firmtread/destination/Fill" := (Exa.wr W23 fx22)
  have fx25 : Fld Z h23 o0 "com/example/firm_tread/firmtread/destination/Fill" "octets" "J" (.long (0 : Int64)) := (Fld.other W23 (Fld.other W20 (Fld.keep (Fld.ext E8 (Fld.other W7 (Fld.keep (Fld.ext E2 P4) Kq3 (ninS ne_o0_b2 nin0)) (Or.inr (slot_ne (Or.inl (hw _ (List.mem_of_getElem? (i := 105) rfl))) (Or.inr (hw _ (List.mem_of_getElem? (i := 94) rfl))) (by decide) (t := .long) (t' := (.object "com/example/firm_tread/firmtread/destination/Waiters")) (by decide) (by decide))))) Kq13 (ninS ne_o0_b8 nin0)) (Or.inr (slot_ne (Or.inl (hw _ (List.mem_of_getElem? (i := 105) rfl))) (Or.inr (hw _ (List.mem_of_getElem? (i := 96) rfl))) (by decide) (t := .long) (t' := (.object "com/example/firm_tread/firmtread/destination/Waiters")) (by decide) (by decide)))) (Or.inr (slot_ne (Or.inl (hw _ (List.mem_of_getElem? (i := 105) rfl))) (Or.inr (hw _ (List.mem_of_getElem? (i := 98) rfl))) (by decide) (t := .long) (t' := .long) (by decide) (by decide))))
  have fx26 : Fld Z h23 o0 "com/example/firm_tread/firmtread/destination/Fill" "full" "Z" (.int (0 : Int32)) := (Fld.other W23 (Fld.other W20 (Fld.keep (Fld.ext E8 (Fld.other W7 (Fld.keep (Fld.ext E2 P5) Kq3 (ninS ne_o0_b2 nin0)) (Or.inr (slot_ne (Or.inl (hw _ (List.mem_of_getElem? (i := 107) rfl))) (Or.inr (hw _ (List.mem_of_getElem? (i := 94) rfl))) (by decide) (t := .boolean) (t' := (.object "com/example/firm_tread/firmtread/destination/Waiters")) (by decide) (by decide))))) Kq13 (ninS ne_o0_b8 nin0)) (Or.inr (slot_ne (Or.inl (hw _ (List.mem_of_getElem? (i := 107) rfl))) (Or.inr (hw _ (List.mem_of_getElem? (i := 96) rfl))) (by decide) (t := .boolean) (t' := (.object "com/example/firm_tread/firmtread/destination/Waiters")) (by decide) (by decide)))) (Or.inr (slot_ne (Or.inl (hw _ (List.mem_of_getElem? (i := 107) rfl))) (Or.inr (hw _ (List.mem_of_getElem? (i := 98) rfl))) (by decide) (t := .boolean) (t' := .long) (by decide) (by decide))))
  have fx27 : Fld Z h23 o0 "com/example/firm_tread/firmtread/destination/Fill" "fillings" "J" (.long (0 : Int64)) := (Fld.other W23 (Fld.other W20 (Fld.keep (Fld.ext E8 (Fld.other W7 (Fld.keep (Fld.ext E2 P6) Kq3 (ninS ne_o0_b2 nin0)) (Or.inr (slot_ne (Or.inl (hw _ (List.mem_of_getElem? (i := 124) rfl))) (Or.inr (hw _ (List.mem_of_getElem? (i := 94) rfl))) (by decide) (t := .long) (t' := (.object "com/example/firm_tread/firmtread/destination/Waiters")) (by decide) (by decide))))) Kq13 (ninS ne_o0_b8 nin0)) (Or.inr (slot_ne (Or.inl (hw _ (List.mem_of_getElem? (i := 124) rfl))) (Or.inr (hw _ (List.mem_of_getElem? (i := 96) rfl))) (by decide) (t := .long) (t' := (.object "com/example/firm_tread/firmtread/destination/Waiters")) (by decide) (by decide)))) (Or.inr (slot_ne (Or.inl (hw _ (List.mem_of_getElem? (i := 124) rfl))) (Or.inr (hw _ (List.mem_of_getElem? (i := 98) rfl))) (by decide) (t := .long) (t' := .long) (by decide) (by decide))))
  have fx28 : Fld Z h23 o0 "com/example/firm_tread/firmtread/destination/Fill" "owed" "J" (.long (0 : Int64)) := (Fld.other W23 (Fld.other W20 (Fld.keep (Fld.ext E8 (Fld.other W7 (Fld.keep (Fld.ext E2 P7) Kq3 (ninS ne_o0_b2 nin0)) (Or.inr (slot_ne (Or.inl (hw _ (List.mem_of_getElem? (i := 126) rfl))) (Or.inr (hw _ (List.mem_of_getElem? (i := 94) rfl))) (by decide) (t := .long) (t' := (.object "com/example/firm_tread/firmtread/destination/Waiters")) (by decide) (by decide))))) Kq13 (ninS ne_o0_b8 nin0)) (Or.inr (slot_ne (Or.inl (hw _ (List.mem_of_getElem? (i := 126) rfl))) (Or.inr (hw _ (List.mem_of_getElem? (i := 96) rfl))) (by decide) (t := .long) (t' := (.object "com/example/firm_tread/firmtread/destination/Waiters")) (by decide) (by decide)))) (Or.inr (slot_ne (Or.inl (hw _ (List.mem_of_getElem? (i := 126) rfl))) (Or.inr (hw _ (List.mem_of_getElem? (i := 98) rfl))) (by decide) (t := .long) (t' := .long) (by decide) (by decide))))
  have fx29 : Fld Z h23 o0 "com/example/firm_tread/firmtread/destination/Fill" "waiters" "Lcom/example/firm_tread/firmtread/destination/Waiters;" (.ref b2) := (Fld.other W23 (Fld.other W20 (Fld.keep (Fld.ext E8 fw7) Kq13 (ninS ne_o0_b8 nin0)) (Or.inr (slot_ne (Or.inr (hw _ (List.mem_of_getElem? (i := 94) rfl))) (Or.inr (hw _ (List.mem_of_getElem? (i := 96) rfl))) (by decide) (t := (.object "com/example/firm_tread/firmtread/destination/Waiters")) (t' := (.object "com/example/firm_tread/firmtread/destination/Waiters")) (by decide) (by decide)))) (Or.inr (slot_ne (Or.inr (hw _ (List.mem_of_getElem? (i := 94) rfl))) (Or.inr (hw _ (List.mem_of_getElem? (i := 98) rfl))) (by decide) (t := (.object "com/example/firm_tread/firmtread/destination/Waiters")) (t' := .long) (by decide) (by decide))))
  have fx30 : Exa Z h23 b2 "com/example/firm_tread/firmtread/destination/Waiters" := (Exa.wr W23 (Exa.wr W20 (Exa.keep fx15 Kq13)))
  have fx31 : Fld Z h23 b2 "com/example/firm_tread/firmtread/destination/Waiters" "waiting" "Ljava/util/Set;" (.ref ls3) := (Fld.other W23 (Fld.other W20 (Fld.keep (Fld.ext E8 (Fld.other W7 q3_1 (Or.inl (Ne.symm ne_o0_b2)))) Kq13 (ninS ne_b2_b8 nin0)) (Or.inl (Ne.symm ne_o0_b2))) (Or.inl (Ne.symm ne_o0_b2)))
  have fx32 : Exa Z h23 ls3 "java/util/LinkedHashSet" := (Exa.wr W23 (Exa.wr W20 (Exa.keep fx16 Kq13)))
  have fx33 : Fld Z h23 ls3 "java/util/HashSet" "map" "Ljava/util/HashMap;" (.ref mp3) := (Fld.other W23 (Fld.other W20 (Fld.keep (Fld.ext E8 (Fld.other W7 q3_3 (Or.inl (Ne.symm ne_o0_ls3)))) Kq13 (ninS ne_ls3_b8 nin0)) (Or.inl (Ne.symm ne_o0_ls3))) (Or.inl (Ne.symm ne_o0_ls3)))
  have fx34 : Exa Z h23 mp3 "java/util/LinkedHashMap" := (Exa.wr W23 (Exa.wr W20 (Exa.keep fx17 Kq13)))
  have fx35 : Fld Z h23 mp3 "java/util/HashMap" "size" "I" (.int (0 : Int32)) := (Fld.other W23 (Fld.other W20 (Fld.keep (Fld.ext E8 (Fld.other W7 q3_5 (Or.inl (Ne.symm ne_o0_mp3)))) Kq13 (ninS ne_mp3_b8 nin0)) (Or.inl (Ne.symm ne_o0_mp3))) (Or.inl (Ne.symm ne_o0_mp3)))
  have fx36 : Fld Z h23 o0 "com/example/firm_tread/firmtread/destination/Fill" "owing" "Lcom/example/firm_tread/firmtread/destination/Waiters;" (.ref b8) := (Fld.other W23 fw20 (Or.inr (slot_ne (Or.inr (hw _ (List.mem_of_getElem? (i := 96) rfl))) (Or.inr (hw _ (List.mem_of_getElem? (i := 98) rfl))) (by decide) (t := (.object "com/example/firm_tread/firmtread/destination/Waiters")) (t' := .long) (by decide) (by decide))))
  have fx37 : Exa Z h23 b8 "com/example/firm_tread/firmtread/destination/Waiters" := (Exa.wr W23 (Exa.wr W20 q13_0))
  have fx38 : Fld Z h23 b8 "com/example/firm_tread/firmtread/destination/Waiters" "waiting" "Ljava/util/Set;" (.ref ls13) := (Fld.other W23 (Fld.other W20 q13_1 (Or.inl (Ne.symm ne_o0_b8))) (Or.inl (Ne.symm ne_o0_b8)))
  have fx39 : Exa Z h23 ls13 "java/util/LinkedHashSet" := (Exa.wr W23 (Exa.wr W20 q13_2))
  have fx40 : Fld Z h23 ls13 "java/util/HashSet" "map" "Ljava/util/HashMap;" (.ref mp13) := (Fld.other W23 (Fld.other W20 q13_3 (Or.inl (Ne.symm ne_o0_ls13))) (Or.inl (Ne.symm ne_o0_ls13)))
  have fx41 : Exa Z h23 mp13 "java/util/LinkedHashMap" := (Exa.wr W23 (Exa.wr W20 q13_4))
  have fx42 : Fld Z h23 mp13 "java/util/HashMap" "size" "I" (.int (0 : Int32)) := (Fld.other W23 (Fld.other W20 q13_5 (Or.inl (Ne.symm ne_o0_mp13))) (Or.inl (Ne.symm ne_o0_mp13)))
  rw [← hQQ]
  exact ⟨b2, ls3, mp3, b8, ls13, mp13, rfl, N23, K23, sz_b2, sz_ls3, sz_mp3, sz_b8, sz_ls13, sz_mp13, fx24, fw23, fx25, fx26, fx27, fx28, fx29, fx30, fx31, fx32, fx33, fx34, fx35, fx36, fx37, fx38, fx39, fx40, fx41, fx42⟩
theorem d15_0 : decode prog_29_method_9_code 0 = .ok (.aload_n 0, 1) := by decide +kernel
theorem d15_1 : decode prog_29_method_9_code 1 = .ok (.dup, 1) := by decide +kernel
theorem d15_2 : decode prog_29_method_9_code 2 = .ok (.getfield 44, 3) := by decide +kernel
theorem d15_5 : decode prog_29_method_9_code 5 = .ok (.lload_n 1, 1) := by decide +kernel
theorem d15_6 : decode prog_29_method_9_code 6 = .ok (.ladd, 1) := by decide +kernel
theorem d15_7 : decode prog_29_method_9_code 7 = .ok (.putfield 44, 3) := by decide +kernel
theorem d15_10 : decode prog_29_method_9_code 10 = .ok (.aload_n 0, 1) := by decide +kernel
theorem d15_11 : decode prog_29_method_9_code 11 = .ok (.getfield 47, 3) := by decide +kernel
theorem d15_14 : decode prog_29_method_9_code 14 = .ok (.ifCond .ne 35, 3) := by decide +kernel
theorem d15_17 : decode prog_29_method_9_code 17 = .ok (.aload_n 0, 1) := by decide +kernel
theorem d15_18 : decode prog_29_method_9_code 18 = .ok (.getfield 44, 3) := by decide +kernel
theorem d15_21 : decode prog_29_method_9_code 21 = .ok (.aload_n 0, 1) := by decide +kernel
theorem d15_22 : decode prog_29_method_9_code 22 = .ok (.getfield 38, 3) := by decide +kernel
theorem d15_25 : decode prog_29_method_9_code 25 = .ok (.lcmp, 1) := by decide +kernel
theorem d15_26 : decode prog_29_method_9_code 26 = .ok (.ifCond .lt 23, 3) := by decide +kernel
theorem d15_29 : decode prog_29_method_9_code 29 = .ok (.aload_n 0, 1) := by decide +kernel
theorem d15_30 : decode prog_29_method_9_code 30 = .ok (.iconst 1, 1) := by decide +kernel
theorem d15_31 : decode prog_29_method_9_code 31 = .ok (.putfield 47, 3) := by decide +kernel
theorem d15_34 : decode prog_29_method_9_code 34 = .ok (.aload_n 0, 1) := by decide +kernel
theorem d15_35 : decode prog_29_method_9_code 35 = .ok (.dup, 1) := by decide +kernel
theorem d15_36 : decode prog_29_method_9_code 36 = .ok (.getfield 60, 3) := by decide +kernel
theorem d15_39 : decode prog_29_method_9_code 39 = .ok (.lconst 1, 1) := by decide +kernel
theorem d15_40 : decode prog_29_method_9_code 40 = .ok (.ladd, 1) := by decide +kernel
theorem d15_41 : decode prog_29_method_9_code 41 = .ok (.putfield 60, 3) := by decide +kernel
theorem d15_44 : decode prog_29_method_9_code 44 = .ok (.aload_n 0, 1) := by decide +kernel
theorem d15_45 : decode prog_29_method_9_code 45 = .ok (.lconst 0, 1) := by decide +kernel
theorem d15_46 : decode prog_29_method_9_code 46 = .ok (.putfield 63, 3) := by decide +kernel
theorem d15_49 : decode prog_29_method_9_code 49 = .ok (.return_, 1) := by decide +kernel
theorem pn_rm15 : plainName "com/example/firm_tread/firmtread/destination/Fill" = true := by first | (simp [plainName, overriddenIn]; done) | decide +kernel
theorem ef_rm15 (m : MethodId) (o0 : Addr) (q1 : Int64) : entryFrame m #[(.ref o0), (.long q1)] 3 = mkF m 0 #[.val (.ref o0), .val (.long q1), .second] [] := by first | (simp [entryFrame, mkF, argsToLocals, Value.category]; done) | rfl
set_option maxRecDepth 65536 in
set_option maxHeartbeats 40000000 in
theorem rm15 (l : Launch) (Z : State) (a0 : Array Value) (hw : ∀ d ∈ tables_1, d.before a0 Z = true) (o0 : Addr) (q1 : Int64) (ob : Int64) (fu : Bool) (fi : Int64) (ow : Int64) (cp : Int64) (w1 : Addr) (w2 : Addr) (h0 : Heap) (n0 : Nat) (Z0 : n0 ≤ h0.size) (g_o0 : n0 ≤ o0) (P0 : Exa Z h0 o0 "com/example/firm_tread/firmtread/destination/Fill") (P1 : Fld Z h0 o0 "com/example/firm_tread/firmtread/destination/Fill" "cap" "J" (.long cp)) (P2 : Fld Z h0 o0 "com/example/firm_tread/firmtread/destination/Fill" "octets" "J" (.long ob)) (P3 : Fld Z h0 o0 "com/example/firm_tread/firmtread/destination/Fill" "full" "Z" (.int (own_b fu))) (P4 : Fld Z h0 o0 "com/example/firm_tread/firmtread/destination/Fill" "fillings" "J" (.long fi)) (P5 : Fld Z h0 o0 "com/example/firm_tread/firmtread/destination/Fill" "owed" "J" (.long ow)) (P6 : Fld Z h0 o0 "com/example/firm_tread/firmtread/destination/Fill" "waiters" "Lcom/example/firm_tread/firmtread/destination/Waiters;" (.ref w1)) (P7 : Fld Z h0 o0 "com/example/firm_tread/firmtread/destination/Fill" "owing" "Lcom/example/firm_tread/firmtread/destination/Waiters;" (.ref w2)) :
    own_Met l Z (⟨"com/example/firm_tread/firmtread/destination/Fill", "add", "(J)V"⟩ : MethodName) prog_29_method_9_code 3 none [] ({ frames := 0, cells := 0, slots := 0, locals := 0 } : Room) #[(.ref o0), (.long q1)] h0 0 0 (fun v h L => ∃ (fi' : Int64), ∃ (ow' : Int64), v = none ∧ Fr n0 L ∧ Keep h0 h [o0] ∧ Exa Z h o0 "com/example/firm_tread/firmtread/destination/Fill" ∧ Fld Z h o0 "com/example/firm_tread/firmtread/destination/Fill" "cap" "J" (.long cp) ∧ Fld Z h o0 "com/example/firm_tread/firmtread/destination/Fill" "octets" "J" (.long (ob + q1)) ∧ Fld Z h o0 "com/example/firm_tread/firmtread/destination/Fill" "full" "Z" (.int (own_b (fu || !decide ((ob + q1) < cp)))) ∧ Fld Z h o0 "com/example/firm_tread/firmtread/destination/Fill" "fillings" "J" (.long fi') ∧ Fld Z h o0 "com/example/firm_tread/firmtread/destination/Fill" "owed" "J" (.long ow') ∧ Fld Z h o0 "com/example/firm_tread/firmtread/destination/Fill" "waiters" "Lcom/example/firm_tread/firmtread/destination/Waiters;" (.ref w1) ∧ Fld Z h o0 "com/example/firm_tread/firmtread/destination/Fill" "owing" "Lcom/example/firm_tread/firmtread/destination/Waiters;" (.ref w2)) := by
  refine own_met (plainFor_of_name pn_rm15) ?_
  intro p e s m below meth c s₁ Bd hml0 hZ X0 e0
  have hx := Bd.exec
  have hby := Bd.bytes
  have hml : c.maxLocals = 3 := hml0
  have hown : s.vm.findClass "com/example/firm_tread/firmtread/destination/Fill" = some m.cls := findClass_of_methodNamed Bd.named
  have hnm := (name_of_methodNamed Bd.named Bd.method).1
  refine own_cast (ef_rm15 m o0 q1) ?_
  generalize hQQ : (fun (v : Option Value) (h : Heap) (L : List Loc) => ∃ (fi' : Int64), ∃ (ow' : Int64), v = none ∧ Fr n0 L ∧ Keep h0 h [o0] ∧ Exa Z h o0 "com/example/firm_tread/firmtread/destination/Fill" ∧ Fld Z h o0 "com/example/firm_tread/firmtread/destination/Fill" "cap" "J" (.long cp) ∧ Fld Z h o0 "com/example/firm_tread/firmtread/destination/Fill" "octets" "J" (.long (ob + q1)) ∧ Fld Z h o0 "com/example/firm_tread/firmtread/destination/Fill" "full" "Z" (.int (own_b (fu || !decide ((ob + q1) < cp)))) ∧ Fld Z h o0 "com/example/firm_tread/firmtread/destination/Fill" "fillings" "J" (.long fi') ∧ Fld Z h o0 "com/example/firm_tread/firmtread/destination/Fill" "owed" "J" (.long ow') ∧ Fld Z h o0 "com/example/firm_tread/firmtread/destination/Fill" "waiters" "Lcom/example/firm_tread/firmtread/destination/Waiters;" (.ref w1) ∧ Fld Z h o0 "com/example/firm_tread/firmtread/destination/Fill" "owing" "Lcom/example/firm_tread/firmtread/destination/Waiters;" (.ref w2)) = QQ
  have N0 := Fr.nil n0
  have K0 := Keep.refl h0 [o0]
  refine own_go (g' := (mkF m 1 #[.val (.ref o0), .val (.long q1), .second] [(.ref o0)])) (fun _ kgo => XS.aloadN X0.here hx rfl (hb hby d15_0) rfl rfl kgo) ?_
  refine own_go (g' := (mkF m 2 #[.val (.ref o0), .val (.long q1), .second] [(.ref o0), (.ref o0)])) (fun _ kgo => XS.dup X0.here hx rfl (hb hby d15_1) rfl rfl kgo) ?_
  obtain ⟨T1, X1, e1, st1⟩ := getF X0 hx hZ hown (host := "") (Or.inl (hw _ (List.mem_of_getElem? (i := 104) rfl))) Via.refl e0 P2 (g := (mkF m 2 #[.val (.ref o0), .val (.long q1), .second] [(.ref o0), (.ref o0)])) rfl rfl (hb hby d15_2)
  refine own_go (g' := (mkF m 5 #[.val (.ref o0), .val (.long q1), .second] [(.long ob), (.ref o0)])) (st1) ?_
  refine own_go (g' := (mkF m 6 #[.val (.ref o0), .val (.long q1), .second] [(.long q1), (.long ob), (.ref o0)])) (fun _ kgo => XS.lloadN X1.here hx rfl (hb hby d15_5) rfl kgo) ?_
  refine own_go (g' := (mkF m 7 #[.val (.ref o0), .val (.long q1), .second] [(.long (ob + q1)), (.ref o0)])) (fun _ kgo => XS.ladd X1.here hx rfl (hb hby d15_6) rfl kgo) ?_
  obtain ⟨T2, h2, X2, e2, W2, st2⟩ := putF X1 hx hZ hown (host := "") (Or.inl (hw _ (List.mem_of_getElem? (i := 104) rfl))) Via.refl e1 P2 P0 (Or.inl (hw _ (List.mem_of_getElem? (i := 105) rfl))) (hw _ (List.mem_of_getElem? (i := 7) rfl)) (ty := .long) (by decide) rfl rfl (g := (mkF m 7 #[.val (.ref o0), .val (.long q1), .second] [(.long (ob + q1)), (.ref o0)])) rfl rfl (hb hby d15_7)
  have fw2 := Fld.same W2 P2
  have N2 := Fr.snoc X2 N0 g_o0
  have Z2 : n0 ≤ h2.size := by rw [W2.size]; exact Z0
  have K2 : Keep h0 h2 [o0] := K0.wr W2 (Or.inl (List.mem_of_getElem? (i := 0) rfl))
  refine own_go (g' := (mkF m 10 #[.val (.ref o0), .val (.long q1), .second] [])) (st2) ?_
  refine own_go (g' := (mkF m 11 #[.val (.ref o0), .val (.long q1), .second] [(.ref o0)])) (fun _ kgo => XS.aloadN X2.here hx rfl (hb hby d15_10) rfl rfl kgo) ?_
  have fx3 : Fld Z h2 o0 "com/example/firm_tread/firmtread/destination/Fill" "full" "Z" (.int (own_b fu)) := (Fld.other W2 P3 (Or.inr (slot_ne (Or.inl (hw _ (List.mem_of_getElem? (i := 107) rfl))) (Or.inl (hw _ (List.mem_of_getElem? (i := 105) rfl))) (by decide) (t := .boolean) (t' := .long) (by decide) (by decide))))
  obtain ⟨T4, X4, e4, st4⟩ := getF X2 hx hZ hown (host := "") (Or.inl (hw _ (List.mem_of_getElem? (i := 106) rfl))) Via.refl e2 fx3 (g := (mkF m 11 #[.val (.ref o0), .val (.long q1), .second] [(.ref o0)])) rfl rfl (hb hby d15_11)
  refine own_go (g' := (mkF m 14 #[.val (.ref o0), .val (.long q1), .second] [(.int (own_b fu))])) (st4) ?_
  by_cases hc5 : fu = true
  ·
    refine own_go (g' := (mkF m 49 #[.val (.ref o0), .val (.long q1), .second] [])) (fun _ kgo => XS.ifYes X4.here hx rfl (pc0 := 14) (pc' := 49) rfl (hb hby d15_14) rfl ((if0 _ _).trans (feq (own_b_n hc5)).2) (by decide) (by decide) kgo) ?_
    refine own_retV X4 hx Bd.returns Bd.notSynchronized (hb hby d15_49) (by decide) (by decide) ?_
    show QQ _ T4.heap _
    rw [e4]
    have fx6 : Exa Z h2 o0 "com/example/firm_tread/firmtread/destination/Fill" := (Exa.wr W2 P0)
    have fx7 : Fld Z h2 o0 "com/example/firm_tread/firmtread/destination/Fill" "cap" "J" (.long cp) := (Fld.other W2 P1 (Or.inr (slot_ne (Or.inr (hw _ (List.mem_of_getElem? (i := 98) rfl))) (Or.inl (hw _ (List.mem_of_getElem? (i := 105) rfl))) (by decide) (t := .long) (t' := .long) (by decide) (by decide))))
    have c8 : Fld Z h2 o0 "com/example/firm_tread/firmtread/destination/Fill" "full" "Z" (.int (own_b (fu || !decide ((ob + q1) < cp)))) := by
      rw [show ((.int (own_b (fu || !decide ((ob + q1) < cp)))) : Value) = (.int (own_b fu)) from (by simp [own_b, hc5])]
      exact fx3
    have fx9 : Fld Z h2 o0 "com/example/firm_tread/firmtread/destination/Fill" "fillings" "J" (.long fi) := (Fld.other W2 P4 (Or.inr (slot_ne (Or.inl (hw _ (List.mem_of_getElem? (i := 124) rfl))) (Or.inl (hw _ (List.mem_of_getElem? (i := 105) rfl))) (by decide) (t := .long) (t' := .long) (by decide) (by decide))))
    have fx10 : Fld Z h2 o0 "com/example/firm_tread/firmtread/destination/Fill" "owed" "J" (.long ow) := (Fld.other W2 P5 (Or.inr (slot_ne (Or.inl (hw _ (List.mem_of_getElem? (i := 126) rfl))) (Or.inl (hw _ (List.mem_of_getElem? (i := 105) rfl))) (by decide) (t := .long) (t' := .long) (by decide) (by decide))))
    have fx11 : Fld Z h2 o0 "com/example/firm_tread/firmtread/destination/Fill" "waiters" "Lcom/example/firm_tread/firmtread/destination/Waiters;" (.ref w1) := (Fld.other W2 P6 (Or.inr (slot_ne (Or.inr (hw _ (List.mem_of_getElem? (i := 94) rfl))) (Or.inl (hw _ (List.mem_of_getElem? (i := 105) rfl))) (by decide) (t := (.object "com/example/firm_tread/firmtread/destination/Waiters")) (t' := .long) (by decide) (by decide))))
    have fx12 : Fld Z h2 o0 "com/example/firm_tread/firmtread/destination/Fill" "owing" "Lcom/example/firm_tread/firmtread/destination/Waiters;" (.ref w2) := (Fld.other W2 P7 (Or.inr (slot_ne (Or.inr (hw _ (List.mem_of_getElem? (i := 96) rfl))) (Or.inl (hw _ (List.mem_of_getElem? (i := 105) rfl))) (by decide) (t := (.object "com/example/firm_tread/firmtread/destination/Waiters")) (t' := .long) (by decide) (by decide))))
    rw [← hQQ]
    exact ⟨fi, ow, rfl, N2, K2, fx6, fx7, fw2, c8, fx9, fx10, fx11, fx12⟩
  ·
    refine own_go (g' := (mkF m 17 #[.val (.ref o0), .val (.long q1), .second] [])) (fun _ kgo => XS.ifNo X4.here hx rfl (hb hby d15_14) rfl ((if0 _ _).trans (teq (own_b_f hc5)).2) kgo) ?_
    refine own_go (g' := (mkF m 18 #[.val (.ref o0), .val (.long q1), .second] [(.ref o0)])) (fun _ kgo => XS.aloadN X4.here hx rfl (hb hby d15_17) rfl rfl kgo) ?_
    obtain ⟨T13, X13, e13, st13⟩ := getF X4 hx hZ hown (host := "") (Or.inl (hw _ (List.mem_of_getElem? (i := 104) rfl))) Via.refl e4 fw2 (g := (mkF m 18 #[.val (.ref o0), .val (.long q1), .second] [(.ref o0)])) rfl rfl (hb hby d15_18)
    refine own_go (g' := (mkF m 21 #[.val (.ref o0), .val (.long q1), .second] [(.long (ob + q1))])) (st13) ?_
    refine own_go (g' := (mkF m 22 #[.val (.ref o0), .val (.long q1), .second] [(.ref o0), (.long (ob + q1))])) (fun _ kgo => XS.aloadN X13.here hx rfl (hb hby d15_21) rfl rfl kgo) ?_
    have fx14 : Fld Z h2 o0 "com/example/firm_tread/firmtread/destination/Fill" "cap" "J" (.long cp) := (Fld.other W2 P1 (Or.inr (slot_ne (Or.inr (hw _ (List.mem_of_getElem? (i := 98) rfl))) (Or.inl (hw _ (List.mem_of_getElem? (i := 105) rfl))) (by decide) (t := .long) (t' := .long) (by decide) (by decide))))
    obtain ⟨T15, X15, e15, st15⟩ := getF X13 hx hZ hown (host := "") (Or.inl (hw _ (List.mem_of_getElem? (i := 97) rfl))) Via.refl e13 fx14 (g := (mkF m 22 #[.val (.ref o0), .val (.long q1), .second] [(.ref o0), (.long (ob + q1))])) rfl rfl (hb hby d15_22)
    refine own_go (g' := (mkF m 25 #[.val (.ref o0), .val (.long q1), .second] [(.long cp), (.long (ob + q1))])) (st15) ?_
    refine own_go (g' := (mkF m 26 #[.val (.ref o0), .val (.long q1), .second] [(.int (lcmpW (ob + q1) cp))])) (fun _ kgo => XS.lcmp X15.here hx rfl (hb hby d15_25) rfl kgo) ?_
    by_cases hc16 : (ob + q1) < cp
    ·
      refine own_go (g' := (mkF m 49 #[.val (.ref o0), .val (.long q1), .second] [])) (fun _ kgo => XS.ifYes X15.here hx rfl (pc0 := 26) (pc' := 49) rfl (hb hby d15_26) rfl ((if0 _ _).trans (tlt ((lw_lt _ _).mpr hc16)).1) (by decide) (by decide) kgo) ?_
      refine own_retV X15 hx Bd.returns Bd.notSynchronized (hb hby d15_49) (by decide) (by decide) ?_
      show QQ _ T15.heap _
      rw [e15]
      have fx17 : Exa Z h2 o0 "com/example/firm_tread/firmtread/destination/Fill" := (Exa.wr W2 P0)
      have c18 : Fld Z h2 o0 "com/example/firm_tread/firmtread/destination/Fill" "full" "Z" (.int (own_b (fu || !decide ((ob + q1) < cp)))) := by
        rw [show ((.int (own_b (fu || !decide ((ob + q1) < cp)))) : Value) = (.int (own_b fu)) from (by simp [own_b, hc5, hc16])]
        exact fx3
      have fx19 : Fld Z h2 o0 "com/example/firm_tread/firmtread/destination/Fill" "fillings" "J" (.long fi) := (Fld.other W2 P4 (Or.inr (slot_ne (Or.inl (hw _ (List.mem_of_getElem? (i := 124) rfl))) (Or.inl (hw _ (List.mem_of_getElem? (i := 105) rfl))) (by decide) (t := .long) (t' := .long) (by decide) (by decide))))
      have fx20 : Fld Z h2 o0 "com/example/firm_tread/firmtread/destination/Fill" "owed" "J" (.long ow) := (Fld.other W2 P5 (Or.inr (slot_ne (Or.inl (hw _ (List.mem_of_getElem? (i := 126) rfl))) (Or.inl (hw _ (List.mem_of_getElem? (i := 105) rfl))) (by decide) (t := .long) (t' := .long) (by decide) (by decide))))
      have fx21 : Fld Z h2 o0 "com/example/firm_tread/firmtread/destination/Fill" "waiters" "Lcom/example/firm_tread/firmtread/destination/Waiters;" (.ref w1) := (Fld.other W2 P6 (Or.inr (slot_ne (Or.inr (hw _ (List.mem_of_getElem? (i := 94) rfl))) (Or.inl (hw _ (List.mem_of_getElem? (i := 105) rfl))) (by decide) (t := (.object "com/example/firm_tread/firmtread/destination/Waiters")) (t' := .long) (by decide) (by decide))))
      have fx22 : Fld Z h2 o0 "com/example/firm_tread/firmtread/destination/Fill" "owing" "Lcom/example/firm_tread/firmtread/destination/Waiters;" (.ref w2) := (Fld.other W2 P7 (Or.inr (slot_ne (Or.inr (hw _ (List.mem_of_getElem? (i := 96) rfl))) (Or.inl (hw _ (List.mem_of_getElem? (i := 105) rfl))) (by decide) (t := (.object "com/example/firm_tread/firmtread/destination/Waiters")) (t' := .long) (by decide) (by decide))))
      rw [← hQQ]
      exact ⟨fi, ow, rfl, N2, K2, fx17, fx14, fw2, c18, fx19, fx20, fx21, fx22⟩
    ·
      refine own_go (g' := (mkF m 29 #[.val (.ref o0), .val (.long q1), .second] [])) (fun _ kgo => XS.ifNo X15.here hx rfl (hb hby d15_26) rfl ((if0 _ _).trans (flt (mt (lw_lt _ _).mp hc16)).1) kgo) ?_
      refine own_go (g' := (mkF m 30 #[.val (.ref o0), .val (.long q1), .second] [(.ref o0)])) (fun _ kgo => XS.aloadN X15.here hx rfl (hb hby d15_29) rfl rfl kgo) ?_
      refine own_go (g' := (mkF m 31 #[.val (.ref o0), .val (.long q1), .second] [(.int (1 : Int32)), (.ref o0)])) (fun _ kgo => XS.iconst X15.here hx rfl (hb hby d15_30) kgo) ?_
      have fx23 : Exa Z h2 o0 "com/example/firm_tread/firmtread/destination/Fill" := (Exa.wr W2 P0)
      obtain ⟨T24, h24, X24, e24, W24, st24⟩ := putFN X15 hx hZ hown (hw _ (List.mem_of_getElem? (i := 106) rfl)) Via.refl e15 fx3 fx23 (Or.inl (hw _ (List.mem_of_getElem? (i := 107) rfl))) (hw _ (List.mem_of_getElem? (i := 7) rfl)) (ty := .boolean) (v := (.int (1 : Int32))) (v' := (.int (1 : Int32))) (by decide) rfl rfl (g := (mkF m 31 #[.val (.ref o0), .val (.long q1), .second] [(.int (1 : Int32)), (.ref o0)])) rfl rfl (hb hby d15_31)
      have fw24 := Fld.same W24 fx3
      have N24 := Fr.snoc X24 N2 g_o0
      have Z24 : n0 ≤ h24.size := by rw [W24.size]; exact Z2
      have K24 : Keep h0 h24 [o0] := K2.wr W24 (Or.inl (List.mem_of_getElem? (i := 0) rfl))
      refine own_go (g' := (mkF m 34 #[.val (.ref o0), .val (.long q1), .second] [])) (st24) ?_
      refine own_go (g' := (mkF m 35 #[.val (.ref o0), .val (.long q1), .second] [(.ref o0)])) (fun _ kgo => XS.aloadN X24.here hx rfl (hb hby d15_34) rfl rfl kgo) ?_
      refine own_go (g' := (mkF m 36 #[.val (.ref o0), .val (.long q1), .second] [(.ref o0), (.ref o0)])) (fun _ kgo => XS.dup X24.here hx rfl (hb hby d15_35) rfl rfl kgo) ?_
      have fx25 : Fld Z h24 o0 "com/example/firm_tread/firmtread/destination/Fill" "fillings" "J" (.long fi) := (Fld.other W24 (Fld.other W2 P4 (Or.inr (slot_ne (Or.inl (hw _ (List.mem_of_getElem? (i := 124) rfl))) (Or.inl (hw _ (List.mem_of_getElem? (i := 105) rfl))) (by decide) (t := .long) (t' := .long) (by decide) (by decide)))) (Or.inr (slot_ne (Or.inl (hw _ (List.mem_of_getElem? (i := 124) rfl))) (Or.inl (hw _ (List.mem_of_getElem? (i := 107) rfl))) (by decide) (t := .long) (t' := .boolean) (by decide) (by decide))))
      obtain ⟨T26, X26, e26, st26⟩ := getF X24 hx hZ hown (host := "") (Or.inl (hw _ (List.mem_of_getElem? (i := 123) rfl))) Via.refl e24 fx25 (g := (mkF m 36 #[.val (.ref o0), .val (.long q1), .second] [(.ref o0), (.ref o0)])) rfl rfl (hb hby d15_36)
      refine own_go (g' := (mkF m 39 #[.val (.ref o0), .val (.long q1), .second] [(.long fi), (.ref o0)])) (st26) ?_
      refine own_go (g' := (mkF m 40 #[.val (.ref o0), .val (.long q1), .second] [(.long (1 : Int64)), (.long fi), (.ref o0)])) (fun _ kgo => XS.lconst X26.here hx rfl (hb hby d15_39) kgo) ?_
      refine own_go (g' := (mkF m 41 #[.val (.ref o0), .val (.long q1), .second] [(.long (fi + (1 : Int64))), (.ref o0)])) (fun _ kgo => XS.ladd X26.here hx rfl (hb hby d15_40) rfl kgo) ?_
      have fx27 : Exa Z h24 o0 "com/example/firm_tread/firmtread/destination/Fill" := (Exa.wr W24 fx23)
      obtain ⟨T28, h28, X28, e28, W28, st28⟩ := putF X26 hx hZ hown (host := "") (Or.inl (hw _ (List.mem_of_getElem? (i := 123) rfl))) Via.refl e26 fx25 fx27 (Or.inl (hw _ (List.mem_of_getElem? (i := 124) rfl))) (hw _ (List.mem_of_getElem? (i := 7) rfl)) (ty := .long) (by decide) rfl rfl (g := (mkF m 41 #[.val (.ref o0), .val (.long q1), .second] [(.long (fi + (1 : Int64))), (.ref o0)])) rfl rfl (hb hby d15_41)
      have fw28 := Fld.same W28 fx25
      have N28 := Fr.snoc X28 N24 g_o0
      have Z28 : n0 ≤ h28.size := by rw [W28.size]; exact Z24
      have K28 : Keep h0 h28 [o0] := K24.wr W28 (Or.inl (List.mem_of_getElem? (i := 0) rfl))
      refine own_go (g' := (mkF m 44 #[.val (.ref o0), .val (.long q1), .second] [])) (st28) ?_
      refine own_go (g' := (mkF m 45 #[.val (.ref o0), .val (.long q1), .second] [(.ref o0)])) (fun _ kgo => XS.aloadN X28.here hx rfl (hb hby d15_44) rfl rfl kgo) ?_
      refine own_go (g' := (mkF m 46 #[.val (.ref o0), .val (.long q1), .second] [(.long (0 : Int64)), (.ref o0)])) (fun _ kgo => XS.lconst X28.here hx rfl (hb hby d15_45) kgo) ?_
      have fx29 : Fld Z h28 o0 "com/example/firm_tread/firmtread/destination/Fill" "owed" "J" (.long ow) := (Fld.other W28 (Fld.other W24 (Fld.other W2 P5 (Or.inr (slot_ne (Or.inl (hw _ (List.mem_of_getElem? (i := 126) rfl))) (Or.inl (hw _ (List.mem_of_getElem? (i := 105) rfl))) (by decide) (t := .long) (t' := .long) (by decide) (by decide)))) (Or.inr (slot_ne (Or.inl (hw _ (List.mem_of_getElem? (i := 126) rfl))) (Or.inl (hw _ (List.mem_of_getElem? (i := 107) rfl))) (by decide) (t := .long) (t' := .boolean) (by decide) (by decide)))) (Or.inr (slot_ne (Or.inl (hw _ (List.mem_of_getElem? (i := 126) rfl))) (Or.inl (hw _ (List.mem_of_getElem? (i := 124) rfl))) (by decide) (t := .long) (t' := .long) (by decide) (by decide))))
      have fx30 : Exa Z h28 o0 "com/example/firm_tread/firmtread/destination/Fill" := (Exa.wr W28 fx27)
      obtain ⟨T31, h31, X31, e31, W31, st31⟩ := putF X28 hx hZ hown (host := "") (Or.inl (hw _ (List.mem_of_getElem? (i := 125) rfl))) Via.refl e28 fx29 fx30 (Or.inl (hw _ (List.mem_of_getElem? (i := 126) rfl))) (hw _ (List.mem_of_getElem? (i := 7) rfl)) (ty := .long) (by decide) rfl rfl (g := (mkF m 46 #[.val (.ref o0), .val (.long q1), .second] [(.long (0 : Int64)), (.ref o0)])) rfl rfl (hb hby d15_46)
      have fw31 := Fld.same W31 fx29
      have N31 := Fr.snoc X31 N28 g_o0
      have Z31 : n0 ≤ h31.size := by rw [W31.size]; exact Z28
      have K31 : Keep h0 h31 [o0] := K28.wr W31 (Or.inl (List.mem_of_getElem? (i := 0) rfl))
      refine own_go (g' := (mkF m 49 #[.val (.ref o0), .val (.long q1), .second] [])) (st31) ?_
      refine own_retV X31 hx Bd.returns Bd.notSynchronized (hb hby d15_49) (by decide) (by decide) ?_
      show QQ _ T31.heap _
      rw [e31]
      have fx32 : Exa Z h31 o0 "com/example/firm_tread/firmtread/destination/Fill" := (Exa.wr W31 fx30)
      have fx33 : Fld Z h31 o0 "com/example/firm_tread/firmtread/destination/Fill" "cap" "J" (.long cp) := (Fld.other W31 (Fld.other W28 (Fld.other W24 fx14 (Or.inr (slot_ne (Or.inr (hw _ (List.mem_of_getElem? (i := 98) rfl))) (Or.inl (hw _ (List.mem_of_getElem? (i := 107) rfl))) (by decide) (t := .long) (t' := .boolean) (by decide) (by decide)))) (Or.inr (slot_ne (Or.inr (hw _ (List.mem_of_getElem? (i := 98) rfl))) (Or.inl (hw _ (List.mem_of_getElem? (i := 124) rfl))) (by decide) (t := .long) (t' := .long) (by decide) (by decide)))) (Or.inr (slot_ne (Or.inr (hw _ (List.mem_of_getElem? (i := 98) rfl))) (Or.inl (hw _ (List.mem_of_getElem? (i := 126) rfl))) (by decide) (t := .long) (t' := .long) (by decide) (by decide))))
      have fx34 : Fld Z h31 o0 "com/example/firm_tread/firmtread/destination/Fill" "octets" "J" (.long (ob + q1)) := (Fld.other W31 (Fld.other W28 (Fld.other W24 fw2 (Or.inr (slot_ne (Or.inl (hw _ (List.mem_of_getElem? (i := 105) rfl))) (Or.inl (hw _ (List.mem_of_getElem? (i := 107) rfl))) (by decide) (t := .long) (t' := .boolean) (by decide) (by decide)))) (Or.inr (slot_ne (Or.inl (hw _ (List.mem_of_getElem? (i := 105) rfl))) (Or.inl (hw _ (List.mem_of_getElem? (i := 124) rfl))) (by decide) (t := .long) (t' := .long) (by decide) (by decide)))) (Or.inr (slot_ne (Or.inl (hw _ (List.mem_of_getElem? (i := 105) rfl))) (Or.inl (hw _ (List.mem_of_getElem? (i := 126) rfl))) (by decide) (t := .long) (t' := .long) (by decide) (by decide))))
      have fx35 : Fld Z h31 o0 "com/example/firm_tread/firmtread/destination/Fill" "full" "Z" (.int (1 : Int32)) := (Fld.other W31 (Fld.other W28 fw24 (Or.inr (slot_ne (Or.inl (hw _ (List.mem_of_getElem? (i := 107) rfl))) (Or.inl (hw _ (List.mem_of_getElem? (i := 124) rfl))) (by decide) (t := .boolean) (t' := .long) (by decide) (by decide)))) (Or.inr (slot_ne (Or.inl (hw _ (List.mem_of_getElem? (i := 107) rfl))) (Or.inl (hw _ (List.mem_of_getElem? (i := 126) rfl))) (by decide) (t := .boolean) (t' := .long) (by decide) (by decide))))
      have c36 : Fld Z h31 o0 "com/example/firm_tread/firmtread/destination/Fill" "full" "Z" (.int (own_b (fu || !decide ((ob + q1) < cp)))) := by
        rw [show ((.int (own_b (fu || !decide ((ob + q1) < cp)))) : Value) = (.int (1 : Int32)) from (by simp [own_b, hc5, hc16])]
        exact fx35
      have fx37 : Fld Z h31 o0 "com/example/firm_tread/firmtread/destination/Fill" "fillings" "J" (.long (fi + (1 : Int64))) := (Fld.other W31 fw28 (Or.inr (slot_ne (Or.inl (hw _ (List.mem_of_getElem? (i := 124) rfl))) (Or.inl (hw _ (List.mem_of_getElem? (i := 126) rfl))) (by decide) (t := .long) (t' := .long) (by decide) (by decide))))
      have fx38 : Fld Z h31 o0 "com/example/firm_tread/firmtread/destination/Fill" "waiters" "Lcom/example/firm_tread/firmtread/destination/Waiters;" (.ref w1) := (Fld.other W31 (Fld.other W28 (Fld.other W24 (Fld.other W2 P6 (Or.inr (slot_ne (Or.inr (hw _ (List.mem_of_getElem? (i := 94) rfl))) (Or.inl (hw _ (List.mem_of_getElem? (i := 105) rfl))) (by decide) (t := (.object "com/example/firm_tread/firmtread/destination/Waiters")) (t' := .long) (by decide) (by decide)))) (Or.inr (slot_ne (Or.inr (hw _ (List.mem_of_getElem? (i := 94) rfl))) (Or.inl (hw _ (List.mem_of_getElem? (i := 107) rfl))) (by decide) (t := (.object "com/example/firm_tread/firmtread/destination/Waiters")) (t' := .boolean) (by decide) (by decide)))) (Or.inr (slot_ne (Or.inr (hw _ (List.mem_of_getElem? (i := 94) rfl))) (Or.inl (hw _ (List.mem_of_getElem? (i := 124) rfl))) (by decide) (t := (.object "com/example/firm_tread/firmtread/destination/Waiters")) (t' := .long) (by decide) (by decide)))) (Or.inr (slot_ne (Or.inr (hw _ (List.mem_of_getElem? (i := 94) rfl))) (Or.inl (hw _ (List.mem_of_getElem? (i := 126) rfl))) (by decide) (t := (.object "com/example/firm_tread/firmtread/destination/Waiters")) (t' := .long) (by decide) (by decide))))
      have fx39 : Fld Z h31 o0 "com/example/firm_tread/firmtread/destination/Fill" "owing" "Lcom/example/firm_tread/firmtread/destination/Waiters;" (.ref w2) := (Fld.other W31 (Fld.other W28 (Fld.other W24 (Fld.other W2 P7 (Or.inr (slot_ne (Or.inr (hw _ (List.mem_of_getElem? (i := 96) rfl))) (Or.inl (hw _ (List.mem_of_getElem? (i := 105) rfl))) (by decide) (t := (.object "com/example/firm_tread/firmtread/destination/Waiters")) (t' := .long) (by decide) (by decide)))) (Or.inr (slot_ne (Or.inr (hw _ (List.mem_of_getElem? (i := 96) rfl))) (Or.inl (hw _ (List.mem_of_getElem? (i := 107) rfl))) (by decide) (t := (.object "com/example/firm_tread/firmtread/destination/Waiters")) (t' := .boolean) (by decide) (by decide)))) (Or.inr (slot_ne (Or.inr (hw _ (List.mem_of_getElem? (i := 96) rfl))) (Or.inl (hw _ (List.mem_of_getElem? (i := 124) rfl))) (by decide) (t := (.object "com/example/firm_tread/firmtread/destination/Waiters")) (t' := .long) (by decide) (by decide)))) (Or.inr (slot_ne (Or.inr (hw _ (List.mem_of_getElem? (i := 96) rfl))) (Or.inl (hw _ (List.mem_of_getElem? (i := 126) rfl))) (by decide) (t := (.object "com/example/firm_tread/firmtread/destination/Waiters")) (t' := .long) (by decide) (by decide))))
      rw [← hQQ]
      exact ⟨(fi + (1 : Int64)), (0 : Int64), rfl, N31, K31, fx32, fx33, fx34, c36, fx37, fw31, fx38, fx39⟩
theorem d16_0 : decode prog_29_method_5_code 0 = .ok (.aload_n 0, 1) := by decide +kernel
theorem d16_1 : decode prog_29_method_5_code 1 = .ok (.getfield 44, 3) := by decide +kernel
theorem d16_4 : decode prog_29_method_5_code 4 = .ok (.lreturn, 1) := by decide +kernel
theorem pn_rm16 : plainName "com/example/firm_tread/firmtread/destination/Fill" = true := by first | (simp [plainName, overriddenIn]; done) | decide +kernel
theorem ef_rm16 (m : MethodId) (o0 : Addr) : entryFrame m #[(.ref o0)] 1 = mkF m 0 #[.val (.ref o0)] [] := by first | (simp [entryFrame, mkF, argsToLocals, Value.category]; done) | rfl
set_option maxRecDepth 65536 in
set_option maxHeartbeats 40000000 in
theorem rm16 (l : Launch) (Z : State) (a0 : Array Value) (hw : ∀ d ∈ tables_1, d.before a0 Z = true) (o0 : Addr) (ob : Int64) (h0 : Heap) (P0 : Fld Z h0 o0 "com/example/firm_tread/firmtread/destination/Fill" "octets" "J" (.long ob)) :
    own_Met l Z (⟨"com/example/firm_tread/firmtread/destination/Fill", "octets", "()J"⟩ : MethodName) prog_29_method_5_code 1 (some .long) [] ({ frames := 0, cells := 0, slots := 0, locals := 0 } : Room) #[(.ref o0)] h0 0 0 (fun v h L => v = some (.long ob) ∧ h = h0 ∧ L = []) := by
  refine own_met (plainFor_of_name pn_rm16) ?_
  intro p e s m below meth c s₁ Bd hml0 hZ X0 e0
  have hx := Bd.exec
  have hby := Bd.bytes
  have hml : c.maxLocals = 1 := hml0
  have hown : s.vm.findClass "com/example/firm_tread/firmtread/destination/Fill" = some m.cls := findClass_of_methodNamed Bd.named
  have hnm := (name_of_methodNamed Bd.named Bd.method).1
  refine own_cast (ef_rm16 m o0) ?_
  generalize hQQ : (fun (v : Option Value) (h : Heap) (L : List Loc) => v = some (.long ob) ∧ h = h0 ∧ L = []) = QQ
  refine own_go (g' := (mkF m 1 #[.val (.ref o0)] [(.ref o0)])) (fun _ kgo => XS.aloadN X0.here hx rfl (hb hby d16_0) rfl rfl kgo) ?_
  obtain ⟨T1, X1, e1, st1⟩ := getF X0 hx hZ hown (host := "") (Or.inl (hw _ (List.mem_of_getElem? (i := 104) rfl))) Via.refl e0 P0 (g := (mkF m 1 #[.val (.ref o0)] [(.ref o0)])) rfl rfl (hb hby d16_1)
  refine own_go (g' := (mkF m 4 #[.val (.ref o0)] [(.long ob)])) (st1) ?_
  refine own_retJ X1 hx Bd.returns Bd.notSynchronized (hb hby d16_4) (by decide) (by decide) ?_
  show QQ _ T1.heap _
  rw [e1]
  rw [← hQQ]
  exact ⟨rfl, rfl, rfl⟩
theorem d17_0 : decode prog_29_method_6_code 0 = .ok (.aload_n 0, 1) := by decide +kernel
theorem d17_1 : decode prog_29_method_6_code 1 = .ok (.getfield 47, 3) := by decide +kernel
theorem d17_4 : decode prog_29_method_6_code 4 = .ok (.ireturn, 1) := by decide +kernel
theorem pn_rm17 : plainName "com/example/firm_tread/firmtread/destination/Fill" = true := by first | (simp [plainName, overriddenIn]; done) | decide +kernel
theorem ef_rm17 (m : MethodId) (o0 : Addr) : entryFrame m #[(.ref o0)] 1 = mkF m 0 #[.val (.ref o0)] [] := by first | (simp [entryFrame, mkF, argsToLocals, Value.category]; done) | rfl
set_option maxRecDepth 65536 in
set_option maxHeartbeats 40000000 in
theorem rm17 (l : Launch) (Z : State) (a0 : Array Value) (hw : ∀ d ∈ tables_1, d.before a0 Z = true) (o0 : Addr) (fu : Bool) (h0 : Heap) (P0 : Fld Z h0 o0 "com/example/firm_tread/firmtread/destination/Fill" "full" "Z" (.int (own_b fu))) :
    own_Met l Z (⟨"com/example/firm_tread/firmtread/destination/Fill", "isFull", "()Z"⟩ : MethodName) prog_29_method_6_code 1 (some .boolean) [] ({ frames := 0, cells := 0, slots := 0, locals := 0 } : Room) #[(.ref o0)] h0 0 0 (fun v h L => v = some (.int (own_b fu)) ∧ h = h0 ∧ L = []) := by
  refine own_met (plainFor_of_name pn_rm17) ?_
  intro p e s m below meth c s₁ Bd hml0 hZ X0 e0
  have hx := Bd.exec
  have hby := Bd.bytes
  have hml : c.maxLocals = 1 := hml0
  have hown : s.vm.findClass "com/example/firm_tread/firmtread/destination/Fill" = some m.cls := findClass_of_methodNamed Bd.named
  have hnm := (name_of_methodNamed Bd.named Bd.method).1
  refine own_cast (ef_rm17 m o0) ?_
  generalize hQQ : (fun (v : Option Value) (h : Heap) (L : List Loc) => v = some (.int (own_b fu)) ∧ h = h0 ∧ L = []) = QQ
  refine own_go (g' := (mkF m 1 #[.val (.ref o0)] [(.ref o0)])) (fun _ kgo => XS.aloadN X0.here hx rfl (hb hby d17_0) rfl rfl kgo) ?_
  obtain ⟨T1, X1, e1, st1⟩ := getF X0 hx hZ hown (host := "") (Or.inl (hw _ (List.mem_of_getElem? (i := 106) rfl))) Via.refl e0 P0 (g := (mkF m 1 #[.val (.ref o0)] [(.ref o0)])) rfl rfl (hb hby d17_1)
  refine own_go (g' := (mkF m 4 #[.val (.ref o0)] [(.int (own_b fu))])) (st1) ?_
  refine own_retN X1 hx .boolean Bd.returns Bd.notSynchronized (by simp) (hb hby d17_4) (by decide) (by decide) ?_
  show QQ _ T1.heap _
  rw [e1]
  rw [← hQQ]
  exact ⟨(congrArg (fun z => some (Value.int z)) (own_b_nar _)), rfl, rfl⟩
theorem d19_0 : decode prog_29_method_3_code 0 = .ok (.aload_n 0, 1) := by decide +kernel
theorem d19_1 : decode prog_29_method_3_code 1 = .ok (.getfield 38, 3) := by decide +kernel
theorem d19_4 : decode prog_29_method_3_code 4 = .ok (.aload_n 0, 1) := by decide +kernel
theorem d19_5 : decode prog_29_method_3_code 5 = .ok (.getfield 38, 3) := by decide +kernel
theorem d19_8 : decode prog_29_method_3_code 8 = .ok (.ldc2_w 42, 3) := by decide +kernel
theorem d19_11 : decode prog_29_method_3_code 11 = .ok (.ldiv, 1) := by decide +kernel
theorem d19_12 : decode prog_29_method_3_code 12 = .ok (.lsub, 1) := by decide +kernel
theorem d19_13 : decode prog_29_method_3_code 13 = .ok (.lreturn, 1) := by decide +kernel
theorem pn_rm19 : plainName "com/example/firm_tread/firmtread/destination/Fill" = true := by first | (simp [plainName, overriddenIn]; done) | decide +kernel
theorem ef_rm19 (m : MethodId) (o0 : Addr) : entryFrame m #[(.ref o0)] 1 = mkF m 0 #[.val (.ref o0)] [] := by first | (simp [entryFrame, mkF, argsToLocals, Value.category]; done) | rfl
set_option maxRecDepth 65536 in
set_option maxHeartbeats 40000000 in
theorem rm19 (l : Launch) (Z : State) (a0 : Array Value) (hw : ∀ d ∈ tables_1, d.before a0 Z = true) (o0 : Addr) (cp : Int64) (h0 : Heap) (P0 : Fld Z h0 o0 "com/example/firm_tread/firmtread/destination/Fill" "cap" "J" (.long cp)) :
    own_Met l Z (⟨"com/example/firm_tread/firmtread/destination/Fill", "drainedAt", "()J"⟩ : MethodName) prog_29_method_3_code 1 (some .long) [] ({ frames := 0, cells := 0, slots := 0, locals := 0 } : Room) #[(.ref o0)] h0 0 0 (fun v h L => v = some (.long (cp - (cp / (4 : Int64)))) ∧ h = h0 ∧ L = []) := by
  refine own_met (plainFor_of_name pn_rm19) ?_
  intro p e s m below meth c s₁ Bd hml0 hZ X0 e0
  have hx := Bd.exec
  have hby := Bd.bytes
  have hml : c.maxLocals = 1 := hml0
  have hown : s.vm.findClass "com/example/firm_tread/firmtread/destination/Fill" = some m.cls := findClass_of_methodNamed Bd.named
  have hnm := (name_of_methodNamed Bd.named Bd.method).1
  refine own_cast (ef_rm19 m o0) ?_
  generalize hQQ : (fun (v : Option Value) (h : Heap) (L : List Loc) => v = some (.long (cp - (cp / (4 : Int64)))) ∧ h = h0 ∧ L = []) = QQ
  refine own_go (g' := (mkF m 1 #[.val (.ref o0)] [(.ref o0)])) (fun _ kgo => XS.aloadN X0.here hx rfl (hb hby d19_0) rfl rfl kgo) ?_
  obtain ⟨T1, X1, e1, st1⟩ := getF X0 hx hZ hown (host := "") (Or.inl (hw _ (List.mem_of_getElem? (i := 97) rfl))) Via.refl e0 P0 (g := (mkF m 1 #[.val (.ref o0)] [(.ref o0)])) rfl rfl (hb hby d19_1)
  refine own_go (g' := (mkF m 4 #[.val (.ref o0)] [(.long cp)])) (st1) ?_
  refine own_go (g' := (mkF m 5 #[.val (.ref o0)] [(.ref o0), (.long cp)])) (fun _ kgo => XS.aloadN X1.here hx rfl (hb hby d19_4) rfl rfl kgo) ?_
  obtain ⟨T2, X2, e2, st2⟩ := getF X1 hx hZ hown (host := "") (Or.inl (hw _ (List.mem_of_getElem? (i := 97) rfl))) Via.refl e1 P0 (g := (mkF m 5 #[.val (.ref o0)] [(.ref o0), (.long cp)])) rfl rfl (hb hby d19_5)
  refine own_go (g' := (mkF m 8 #[.val (.ref o0)] [(.long cp), (.long cp)])) (st2) ?_
  refine own_go (g' := (mkF m 11 #[.val (.ref o0)] [(.long (4 : Int64)), (.long cp), (.long cp)])) (X2.ldc2Long hx hown (mvT hZ (hw _ (List.mem_of_getElem? (i := 132) rfl))) (g := (mkF m 8 #[.val (.ref o0)] [(.long cp), (.long cp)])) rfl (hb hby d19_8)) ?_
  refine own_go (g' := (mkF m 12 #[.val (.ref o0)] [(.long (cp / (4 : Int64))), (.long cp)])) (fun _ kgo => XS.ldiv X2.here hx rfl (hb hby d19_11) rfl (by decide) kgo) ?_
  refine own_go (g' := (mkF m 13 #[.val (.ref o0)] [(.long (cp - (cp / (4 : Int64))))])) (fun _ kgo => XS.lsub X2.here hx rfl (hb hby d19_12) rfl kgo) ?_
  refine own_retJ X2 hx Bd.returns Bd.notSynchronized (hb hby d19_13) (by decide) (by decide) ?_
  show QQ _ T2.heap _
  rw [e2]
  rw [← hQQ]
  exact ⟨rfl, rfl, rfl⟩
theorem d22_0 : decode jdk_69_method_11_code 0 = .ok (.aload_n 0, 1) := by decide +kernel
theorem d22_1 : decode jdk_69_method_11_code 1 = .ok (.getfield 156, 3) := by decide +kernel
theorem d22_4 : decode jdk_69_method_11_code 4 = .ok (.ifCond .ne 7, 3) := by decide +kernel
theorem d22_7 : decode jdk_69_method_11_code 7 = .ok (.iconst 1, 1) := by decide +kernel
theorem d22_8 : decode jdk_69_method_11_code 8 = .ok (.goto 4, 3) := by decide +kernel
theorem d22_12 : decode jdk_69_method_11_code 12 = .ok (.ireturn, 1) := by decide +kernel
theorem pn_hme : plainName "java/util/HashMap" = true := by first | (simp [plainName, overriddenIn]; done) | decide +kernel
theorem ef_hme (m : MethodId) (o0 : Addr) : entryFrame m #[(.ref o0)] 1 = mkF m 0 #[.val (.ref o0)] [] := by first | (simp [entryFrame, mkF, argsToLocals, Value.category]; done) | rfl
set_option maxRecDepth 65536 in
set_option maxHeartbeats 40000000 in
theorem hme (l : Launch) (Z : State) (a0 : Array Value) (hw : ∀ d ∈ tables_1, d.before a0 Z = true) (o0 : Addr)  (h0 : Heap) (P0 : Fld Z h0 o0 "java/util/HashMap" "size" "I" (.int (0 : Int32))) :
    own_Met l Z (⟨"java/util/HashMap", "isEmpty", "()Z"⟩ : MethodName) jdk_69_method_11_code 1 (some .boolean) [] ({ frames := 0, cells := 0, slots := 0, locals := 0 } : Room) #[(.ref o0)] h0 0 0 (fun v h L => v = some (.int (1 : Int32)) ∧ h = h0 ∧ L = []) := by
  refine own_met (plainFor_of_name pn_hme) ?_
  intro p e s m below meth c s₁ Bd hml0 hZ X0 e0
  have hx := Bd.exec
  have hby := Bd.bytes
  have hml : c.maxLocals = 1 := hml0
  have hown : s.vm.findClass "java/util/HashMap" = some m.cls := findClass_of_methodNamed Bd.named
  have hnm := (name_of_methodNamed Bd.named Bd.method).1
  refine own_cast (ef_hme m o0) ?_
  generalize hQQ : (fun (v : Option Value) (h : Heap) (L : List Loc) => v = some (.int (1 : Int32)) ∧ h = h0 ∧ L = []) = QQ
  refine own_go (g' := (mkF m 1 #[.val (.ref o0)] [(.ref o0)])) (fun _ kgo => XS.aloadN X0.here hx rfl (hb hby d22_0) rfl rfl kgo) ?_
  obtain ⟨T1, X1, e1, st1⟩ := getF X0 hx hZ hown (host := "") (Or.inl (hw _ (List.mem_of_getElem? (i := 152) rfl))) Via.refl e0 P0 (g := (mkF m 1 #[.val (.ref o0)] [(.ref o0)])) rfl rfl (hb hby d22_1)
  refine own_go (g' := (mkF m 4 #[.val (.ref o0)] [(.int (0 : Int32))])) (st1) ?_
  refine own_go (g' := (mkF m 7 #[.val (.ref o0)] [])) (fun _ kgo => XS.ifNo X1.here hx rfl (hb hby d22_4) rfl ((if0 _ _).trans (teq (by decide)).2) kgo) ?_
  refine own_go (g' := (mkF m 8 #[.val (.ref o0)] [(.int (1 : Int32))])) (fun _ kgo => XS.iconst X1.here hx rfl (hb hby d22_7) kgo) ?_
  refine own_go (g' := (mkF m 12 #[.val (.ref o0)] [(.int (1 : Int32))])) (fun _ kgo => XS.goto X1.here hx rfl (pc0 := 8) (pc' := 12) rfl (hb hby d22_8) (by decide) (by decide) kgo) ?_
  refine own_retN X1 hx .boolean Bd.returns Bd.notSynchronized (by simp) (hb hby d22_12) (by decide) (by decide) ?_
  show QQ _ T1.heap _
  rw [e1]
  rw [← hQQ]
  exact ⟨rfl, rfl, rfl⟩
theorem d21_0 : decode jdk_93_method_8_code 0 = .ok (.aload_n 0, 1) := by decide +kernel
theorem d21_1 : decode jdk_93_method_8_code 1 = .ok (.getfield 10, 3) := by decide +kernel
theorem d21_4 : decode jdk_93_method_8_code 4 = .ok (.invokevirtual 56, 3) := by decide +kernel
theorem d21_7 : decode jdk_93_method_8_code 7 = .ok (.ireturn, 1) := by decide +kernel
theorem pn_hse : plainName "java/util/HashSet" = true := by first | (simp [plainName, overriddenIn]; done) | decide +kernel
theorem pd21_0 : parseMethodDescriptor "()Z" = some ⟨[], some .boolean⟩ := by decide +kernel
theorem ef_hse (m : MethodId) (o0 : Addr) : entryFrame m #[(.ref o0)] 1 = mkF m 0 #[.val (.ref o0)] [] := by first | (simp [entryFrame, mkF, argsToLocals, Value.category]; done) | rfl
set_option maxRecDepth 65536 in
set_option maxHeartbeats 40000000 in
theorem hse (l : Launch) (Z : State) (a0 : Array Value) (hw : ∀ d ∈ tables_1, d.before a0 Z = true) (o0 : Addr) (mp : Addr) (h0 : Heap) (P0 : Exa Z h0 o0 "java/util/LinkedHashSet") (P1 : Fld Z h0 o0 "java/util/HashSet" "map" "Ljava/util/HashMap;" (.ref mp)) (P2 : Exa Z h0 mp "java/util/LinkedHashMap") (P3 : Fld Z h0 mp "java/util/HashMap" "size" "I" (.int (0 : Int32))) :
    own_Met l Z (⟨"java/util/HashSet", "isEmpty", "()Z"⟩ : MethodName) jdk_93_method_8_code 1 (some .boolean) [] ({ frames := 1, cells := 0, slots := 0, locals := 12 } : Room) #[(.ref o0)] h0 0 0 (fun v h L => v = some (.int (1 : Int32)) ∧ h = h0 ∧ L = []) := by
  refine own_met (plainFor_of_name pn_hse) ?_
  intro p e s m below meth c s₁ Bd hml0 hZ X0 e0
  have hx := Bd.exec
  have hby := Bd.bytes
  have hml : c.maxLocals = 1 := hml0
  have hown : s.vm.findClass "java/util/HashSet" = some m.cls := findClass_of_methodNamed Bd.named
  have hnm := (name_of_methodNamed Bd.named Bd.method).1
  refine own_cast (ef_hse m o0) ?_
  generalize hQQ : (fun (v : Option Value) (h : Heap) (L : List Loc) => v = some (.int (1 : Int32)) ∧ h = h0 ∧ L = []) = QQ
  refine own_go (g' := (mkF m 1 #[.val (.ref o0)] [(.ref o0)])) (fun _ kgo => XS.aloadN X0.here hx rfl (hb hby d21_0) rfl rfl kgo) ?_
  obtain ⟨T1, X1, e1, st1⟩ := getF X0 hx hZ hown (host := "") (Or.inl (hw _ (List.mem_of_getElem? (i := 89) rfl))) Via.refl e0 P1 (g := (mkF m 1 #[.val (.ref o0)] [(.ref o0)])) rfl rfl (hb hby d21_1)
  refine own_go (g' := (mkF m 4 #[.val (.ref o0)] [(.ref mp)])) (st1) ?_
  obtain ⟨v2, T2, L2, hQ2, X2, st2⟩ := own_callV X1 hx hZ (y := (⟨"java/util/HashMap", "isEmpty", "()Z"⟩ : MethodName)) (z := (⟨"java/util/HashMap", "isEmpty", "()Z"⟩ : MethodName)) hown (hw _ (List.mem_of_getElem? (i := 147) rfl)) (hw _ (List.mem_of_getElem? (i := 148) rfl)) (notFace_of_selects (args := #[]) (mvT hZ (hw _ (List.mem_of_getElem? (i := 150) rfl)))) (hw _ (List.mem_of_getElem? (i := 150) rfl)) (hw _ (List.mem_of_getElem? (i := 149) rfl)) (hw _ (List.mem_of_getElem? (i := 59) rfl)) (hw _ (List.mem_of_getElem? (i := 151) rfl)) ⟨by decide, by decide⟩ (a := mp) (argsL := []) (hme l Z a0 hw mp h0 P3) e1 P2 (g := (mkF m 4 #[.val (.ref o0)] [(.ref mp)])) rfl (by rw [hml]; rfl) (rest := []) (lenOf pd21_0 rfl) rfl (hb hby d21_4) (W := 0) (by show 2 * 0 + _ ≤ _; exact Nat.le_of_eq rfl) (by decide) (by decide) (by decide) (by decide)
  obtain ⟨rfl, e2, rfl⟩ := hQ2
  refine own_go (g' := (mkF m 7 #[.val (.ref o0)] [(.int (1 : Int32))])) (st2) ?_
  refine own_retN X2 hx .boolean Bd.returns Bd.notSynchronized (by simp) (hb hby d21_7) (by decide) (by decide) ?_
  show QQ _ T2.heap _
  rw [e2]
  rw [← hQQ]
  exact ⟨rfl, rfl, rfl⟩
theorem d20_0 : decode prog_42_method_3_code 0 = .ok (.aload_n 0, 1) := by decide +kernel
theorem d20_1 : decode prog_42_method_3_code 1 = .ok (.getfield 10, 3) := by decide +kernel
theorem d20_4 : decode prog_42_method_3_code 4 = .ok (.invokeinterface 22 1, 5) := by decide +kernel
theorem d20_9 : decode prog_42_method_3_code 9 = .ok (.ifCond .eq 4, 3) := by decide +kernel
theorem d20_12 : decode prog_42_method_3_code 12 = .ok (.return_, 1) := by decide +kernel
theorem pn_rm20 : plainName "com/example/firm_tread/firmtread/destination/Waiters" = true := by first | (simp [plainName, overriddenIn]; done) | decide +kernel
theorem pd20_0 : parseMethodDescriptor "()Z" = some ⟨[], some .boolean⟩ := by decide +kernel
theorem ef_rm20 (m : MethodId) (o0 : Addr) : entryFrame m #[(.ref o0)] 4 = mkF m 0 #[.val (.ref o0), .unset, .unset, .unset] [] := by first | (simp [entryFrame, mkF, argsToLocals, Value.category]; done) | rfl
set_option maxRecDepth 65536 in
set_option maxHeartbeats 40000000 in
theorem rm20 (l : Launch) (Z : State) (a0 : Array Value) (hw : ∀ d ∈ tables_1, d.before a0 Z = true) (o0 : Addr) (ls : Addr) (mp : Addr) (h0 : Heap) (P0 : Fld Z h0 o0 "com/example/firm_tread/firmtread/destination/Waiters" "waiting" "Ljava/util/Set;" (.ref ls)) (P1 : Exa Z h0 ls "java/util/LinkedHashSet") (P2 : Fld Z h0 ls "java/util/HashSet" "map" "Ljava/util/HashMap;" (.ref mp)) (P3 : Exa Z h0 mp "java/util/LinkedHashMap") (P4 : Fld Z h0 mp "java/util/HashMap" "size" "I" (.int (0 : Int32))) :
    own_Met l Z (⟨"com/example/firm_tread/firmtread/destination/Waiters", "tellAll", "()V"⟩ : MethodName) prog_42_method_3_code 4 none [] ({ frames := 2, cells := 0, slots := 0, locals := 24 } : Room) #[(.ref o0)] h0 0 0 (fun v h L => v = none ∧ h = h0 ∧ L = []) := by
  refine own_met (plainFor_of_name pn_rm20) ?_
  intro p e s m below meth c s₁ Bd hml0 hZ X0 e0
  have hx := Bd.exec
  have hby := Bd.bytes
  have hml : c.maxLocals = 4 := hml0
  have hown : s.vm.findClass "com/example/firm_tread/firmtread/destination/Waiters" = some m.cls := findClass_of_methodNamed Bd.named
  have hnm := (name_of_methodNamed Bd.named Bd.method).1
  refine own_cast (ef_rm20 m o0) ?_
  generalize hQQ : (fun (v : Option Value) (h : Heap) (L : List Loc) => v = none ∧ h = h0 ∧ L = []) = QQ
  refine own_go (g' := (mkF m 1 #[.val (.ref o0), .unset, .unset, .unset] [(.ref o0)])) (fun _ kgo => XS.aloadN X0.here hx rfl (hb hby d20_0) rfl rfl kgo) ?_
  obtain ⟨T1, X1, e1, st1⟩ := getF X0 hx hZ hown (host := "") (Or.inl (hw _ (List.mem_of_getElem? (i := 91) rfl))) Via.refl e0 P0 (g := (mkF m 1 #[.val (.ref o0), .unset, .unset, .unset] [(.ref o0)])) rfl rfl (hb hby d20_1)
  refine own_go (g' := (mkF m 4 #[.val (.ref o0), .unset, .unset, .unset] [(.ref ls)])) (st1) ?_
  obtain ⟨v2, T2, L2, hQ2, X2, st2⟩ := own_callF X1 hx hZ (xi := (⟨"java/util/Set", "isEmpty", "()Z"⟩ : MethodName)) (y := (⟨"java/util/HashSet", "isEmpty", "()Z"⟩ : MethodName)) hown (mvT hZ (hw _ (List.mem_of_getElem? (i := 138) rfl))) (mvT hZ (hw _ (List.mem_of_getElem? (i := 139) rfl))) (mvT hZ (hw _ (List.mem_of_getElem? (i := 140) rfl))) (mvT hZ (hw _ (List.mem_of_getElem? (i := 141) rfl))) (mvT hZ (hw _ (List.mem_of_getElem? (i := 142) rfl))) (mvT hZ (hw _ (List.mem_of_getElem? (i := 143) rfl))) (mvT hZ (hw _ (List.mem_of_getElem? (i := 144) rfl))) (mvT hZ (hw _ (List.mem_of_getElem? (i := 145) rfl))) (hw _ (List.mem_of_getElem? (i := 33) rfl)) (hw _ (List.mem_of_getElem? (i := 146) rfl)) ⟨by decide, by decide⟩ (a := ls) (argsL := []) (hse l Z a0 hw ls mp h0 P1 P2 P3 P4) e1 P1 (g := (mkF m 4 #[.val (.ref o0), .unset, .unset, .unset] [(.ref ls)])) rfl (by rw [hml]; rfl) (rest := []) (lenOf pd20_0 rfl) rfl (hb hby d20_4) (W := 0) (by show 2 * 0 + _ ≤ _; exact Nat.le_of_eq rfl) (by decide) (by decide) (by decide) (by decide)
  obtain ⟨rfl, e2, rfl⟩ := hQ2
  refine own_go (g' := (mkF m 9 #[.val (.ref o0), .unset, .unset, .unset] [(.int (1 : Int32))])) (st2) ?_
  refine own_go (g' := (mkF m 12 #[.val (.ref o0), .unset, .unset, .unset] [])) (fun _ kgo => XS.ifNo X2.here hx rfl (hb hby d20_9) rfl ((if0 _ _).trans (feq (by decide)).1) kgo) ?_
  refine own_retV X2 hx Bd.returns Bd.notSynchronized (hb hby d20_12) (by decide) (by decide) ?_
  show QQ _ T2.heap _
  rw [e2]
  rw [← hQQ]
  exact ⟨rfl, rfl, rfl⟩
theorem d18_0 : decode prog_29_method_10_code 0 = .ok (.aload_n 0, 1) := by decide +kernel
theorem d18_1 : decode prog_29_method_10_code 1 = .ok (.dup, 1) := by decide +kernel
theorem d18_2 : decode prog_29_method_10_code 2 = .ok (.getfield 44, 3) := by decide +kernel
theorem d18_5 : decode prog_29_method_10_code 5 = .ok (.lload_n 1, 1) := by decide +kernel
theorem d18_6 : decode prog_29_method_10_code 6 = .ok (.lsub, 1) := by decide +kernel
theorem d18_7 : decode prog_29_method_10_code 7 = .ok (.putfield 44, 3) := by decide +kernel
theorem d18_10 : decode prog_29_method_10_code 10 = .ok (.aload_n 0, 1) := by decide +kernel
theorem d18_11 : decode prog_29_method_10_code 11 = .ok (.getfield 47, 3) := by decide +kernel
theorem d18_14 : decode prog_29_method_10_code 14 = .ok (.ifCond .eq 34, 3) := by decide +kernel
theorem d18_17 : decode prog_29_method_10_code 17 = .ok (.aload_n 0, 1) := by decide +kernel
theorem d18_18 : decode prog_29_method_10_code 18 = .ok (.getfield 44, 3) := by decide +kernel
theorem d18_21 : decode prog_29_method_10_code 21 = .ok (.aload_n 0, 1) := by decide +kernel
theorem d18_22 : decode prog_29_method_10_code 22 = .ok (.invokevirtual 66, 3) := by decide +kernel
theorem d18_25 : decode prog_29_method_10_code 25 = .ok (.lcmp, 1) := by decide +kernel
theorem d18_26 : decode prog_29_method_10_code 26 = .ok (.ifCond .gt 22, 3) := by decide +kernel
theorem d18_29 : decode prog_29_method_10_code 29 = .ok (.aload_n 0, 1) := by decide +kernel
theorem d18_30 : decode prog_29_method_10_code 30 = .ok (.iconst 0, 1) := by decide +kernel
theorem d18_31 : decode prog_29_method_10_code 31 = .ok (.putfield 47, 3) := by decide +kernel
theorem d18_34 : decode prog_29_method_10_code 34 = .ok (.aload_n 0, 1) := by decide +kernel
theorem d18_35 : decode prog_29_method_10_code 35 = .ok (.getfield 10, 3) := by decide +kernel
theorem d18_38 : decode prog_29_method_10_code 38 = .ok (.invokevirtual 70, 3) := by decide +kernel
theorem d18_41 : decode prog_29_method_10_code 41 = .ok (.aload_n 0, 1) := by decide +kernel
theorem d18_42 : decode prog_29_method_10_code 42 = .ok (.getfield 16, 3) := by decide +kernel
theorem d18_45 : decode prog_29_method_10_code 45 = .ok (.invokevirtual 70, 3) := by decide +kernel
theorem d18_48 : decode prog_29_method_10_code 48 = .ok (.return_, 1) := by decide +kernel
theorem pn_rm18 : plainName "com/example/firm_tread/firmtread/destination/Fill" = true := by first | (simp [plainName, overriddenIn]; done) | decide +kernel
theorem pd18_0 : parseMethodDescriptor "()J" = some ⟨[], some .long⟩ := by decide +kernel
theorem pd18_1 : parseMethodDescriptor "()V" = some ⟨[], none⟩ := by decide +kernel
theorem ef_rm18 (m : MethodId) (o0 : Addr) (q1 : Int64) : entryFrame m #[(.ref o0), (.long q1)] 3 = mkF m 0 #[.val (.ref o0), .val (.long q1), .second] [] := by first | (simp [entryFrame, mkF, argsToLocals, Value.category]; done) | rfl
set_option maxRecDepth 65536 in
set_option maxHeartbeats 40000000 in
theorem rm18 (l : Launch) (Z : State) (a0 : Array Value) (hw : ∀ d ∈ tables_1, d.before a0 Z = true) (o0 : Addr) (q1 : Int64) (ob : Int64) (fu : Bool) (fi : Int64) (ow : Int64) (cp : Int64) (w1 : Addr) (l1 : Addr) (m1 : Addr) (w2 : Addr) (l2 : Addr) (m2 : Addr) (h0 : Heap) (n0 : Nat) (Z0 : n0 ≤ h0.size) (g_o0 : n0 ≤ o0) (P0 : Exa Z h0 o0 "com/example/firm_tread/firmtread/destination/Fill") (P1 : Fld Z h0 o0 "com/example/firm_tread/firmtread/destination/Fill" "cap" "J" (.long cp)) (P2 : Fld Z h0 o0 "com/example/firm_tread/firmtread/destination/Fill" "octets" "J" (.long ob)) (P3 : Fld Z h0 o0 "com/example/firm_tread/firmtread/destination/Fill" "full" "Z" (.int (own_b fu))) (P4 : Fld Z h0 o0 "com/example/firm_tread/firmtread/destination/Fill" "fillings" "J" (.long fi)) (P5 : Fld Z h0 o0 "com/example/firm_tread/firmtread/destination/Fill" "owed" "J" (.long ow)) (P6 : Fld Z h0 o0 "com/example/firm_tread/firmtread/destination/Fill" "waiters" "Lcom/example/firm_tread/firmtread/destination/Waiters;" (.ref w1)) (P7 : Exa Z h0 w1 "com/example/firm_tread/firmtread/destination/Waiters") (P8 : Fld Z h0 w1 "com/example/firm_tread/firmtread/destination/Waiters" "waiting" "Ljava/util/Set;" (.ref l1)) (P9 : Exa Z h0 l1 "java/util/LinkedHashSet") (P10 : Fld Z h0 l1 "java/util/HashSet" "map" "Ljava/util/HashMap;" (.ref m1)) (P11 : Exa Z h0 m1 "java/util/LinkedHashMap") (P12 : Fld Z h0 m1 "java/util/HashMap" "size" "I" (.int (0 : Int32))) (P13 : Fld Z h0 o0 "com/example/firm_tread/firmtread/destination/Fill" "owing" "Lcom/example/firm_tread/firmtread/destination/Waiters;" (.ref w2)) (P14 : Exa Z h0 w2 "com/example/firm_tread/firmtread/destination/Waiters") (P15 : Fld Z h0 w2 "com/example/firm_tread/firmtread/destination/Waiters" "waiting" "Ljava/util/Set;" (.ref l2)) (P16 : Exa Z h0 l2 "java/util/LinkedHashSet") (P17 : Fld Z h0 l2 "java/util/HashSet" "map" "Ljava/util/HashMap;" (.ref m2)) (P18 : Exa Z h0 m2 "java/util/LinkedHashMap") (P19 : Fld Z h0 m2 "java/util/HashMap" "size" "I" (.int (0 : Int32))) (hnw1 : o0 ≠ w1) (hnl1 : o0 ≠ l1) (hnm1 : o0 ≠ m1) (hnw2 : o0 ≠ w2) (hnl2 : o0 ≠ l2) (hnm2 : o0 ≠ m2) :
    own_Met l Z (⟨"com/example/firm_tread/firmtread/destination/Fill", "remove", "(J)V"⟩ : MethodName) prog_29_method_10_code 3 none [] ({ frames := 3, cells := 0, slots := 0, locals := 39 } : Room) #[(.ref o0), (.long q1)] h0 0 0 (fun v h L => ∃ (fu' : Bool), v = none ∧ Fr n0 L ∧ Keep h0 h [o0] ∧ Exa Z h o0 "com/example/firm_tread/firmtread/destination/Fill" ∧ Fld Z h o0 "com/example/firm_tread/firmtread/destination/Fill" "cap" "J" (.long cp) ∧ Fld Z h o0 "com/example/firm_tread/firmtread/destination/Fill" "octets" "J" (.long (ob - q1)) ∧ Fld Z h o0 "com/example/firm_tread/firmtread/destination/Fill" "full" "Z" (.int (own_b fu')) ∧ Fld Z h o0 "com/example/firm_tread/firmtread/destination/Fill" "fillings" "J" (.long fi) ∧ Fld Z h o0 "com/example/firm_tread/firmtread/destination/Fill" "owed" "J" (.long ow) ∧ Fld Z h o0 "com/example/firm_tread/firmtread/destination/Fill" "waiters" "Lcom/example/firm_tread/firmtread/destination/Waiters;" (.ref w1) ∧ Fld Z h o0 "com/example/firm_tread/firmtread/destination/Fill" "owing" "Lcom/example/firm_tread/firmtread/destination/Waiters;" (.ref w2)) := by
  refine own_met (plainFor_of_name pn_rm18) ?_
  intro p e s m below meth c s₁ Bd hml0 hZ X0 e0
  have hx := Bd.exec
  have hby := Bd.bytes
  have hml : c.maxLocals = 3 := hml0
  have hown : s.vm.findClass "com/example/firm_tread/firmtread/destination/Fill" = some m.cls := findClass_of_methodNamed Bd.named
  have hnm := (name_of_methodNamed Bd.named Bd.method).1
  refine own_cast (ef_rm18 m o0 q1) ?_
  generalize hQQ : (fun (v : Option Value) (h : Heap) (L : List Loc) => ∃ (fu' : Bool), v = none ∧ Fr n0 L ∧ Keep h0 h [o0] ∧ Exa Z h o0 "com/example/firm_tread/firmtread/destination/Fill" ∧ Fld Z h o0 "com/example/firm_tread/firmtread/destination/Fill" "cap" "J" (.long cp) ∧ Fld Z h o0 "com/example/firm_tread/firmtread/destination/Fill" "octets" "J" (.long (ob - q1)) ∧ Fld Z h o0 "com/example/firm_tread/firmtread/destination/Fill" "full" "Z" (.int (own_b fu')) ∧ Fld Z h o0 "com/example/firm_tread/firmtread/destination/Fill" "fillings" "J" (.long fi) ∧ Fld Z h o0 "com/example/firm_tread/firmtread/destination/Fill" "owed" "J" (.long ow) ∧ Fld Z h o0 "com/example/firm_tread/firmtread/destination/Fill" "waiters" "Lcom/example/firm_tread/firmtread/destination/Waiters;" (.ref w1) ∧ Fld Z h o0 "com/example/firm_tread/firmtread/destination/Fill" "owing" "Lcom/example/firm_tread/firmtread/destination/Waiters;" (.ref w2)) = QQ
  have N0 := Fr.nil n0
  have K0 := Keep.refl h0 [o0]
  refine own_go (g' := (mkF m 1 #[.val (.ref o0), .val (.long q1), .second] [(.ref o0)])) (fun _ kgo => XS.aloadN X0.here hx rfl (hb hby d18_0) rfl rfl kgo) ?_
  refine own_go (g' := (mkF m 2 #[.val (.ref o0), .val (.long q1), .second] [(.ref o0), (.ref o0)])) (fun _ kgo => XS.dup X0.here hx rfl (hb hby d18_1) rfl rfl kgo) ?_
  obtain ⟨T1, X1, e1, st1⟩ := getF X0 hx hZ hown (host := "") (Or.inl (hw _ (List.mem_of_getElem? (i := 104) rfl))) Via.refl e0 P2 (g := (mkF m 2 #[.val (.ref o0), .val (.long q1), .second] [(.ref o0), (.ref o0)])) rfl rfl (hb hby d18_2)
  refine own_go (g' := (mkF m 5 #[.val (.ref o0), .val (.long q1), .second] [(.long ob), (.ref o0)])) (st1) ?_
  refine own_go (g' := (mkF m 6 #[.val (.ref o0), .val (.long q1), .second] [(.long q1), (.long ob), (.ref o0)])) (fun _ kgo => XS.lloadN X1.here hx rfl (hb hby d18_5) rfl kgo) ?_
  refine own_go (g' := (mkF m 7 #[.val (.ref o0), .val (.long q1), .second] [(.long (ob - q1)), (.ref o0)])) (fun _ kgo => XS.lsub X1.here hx rfl (hb hby d18_6) rfl kgo) ?_
  obtain ⟨T2, h2, X2, e2, W2, st2⟩ := putF X1 hx hZ hown (host := "") (Or.inl (hw _ (List.mem_of_getElem? (i := 104) rfl))) Via.refl e1 P2 P0 (Or.inl (hw _ (List.mem_of_getElem? (i := 105) rfl))) (hw _ (List.mem_of_getElem? (i := 7) rfl)) (ty := .long) (by decide) rfl rfl (g := (mkF m 7 #[.val (.ref o0), .val (.long q1), .second] [(.long (ob - q1)), (.ref o0)])) rfl rfl (hb hby d18_7)
  have fw2 := Fld.same W2 P2
  have N2 := Fr.snoc X2 N0 g_o0
  have Z2 : n0 ≤ h2.size := by rw [W2.size]; exact Z0
  have K2 : Keep h0 h2 [o0] := K0.wr W2 (Or.inl (List.mem_of_getElem? (i := 0) rfl))
  refine own_go (g' := (mkF m 10 #[.val (.ref o0), .val (.long q1), .second] [])) (st2) ?_
  refine own_go (g' := (mkF m 11 #[.val (.ref o0), .val (.long q1), .second] [(.ref o0)])) (fun _ kgo => XS.aloadN X2.here hx rfl (hb hby d18_10) rfl rfl kgo) ?_
  have fx3 : Fld Z h2 o0 "com/example/firm_tread/firmtread/destination/Fill" "full" "Z" (.int (own_b fu)) := (Fld.other W2 P3 (Or.inr (slot_ne (Or.inl (hw _ (List.mem_of_getElem? (i := 107) rfl))) (Or.inl (hw _ (List.mem_of_getElem? (i := 105) rfl))) (by decide) (t := .boolean) (t' := .long) (by decide) (by decide))))
  obtain ⟨T4, X4, e4, st4⟩ := getF X2 hx hZ hown (host := "") (Or.inl (hw _ (List.mem_of_getElem? (i := 106) rfl))) Via.refl e2 fx3 (g := (mkF m 11 #[.val (.ref o0), .val (.long q1), .second] [(.ref o0)])) rfl rfl (hb hby d18_11)
  refine own_go (g' := (mkF m 14 #[.val (.ref o0), .val (.long q1), .second] [(.int (own_b fu))])) (st4) ?_
  by_cases hc5 : fu = true
  ·
    refine own_go (g' := (mkF m 17 #[.val (.ref o0), .val (.long q1), .second] [])) (fun _ kgo => XS.ifNo X4.here hx rfl (hb hby d18_14) rfl ((if0 _ _).trans (feq (own_b_n hc5)).1) kgo) ?_
    refine own_go (g' := (mkF m 18 #[.val (.ref o0), .val (.long q1), .second] [(.ref o0)])) (fun _ kgo => XS.aloadN X4.here hx rfl (hb hby d18_17) rfl rfl kgo) ?_
    obtain ⟨T6, X6, e6, st6⟩ := getF X4 hx hZ hown (host := "") (Or.inl (hw _ (List.mem_of_getElem? (i := 104) rfl))) Via.refl e4 fw2 (g := (mkF m 18 #[.val (.ref o0), .val (.long q1), .second] [(.ref o0)])) rfl rfl (hb hby d18_18)
    refine own_go (g' := (mkF m 21 #[.val (.ref o0), .val (.long q1), .second] [(.long (ob - q1))])) (st6) ?_
    refine own_go (g' := (mkF m 22 #[.val (.ref o0), .val (.long q1), .second] [(.ref o0), (.long (ob - q1))])) (fun _ kgo => XS.aloadN X6.here hx rfl (hb hby d18_21) rfl rfl kgo) ?_
    have fx8 : Fld Z h2 o0 "com/example/firm_tread/firmtread/destination/Fill" "cap" "J" (.long cp) := (Fld.other W2 P1 (Or.inr (slot_ne (Or.inr (hw _ (List.mem_of_getElem? (i := 98) rfl))) (Or.inl (hw _ (List.mem_of_getElem? (i := 105) rfl))) (by decide) (t := .long) (t' := .long) (by decide) (by decide))))
    have fx9 : Exa Z h2 o0 "com/example/firm_tread/firmtread/destination/Fill" := (Exa.wr W2 P0)
    obtain ⟨v7, T7, L7, hQ7, X7, st7⟩ := own_callV X6 hx hZ (y := (⟨"com/example/firm_tread/firmtread/destination/Fill", "drainedAt", "()J"⟩ : MethodName)) (z := (⟨"com/example/firm_tread/firmtread/destination/Fill", "drainedAt", "()J"⟩ : MethodName)) hown (hw _ (List.mem_of_getElem? (i := 127) rfl)) (hw _ (List.mem_of_getElem? (i := 128) rfl)) (notFace_of_selects (args := #[]) (mvT hZ (hw _ (List.mem_of_getElem? (i := 130) rfl)))) (hw _ (List.mem_of_getElem? (i := 130) rfl)) (hw _ (List.mem_of_getElem? (i := 129) rfl)) (hw _ (List.mem_of_getElem? (i := 8) rfl)) (hw _ (List.mem_of_getElem? (i := 131) rfl)) ⟨by decide, by decide⟩ (a := o0) (argsL := []) (rm19 l Z a0 hw o0 cp h2 fx8) e6 fx9 (g := (mkF m 22 #[.val (.ref o0), .val (.long q1), .second] [(.ref o0), (.long (ob - q1))])) rfl (by rw [hml]; rfl) (rest := [(.long (ob - q1))]) (lenOf pd18_0 rfl) rfl (hb hby d18_22) (W := 2) (by show 2 * 0 + _ ≤ _; exact Nat.le_of_eq rfl) (by decide) (by decide) (by decide) (by decide)
    obtain ⟨rfl, e7, rfl⟩ := hQ7
    have N7 := Fr.app N2 (Fr.nil n0)
    refine own_go (g' := (mkF m 25 #[.val (.ref o0), .val (.long q1), .second] [(.long (cp - (cp / (4 : Int64)))), (.long (ob - q1))])) (st7) ?_
    refine own_go (g' := (mkF m 26 #[.val (.ref o0), .val (.long q1), .second] [(.int (lcmpW (ob - q1) (cp - (cp / (4 : Int64)))))])) (fun _ kgo => XS.lcmp X7.here hx rfl (hb hby d18_25) rfl kgo) ?_
    by_cases hc10 : (cp - (cp / (4 : Int64))) < (ob - q1)
    ·
      refine own_go (g' := (mkF m 48 #[.val (.ref o0), .val (.long q1), .second] [])) (fun _ kgo => XS.ifYes X7.here hx rfl (pc0 := 26) (pc' := 48) rfl (hb hby d18_26) rfl ((if0 _ _).trans (tlt ((lw_gt _ _).mpr hc10)).2.2.1) (by decide) (by decide) kgo) ?_
      refine own_retV X7 hx Bd.returns Bd.notSynchronized (hb hby d18_48) (by decide) (by decide) ?_
      show QQ _ T7.heap _
      rw [e7]
      have fx11 : Fld Z h2 o0 "com/example/firm_tread/firmtread/destination/Fill" "fillings" "J" (.long fi) := (Fld.other W2 P4 (Or.inr (slot_ne (Or.inl (hw _ (List.mem_of_getElem? (i := 124) rfl))) (Or.inl (hw _ (List.mem_of_getElem? (i := 105) rfl))) (by decide) (t := .long) (t' := .long) (by decide) (by decide))))
      have fx12 : Fld Z h2 o0 "com/example/firm_tread/firmtread/destination/Fill" "owed" "J" (.long ow) := (Fld.other W2 P5 (Or.inr (slot_ne (Or.inl (hw _ (List.mem_of_getElem? (i := 126) rfl))) (Or.inl (hw _ (List.mem_of_getElem? (i := 105) rfl))) (by decide) (t := .long) (t' := .long) (by decide) (by decide))))
      have fx13 : Fld Z h2 o0 "com/example/firm_tread/firmtread/destination/Fill" "waiters" "Lcom/example/firm_tread/firmtread/destination/Waiters;" (.ref w1) := (Fld.other W2 P6 (Or.inr (slot_ne (Or.inr (hw _ (List.mem_of_getElem? (i := 94) rfl))) (Or.inl (hw _ (List.mem_of_getElem? (i := 105) rfl))) (by decide) (t := (.object "com/example/firm_tread/firmtread/destination/Waiters")) (t' := .long) (by decide) (by decide))))
      have fx14 : Fld Z h2 o0 "com/example/firm_tread/firmtread/destination/Fill" "owing" "Lcom/example/firm_tread/firmtread/destination/Waiters;" (.ref w2) := (Fld.other W2 P13 (Or.inr (slot_ne (Or.inr (hw _ (List.mem_of_getElem? (i := 96) rfl))) (Or.inl (hw _ (List.mem_of_getElem? (i := 105) rfl))) (by decide) (t := (.object "com/example/firm_tread/firmtread/destination/Waiters")) (t' := .long) (by decide) (by decide))))
      rw [← hQQ]
      exact ⟨fu, rfl, N7, K2, fx9, fx8, fw2, fx3, fx11, fx12, fx13, fx14⟩
    ·
      refine own_go (g' := (mkF m 29 #[.val (.ref o0), .val (.long q1), .second] [])) (fun _ kgo => XS.ifNo X7.here hx rfl (hb hby d18_26) rfl ((if0 _ _).trans (flt (mt (lw_gt _ _).mp hc10)).2.2.1) kgo) ?_
      refine own_go (g' := (mkF m 30 #[.val (.ref o0), .val (.long q1), .second] [(.ref o0)])) (fun _ kgo => XS.aloadN X7.here hx rfl (hb hby d18_29) rfl rfl kgo) ?_
      refine own_go (g' := (mkF m 31 #[.val (.ref o0), .val (.long q1), .second] [(.int (0 : Int32)), (.ref o0)])) (fun _ kgo => XS.iconst X7.here hx rfl (hb hby d18_30) kgo) ?_
      obtain ⟨T15, h15, X15, e15, W15, st15⟩ := putFN X7 hx hZ hown (hw _ (List.mem_of_getElem? (i := 106) rfl)) Via.refl e7 fx3 fx9 (Or.inl (hw _ (List.mem_of_getElem? (i := 107) rfl))) (hw _ (List.mem_of_getElem? (i := 7) rfl)) (ty := .boolean) (v := (.int (0 : Int32))) (v' := (.int (0 : Int32))) (by decide) rfl rfl (g := (mkF m 31 #[.val (.ref o0), .val (.long q1), .second] [(.int (0 : Int32)), (.ref o0)])) rfl rfl (hb hby d18_31)
      have fw15 := Fld.same W15 fx3
      have N15 := Fr.snoc X15 N7 g_o0
      have Z15 : n0 ≤ h15.size := by rw [W15.size]; exact Z2
      have K15 : Keep h0 h15 [o0] := K2.wr W15 (Or.inl (List.mem_of_getElem? (i := 0) rfl))
      refine own_go (g' := (mkF m 34 #[.val (.ref o0), .val (.long q1), .second] [])) (st15) ?_
      refine own_go (g' := (mkF m 35 #[.val (.ref o0), .val (.long q1), .second] [(.ref o0)])) (fun _ kgo => XS.aloadN X15.here hx rfl (hb hby d18_34) rfl rfl kgo) ?_
      have fx16 : Fld Z h15 o0 "com/example/firm_tread/firmtread/destination/Fill" "waiters" "Lcom/example/firm_tread/firmtread/destination/Waiters;" (.ref w1) := (Fld.other W15 (Fld.other W2 P6 (Or.inr (slot_ne (Or.inr (hw _ (List.mem_of_getElem? (i := 94) rfl))) (Or.inl (hw _ (List.mem_of_getElem? (i := 105) rfl))) (by decide) (t := (.object "com/example/firm_tread/firmtread/destination/Waiters")) (t' := .long) (by decide) (by decide)))) (Or.inr (slot_ne (Or.inr (hw _ (List.mem_of_getElem? (i := 94) rfl))) (Or.inl (hw _ (List.mem_of_getElem? (i := 107) rfl))) (by decide) (t := (.object "com/example/firm_tread/firmtread/destination/Waiters")) (t' := .boolean) (by decide) (by decide))))
      obtain ⟨T17, X17, e17, st17⟩ := getF X15 hx hZ hown (host := "") (Or.inl (hw _ (List.mem_of_getElem? (i := 93) rfl))) Via.refl e15 fx16 (g := (mkF m 35 #[.val (.ref o0), .val (.long q1), .second] [(.ref o0)])) rfl rfl (hb hby d18_35)
      refine own_go (g' := (mkF m 38 #[.val (.ref o0), .val (.long q1), .second] [(.ref w1)])) (st17) ?_
      have fx19 : Fld Z h15 w1 "com/example/firm_tread/firmtread/destination/Waiters" "waiting" "Ljava/util/Set;" (.ref l1) := (Fld.other W15 (Fld.other W2 P8 (Or.inl (Ne.symm hnw1))) (Or.inl (Ne.symm hnw1)))
      have fx20 : Exa Z h15 l1 "java/util/LinkedHashSet" := (Exa.wr W15 (Exa.wr W2 P9))
      have fx21 : Fld Z h15 l1 "java/util/HashSet" "map" "Ljava/util/HashMap;" (.ref m1) := (Fld.other W15 (Fld.other W2 P10 (Or.inl (Ne.symm hnl1))) (Or.inl (Ne.symm hnl1)))
      have fx22 : Exa Z h15 m1 "java/util/LinkedHashMap" := (Exa.wr W15 (Exa.wr W2 P11))
      have fx23 : Fld Z h15 m1 "java/util/HashMap" "size" "I" (.int (0 : Int32)) := (Fld.other W15 (Fld.other W2 P12 (Or.inl (Ne.symm hnm1))) (Or.inl (Ne.symm hnm1)))
      have fx24 : Exa Z h15 w1 "com/example/firm_tread/firmtread/destination/Waiters" := (Exa.wr W15 (Exa.wr W2 P7))
      obtain ⟨v18, T18, L18, hQ18, X18, st18⟩ := own_callV X17 hx hZ (y := (⟨"com/example/firm_tread/firmtread/destination/Waiters", "tellAll", "()V"⟩ : MethodName)) (z := (⟨"com/example/firm_tread/firmtread/destination/Waiters", "tellAll", "()V"⟩ : MethodName)) hown (hw _ (List.mem_of_getElem? (i := 133) rfl)) (hw _ (List.mem_of_getElem? (i := 134) rfl)) (notFace_of_selects (args := #[]) (mvT hZ (hw _ (List.mem_of_getElem? (i := 136) rfl)))) (hw _ (List.mem_of_getElem? (i := 136) rfl)) (hw _ (List.mem_of_getElem? (i := 135) rfl)) (hw _ (List.mem_of_getElem? (i := 17) rfl)) (hw _ (List.mem_of_getElem? (i := 137) rfl)) ⟨by decide, by decide⟩ (a := w1) (argsL := []) (rm20 l Z a0 hw w1 l1 m1 h15 fx19 fx20 fx21 fx22 fx23) e17 fx24 (g := (mkF m 38 #[.val (.ref o0), .val (.long q1), .second] [(.ref w1)])) rfl (by rw [hml]; rfl) (rest := []) (lenOf pd18_1 rfl) rfl (hb hby d18_38) (W := 0) (by show 2 * 0 + _ ≤ _; exact Nat.le_of_eq rfl) (by decide) (by decide) (by decide) (by decide)
      obtain ⟨rfl, e18, rfl⟩ := hQ18
      have N18 := Fr.app N15 (Fr.nil n0)
      refine own_go (g' := (mkF m 41 #[.val (.ref o0), .val (.long q1), .second] [])) (st18) ?_
      refine own_go (g' := (mkF m 42 #[.val (.ref o0), .val (.long q1), .second] [(.ref o0)])) (fun _ kgo => XS.aloadN X18.here hx rfl (hb hby d18_41) rfl rfl kgo) ?_
      have fx25 : Fld Z h15 o0 "com/example/firm_tread/firmtread/destination/Fill" "owing" "Lcom/example/firm_tread/firmtread/destination/Waiters;" (.ref w2) := (Fld.other W15 (Fld.other W2 P13 (Or.inr (slot_ne (Or.inr (hw _ (List.mem_of_getElem? (i := 96) rfl))) (Or.inl (hw _ (List.mem_of_getElem? (i := 105) rfl))) (by decide) (t := (.object "com/example/firm_tread/firmtread/destination/Waiters")) (t' := .long) (by decide) (by decide)))) (Or.inr (slot_ne (Or.inr (hw _ (List.mem_of_getElem? (i := 96) rfl))) (Or.inl (hw _ (List.mem_of_getElem? (i := 107) rfl))) (by decide) (t := (.object "com/example/firm_tread/firmtread/destination/Waiters")) (t' := .boolean) (by decide) (by decide))))
      obtain ⟨T26, X26, e26, st26⟩ := getF X18 hx hZ hown (host := "") (Or.inl (hw _ (List.mem_of_getElem? (i := 95) rfl))) Via.refl e18 fx25 (g := (mkF m 42 #[.val (.ref o0), .val (.long q1), .second] [(.ref o0)])) rfl rfl (hb hby d18_42)
      refine own_go (g' := (mkF m 45 #[.val (.ref o0), .val (.long q1), .second] [(.ref w2)])) (st26) ?_
      have fx28 : Fld Z h15 w2 "com/example/firm_tread/firmtread/destination/Waiters" "waiting" "Ljava/util/Set;" (.ref l2) := (Fld.other W15 (Fld.other W2 P15 (Or.inl (Ne.symm hnw2))) (Or.inl (Ne.symm hnw2)))
      have fx29 : Exa Z h15 l2 "java/util/LinkedHashSet" := (Exa.wr W15 (Exa.wr W2 P16))
      have fx30 : Fld Z h15 l2 "java/util/HashSet" "map" "Ljava/util/HashMap;" (.ref m2) := (Fld.other W15 (Fld.other W2 P17 (Or.inl (Ne.symm hnl2))) (Or.inl (Ne.symm hnl2)))
      have fx31 : Exa Z h15 m2 "java/util/LinkedHashMap" := (Exa.wr W15 (Exa.wr W2 P18))
      have fx32 : Fld Z h15 m2 "java/util/HashMap" "size" "I" (.int (0 : Int32)) := (Fld.other W15 (Fld.other W2 P19 (Or.inl (Ne.symm hnm2))) (Or.inl (Ne.symm hnm2)))
      have fx33 : Exa Z h15 w2 "com/example/firm_tread/firmtread/destination/Waiters" := (Exa.wr W15 (Exa.wr W2 P14))
      obtain ⟨v27, T27, L27, hQ27, X27, st27⟩ := own_callV X26 hx hZ (y := (⟨"com/example/firm_tread/firmtread/destination/Waiters", "tellAll", "()V"⟩ : MethodName)) (z := (⟨"com/example/firm_tread/firmtread/destination/Waiters", "tellAll", "()V"⟩ : MethodName)) hown (hw _ (List.mem_of_getElem? (i := 133) rfl)) (hw _ (List.mem_of_getElem? (i := 134) rfl)) (notFace_of_selects (args := #[]) (mvT hZ (hw _ (List.mem_of_getElem? (i := 136) rfl)))) (hw _ (List.mem_of_getElem? (i := 136) rfl)) (hw _ (List.mem_of_getElem? (i := 135) rfl)) (hw _ (List.mem_of_getElem? (i := 17) rfl)) (hw _ (List.mem_of_getElem? (i := 137) rfl)) ⟨by decide, by decide⟩ (a := w2) (argsL := []) (rm20 l Z a0 hw w2 l2 m2 h15 fx28 fx29 fx30 fx31 fx32) e26 fx33 (g := (mkF m 45 #[.val (.ref o0), .val (.long q1), .second] [(.ref w2)])) rfl (by rw [hml]; rfl) (rest := []) (lenOf pd18_1 rfl) rfl (hb hby d18_45) (W := 0) (by show 2 * 0 + _ ≤ _; exact Nat.le_of_eq rfl) (by decide) (by decide) (by decide) (by decide)
      obtain ⟨rfl, e27, rfl⟩ := hQ27
      have N27 := Fr.app N18 (Fr.nil n0)
      refine own_go (g' := (mkF m 48 #[.val (.ref o0), .val (.long q1), .second] [])) (st27) ?_
      refine own_retV X27 hx Bd.returns Bd.notSynchronized (hb hby d18_48) (by decide) (by decide) ?_
      show QQ _ T27.heap _
      rw [e27]
      have fx34 : Exa Z h15 o0 "com/example/firm_tread/firmtread/destination/Fill" := (Exa.wr W15 fx9)
      have fx35 : Fld Z h15 o0 "com/example/firm_tread/firmtread/destination/Fill" "cap" "J" (.long cp) := (Fld.other W15 fx8 (Or.inr (slot_ne (Or.inr (hw _ (List.mem_of_getElem? (i := 98) rfl))) (Or.inl (hw _ (List.mem_of_getElem? (i := 107) rfl))) (by decide) (t := .long) (t' := .boolean) (by decide) (by decide))))
      have fx36 : Fld Z h15 o0 "com/example/firm_tread/firmtread/destination/Fill" "octets" "J" (.long (ob - q1)) := (Fld.other W15 fw2 (Or.inr (slot_ne (Or.inl (hw _ (List.mem_of_getElem? (i := 105) rfl))) (Or.inl (hw _ (List.mem_of_getElem? (i := 107) rfl))) (by decide) (t := .long) (t' := .boolean) (by decide) (by decide))))
      have fx37 : Fld Z h15 o0 "com/example/firm_tread/firmtread/destination/Fill" "fillings" "J" (.long fi) := (Fld.other W15 (Fld.other W2 P4 (Or.inr (slot_ne (Or.inl (hw _ (List.mem_of_getElem? (i := 124) rfl))) (Or.inl (hw _ (List.mem_of_getElem? (i := 105) rfl))) (by decide) (t := .long) (t' := .long) (by decide) (by decide)))) (Or.inr (slot_ne (Or.inl (hw _ (List.mem_of_getElem? (i := 124) rfl))) (Or.inl (hw _ (List.mem_of_getElem? (i := 107) rfl))) (by decide) (t := .long) (t' := .boolean) (by decide) (by decide))))
      have fx38 : Fld Z h15 o0 "com/example/firm_tread/firmtread/destination/Fill" "owed" "J" (.long ow) := (Fld.other W15 (Fld.other W2 P5 (Or.inr (slot_ne (Or.inl (hw _ (List.mem_of_getElem? (i := 126) rfl))) (Or.inl (hw _ (List.mem_of_getElem? (i := 105) rfl))) (by decide) (t := .long) (t' := .long) (by decide) (by decide)))) (Or.inr (slot_ne (Or.inl (hw _ (List.mem_of_getElem? (i := 126) rfl))) (Or.inl (hw _ (List.mem_of_getElem? (i := 107) rfl))) (by decide) (t := .long) (t' := .boolean) (by decide) (by decide))))
      rw [← hQQ]
      exact ⟨false, rfl, N27, K15, fx34, fx35, fx36, fw15, fx37, fx38, fx16, fx25⟩
  ·
    refine own_go (g' := (mkF m 48 #[.val (.ref o0), .val (.long q1), .second] [])) (fun _ kgo => XS.ifYes X4.here hx rfl (pc0 := 14) (pc' := 48) rfl (hb hby d18_14) rfl ((if0 _ _).trans (teq (own_b_f hc5)).1) (by decide) (by decide) kgo) ?_
    refine own_retV X4 hx Bd.returns Bd.notSynchronized (hb hby d18_48) (by decide) (by decide) ?_
    show QQ _ T4.heap _
    rw [e4]
    have fx39 : Exa Z h2 o0 "com/example/firm_tread/firmtread/destination/Fill" := (Exa.wr W2 P0)
    have fx40 : Fld Z h2 o0 "com/example/firm_tread/firmtread/destination/Fill" "cap" "J" (.long cp) := (Fld.other W2 P1 (Or.inr (slot_ne (Or.inr (hw _ (List.mem_of_getElem? (i := 98) rfl))) (Or.inl (hw _ (List.mem_of_getElem? (i := 105) rfl))) (by decide) (t := .long) (t' := .long) (by decide) (by decide))))
    have fx41 : Fld Z h2 o0 "com/example/firm_tread/firmtread/destination/Fill" "fillings" "J" (.long fi) := (Fld.other W2 P4 (Or.inr (slot_ne (Or.inl (hw _ (List.mem_of_getElem? (i := 124) rfl))) (Or.inl (hw _ (List.mem_of_getElem? (i := 105) rfl))) (by decide) (t := .long) (t' := .long) (by decide) (by decide))))
    have fx42 : Fld Z h2 o0 "com/example/firm_tread/firmtread/destination/Fill" "owed" "J" (.long ow) := (Fld.other W2 P5 (Or.inr (slot_ne (Or.inl (hw _ (List.mem_of_getElem? (i := 126) rfl))) (Or.inl (hw _ (List.mem_of_getElem? (i := 105) rfl))) (by decide) (t := .long) (t' := .long) (by decide) (by decide))))
    have fx43 : Fld Z h2 o0 "com/example/firm_tread/firmtread/destination/Fill" "waiters" "Lcom/example/firm_tread/firmtread/destination/Waiters;" (.ref w1) := (Fld.other W2 P6 (Or.inr (slot_ne (Or.inr (hw _ (List.mem_of_getElem? (i := 94) rfl))) (Or.inl (hw _ (List.mem_of_getElem? (i := 105) rfl))) (by decide) (t := (.object "com/example/firm_tread/firmtread/destination/Waiters")) (t' := .long) (by decide) (by decide))))
    have fx44 : Fld Z h2 o0 "com/example/firm_tread/firmtread/destination/Fill" "owing" "Lcom/example/firm_tread/firmtread/destination/Waiters;" (.ref w2) := (Fld.other W2 P13 (Or.inr (slot_ne (Or.inr (hw _ (List.mem_of_getElem? (i := 96) rfl))) (Or.inl (hw _ (List.mem_of_getElem? (i := 105) rfl))) (by decide) (t := (.object "com/example/firm_tread/firmtread/destination/Waiters")) (t' := .long) (by decide) (by decide))))
    rw [← hQQ]
    exact ⟨fu, rfl, N2, K2, fx39, fx40, fw2, fx3, fx41, fx42, fx43, fx44⟩
theorem pn_rm0 : plainName "com/example/firm_tread/firmtread/destination/FillAddPinLaw" = true := by first | (simp [plainName, overriddenIn]; done) | decide +kernel
theorem pd0_0 : parseMethodDescriptor "(JJ)J" = some ⟨[.long, .long], some .long⟩ := by decide +kernel
theorem pd0_1 : parseMethodDescriptor "(J)V" = some ⟨[.long], none⟩ := by decide +kernel
theorem pd0_2 : parseMethodDescriptor "()J" = some ⟨[], some .long⟩ := by decide +kernel
theorem pd0_3 : parseMethodDescriptor "()Z" = some ⟨[], some .boolean⟩ := by decide +kernel
theorem ef_rm0 (m : MethodId) (q0 : Int64) (q1 : Int64) (q2 : Int64) (q3 : Int64) : entryFrame m #[(.long q0), (.long q1), (.long q2), (.long q3)] maxLocals = mkF m 0 #[.val (.long q0), .second, .val (.long q1), .second, .val (.long q2), .second, .val (.long q3), .second, .unset, .unset, .unset, .unset, .unset, .unset, .unset, .unset, .unset, .unset, .unset, .unset, .unset, .unset] [] := by first | (simp [entryFrame, mkF, argsToLocals, Value.category, maxLocals]; done) | rfl
set_option maxRecDepth 65536 in
set_option maxHeartbeats 40000000 in
theorem rm0 (l : Launch) (Z : State) (a0 : Array Value) (hw : ∀ d ∈ tables_1, d.before a0 Z = true) (q0 : Int64) (q1 : Int64) (q2 : Int64) (q3 : Int64)  (h0 : Heap) (n0 : Nat) (Z0 : n0 ≤ h0.size) :
    own_Met l Z x code maxLocals ret tables_1 room_1 #[(.long q0), (.long q1), (.long q2), (.long q3)] h0 24 192 (fun v h L => v = some (.int 1) ∧ Fr n0 L) := by
  refine own_met (plainFor_of_name pn_rm0) ?_
  intro p e s m below meth c s₁ Bd hml0 hZ X0 e0
  have hx := Bd.exec
  have hby := Bd.bytes
  have hml : c.maxLocals = 22 := hml0
  have hown : s.vm.findClass "com/example/firm_tread/firmtread/destination/FillAddPinLaw" = some m.cls := findClass_of_methodNamed Bd.named
  have hnm := (name_of_methodNamed Bd.named Bd.method).1
  refine own_cast (ef_rm0 m q0 q1 q2 q3) ?_
  generalize hQQ : (fun (v : Option Value) (h : Heap) (L : List Loc) => v = some (.int 1) ∧ Fr n0 L) = QQ
  have N0 := Fr.nil n0
  refine own_go (g' := (mkF m 1 #[.val (.long q0), .second, .val (.long q1), .second, .val (.long q2), .second, .val (.long q3), .second, .unset, .unset, .unset, .unset, .unset, .unset, .unset, .unset, .unset, .unset, .unset, .unset, .unset, .unset] [(.long (1 : Int64))])) (fun _ kgo => XS.lconst X0.here hx rfl (hb hby at_0) kgo) ?_
  refine own_go (g' := (mkF m 2 #[.val (.long q0), .second, .val (.long q1), .second, .val (.long q2), .second, .val (.long q3), .second, .unset, .unset, .unset, .unset, .unset, .unset, .unset, .unset, .unset, .unset, .unset, .unset, .unset, .unset] [(.long q0), (.long (1 : Int64))])) (fun _ kgo => XS.lloadN X0.here hx rfl (hb hby at_1) rfl kgo) ?_
  refine own_go (g' := (mkF m 5 #[.val (.long q0), .second, .val (.long q1), .second, .val (.long q2), .second, .val (.long q3), .second, .unset, .unset, .unset, .unset, .unset, .unset, .unset, .unset, .unset, .unset, .unset, .unset, .unset, .unset] [(.long (9223372036854775807 : Int64)), (.long q0), (.long (1 : Int64))])) (X0.ldc2Long hx hown (mvT hZ (hw _ (List.mem_of_getElem? (i := 0) rfl))) (g := (mkF m 2 #[.val (.long q0), .second, .val (.long q1), .second, .val (.long q2), .second, .val (.long q3), .second, .unset, .unset, .unset, .unset, .unset, .unset, .unset, .unset, .unset, .unset, .unset, .unset, .unset, .unset] [(.long q0), (.long (1 : Int64))])) rfl (hb hby at_2)) ?_
  refine own_go (g' := (mkF m 6 #[.val (.long q0), .second, .val (.long q1), .second, .val (.long q2), .second, .val (.long q3), .second, .unset, .unset, .unset, .unset, .unset, .unset, .unset, .unset, .unset, .unset, .unset, .unset, .unset, .unset] [(.long (q0 &&& (9223372036854775807 : Int64))), (.long (1 : Int64))])) (fun _ kgo => XS.land X0.here hx rfl (hb hby at_5) rfl kgo) ?_
  obtain ⟨v1, T1, L1, hQ1, X1, st1⟩ := own_callS X0 hx hZ (y := (⟨"java/lang/Math", "max", "(JJ)J"⟩ : MethodName)) hown (hw _ (List.mem_of_getElem? (i := 1) rfl)) (hw _ (List.mem_of_getElem? (i := 2) rfl)) (hw _ (List.mem_of_getElem? (i := 3) rfl)) (hw _ (List.mem_of_getElem? (i := 4) rfl)) ⟨by decide, by decide⟩ (argsL := [(.long (1 : Int64)), (.long (q0 &&& (9223372036854775807 : Int64)))]) (rm1 l Z a0 hw (1 : Int64) (q0 &&& (9223372036854775807 : Int64)) h0) e0 (g := (mkF m 6 #[.val (.long q0), .second, .val (.long q1), .second, .val (.long q2), .second, .val (.long q3), .second, .unset, .unset, .unset, .unset, .unset, .unset, .unset, .unset, .unset, .unset, .unset, .unset, .unset, .unset] [(.long (q0 &&& (9223372036854775807 : Int64))), (.long (1 : Int64))])) rfl (by rw [hml]; rfl) (rest := []) (lenOf pd0_0 rfl) rfl (hb hby at_6) (W := 0) (by show 2 * 0 + _ ≤ _; exact Nat.le_of_eq rfl) (by decide) (by decide) (by decide) (by decide)
  obtain ⟨rfl, e1, rfl⟩ := hQ1
  have N1 := Fr.app N0 (Fr.nil n0)
  refine own_go (g' := (mkF m 9 #[.val (.long q0), .second, .val (.long q1), .second, .val (.long q2), .second, .val (.long q3), .second, .unset, .unset, .unset, .unset, .unset, .unset, .unset, .unset, .unset, .unset, .unset, .unset, .unset, .unset] [(.long (own_max (1 : Int64) (q0 &&& (9223372036854775807 : Int64))))])) (st1) ?_
  have hcp := own_cap (q0 &&& (9223372036854775807 : Int64))
  suffices JNecap : ∀ cap : Int64, cap = (own_max (1 : Int64) (q0 &&& (9223372036854775807 : Int64))) → own_Go p e below (own_Post s QQ 24 192) T1 (mkF m 9 #[.val (.long q0), .second, .val (.long q1), .second, .val (.long q2), .second, .val (.long q3), .second, .unset, .unset, .unset, .unset, .unset, .unset, .unset, .unset, .unset, .unset, .unset, .unset, .unset, .unset] [(.long cap)]) from JNecap _ (rfl)
  intro cap ecap
  rw [← ecap] at hcp
  refine own_go (g' := (mkF m 11 #[.val (.long q0), .second, .val (.long q1), .second, .val (.long q2), .second, .val (.long q3), .second, .val (.long cap), .second, .unset, .unset, .unset, .unset, .unset, .unset, .unset, .unset, .unset, .unset, .unset, .unset] [])) (fun _ kgo => XS.lstore X1.here hx rfl (hb hby at_9) rfl (l' := #[.val (.long q0), .second, .val (.long q1), .second, .val (.long q2), .second, .val (.long q3), .second, .val (.long cap), .second, .unset, .unset, .unset, .unset, .unset, .unset, .unset, .unset, .unset, .unset, .unset, .unset]) rfl kgo) ?_
  refine own_go (g' := (mkF m 12 #[.val (.long q0), .second, .val (.long q1), .second, .val (.long q2), .second, .val (.long q3), .second, .val (.long cap), .second, .unset, .unset, .unset, .unset, .unset, .unset, .unset, .unset, .unset, .unset, .unset, .unset] [(.long q1)])) (fun _ kgo => XS.lloadN X1.here hx rfl (hb hby at_11) rfl kgo) ?_
  refine own_go (g' := (mkF m 15 #[.val (.long q0), .second, .val (.long q1), .second, .val (.long q2), .second, .val (.long q3), .second, .val (.long cap), .second, .unset, .unset, .unset, .unset, .unset, .unset, .unset, .unset, .unset, .unset, .unset, .unset] [(.long (4611686018427387903 : Int64)), (.long q1)])) (X1.ldc2Long hx hown (mvT hZ (hw _ (List.mem_of_getElem? (i := 5) rfl))) (g := (mkF m 12 #[.val (.long q0), .second, .val (.long q1), .second, .val (.long q2), .second, .val (.long q3), .second, .val (.long cap), .second, .unset, .unset, .unset, .unset, .unset, .unset, .unset, .unset, .unset, .unset, .unset, .unset] [(.long q1)])) rfl (hb hby at_12)) ?_
  refine own_go (g' := (mkF m 16 #[.val (.long q0), .second, .val (.long q1), .second, .val (.long q2), .second, .val (.long q3), .second, .val (.long cap), .second, .unset, .unset, .unset, .unset, .unset, .unset, .unset, .unset, .unset, .unset, .unset, .unset] [(.long (q1 &&& (4611686018427387903 : Int64)))])) (fun _ kgo => XS.land X1.here hx rfl (hb hby at_15) rfl kgo) ?_
  suffices JNeaa : ∀ aa : Int64, aa = (q1 &&& (4611686018427387903 : Int64)) → own_Go p e below (own_Post s QQ 24 192) T1 (mkF m 16 #[.val (.long q0), .second, .val (.long q1), .second, .val (.long q2), .second, .val (.long q3), .second, .val (.long cap), .second, .unset, .unset, .unset, .unset, .unset, .unset, .unset, .unset, .unset, .unset, .unset, .unset] [(.long aa)]) from JNeaa _ (rfl)
  intro aa eaa
  refine own_go (g' := (mkF m 18 #[.val (.long q0), .second, .val (.long q1), .second, .val (.long q2), .second, .val (.long q3), .second, .val (.long cap), .second, .val (.long aa), .second, .unset, .unset, .unset, .unset, .unset, .unset, .unset, .unset, .unset, .unset] [])) (fun _ kgo => XS.lstore X1.here hx rfl (hb hby at_16) rfl (l' := #[.val (.long q0), .second, .val (.long q1), .second, .val (.long q2), .second, .val (.long q3), .second, .val (.long cap), .second, .val (.long aa), .second, .unset, .unset, .unset, .unset, .unset, .unset, .unset, .unset, .unset, .unset]) rfl kgo) ?_
  refine own_go (g' := (mkF m 20 #[.val (.long q0), .second, .val (.long q1), .second, .val (.long q2), .second, .val (.long q3), .second, .val (.long cap), .second, .val (.long aa), .second, .unset, .unset, .unset, .unset, .unset, .unset, .unset, .unset, .unset, .unset] [(.long q3)])) (fun _ kgo => XS.lload X1.here hx rfl (hb hby at_18) rfl kgo) ?_
  refine own_go (g' := (mkF m 23 #[.val (.long q0), .second, .val (.long q1), .second, .val (.long q2), .second, .val (.long q3), .second, .val (.long cap), .second, .val (.long aa), .second, .unset, .unset, .unset, .unset, .unset, .unset, .unset, .unset, .unset, .unset] [(.long (4611686018427387903 : Int64)), (.long q3)])) (X1.ldc2Long hx hown (mvT hZ (hw _ (List.mem_of_getElem? (i := 5) rfl))) (g := (mkF m 20 #[.val (.long q0), .second, .val (.long q1), .second, .val (.long q2), .second, .val (.long q3), .second, .val (.long cap), .second, .val (.long aa), .second, .unset, .unset, .unset, .unset, .unset, .unset, .unset, .unset, .unset, .unset] [(.long q3)])) rfl (hb hby at_20)) ?_
  refine own_go (g' := (mkF m 24 #[.val (.long q0), .second, .val (.long q1), .second, .val (.long q2), .second, .val (.long q3), .second, .val (.long cap), .second, .val (.long aa), .second, .unset, .unset, .unset, .unset, .unset, .unset, .unset, .unset, .unset, .unset] [(.long (q3 &&& (4611686018427387903 : Int64)))])) (fun _ kgo => XS.land X1.here hx rfl (hb hby at_23) rfl kgo) ?_
  suffices JNebb : ∀ bb : Int64, bb = (q3 &&& (4611686018427387903 : Int64)) → own_Go p e below (own_Post s QQ 24 192) T1 (mkF m 24 #[.val (.long q0), .second, .val (.long q1), .second, .val (.long q2), .second, .val (.long q3), .second, .val (.long cap), .second, .val (.long aa), .second, .unset, .unset, .unset, .unset, .unset, .unset, .unset, .unset, .unset, .unset] [(.long bb)]) from JNebb _ (rfl)
  intro bb ebb
  refine own_go (g' := (mkF m 26 #[.val (.long q0), .second, .val (.long q1), .second, .val (.long q2), .second, .val (.long q3), .second, .val (.long cap), .second, .val (.long aa), .second, .val (.long bb), .second, .unset, .unset, .unset, .unset, .unset, .unset, .unset, .unset] [])) (fun _ kgo => XS.lstore X1.here hx rfl (hb hby at_24) rfl (l' := #[.val (.long q0), .second, .val (.long q1), .second, .val (.long q2), .second, .val (.long q3), .second, .val (.long cap), .second, .val (.long aa), .second, .val (.long bb), .second, .unset, .unset, .unset, .unset, .unset, .unset, .unset, .unset]) rfl kgo) ?_
  refine own_go (g' := (mkF m 28 #[.val (.long q0), .second, .val (.long q1), .second, .val (.long q2), .second, .val (.long q3), .second, .val (.long cap), .second, .val (.long aa), .second, .val (.long bb), .second, .unset, .unset, .unset, .unset, .unset, .unset, .unset, .unset] [(.long q2)])) (fun _ kgo => XS.lload X1.here hx rfl (hb hby at_26) rfl kgo) ?_
  refine own_go (g' := (mkF m 31 #[.val (.long q0), .second, .val (.long q1), .second, .val (.long q2), .second, .val (.long q3), .second, .val (.long cap), .second, .val (.long aa), .second, .val (.long bb), .second, .unset, .unset, .unset, .unset, .unset, .unset, .unset, .unset] [(.long (9223372036854775807 : Int64)), (.long q2)])) (X1.ldc2Long hx hown (mvT hZ (hw _ (List.mem_of_getElem? (i := 0) rfl))) (g := (mkF m 28 #[.val (.long q0), .second, .val (.long q1), .second, .val (.long q2), .second, .val (.long q3), .second, .val (.long cap), .second, .val (.long aa), .second, .val (.long bb), .second, .unset, .unset, .unset, .unset, .unset, .unset, .unset, .unset] [(.long q2)])) rfl (hb hby at_28)) ?_
  refine own_go (g' := (mkF m 32 #[.val (.long q0), .second, .val (.long q1), .second, .val (.long q2), .second, .val (.long q3), .second, .val (.long cap), .second, .val (.long aa), .second, .val (.long bb), .second, .unset, .unset, .unset, .unset, .unset, .unset, .unset, .unset] [(.long (q2 &&& (9223372036854775807 : Int64)))])) (fun _ kgo => XS.land X1.here hx rfl (hb hby at_31) rfl kgo) ?_
  refine own_go (g' := (mkF m 34 #[.val (.long q0), .second, .val (.long q1), .second, .val (.long q2), .second, .val (.long q3), .second, .val (.long cap), .second, .val (.long aa), .second, .val (.long bb), .second, .unset, .unset, .unset, .unset, .unset, .unset, .unset, .unset] [(.long aa), (.long (q2 &&& (9223372036854775807 : Int64)))])) (fun _ kgo => XS.lload X1.here hx rfl (hb hby at_32) rfl kgo) ?_
  refine own_go (g' := (mkF m 35 #[.val (.long q0), .second, .val (.long q1), .second, .val (.long q2), .second, .val (.long q3), .second, .val (.long cap), .second, .val (.long aa), .second, .val (.long bb), .second, .unset, .unset, .unset, .unset, .unset, .unset, .unset, .unset] [(.long (1 : Int64)), (.long aa), (.long (q2 &&& (9223372036854775807 : Int64)))])) (fun _ kgo => XS.lconst X1.here hx rfl (hb hby at_34) kgo) ?_
  refine own_go (g' := (mkF m 36 #[.val (.long q0), .second, .val (.long q1), .second, .val (.long q2), .second, .val (.long q3), .second, .val (.long cap), .second, .val (.long aa), .second, .val (.long bb), .second, .unset, .unset, .unset, .unset, .unset, .unset, .unset, .unset] [(.long (aa + (1 : Int64))), (.long (q2 &&& (9223372036854775807 : Int64)))])) (fun _ kgo => XS.ladd X1.here hx rfl (hb hby at_35) rfl kgo) ?_
  refine own_go (g' := (mkF m 37 #[.val (.long q0), .second, .val (.long q1), .second, .val (.long q2), .second, .val (.long q3), .second, .val (.long cap), .second, .val (.long aa), .second, .val (.long bb), .second, .unset, .unset, .unset, .unset, .unset, .unset, .unset, .unset] [(.long ((q2 &&& (9223372036854775807 : Int64)) % (aa + (1 : Int64))))])) (fun _ kgo => own_lrem X1 hx rfl (hb hby at_36) rfl (eaa ▸ own_nz _) kgo) ?_
  suffices JNerr : ∀ rr : Int64, rr = ((q2 &&& (9223372036854775807 : Int64)) % (aa + (1 : Int64))) → own_Go p e below (own_Post s QQ 24 192) T1 (mkF m 37 #[.val (.long q0), .second, .val (.long q1), .second, .val (.long q2), .second, .val (.long q3), .second, .val (.long cap), .second, .val (.long aa), .second, .val (.long bb), .second, .unset, .unset, .unset, .unset, .unset, .unset, .unset, .unset] [(.long rr)]) from JNerr _ (rfl)
  intro rr err
  refine own_go (g' := (mkF m 39 #[.val (.long q0), .second, .val (.long q1), .second, .val (.long q2), .second, .val (.long q3), .second, .val (.long cap), .second, .val (.long aa), .second, .val (.long bb), .second, .val (.long rr), .second, .unset, .unset, .unset, .unset, .unset, .unset] [])) (fun _ kgo => XS.lstore X1.here hx rfl (hb hby at_37) rfl (l' := #[.val (.long q0), .second, .val (.long q1), .second, .val (.long q2), .second, .val (.long q3), .second, .val (.long cap), .second, .val (.long aa), .second, .val (.long bb), .second, .val (.long rr), .second, .unset, .unset, .unset, .unset, .unset, .unset]) rfl kgo) ?_
  obtain ⟨T2, h2, X2, e2, E2, A2, D2, -, st2⟩ := newO X1 hx hZ hown (hw _ (List.mem_of_getElem? (i := 6) rfl)) (hw _ (List.mem_of_getElem? (i := 7) rfl)) (hw _ (List.mem_of_getElem? (i := 8) rfl)) e1 (g := (mkF m 39 #[.val (.long q0), .second, .val (.long q1), .second, .val (.long q2), .second, .val (.long q3), .second, .val (.long cap), .second, .val (.long aa), .second, .val (.long bb), .second, .val (.long rr), .second, .unset, .unset, .unset, .unset, .unset, .unset] [])) rfl (hb hby at_39) (by decide) (by decide)
  obtain ⟨b2, ad2⟩ : ∃ z, z = h0.size := ⟨_, rfl⟩
  rw [← ad2] at A2 D2 st2
  have ge_b2 : n0 ≤ b2 := by rw [ad2]; exact Z0
  have Z2 : n0 ≤ h2.size := Nat.le_trans Z0 E2.1
  have F2_waiters : Fld Z h2 b2 "com/example/firm_tread/firmtread/destination/Fill" "waiters" "Lcom/example/firm_tread/firmtread/destination/Waiters;" .null := D2 (Or.inr (hw _ (List.mem_of_getElem? (i := 94) rfl))) (ty := (.object "com/example/firm_tread/firmtread/destination/Waiters")) (by decide)
  have F2_owing : Fld Z h2 b2 "com/example/firm_tread/firmtread/destination/Fill" "owing" "Lcom/example/firm_tread/firmtread/destination/Waiters;" .null := D2 (Or.inr (hw _ (List.mem_of_getElem? (i := 96) rfl))) (ty := (.object "com/example/firm_tread/firmtread/destination/Waiters")) (by decide)
  have F2_cap : Fld Z h2 b2 "com/example/firm_tread/firmtread/destination/Fill" "cap" "J" (.long (0 : Int64)) := D2 (Or.inr (hw _ (List.mem_of_getElem? (i := 98) rfl))) (ty := .long) (by decide)
  have F2_octets : Fld Z h2 b2 "com/example/firm_tread/firmtread/destination/Fill" "octets" "J" (.long (0 : Int64)) := D2 (Or.inl (hw _ (List.mem_of_getElem? (i := 105) rfl))) (ty := .long) (by decide)
  have F2_full : Fld Z h2 b2 "com/example/firm_tread/firmtread/destination/Fill" "full" "Z" (.int (0 : Int32)) := D2 (Or.inl (hw _ (List.mem_of_getElem? (i := 107) rfl))) (ty := .boolean) (by decide)
  have F2_fillings : Fld Z h2 b2 "com/example/firm_tread/firmtread/destination/Fill" "fillings" "J" (.long (0 : Int64)) := D2 (Or.inl (hw _ (List.mem_of_getElem? (i := 124) rfl))) (ty := .long) (by decide)
  have F2_owed : Fld Z h2 b2 "com/example/firm_tread/firmtread/destination/Fill" "owed" "J" (.long (0 : Int64)) := D2 (Or.inl (hw _ (List.mem_of_getElem? (i := 126) rfl))) (ty := .long) (by decide)
  refine own_go (g' := (mkF m 42 #[.val (.long q0), .second, .val (.long q1), .second, .val (.long q2), .second, .val (.long q3), .second, .val (.long cap), .second, .val (.long aa), .second, .val (.long bb), .second, .val (.long rr), .second, .unset, .unset, .unset, .unset, .unset, .unset] [(.ref b2)])) (st2) ?_
  refine own_go (g' := (mkF m 43 #[.val (.long q0), .second, .val (.long q1), .second, .val (.long q2), .second, .val (.long q3), .second, .val (.long cap), .second, .val (.long aa), .second, .val (.long bb), .second, .val (.long rr), .second, .unset, .unset, .unset, .unset, .unset, .unset] [(.ref b2), (.ref b2)])) (fun _ kgo => XS.dup X2.here hx rfl (hb hby at_42) rfl rfl kgo) ?_
  refine own_go (g' := (mkF m 45 #[.val (.long q0), .second, .val (.long q1), .second, .val (.long q2), .second, .val (.long q3), .second, .val (.long cap), .second, .val (.long aa), .second, .val (.long bb), .second, .val (.long rr), .second, .unset, .unset, .unset, .unset, .unset, .unset] [(.long cap), (.ref b2), (.ref b2)])) (fun _ kgo => XS.lload X2.here hx rfl (hb hby at_43) rfl kgo) ?_
  obtain ⟨v3, T3, L3, hQ3, X3, st3⟩ := own_callI X2 hx hZ (y := (⟨"com/example/firm_tread/firmtread/destination/Fill", "<init>", "(J)V"⟩ : MethodName)) rfl hown (hw _ (List.mem_of_getElem? (i := 9) rfl)) (hw _ (List.mem_of_getElem? (i := 10) rfl)) (hw _ (List.mem_of_getElem? (i := 8) rfl)) (hw _ (List.mem_of_getElem? (i := 11) rfl)) ⟨by decide, by decide⟩ (a := b2) (argsL := [(.long cap)]) (fil l Z a0 hw b2 cap h2 n0 Z2 ge_b2 A2 F2_waiters F2_owing F2_cap F2_octets F2_full F2_fillings F2_owed hcp) e2 (g := (mkF m 45 #[.val (.long q0), .second, .val (.long q1), .second, .val (.long q2), .second, .val (.long q3), .second, .val (.long cap), .second, .val (.long aa), .second, .val (.long bb), .second, .val (.long rr), .second, .unset, .unset, .unset, .unset, .unset, .unset] [(.long cap), (.ref b2), (.ref b2)])) rfl (by rw [hml]; rfl) (rest := [(.ref b2)]) (lenOf pd0_1 rfl) rfl (hb hby at_45) (W := 1) (by show 2 * 0 + _ ≤ _; exact Nat.le_of_eq rfl) (by decide) (by decide) (by decide) (by decide)
  obtain ⟨w13, l13, m13, w23, l23, m23, rfl, Nq3, Kq3, pr3_0, pr3_1, pr3_2, pr3_3, pr3_4, pr3_5, q3_0, q3_1, q3_2, q3_3, q3_4, q3_5, q3_6, q3_7, q3_8, q3_9, q3_10, q3_11, q3_12, q3_13, q3_14, q3_15, q3_16, q3_17, q3_18, q3_19⟩ := hQ3
  have ne_b2_w13 : b2 ≠ w13 := Nat.ne_of_lt (Nat.lt_of_lt_of_le A2.lt pr3_0)
  have ge_w13 : n0 ≤ w13 := Nat.le_trans Z2 pr3_0
  have ne_b2_l13 : b2 ≠ l13 := Nat.ne_of_lt (Nat.lt_of_lt_of_le A2.lt pr3_1)
  have ge_l13 : n0 ≤ l13 := Nat.le_trans Z2 pr3_1
  have ne_b2_m13 : b2 ≠ m13 := Nat.ne_of_lt (Nat.lt_of_lt_of_le A2.lt pr3_2)
  have ge_m13 : n0 ≤ m13 := Nat.le_trans Z2 pr3_2
  have ne_b2_w23 : b2 ≠ w23 := Nat.ne_of_lt (Nat.lt_of_lt_of_le A2.lt pr3_3)
  have ge_w23 : n0 ≤ w23 := Nat.le_trans Z2 pr3_3
  have ne_b2_l23 : b2 ≠ l23 := Nat.ne_of_lt (Nat.lt_of_lt_of_le A2.lt pr3_4)
  have ge_l23 : n0 ≤ l23 := Nat.le_trans Z2 pr3_4
  have ne_b2_m23 : b2 ≠ m23 := Nat.ne_of_lt (Nat.lt_of_lt_of_le A2.lt pr3_5)
  have ge_m23 : n0 ≤ m23 := Nat.le_trans Z2 pr3_5
  have N3 := Fr.app N1 Nq3
  have Z3 : n0 ≤ T3.heap.size := Nat.le_trans Z2 Kq3.1
  refine own_go (g' := (mkF m 48 #[.val (.long q0), .second, .val (.long q1), .second, .val (.long q2), .second, .val (.long q3), .second, .val (.long cap), .second, .val (.long aa), .second, .val (.long bb), .second, .val (.long rr), .second, .unset, .unset, .unset, .unset, .unset, .unset] [(.ref b2)])) (st3) ?_
  refine own_go (g' := (mkF m 50 #[.val (.long q0), .second, .val (.long q1), .second, .val (.long q2), .second, .val (.long q3), .second, .val (.long cap), .second, .val (.long aa), .second, .val (.long bb), .second, .val (.long rr), .second, .val (.ref b2), .unset, .unset, .unset, .unset, .unset] [])) (fun _ kgo => XS.astore X3.here hx rfl (hb hby at_48) rfl rfl (l' := #[.val (.long q0), .second, .val (.long q1), .second, .val (.long q2), .second, .val (.long q3), .second, .val (.long cap), .second, .val (.long aa), .second, .val (.long bb), .second, .val (.long rr), .second, .val (.ref b2), .unset, .unset, .unset, .unset, .unset]) rfl kgo) ?_
  refine own_go (g' := (mkF m 52 #[.val (.long q0), .second, .val (.long q1), .second, .val (.long q2), .second, .val (.long q3), .second, .val (.long cap), .second, .val (.long aa), .second, .val (.long bb), .second, .val (.long rr), .second, .val (.ref b2), .unset, .unset, .unset, .unset, .unset] [(.ref b2)])) (fun _ kgo => XS.aload X3.here hx rfl (hb hby at_50) rfl rfl kgo) ?_
  refine own_go (g' := (mkF m 54 #[.val (.long q0), .second, .val (.long q1), .second, .val (.long q2), .second, .val (.long q3), .second, .val (.long cap), .second, .val (.long aa), .second, .val (.long bb), .second, .val (.long rr), .second, .val (.ref b2), .unset, .unset, .unset, .unset, .unset] [(.long aa), (.ref b2)])) (fun _ kgo => XS.lload X3.here hx rfl (hb hby at_52) rfl kgo) ?_
  obtain ⟨v4, T4, L4, hQ4, X4, st4⟩ := own_callV X3 hx hZ (y := (⟨"com/example/firm_tread/firmtread/destination/Fill", "add", "(J)V"⟩ : MethodName)) (z := (⟨"com/example/firm_tread/firmtread/destination/Fill", "add", "(J)V"⟩ : MethodName)) hown (hw _ (List.mem_of_getElem? (i := 99) rfl)) (hw _ (List.mem_of_getElem? (i := 100) rfl)) (notFace_of_selects (args := #[]) (mvT hZ (hw _ (List.mem_of_getElem? (i := 102) rfl)))) (hw _ (List.mem_of_getElem? (i := 102) rfl)) (hw _ (List.mem_of_getElem? (i := 101) rfl)) (hw _ (List.mem_of_getElem? (i := 8) rfl)) (hw _ (List.mem_of_getElem? (i := 103) rfl)) ⟨by decide, by decide⟩ (a := b2) (argsL := [(.long aa)]) (rm15 l Z a0 hw b2 aa (0 : Int64) false (0 : Int64) (0 : Int64) cap w13 w23 T3.heap n0 Z3 ge_b2 q3_0 q3_1 q3_2 q3_3 q3_4 q3_5 q3_6 q3_13) rfl q3_0 (g := (mkF m 54 #[.val (.long q0), .second, .val (.long q1), .second, .val (.long q2), .second, .val (.long q3), .second, .val (.long cap), .second, .val (.long aa), .second, .val (.long bb), .second, .val (.long rr), .second, .val (.ref b2), .unset, .unset, .unset, .unset, .unset] [(.long aa), (.ref b2)])) rfl (by rw [hml]; rfl) (rest := []) (lenOf pd0_1 rfl) rfl (hb hby at_54) (W := 0) (by show 2 * 0 + _ ≤ _; exact Nat.le_of_eq rfl) (by decide) (by decide) (by decide) (by decide)
  obtain ⟨fi'4, ow'4, rfl, Nq4, Kq4, q4_0, q4_1, q4_2, q4_3, q4_4, q4_5, q4_6, q4_7⟩ := hQ4
  have N4 := Fr.app N3 Nq4
  have Z4 : n0 ≤ T4.heap.size := Nat.le_trans Z3 Kq4.1
  refine own_go (g' := (mkF m 57 #[.val (.long q0), .second, .val (.long q1), .second, .val (.long q2), .second, .val (.long q3), .second, .val (.long cap), .second, .val (.long aa), .second, .val (.long bb), .second, .val (.long rr), .second, .val (.ref b2), .unset, .unset, .unset, .unset, .unset] [])) (st4) ?_
  refine own_go (g' := (mkF m 59 #[.val (.long q0), .second, .val (.long q1), .second, .val (.long q2), .second, .val (.long q3), .second, .val (.long cap), .second, .val (.long aa), .second, .val (.long bb), .second, .val (.long rr), .second, .val (.ref b2), .unset, .unset, .unset, .unset, .unset] [(.ref b2)])) (fun _ kgo => XS.aload X4.here hx rfl (hb hby at_57) rfl rfl kgo) ?_
  obtain ⟨v5, T5, L5, hQ5, X5, st5⟩ := own_callV X4 hx hZ (y := (⟨"com/example/firm_tread/firmtread/destination/Fill", "octets", "()J"⟩ : MethodName)) (z := (⟨"com/example/firm_tread/firmtread/destination/Fill", "octets", "()J"⟩ : MethodName)) hown (hw _ (List.mem_of_getElem? (i := 108) rfl)) (hw _ (List.mem_of_getElem? (i := 109) rfl)) (notFace_of_selects (args := #[]) (mvT hZ (hw _ (List.mem_of_getElem? (i := 111) rfl)))) (hw _ (List.mem_of_getElem? (i := 111) rfl)) (hw _ (List.mem_of_getElem? (i := 110) rfl)) (hw _ (List.mem_of_getElem? (i := 8) rfl)) (hw _ (List.mem_of_getElem? (i := 112) rfl)) ⟨by decide, by decide⟩ (a := b2) (argsL := []) (rm16 l Z a0 hw b2 ((0 : Int64) + aa) T4.heap q4_2) rfl q4_0 (g := (mkF m 59 #[.val (.long q0), .second, .val (.long q1), .second, .val (.long q2), .second, .val (.long q3), .second, .val (.long cap), .second, .val (.long aa), .second, .val (.long bb), .second, .val (.long rr), .second, .val (.ref b2), .unset, .unset, .unset, .unset, .unset] [(.ref b2)])) rfl (by rw [hml]; rfl) (rest := []) (lenOf pd0_2 rfl) rfl (hb hby at_59) (W := 0) (by show 2 * 0 + _ ≤ _; exact Nat.le_of_eq rfl) (by decide) (by decide) (by decide) (by decide)
  obtain ⟨rfl, e5, rfl⟩ := hQ5
  have N5 := Fr.app N4 (Fr.nil n0)
  refine own_go (g' := (mkF m 62 #[.val (.long q0), .second, .val (.long q1), .second, .val (.long q2), .second, .val (.long q3), .second, .val (.long cap), .second, .val (.long aa), .second, .val (.long bb), .second, .val (.long rr), .second, .val (.ref b2), .unset, .unset, .unset, .unset, .unset] [(.long ((0 : Int64) + aa))])) (st5) ?_
  refine own_go (g' := (mkF m 64 #[.val (.long q0), .second, .val (.long q1), .second, .val (.long q2), .second, .val (.long q3), .second, .val (.long cap), .second, .val (.long aa), .second, .val (.long bb), .second, .val (.long rr), .second, .val (.ref b2), .unset, .unset, .unset, .unset, .unset] [(.long aa), (.long ((0 : Int64) + aa))])) (fun _ kgo => XS.lload X5.here hx rfl (hb hby at_62) rfl kgo) ?_
  refine own_go (g' := (mkF m 65 #[.val (.long q0), .second, .val (.long q1), .second, .val (.long q2), .second, .val (.long q3), .second, .val (.long cap), .second, .val (.long aa), .second, .val (.long bb), .second, .val (.long rr), .second, .val (.ref b2), .unset, .unset, .unset, .unset, .unset] [(.int (lcmpW ((0 : Int64) + aa) aa))])) (fun _ kgo => XS.lcmp X5.here hx rfl (hb hby at_64) rfl kgo) ?_
  refine own_go (g' := (mkF m 68 #[.val (.long q0), .second, .val (.long q1), .second, .val (.long q2), .second, .val (.long q3), .second, .val (.long cap), .second, .val (.long aa), .second, .val (.long bb), .second, .val (.long rr), .second, .val (.ref b2), .unset, .unset, .unset, .unset, .unset] [])) (fun _ kgo => XS.ifNo X5.here hx rfl (hb hby at_65) rfl ((if0 _ _).trans (teq ((lw_eq _ _).mpr (Int64.zero_add _))).2) kgo) ?_
  refine own_go (g' := (mkF m 70 #[.val (.long q0), .second, .val (.long q1), .second, .val (.long q2), .second, .val (.long q3), .second, .val (.long cap), .second, .val (.long aa), .second, .val (.long bb), .second, .val (.long rr), .second, .val (.ref b2), .unset, .unset, .unset, .unset, .unset] [(.ref b2)])) (fun _ kgo => XS.aload X5.here hx rfl (hb hby at_68) rfl rfl kgo) ?_
  obtain ⟨v6, T6, L6, hQ6, X6, st6⟩ := own_callV X5 hx hZ (y := (⟨"com/example/firm_tread/firmtread/destination/Fill", "isFull", "()Z"⟩ : MethodName)) (z := (⟨"com/example/firm_tread/firmtread/destination/Fill", "isFull", "()Z"⟩ : MethodName)) hown (hw _ (List.mem_of_getElem? (i := 113) rfl)) (hw _ (List.mem_of_getElem? (i := 114) rfl)) (notFace_of_selects (args := #[]) (mvT hZ (hw _ (List.mem_of_getElem? (i := 116) rfl)))) (hw _ (List.mem_of_getElem? (i := 116) rfl)) (hw _ (List.mem_of_getElem? (i := 115) rfl)) (hw _ (List.mem_of_getElem? (i := 8) rfl)) (hw _ (List.mem_of_getElem? (i := 117) rfl)) ⟨by decide, by decide⟩ (a := b2) (argsL := []) (rm17 l Z a0 hw b2 (false || !decide (((0 : Int64) + aa) < cap)) T4.heap q4_3) e5 q4_0 (g := (mkF m 70 #[.val (.long q0), .second, .val (.long q1), .second, .val (.long q2), .second, .val (.long q3), .second, .val (.long cap), .second, .val (.long aa), .second, .val (.long bb), .second, .val (.long rr), .second, .val (.ref b2), .unset, .unset, .unset, .unset, .unset] [(.ref b2)])) rfl (by rw [hml]; rfl) (rest := []) (lenOf pd0_3 rfl) rfl (hb hby at_70) (W := 0) (by show 2 * 0 + _ ≤ _; exact Nat.le_of_eq rfl) (by decide) (by decide) (by decide) (by decide)
  obtain ⟨rfl, e6, rfl⟩ := hQ6
  have N6 := Fr.app N5 (Fr.nil n0)
  refine own_go (g' := (mkF m 73 #[.val (.long q0), .second, .val (.long q1), .second, .val (.long q2), .second, .val (.long q3), .second, .val (.long cap), .second, .val (.long aa), .second, .val (.long bb), .second, .val (.long rr), .second, .val (.ref b2), .unset, .unset, .unset, .unset, .unset] [(.int (own_b (false || !decide (((0 : Int64) + aa) < cap))))])) (st6) ?_
  refine own_go (g' := (mkF m 75 #[.val (.long q0), .second, .val (.long q1), .second, .val (.long q2), .second, .val (.long q3), .second, .val (.long cap), .second, .val (.long aa), .second, .val (.long bb), .second, .val (.long rr), .second, .val (.ref b2), .unset, .unset, .unset, .unset, .unset] [(.long aa), (.int (own_b (false || !decide (((0 : Int64) + aa) < cap))))])) (fun _ kgo => XS.lload X6.here hx rfl (hb hby at_73) rfl kgo) ?_
  refine own_go (g' := (mkF m 77 #[.val (.long q0), .second, .val (.long q1), .second, .val (.long q2), .second, .val (.long q3), .second, .val (.long cap), .second, .val (.long aa), .second, .val (.long bb), .second, .val (.long rr), .second, .val (.ref b2), .unset, .unset, .unset, .unset, .unset] [(.long cap), (.long aa), (.int (own_b (false || !decide (((0 : Int64) + aa) < cap))))])) (fun _ kgo => XS.lload X6.here hx rfl (hb hby at_75) rfl kgo) ?_
  refine own_go (g' := (mkF m 78 #[.val (.long q0), .second, .val (.long q1), .second, .val (.long q2), .second, .val (.long q3), .second, .val (.long cap), .second, .val (.long aa), .second, .val (.long bb), .second, .val (.long rr), .second, .val (.ref b2), .unset, .unset, .unset, .unset, .unset] [(.int (lcmpW aa cap)), (.int (own_b (false || !decide (((0 : Int64) + aa) < cap))))])) (fun _ kgo => XS.lcmp X6.here hx rfl (hb hby at_77) rfl kgo) ?_
  have J7 : own_Go p e below (own_Post s QQ 24 192) T6 (mkF m 86 #[.val (.long q0), .second, .val (.long q1), .second, .val (.long q2), .second, .val (.long q3), .second, .val (.long cap), .second, .val (.long aa), .second, .val (.long bb), .second, .val (.long rr), .second, .val (.ref b2), .unset, .unset, .unset, .unset, .unset] [(.int (own_b (!decide (aa < cap)))), (.int (own_b (false || !decide (((0 : Int64) + aa) < cap))))]) := by
    refine own_go (g' := (mkF m 89 #[.val (.long q0), .second, .val (.long q1), .second, .val (.long q2), .second, .val (.long q3), .second, .val (.long cap), .second, .val (.long aa), .second, .val (.long bb), .second, .val (.long rr), .second, .val (.ref b2), .unset, .unset, .unset, .unset, .unset] [])) (fun _ kgo => XS.icmpNo X6.here hx rfl (hb hby at_86) rfl (teq (congrArg own_b (show ((false || !decide (((0 : Int64) + aa) < cap))) = ((!decide (aa < cap))) from by rw [Int64.zero_add]; rfl))).2 kgo) ?_
    refine own_go (g' := (mkF m 90 #[.val (.long q0), .second, .val (.long q1), .second, .val (.long q2), .second, .val (.long q3), .second, .val (.long cap), .second, .val (.long aa), .second, .val (.long bb), .second, .val (.long rr), .second, .val (.ref b2), .unset, .unset, .unset, .unset, .unset] [(.int (1 : Int32))])) (fun _ kgo => XS.iconst X6.here hx rfl (hb hby at_89) kgo) ?_
    refine own_go (g' := (mkF m 94 #[.val (.long q0), .second, .val (.long q1), .second, .val (.long q2), .second, .val (.long q3), .second, .val (.long cap), .second, .val (.long aa), .second, .val (.long bb), .second, .val (.long rr), .second, .val (.ref b2), .unset, .unset, .unset, .unset, .unset] [(.int (1 : Int32))])) (fun _ kgo => XS.goto X6.here hx rfl (pc0 := 90) (pc' := 94) rfl (hb hby at_90) (by decide) (by decide) kgo) ?_
    refine own_go (g' := (mkF m 96 #[.val (.long q0), .second, .val (.long q1), .second, .val (.long q2), .second, .val (.long q3), .second, .val (.long cap), .second, .val (.long aa), .second, .val (.long bb), .second, .val (.long rr), .second, .val (.ref b2), .val (.int (1 : Int32)), .unset, .unset, .unset, .unset] [])) (fun _ kgo => XS.istore X6.here hx rfl (hb hby at_94) rfl (l' := #[.val (.long q0), .second, .val (.long q1), .second, .val (.long q2), .second, .val (.long q3), .second, .val (.long cap), .second, .val (.long aa), .second, .val (.long bb), .second, .val (.long rr), .second, .val (.ref b2), .val (.int (1 : Int32)), .unset, .unset, .unset, .unset]) rfl kgo) ?_
    refine own_go (g' := (mkF m 98 #[.val (.long q0), .second, .val (.long q1), .second, .val (.long q2), .second, .val (.long q3), .second, .val (.long cap), .second, .val (.long aa), .second, .val (.long bb), .second, .val (.long rr), .second, .val (.ref b2), .val (.int (1 : Int32)), .unset, .unset, .unset, .unset] [(.ref b2)])) (fun _ kgo => XS.aload X6.here hx rfl (hb hby at_96) rfl rfl kgo) ?_
    refine own_go (g' := (mkF m 100 #[.val (.long q0), .second, .val (.long q1), .second, .val (.long q2), .second, .val (.long q3), .second, .val (.long cap), .second, .val (.long aa), .second, .val (.long bb), .second, .val (.long rr), .second, .val (.ref b2), .val (.int (1 : Int32)), .unset, .unset, .unset, .unset] [(.long rr), (.ref b2)])) (fun _ kgo => XS.lload X6.here hx rfl (hb hby at_98) rfl kgo) ?_
    have fx9 : Exa Z T4.heap w13 "com/example/firm_tread/firmtread/destination/Waiters" := (Exa.keep q3_7 Kq4)
    have fx10 : Fld Z T4.heap w13 "com/example/firm_tread/firmtread/destination/Waiters" "waiting" "Ljava/util/Set;" (.ref l13) := (Fld.keep q3_8 Kq4 (ninS (Ne.symm ne_b2_w13) nin0))
    have fx11 : Exa Z T4.heap l13 "java/util/LinkedHashSet" := (Exa.keep q3_9 Kq4)
    have fx12 : Fld Z T4.heap l13 "java/util/HashSet" "map" "Ljava/util/HashMap;" (.ref m13) := (Fld.keep q3_10 Kq4 (ninS (Ne.symm ne_b2_l13) nin0))
    have fx13 : Exa Z T4.heap m13 "java/util/LinkedHashMap" := (Exa.keep q3_11 Kq4)
    have fx14 : Fld Z T4.heap m13 "java/util/HashMap" "size" "I" (.int (0 : Int32)) := (Fld.keep q3_12 Kq4 (ninS (Ne.symm ne_b2_m13) nin0))
    have fx15 : Exa Z T4.heap w23 "com/example/firm_tread/firmtread/destination/Waiters" := (Exa.keep q3_14 Kq4)
    have fx16 : Fld Z T4.heap w23 "com/example/firm_tread/firmtread/destination/Waiters" "waiting" "Ljava/util/Set;" (.ref l23) := (Fld.keep q3_15 Kq4 (ninS (Ne.symm ne_b2_w23) nin0))
    have fx17 : Exa Z T4.heap l23 "java/util/LinkedHashSet" := (Exa.keep q3_16 Kq4)
    have fx18 : Fld Z T4.heap l23 "java/util/HashSet" "map" "Ljava/util/HashMap;" (.ref m23) := (Fld.keep q3_17 Kq4 (ninS (Ne.symm ne_b2_l23) nin0))
    have fx19 : Exa Z T4.heap m23 "java/util/LinkedHashMap" := (Exa.keep q3_18 Kq4)
    have fx20 : Fld Z T4.heap m23 "java/util/HashMap" "size" "I" (.int (0 : Int32)) := (Fld.keep q3_19 Kq4 (ninS (Ne.symm ne_b2_m23) nin0))
    obtain ⟨v8, T8, L8, hQ8, X8, st8⟩ := own_callV X6 hx hZ (y := (⟨"com/example/firm_tread/firmtread/destination/Fill", "remove", "(J)V"⟩ : MethodName)) (z := (⟨"com/example/firm_tread/firmtread/destination/Fill", "remove", "(J)V"⟩ : MethodName)) hown (hw _ (List.mem_of_getElem? (i := 118) rfl)) (hw _ (List.mem_of_getElem? (i := 119) rfl)) (notFace_of_selects (args := #[]) (mvT hZ (hw _ (List.mem_of_getElem? (i := 121) rfl)))) (hw _ (List.mem_of_getElem? (i := 121) rfl)) (hw _ (List.mem_of_getElem? (i := 120) rfl)) (hw _ (List.mem_of_getElem? (i := 8) rfl)) (hw _ (List.mem_of_getElem? (i := 122) rfl)) ⟨by decide, by decide⟩ (a := b2) (argsL := [(.long rr)]) (rm18 l Z a0 hw b2 rr ((0 : Int64) + aa) (false || !decide (((0 : Int64) + aa) < cap)) fi'4 ow'4 cap w13 l13 m13 w23 l23 m23 T4.heap n0 Z4 ge_b2 q4_0 q4_1 q4_2 q4_3 q4_4 q4_5 q4_6 fx9 fx10 fx11 fx12 fx13 fx14 q4_7 fx15 fx16 fx17 fx18 fx19 fx20 ne_b2_w13 ne_b2_l13 ne_b2_m13 ne_b2_w23 ne_b2_l23 ne_b2_m23) e6 q4_0 (g := (mkF m 100 #[.val (.long q0), .second, .val (.long q1), .second, .val (.long q2), .second, .val (.long q3), .second, .val (.long cap), .second, .val (.long aa), .second, .val (.long bb), .second, .val (.long rr), .second, .val (.ref b2), .val (.int (1 : Int32)), .unset, .unset, .unset, .unset] [(.long rr), (.ref b2)])) rfl (by rw [hml]; rfl) (rest := []) (lenOf pd0_1 rfl) rfl (hb hby at_100) (W := 0) (by show 2 * 0 + _ ≤ _; exact Nat.le_of_eq rfl) (by decide) (by decide) (by decide) (by decide)
    obtain ⟨fu'8, rfl, Nq8, Kq8, q8_0, q8_1, q8_2, q8_3, q8_4, q8_5, q8_6, q8_7⟩ := hQ8
    have N8 := Fr.app N6 Nq8
    have Z8 : n0 ≤ T8.heap.size := Nat.le_trans Z4 Kq8.1
    refine own_go (g' := (mkF m 103 #[.val (.long q0), .second, .val (.long q1), .second, .val (.long q2), .second, .val (.long q3), .second, .val (.long cap), .second, .val (.long aa), .second, .val (.long bb), .second, .val (.long rr), .second, .val (.ref b2), .val (.int (1 : Int32)), .unset, .unset, .unset, .unset] [])) (st8) ?_
    refine own_go (g' := (mkF m 105 #[.val (.long q0), .second, .val (.long q1), .second, .val (.long q2), .second, .val (.long q3), .second, .val (.long cap), .second, .val (.long aa), .second, .val (.long bb), .second, .val (.long rr), .second, .val (.ref b2), .val (.int (1 : Int32)), .unset, .unset, .unset, .unset] [(.ref b2)])) (fun _ kgo => XS.aload X8.here hx rfl (hb hby at_103) rfl rfl kgo) ?_
    obtain ⟨v21, T21, L21, hQ21, X21, st21⟩ := own_callV X8 hx hZ (y := (⟨"com/example/firm_tread/firmtread/destination/Fill", "octets", "()J"⟩ : MethodName)) (z := (⟨"com/example/firm_tread/firmtread/destination/Fill", "octets", "()J"⟩ : MethodName)) hown (hw _ (List.mem_of_getElem? (i := 108) rfl)) (hw _ (List.mem_of_getElem? (i := 109) rfl)) (notFace_of_selects (args := #[]) (mvT hZ (hw _ (List.mem_of_getElem? (i := 111) rfl)))) (hw _ (List.mem_of_getElem? (i := 111) rfl)) (hw _ (List.mem_of_getElem? (i := 110) rfl)) (hw _ (List.mem_of_getElem? (i := 8) rfl)) (hw _ (List.mem_of_getElem? (i := 112) rfl)) ⟨by decide, by decide⟩ (a := b2) (argsL := []) (rm16 l Z a0 hw b2 (((0 : Int64) + aa) - rr) T8.heap q8_2) rfl q8_0 (g := (mkF m 105 #[.val (.long q0), .second, .val (.long q1), .second, .val (.long q2), .second, .val (.long q3), .second, .val (.long cap), .second, .val (.long aa), .second, .val (.long bb), .second, .val (.long rr), .second, .val (.ref b2), .val (.int (1 : Int32)), .unset, .unset, .unset, .unset] [(.ref b2)])) rfl (by rw [hml]; rfl) (rest := []) (lenOf pd0_2 rfl) rfl (hb hby at_105) (W := 0) (by show 2 * 0 + _ ≤ _; exact Nat.le_of_eq rfl) (by decide) (by decide) (by decide) (by decide)
    obtain ⟨rfl, e21, rfl⟩ := hQ21
    have N21 := Fr.app N8 (Fr.nil n0)
    refine own_go (g' := (mkF m 108 #[.val (.long q0), .second, .val (.long q1), .second, .val (.long q2), .second, .val (.long q3), .second, .val (.long cap), .second, .val (.long aa), .second, .val (.long bb), .second, .val (.long rr), .second, .val (.ref b2), .val (.int (1 : Int32)), .unset, .unset, .unset, .unset] [(.long (((0 : Int64) + aa) - rr))])) (st21) ?_
    suffices JNho2 : ∀ o2 : Int64, o2 = (((0 : Int64) + aa) - rr) → own_Go p e below (own_Post s QQ 24 192) T21 (mkF m 108 #[.val (.long q0), .second, .val (.long q1), .second, .val (.long q2), .second, .val (.long q3), .second, .val (.long cap), .second, .val (.long aa), .second, .val (.long bb), .second, .val (.long rr), .second, .val (.ref b2), .val (.int (1 : Int32)), .unset, .unset, .unset, .unset] [(.long o2)]) from JNho2 _ (rfl)
    intro o2 ho2
    refine own_go (g' := (mkF m 110 #[.val (.long q0), .second, .val (.long q1), .second, .val (.long q2), .second, .val (.long q3), .second, .val (.long cap), .second, .val (.long aa), .second, .val (.long bb), .second, .val (.long rr), .second, .val (.ref b2), .val (.int (1 : Int32)), .val (.long o2), .second, .unset, .unset] [])) (fun _ kgo => XS.lstore X21.here hx rfl (hb hby at_108) rfl (l' := #[.val (.long q0), .second, .val (.long q1), .second, .val (.long q2), .second, .val (.long q3), .second, .val (.long cap), .second, .val (.long aa), .second, .val (.long bb), .second, .val (.long rr), .second, .val (.ref b2), .val (.int (1 : Int32)), .val (.long o2), .second, .unset, .unset]) rfl kgo) ?_
    refine own_go (g' := (mkF m 112 #[.val (.long q0), .second, .val (.long q1), .second, .val (.long q2), .second, .val (.long q3), .second, .val (.long cap), .second, .val (.long aa), .second, .val (.long bb), .second, .val (.long rr), .second, .val (.ref b2), .val (.int (1 : Int32)), .val (.long o2), .second, .unset, .unset] [(.ref b2)])) (fun _ kgo => XS.aload X21.here hx rfl (hb hby at_110) rfl rfl kgo) ?_
    obtain ⟨v22, T22, L22, hQ22, X22, st22⟩ := own_callV X21 hx hZ (y := (⟨"com/example/firm_tread/firmtread/destination/Fill", "isFull", "()Z"⟩ : MethodName)) (z := (⟨"com/example/firm_tread/firmtread/destination/Fill", "isFull", "()Z"⟩ : MethodName)) hown (hw _ (List.mem_of_getElem? (i := 113) rfl)) (hw _ (List.mem_of_getElem? (i := 114) rfl)) (notFace_of_selects (args := #[]) (mvT hZ (hw _ (List.mem_of_getElem? (i := 116) rfl)))) (hw _ (List.mem_of_getElem? (i := 116) rfl)) (hw _ (List.mem_of_getElem? (i := 115) rfl)) (hw _ (List.mem_of_getElem? (i := 8) rfl)) (hw _ (List.mem_of_getElem? (i := 117) rfl)) ⟨by decide, by decide⟩ (a := b2) (argsL := []) (rm17 l Z a0 hw b2 fu'8 T8.heap q8_3) e21 q8_0 (g := (mkF m 112 #[.val (.long q0), .second, .val (.long q1), .second, .val (.long q2), .second, .val (.long q3), .second, .val (.long cap), .second, .val (.long aa), .second, .val (.long bb), .second, .val (.long rr), .second, .val (.ref b2), .val (.int (1 : Int32)), .val (.long o2), .second, .unset, .unset] [(.ref b2)])) rfl (by rw [hml]; rfl) (rest := []) (lenOf pd0_3 rfl) rfl (hb hby at_112) (W := 0) (by show 2 * 0 + _ ≤ _; exact Nat.le_of_eq rfl) (by decide) (by decide) (by decide) (by decide)
    obtain ⟨rfl, e22, rfl⟩ := hQ22
    have N22 := Fr.app N21 (Fr.nil n0)
    refine own_go (g' := (mkF m 115 #[.val (.long q0), .second, .val (.long q1), .second, .val (.long q2), .second, .val (.long q3), .second, .val (.long cap), .second, .val (.long aa), .second, .val (.long bb), .second, .val (.long rr), .second, .val (.ref b2), .val (.int (1 : Int32)), .val (.long o2), .second, .unset, .unset] [(.int (own_b fu'8))])) (st22) ?_
    suffices JNhf2 : ∀ f2 : Bool, f2 = fu'8 → own_Go p e below (own_Post s QQ 24 192) T22 (mkF m 115 #[.val (.long q0), .second, .val (.long q1), .second, .val (.long q2), .second, .val (.long q3), .second, .val (.long cap), .second, .val (.long aa), .second, .val (.long bb), .second, .val (.long rr), .second, .val (.ref b2), .val (.int (1 : Int32)), .val (.long o2), .second, .unset, .unset] [(.int (own_b f2))]) from JNhf2 _ (rfl)
    intro f2 hf2
    refine own_go (g' := (mkF m 117 #[.val (.long q0), .second, .val (.long q1), .second, .val (.long q2), .second, .val (.long q3), .second, .val (.long cap), .second, .val (.long aa), .second, .val (.long bb), .second, .val (.long rr), .second, .val (.ref b2), .val (.int (1 : Int32)), .val (.long o2), .second, .val (.int (own_b f2)), .unset] [])) (fun _ kgo => XS.istore X22.here hx rfl (hb hby at_115) rfl (l' := #[.val (.long q0), .second, .val (.long q1), .second, .val (.long q2), .second, .val (.long q3), .second, .val (.long cap), .second, .val (.long aa), .second, .val (.long bb), .second, .val (.long rr), .second, .val (.ref b2), .val (.int (1 : Int32)), .val (.long o2), .second, .val (.int (own_b f2)), .unset]) rfl kgo) ?_
    refine own_go (g' := (mkF m 119 #[.val (.long q0), .second, .val (.long q1), .second, .val (.long q2), .second, .val (.long q3), .second, .val (.long cap), .second, .val (.long aa), .second, .val (.long bb), .second, .val (.long rr), .second, .val (.ref b2), .val (.int (1 : Int32)), .val (.long o2), .second, .val (.int (own_b f2)), .unset] [(.ref b2)])) (fun _ kgo => XS.aload X22.here hx rfl (hb hby at_117) rfl rfl kgo) ?_
    refine own_go (g' := (mkF m 121 #[.val (.long q0), .second, .val (.long q1), .second, .val (.long q2), .second, .val (.long q3), .second, .val (.long cap), .second, .val (.long aa), .second, .val (.long bb), .second, .val (.long rr), .second, .val (.ref b2), .val (.int (1 : Int32)), .val (.long o2), .second, .val (.int (own_b f2)), .unset] [(.long bb), (.ref b2)])) (fun _ kgo => XS.lload X22.here hx rfl (hb hby at_119) rfl kgo) ?_
    obtain ⟨v23, T23, L23, hQ23, X23, st23⟩ := own_callV X22 hx hZ (y := (⟨"com/example/firm_tread/firmtread/destination/Fill", "add", "(J)V"⟩ : MethodName)) (z := (⟨"com/example/firm_tread/firmtread/destination/Fill", "add", "(J)V"⟩ : MethodName)) hown (hw _ (List.mem_of_getElem? (i := 99) rfl)) (hw _ (List.mem_of_getElem? (i := 100) rfl)) (notFace_of_selects (args := #[]) (mvT hZ (hw _ (List.mem_of_getElem? (i := 102) rfl)))) (hw _ (List.mem_of_getElem? (i := 102) rfl)) (hw _ (List.mem_of_getElem? (i := 101) rfl)) (hw _ (List.mem_of_getElem? (i := 8) rfl)) (hw _ (List.mem_of_getElem? (i := 103) rfl)) ⟨by decide, by decide⟩ (a := b2) (argsL := [(.long bb)]) (rm15 l Z a0 hw b2 bb (((0 : Int64) + aa) - rr) fu'8 fi'4 ow'4 cap w13 w23 T8.heap n0 Z8 ge_b2 q8_0 q8_1 q8_2 q8_3 q8_4 q8_5 q8_6 q8_7) e22 q8_0 (g := (mkF m 121 #[.val (.long q0), .second, .val (.long q1), .second, .val (.long q2), .second, .val (.long q3), .second, .val (.long cap), .second, .val (.long aa), .second, .val (.long bb), .second, .val (.long rr), .second, .val (.ref b2), .val (.int (1 : Int32)), .val (.long o2), .second, .val (.int (own_b f2)), .unset] [(.long bb), (.ref b2)])) rfl (by rw [hml]; rfl) (rest := []) (lenOf pd0_1 rfl) rfl (hb hby at_121) (W := 0) (by show 2 * 0 + _ ≤ _; exact Nat.le_of_eq rfl) (by decide) (by decide) (by decide) (by decide)
    obtain ⟨fi'23, ow'23, rfl, Nq23, Kq23, q23_0, q23_1, q23_2, q23_3, q23_4, q23_5, q23_6, q23_7⟩ := hQ23
    have N23 := Fr.app N22 Nq23
    have Z23 : n0 ≤ T23.heap.size := Nat.le_trans Z8 Kq23.1
    refine own_go (g' := (mkF m 124 #[.val (.long q0), .second, .val (.long q1), .second, .val (.long q2), .second, .val (.long q3), .second, .val (.long cap), .second, .val (.long aa), .second, .val (.long bb), .second, .val (.long rr), .second, .val (.ref b2), .val (.int (1 : Int32)), .val (.long o2), .second, .val (.int (own_b f2)), .unset] [])) (st23) ?_
    refine own_go (g' := (mkF m 126 #[.val (.long q0), .second, .val (.long q1), .second, .val (.long q2), .second, .val (.long q3), .second, .val (.long cap), .second, .val (.long aa), .second, .val (.long bb), .second, .val (.long rr), .second, .val (.ref b2), .val (.int (1 : Int32)), .val (.long o2), .second, .val (.int (own_b f2)), .unset] [(.ref b2)])) (fun _ kgo => XS.aload X23.here hx rfl (hb hby at_124) rfl rfl kgo) ?_
    obtain ⟨v24, T24, L24, hQ24, X24, st24⟩ := own_callV X23 hx hZ (y := (⟨"com/example/firm_tread/firmtread/destination/Fill", "octets", "()J"⟩ : MethodName)) (z := (⟨"com/example/firm_tread/firmtread/destination/Fill", "octets", "()J"⟩ : MethodName)) hown (hw _ (List.mem_of_getElem? (i := 108) rfl)) (hw _ (List.mem_of_getElem? (i := 109) rfl)) (notFace_of_selects (args := #[]) (mvT hZ (hw _ (List.mem_of_getElem? (i := 111) rfl)))) (hw _ (List.mem_of_getElem? (i := 111) rfl)) (hw _ (List.mem_of_getElem? (i := 110) rfl)) (hw _ (List.mem_of_getElem? (i := 8) rfl)) (hw _ (List.mem_of_getElem? (i := 112) rfl)) ⟨by decide, by decide⟩ (a := b2) (argsL := []) (rm16 l Z a0 hw b2 ((((0 : Int64) + aa) - rr) + bb) T23.heap q23_2) rfl q23_0 (g := (mkF m 126 #[.val (.long q0), .second, .val (.long q1), .second, .val (.long q2), .second, .val (.long q3), .second, .val (.long cap), .second, .val (.long aa), .second, .val (.long bb), .second, .val (.long rr), .second, .val (.ref b2), .val (.int (1 : Int32)), .val (.long o2), .second, .val (.int (own_b f2)), .unset] [(.ref b2)])) rfl (by rw [hml]; rfl) (rest := []) (lenOf pd0_2 rfl) rfl (hb hby at_126) (W := 0) (by show 2 * 0 + _ ≤ _; exact Nat.le_of_eq rfl) (by decide) (by decide) (by decide) (by decide)
    obtain ⟨rfl, e24, rfl⟩ := hQ24
    have N24 := Fr.app N23 (Fr.nil n0)
    refine own_go (g' := (mkF m 129 #[.val (.long q0), .second, .val (.long q1), .second, .val (.long q2), .second, .val (.long q3), .second, .val (.long cap), .second, .val (.long aa), .second, .val (.long bb), .second, .val (.long rr), .second, .val (.ref b2), .val (.int (1 : Int32)), .val (.long o2), .second, .val (.int (own_b f2)), .unset] [(.long ((((0 : Int64) + aa) - rr) + bb))])) (st24) ?_
    refine own_go (g' := (mkF m 131 #[.val (.long q0), .second, .val (.long q1), .second, .val (.long q2), .second, .val (.long q3), .second, .val (.long cap), .second, .val (.long aa), .second, .val (.long bb), .second, .val (.long rr), .second, .val (.ref b2), .val (.int (1 : Int32)), .val (.long o2), .second, .val (.int (own_b f2)), .unset] [(.long o2), (.long ((((0 : Int64) + aa) - rr) + bb))])) (fun _ kgo => XS.lload X24.here hx rfl (hb hby at_129) rfl kgo) ?_
    refine own_go (g' := (mkF m 133 #[.val (.long q0), .second, .val (.long q1), .second, .val (.long q2), .second, .val (.long q3), .second, .val (.long cap), .second, .val (.long aa), .second, .val (.long bb), .second, .val (.long rr), .second, .val (.ref b2), .val (.int (1 : Int32)), .val (.long o2), .second, .val (.int (own_b f2)), .unset] [(.long bb), (.long o2), (.long ((((0 : Int64) + aa) - rr) + bb))])) (fun _ kgo => XS.lload X24.here hx rfl (hb hby at_131) rfl kgo) ?_
    refine own_go (g' := (mkF m 134 #[.val (.long q0), .second, .val (.long q1), .second, .val (.long q2), .second, .val (.long q3), .second, .val (.long cap), .second, .val (.long aa), .second, .val (.long bb), .second, .val (.long rr), .second, .val (.ref b2), .val (.int (1 : Int32)), .val (.long o2), .second, .val (.int (own_b f2)), .unset] [(.long (o2 + bb)), (.long ((((0 : Int64) + aa) - rr) + bb))])) (fun _ kgo => XS.ladd X24.here hx rfl (hb hby at_133) rfl kgo) ?_
    refine own_go (g' := (mkF m 135 #[.val (.long q0), .second, .val (.long q1), .second, .val (.long q2), .second, .val (.long q3), .second, .val (.long cap), .second, .val (.long aa), .second, .val (.long bb), .second, .val (.long rr), .second, .val (.ref b2), .val (.int (1 : Int32)), .val (.long o2), .second, .val (.int (own_b f2)), .unset] [(.int (lcmpW ((((0 : Int64) + aa) - rr) + bb) (o2 + bb)))])) (fun _ kgo => XS.lcmp X24.here hx rfl (hb hby at_134) rfl kgo) ?_
    refine own_go (g' := (mkF m 138 #[.val (.long q0), .second, .val (.long q1), .second, .val (.long q2), .second, .val (.long q3), .second, .val (.long cap), .second, .val (.long aa), .second, .val (.long bb), .second, .val (.long rr), .second, .val (.ref b2), .val (.int (1 : Int32)), .val (.long o2), .second, .val (.int (own_b f2)), .unset] [])) (fun _ kgo => XS.ifNo X24.here hx rfl (hb hby at_135) rfl ((if0 _ _).trans (teq ((lw_eq _ _).mpr (by rw [ho2]))).2) kgo) ?_
    refine own_go (g' := (mkF m 140 #[.val (.long q0), .second, .val (.long q1), .second, .val (.long q2), .second, .val (.long q3), .second, .val (.long cap), .second, .val (.long aa), .second, .val (.long bb), .second, .val (.long rr), .second, .val (.ref b2), .val (.int (1 : Int32)), .val (.long o2), .second, .val (.int (own_b f2)), .unset] [(.ref b2)])) (fun _ kgo => XS.aload X24.here hx rfl (hb hby at_138) rfl rfl kgo) ?_
    obtain ⟨v25, T25, L25, hQ25, X25, st25⟩ := own_callV X24 hx hZ (y := (⟨"com/example/firm_tread/firmtread/destination/Fill", "isFull", "()Z"⟩ : MethodName)) (z := (⟨"com/example/firm_tread/firmtread/destination/Fill", "isFull", "()Z"⟩ : MethodName)) hown (hw _ (List.mem_of_getElem? (i := 113) rfl)) (hw _ (List.mem_of_getElem? (i := 114) rfl)) (notFace_of_selects (args := #[]) (mvT hZ (hw _ (List.mem_of_getElem? (i := 116) rfl)))) (hw _ (List.mem_of_getElem? (i := 116) rfl)) (hw _ (List.mem_of_getElem? (i := 115) rfl)) (hw _ (List.mem_of_getElem? (i := 8) rfl)) (hw _ (List.mem_of_getElem? (i := 117) rfl)) ⟨by decide, by decide⟩ (a := b2) (argsL := []) (rm17 l Z a0 hw b2 (fu'8 || !decide (((((0 : Int64) + aa) - rr) + bb) < cap)) T23.heap q23_3) e24 q23_0 (g := (mkF m 140 #[.val (.long q0), .second, .val (.long q1), .second, .val (.long q2), .second, .val (.long q3), .second, .val (.long cap), .second, .val (.long aa), .second, .val (.long bb), .second, .val (.long rr), .second, .val (.ref b2), .val (.int (1 : Int32)), .val (.long o2), .second, .val (.int (own_b f2)), .unset] [(.ref b2)])) rfl (by rw [hml]; rfl) (rest := []) (lenOf pd0_3 rfl) rfl (hb hby at_140) (W := 0) (by show 2 * 0 + _ ≤ _; exact Nat.le_of_eq rfl) (by decide) (by decide) (by decide) (by decide)
    obtain ⟨rfl, e25, rfl⟩ := hQ25
    have N25 := Fr.app N24 (Fr.nil n0)
    refine own_go (g' := (mkF m 143 #[.val (.long q0), .second, .val (.long q1), .second, .val (.long q2), .second, .val (.long q3), .second, .val (.long cap), .second, .val (.long aa), .second, .val (.long bb), .second, .val (.long rr), .second, .val (.ref b2), .val (.int (1 : Int32)), .val (.long o2), .second, .val (.int (own_b f2)), .unset] [(.int (own_b (fu'8 || !decide (((((0 : Int64) + aa) - rr) + bb) < cap))))])) (st25) ?_
    refine own_go (g' := (mkF m 145 #[.val (.long q0), .second, .val (.long q1), .second, .val (.long q2), .second, .val (.long q3), .second, .val (.long cap), .second, .val (.long aa), .second, .val (.long bb), .second, .val (.long rr), .second, .val (.ref b2), .val (.int (1 : Int32)), .val (.long o2), .second, .val (.int (own_b f2)), .unset] [(.int (own_b f2)), (.int (own_b (fu'8 || !decide (((((0 : Int64) + aa) - rr) + bb) < cap))))])) (fun _ kgo => XS.iload X25.here hx rfl (hb hby at_143) rfl kgo) ?_
    have J26 : own_Go p e below (own_Post s QQ 24 192) T25 (mkF m 164 #[.val (.long q0), .second, .val (.long q1), .second, .val (.long q2), .second, .val (.long q3), .second, .val (.long cap), .second, .val (.long aa), .second, .val (.long bb), .second, .val (.long rr), .second, .val (.ref b2), .val (.int (1 : Int32)), .val (.long o2), .second, .val (.int (own_b f2)), .unset] [(.int (own_b ((f2 || !decide ((o2 + bb) < cap))))), (.int (own_b (fu'8 || !decide (((((0 : Int64) + aa) - rr) + bb) < cap))))]) := by
      refine own_go (g' := (mkF m 167 #[.val (.long q0), .second, .val (.long q1), .second, .val (.long q2), .second, .val (.long q3), .second, .val (.long cap), .second, .val (.long aa), .second, .val (.long bb), .second, .val (.long rr), .second, .val (.ref b2), .val (.int (1 : Int32)), .val (.long o2), .second, .val (.int (own_b f2)), .unset] [])) (fun _ kgo => XS.icmpNo X25.here hx rfl (hb hby at_164) rfl (teq (congrArg own_b (show ((fu'8 || !decide (((((0 : Int64) + aa) - rr) + bb) < cap))) = (((f2 || !decide ((o2 + bb) < cap)))) from by rw [ho2, hf2]))).2 kgo) ?_
      refine own_go (g' := (mkF m 168 #[.val (.long q0), .second, .val (.long q1), .second, .val (.long q2), .second, .val (.long q3), .second, .val (.long cap), .second, .val (.long aa), .second, .val (.long bb), .second, .val (.long rr), .second, .val (.ref b2), .val (.int (1 : Int32)), .val (.long o2), .second, .val (.int (own_b f2)), .unset] [(.int (1 : Int32))])) (fun _ kgo => XS.iconst X25.here hx rfl (hb hby at_167) kgo) ?_
      refine own_go (g' := (mkF m 172 #[.val (.long q0), .second, .val (.long q1), .second, .val (.long q2), .second, .val (.long q3), .second, .val (.long cap), .second, .val (.long aa), .second, .val (.long bb), .second, .val (.long rr), .second, .val (.ref b2), .val (.int (1 : Int32)), .val (.long o2), .second, .val (.int (own_b f2)), .unset] [(.int (1 : Int32))])) (fun _ kgo => XS.goto X25.here hx rfl (pc0 := 168) (pc' := 172) rfl (hb hby at_168) (by decide) (by decide) kgo) ?_
      refine own_go (g' := (mkF m 174 #[.val (.long q0), .second, .val (.long q1), .second, .val (.long q2), .second, .val (.long q3), .second, .val (.long cap), .second, .val (.long aa), .second, .val (.long bb), .second, .val (.long rr), .second, .val (.ref b2), .val (.int (1 : Int32)), .val (.long o2), .second, .val (.int (own_b f2)), .val (.int (1 : Int32))] [])) (fun _ kgo => XS.istore X25.here hx rfl (hb hby at_172) rfl (l' := #[.val (.long q0), .second, .val (.long q1), .second, .val (.long q2), .second, .val (.long q3), .second, .val (.long cap), .second, .val (.long aa), .second, .val (.long bb), .second, .val (.long rr), .second, .val (.ref b2), .val (.int (1 : Int32)), .val (.long o2), .second, .val (.int (own_b f2)), .val (.int (1 : Int32))]) rfl kgo) ?_
      refine own_go (g' := (mkF m 176 #[.val (.long q0), .second, .val (.long q1), .second, .val (.long q2), .second, .val (.long q3), .second, .val (.long cap), .second, .val (.long aa), .second, .val (.long bb), .second, .val (.long rr), .second, .val (.ref b2), .val (.int (1 : Int32)), .val (.long o2), .second, .val (.int (own_b f2)), .val (.int (1 : Int32))] [(.int (1 : Int32))])) (fun _ kgo => XS.iload X25.here hx rfl (hb hby at_174) rfl kgo) ?_
      refine own_go (g' := (mkF m 179 #[.val (.long q0), .second, .val (.long q1), .second, .val (.long q2), .second, .val (.long q3), .second, .val (.long cap), .second, .val (.long aa), .second, .val (.long bb), .second, .val (.long rr), .second, .val (.ref b2), .val (.int (1 : Int32)), .val (.long o2), .second, .val (.int (own_b f2)), .val (.int (1 : Int32))] [])) (fun _ kgo => XS.ifNo X25.here hx rfl (hb hby at_176) rfl ((if0 _ _).trans (feq (by decide)).1) kgo) ?_
      refine own_go (g' := (mkF m 181 #[.val (.long q0), .second, .val (.long q1), .second, .val (.long q2), .second, .val (.long q3), .second, .val (.long cap), .second, .val (.long aa), .second, .val (.long bb), .second, .val (.long rr), .second, .val (.ref b2), .val (.int (1 : Int32)), .val (.long o2), .second, .val (.int (own_b f2)), .val (.int (1 : Int32))] [(.int (1 : Int32))])) (fun _ kgo => XS.iload X25.here hx rfl (hb hby at_179) rfl kgo) ?_
      refine own_go (g' := (mkF m 184 #[.val (.long q0), .second, .val (.long q1), .second, .val (.long q2), .second, .val (.long q3), .second, .val (.long cap), .second, .val (.long aa), .second, .val (.long bb), .second, .val (.long rr), .second, .val (.ref b2), .val (.int (1 : Int32)), .val (.long o2), .second, .val (.int (own_b f2)), .val (.int (1 : Int32))] [])) (fun _ kgo => XS.ifNo X25.here hx rfl (hb hby at_181) rfl ((if0 _ _).trans (feq (by decide)).1) kgo) ?_
      refine own_go (g' := (mkF m 185 #[.val (.long q0), .second, .val (.long q1), .second, .val (.long q2), .second, .val (.long q3), .second, .val (.long cap), .second, .val (.long aa), .second, .val (.long bb), .second, .val (.long rr), .second, .val (.ref b2), .val (.int (1 : Int32)), .val (.long o2), .second, .val (.int (own_b f2)), .val (.int (1 : Int32))] [(.int (1 : Int32))])) (fun _ kgo => XS.iconst X25.here hx rfl (hb hby at_184) kgo) ?_
      refine own_go (g' := (mkF m 189 #[.val (.long q0), .second, .val (.long q1), .second, .val (.long q2), .second, .val (.long q3), .second, .val (.long cap), .second, .val (.long aa), .second, .val (.long bb), .second, .val (.long rr), .second, .val (.ref b2), .val (.int (1 : Int32)), .val (.long o2), .second, .val (.int (own_b f2)), .val (.int (1 : Int32))] [(.int (1 : Int32))])) (fun _ kgo => XS.goto X25.here hx rfl (pc0 := 185) (pc' := 189) rfl (hb hby at_185) (by decide) (by decide) kgo) ?_
      refine own_retN X25 hx .boolean Bd.returns Bd.notSynchronized (by simp) (hb hby at_189) (by decide) (by decide) ?_
      show QQ _ T25.heap _
      rw [e25]
      rw [← hQQ]
      exact ⟨rfl, N25⟩
    by_cases hc27 : f2 = true
    ·
      refine own_go (g' := (mkF m 159 #[.val (.long q0), .second, .val (.long q1), .second, .val (.long q2), .second, .val (.long q3), .second, .val (.long cap), .second, .val (.long aa), .second, .val (.long bb), .second, .val (.long rr), .second, .val (.ref b2), .val (.int (1 : Int32)), .val (.long o2), .second, .val (.int (own_b f2)), .unset] [(.int (own_b (fu'8 || !decide (((((0 : Int64) + aa) - rr) + bb) < cap))))])) (fun _ kgo => XS.ifYes X25.here hx rfl (pc0 := 145) (pc' := 159) rfl (hb hby at_145) rfl ((if0 _ _).trans (feq (own_b_n hc27)).2) (by decide) (by decide) kgo) ?_
      refine own_go (g' := (mkF m 160 #[.val (.long q0), .second, .val (.long q1), .second, .val (.long q2), .second, .val (.long q3), .second, .val (.long cap), .second, .val (.long aa), .second, .val (.long bb), .second, .val (.long rr), .second, .val (.ref b2), .val (.int (1 : Int32)), .val (.long o2), .second, .val (.int (own_b f2)), .unset] [(.int (1 : Int32)), (.int (own_b (fu'8 || !decide (((((0 : Int64) + aa) - rr) + bb) < cap))))])) (fun _ kgo => XS.iconst X25.here hx rfl (hb hby at_159) kgo) ?_
      refine own_go (g' := (mkF m 164 #[.val (.long q0), .second, .val (.long q1), .second, .val (.long q2), .second, .val (.long q3), .second, .val (.long cap), .second, .val (.long aa), .second, .val (.long bb), .second, .val (.long rr), .second, .val (.ref b2), .val (.int (1 : Int32)), .val (.long o2), .second, .val (.int (own_b f2)), .unset] [(.int (1 : Int32)), (.int (own_b (fu'8 || !decide (((((0 : Int64) + aa) - rr) + bb) < cap))))])) (fun _ kgo => XS.goto X25.here hx rfl (pc0 := 160) (pc' := 164) rfl (hb hby at_160) (by decide) (by decide) kgo) ?_
      have hE26 : own_b ((f2 || !decide ((o2 + bb) < cap))) = (1 : Int32) := by simp only [hc27]; first | done | rfl
      exact own_cast (by rw [hE26]) J26
    ·
      refine own_go (g' := (mkF m 148 #[.val (.long q0), .second, .val (.long q1), .second, .val (.long q2), .second, .val (.long q3), .second, .val (.long cap), .second, .val (.long aa), .second, .val (.long bb), .second, .val (.long rr), .second, .val (.ref b2), .val (.int (1 : Int32)), .val (.long o2), .second, .val (.int (own_b f2)), .unset] [(.int (own_b (fu'8 || !decide (((((0 : Int64) + aa) - rr) + bb) < cap))))])) (fun _ kgo => XS.ifNo X25.here hx rfl (hb hby at_145) rfl ((if0 _ _).trans (teq (own_b_f hc27)).2) kgo) ?_
      refine own_go (g' := (mkF m 150 #[.val (.long q0), .second, .val (.long q1), .second, .val (.long q2), .second, .val (.long q3), .second, .val (.long cap), .second, .val (.long aa), .second, .val (.long bb), .second, .val (.long rr), .second, .val (.ref b2), .val (.int (1 : Int32)), .val (.long o2), .second, .val (.int (own_b f2)), .unset] [(.long o2), (.int (own_b (fu'8 || !decide (((((0 : Int64) + aa) - rr) + bb) < cap))))])) (fun _ kgo => XS.lload X25.here hx rfl (hb hby at_148) rfl kgo) ?_
      refine own_go (g' := (mkF m 152 #[.val (.long q0), .second, .val (.long q1), .second, .val (.long q2), .second, .val (.long q3), .second, .val (.long cap), .second, .val (.long aa), .second, .val (.long bb), .second, .val (.long rr), .second, .val (.ref b2), .val (.int (1 : Int32)), .val (.long o2), .second, .val (.int (own_b f2)), .unset] [(.long bb), (.long o2), (.int (own_b (fu'8 || !decide (((((0 : Int64) + aa) - rr) + bb) < cap))))])) (fun _ kgo => XS.lload X25.here hx rfl (hb hby at_150) rfl kgo) ?_
      refine own_go (g' := (mkF m 153 #[.val (.long q0), .second, .val (.long q1), .second, .val (.long q2), .second, .val (.long q3), .second, .val (.long cap), .second, .val (.long aa), .second, .val (.long bb), .second, .val (.long rr), .second, .val (.ref b2), .val (.int (1 : Int32)), .val (.long o2), .second, .val (.int (own_b f2)), .unset] [(.long (o2 + bb)), (.int (own_b (fu'8 || !decide (((((0 : Int64) + aa) - rr) + bb) < cap))))])) (fun _ kgo => XS.ladd X25.here hx rfl (hb hby at_152) rfl kgo) ?_
      refine own_go (g' := (mkF m 155 #[.val (.long q0), .second, .val (.long q1), .second, .val (.long q2), .second, .val (.long q3), .second, .val (.long cap), .second, .val (.long aa), .second, .val (.long bb), .second, .val (.long rr), .second, .val (.ref b2), .val (.int (1 : Int32)), .val (.long o2), .second, .val (.int (own_b f2)), .unset] [(.long cap), (.long (o2 + bb)), (.int (own_b (fu'8 || !decide (((((0 : Int64) + aa) - rr) + bb) < cap))))])) (fun _ kgo => XS.lload X25.here hx rfl (hb hby at_153) rfl kgo) ?_
      refine own_go (g' := (mkF m 156 #[.val (.long q0), .second, .val (.long q1), .second, .val (.long q2), .second, .val (.long q3), .second, .val (.long cap), .second, .val (.long aa), .second, .val (.long bb), .second, .val (.long rr), .second, .val (.ref b2), .val (.int (1 : Int32)), .val (.long o2), .second, .val (.int (own_b f2)), .unset] [(.int (lcmpW (o2 + bb) cap)), (.int (own_b (fu'8 || !decide (((((0 : Int64) + aa) - rr) + bb) < cap))))])) (fun _ kgo => XS.lcmp X25.here hx rfl (hb hby at_155) rfl kgo) ?_
      have J28 : own_Go p e below (own_Post s QQ 24 192) T25 (mkF m 164 #[.val (.long q0), .second, .val (.long q1), .second, .val (.long q2), .second, .val (.long q3), .second, .val (.long cap), .second, .val (.long aa), .second, .val (.long bb), .second, .val (.long rr), .second, .val (.ref b2), .val (.int (1 : Int32)), .val (.long o2), .second, .val (.int (own_b f2)), .unset] [(.int (own_b (!decide ((o2 + bb) < cap)))), (.int (own_b (fu'8 || !decide (((((0 : Int64) + aa) - rr) + bb) < cap))))]) := by
        have hE26 : own_b ((f2 || !decide ((o2 + bb) < cap))) = (own_b (!decide ((o2 + bb) < cap))) := by simp only [(Bool.eq_false_iff.mpr hc27)]; first | done | rfl
        exact own_cast (by rw [hE26]) J26
      by_cases hc29 : (o2 + bb) < cap
      ·
        refine own_go (g' := (mkF m 163 #[.val (.long q0), .second, .val (.long q1), .second, .val (.long q2), .second, .val (.long q3), .second, .val (.long cap), .second, .val (.long aa), .second, .val (.long bb), .second, .val (.long rr), .second, .val (.ref b2), .val (.int (1 : Int32)), .val (.long o2), .second, .val (.int (own_b f2)), .unset] [(.int (own_b (fu'8 || !decide (((((0 : Int64) + aa) - rr) + bb) < cap))))])) (fun _ kgo => XS.ifYes X25.here hx rfl (pc0 := 156) (pc' := 163) rfl (hb hby at_156) rfl ((if0 _ _).trans (tlt ((lw_lt _ _).mpr hc29)).1) (by decide) (by decide) kgo) ?_
        refine own_go (g' := (mkF m 164 #[.val (.long q0), .second, .val (.long q1), .second, .val (.long q2), .second, .val (.long q3), .second, .val (.long cap), .second, .val (.long aa), .second, .val (.long bb), .second, .val (.long rr), .second, .val (.ref b2), .val (.int (1 : Int32)), .val (.long o2), .second, .val (.int (own_b f2)), .unset] [(.int (0 : Int32)), (.int (own_b (fu'8 || !decide (((((0 : Int64) + aa) - rr) + bb) < cap))))])) (fun _ kgo => XS.iconst X25.here hx rfl (hb hby at_163) kgo) ?_
        have hE28 : own_b (!decide ((o2 + bb) < cap)) = (0 : Int32) := by simp only [decide_eq_true hc29]; first | done | rfl
        exact own_cast (by rw [hE28]) J28
      ·
        refine own_go (g' := (mkF m 159 #[.val (.long q0), .second, .val (.long q1), .second, .val (.long q2), .second, .val (.long q3), .second, .val (.long cap), .second, .val (.long aa), .second, .val (.long bb), .second, .val (.long rr), .second, .val (.ref b2), .val (.int (1 : Int32)), .val (.long o2), .second, .val (.int (own_b f2)), .unset] [(.int (own_b (fu'8 || !decide (((((0 : Int64) + aa) - rr) + bb) < cap))))])) (fun _ kgo => XS.ifNo X25.here hx rfl (hb hby at_156) rfl ((if0 _ _).trans (flt (mt (lw_lt _ _).mp hc29)).1) kgo) ?_
        refine own_go (g' := (mkF m 160 #[.val (.long q0), .second, .val (.long q1), .second, .val (.long q2), .second, .val (.long q3), .second, .val (.long cap), .second, .val (.long aa), .second, .val (.long bb), .second, .val (.long rr), .second, .val (.ref b2), .val (.int (1 : Int32)), .val (.long o2), .second, .val (.int (own_b f2)), .unset] [(.int (1 : Int32)), (.int (own_b (fu'8 || !decide (((((0 : Int64) + aa) - rr) + bb) < cap))))])) (fun _ kgo => XS.iconst X25.here hx rfl (hb hby at_159) kgo) ?_
        refine own_go (g' := (mkF m 164 #[.val (.long q0), .second, .val (.long q1), .second, .val (.long q2), .second, .val (.long q3), .second, .val (.long cap), .second, .val (.long aa), .second, .val (.long bb), .second, .val (.long rr), .second, .val (.ref b2), .val (.int (1 : Int32)), .val (.long o2), .second, .val (.int (own_b f2)), .unset] [(.int (1 : Int32)), (.int (own_b (fu'8 || !decide (((((0 : Int64) + aa) - rr) + bb) < cap))))])) (fun _ kgo => XS.goto X25.here hx rfl (pc0 := 160) (pc' := 164) rfl (hb hby at_160) (by decide) (by decide) kgo) ?_
        have hE28 : own_b (!decide ((o2 + bb) < cap)) = (1 : Int32) := by simp only [decide_eq_false hc29]; first | done | rfl
        exact own_cast (by rw [hE28]) J28
  by_cases hc30 : aa < cap
  ·
    refine own_go (g' := (mkF m 85 #[.val (.long q0), .second, .val (.long q1), .second, .val (.long q2), .second, .val (.long q3), .second, .val (.long cap), .second, .val (.long aa), .second, .val (.long bb), .second, .val (.long rr), .second, .val (.ref b2), .unset, .unset, .unset, .unset, .unset] [(.int (own_b (false || !decide (((0 : Int64) + aa) < cap))))])) (fun _ kgo => XS.ifYes X6.here hx rfl (pc0 := 78) (pc' := 85) rfl (hb hby at_78) rfl ((if0 _ _).trans (tlt ((lw_lt _ _).mpr hc30)).1) (by decide) (by decide) kgo) ?_
    refine own_go (g' := (mkF m 86 #[.val (.long q0), .second, .val (.long q1), .second, .val (.long q2), .second, .val (.long q3), .second, .val (.long cap), .second, .val (.long aa), .second, .val (.long bb), .second, .val (.long rr), .second, .val (.ref b2), .unset, .unset, .unset, .unset, .unset] [(.int (0 : Int32)), (.int (own_b (false || !decide (((0 : Int64) + aa) < cap))))])) (fun _ kgo => XS.iconst X6.here hx rfl (hb hby at_85) kgo) ?_
    have hE7 : own_b (!decide (aa < cap)) = (0 : Int32) := by simp only [decide_eq_true hc30]; first | done | rfl
    exact own_cast (by rw [hE7]) J7
  ·
    refine own_go (g' := (mkF m 81 #[.val (.long q0), .second, .val (.long q1), .second, .val (.long q2), .second, .val (.long q3), .second, .val (.long cap), .second, .val (.long aa), .second, .val (.long bb), .second, .val (.long rr), .second, .val (.ref b2), .unset, .unset, .unset, .unset, .unset] [(.int (own_b (false || !decide (((0 : Int64) + aa) < cap))))])) (fun _ kgo => XS.ifNo X6.here hx rfl (hb hby at_78) rfl ((if0 _ _).trans (flt (mt (lw_lt _ _).mp hc30)).1) kgo) ?_
    refine own_go (g' := (mkF m 82 #[.val (.long q0), .second, .val (.long q1), .second, .val (.long q2), .second, .val (.long q3), .second, .val (.long cap), .second, .val (.long aa), .second, .val (.long bb), .second, .val (.long rr), .second, .val (.ref b2), .unset, .unset, .unset, .unset, .unset] [(.int (1 : Int32)), (.int (own_b (false || !decide (((0 : Int64) + aa) < cap))))])) (fun _ kgo => XS.iconst X6.here hx rfl (hb hby at_81) kgo) ?_
    refine own_go (g' := (mkF m 86 #[.val (.long q0), .second, .val (.long q1), .second, .val (.long q2), .second, .val (.long q3), .second, .val (.long cap), .second, .val (.long aa), .second, .val (.long bb), .second, .val (.long rr), .second, .val (.ref b2), .unset, .unset, .unset, .unset, .unset] [(.int (1 : Int32)), (.int (own_b (false || !decide (((0 : Int64) + aa) < cap))))])) (fun _ kgo => XS.goto X6.here hx rfl (pc0 := 82) (pc' := 86) rfl (hb hby at_82) (by decide) (by decide) kgo) ?_
    have hE7 : own_b (!decide (aa < cap)) = (1 : Int32) := by simp only [decide_eq_false hc30]; first | done | rfl
    exact own_cast (by rw [hE7]) J7
set_option maxRecDepth 65536 in
set_option maxHeartbeats 40000000 in
theorem comes_1 {Post : Tables → Env → Array Value → State → Outcome → State → Prop} (hpost : ∀ tb e args s v u, (limb_1_1.after args s (.returned v) u = true ∧ limb_1_2.after args s (.returned v) u = true ∧ True) → FrameEnd s (.returned v) u (Jvm.fieldLocs frame_1_writes args s ++ Jvm.arrayLocs frame_1_arrays args s ++ Jvm.staticLocs frame_1_statics s) 24 192 → Post tb e args s (.returned v) u) :
    ArmFor flags0 classFile x code maxLocals ret World_1 tables_1 room_1 Calls_1 rest_1 Pre_1 Post := by
  intro l hfl _ _ p e ha hc hk s m args below hf hA hF happ hP
  obtain ⟨hcalls, hrest, hpre⟩ := hP
  obtain ⟨-, -, -, hnamed, -, -, -, hat⟩ := (Spec.applies_iff hf).mp happ
  obtain ⟨hg, hn⟩ := and_e (Cond.before_iff.mp (show (Jvm.Cond.and given_1 narrow_1).before args s = true from hpre))
  obtain ⟨g1, g2⟩ := and_e hg
  obtain ⟨g3, g4⟩ := and_e g2
  obtain ⟨g5, g6⟩ := and_e g4
  obtain ⟨g7, g8⟩ := and_e g6
  obtain ⟨w0, w1, w2, w3, rfl⟩ : ∃ w0 w1 w2 w3 : Value, args = #[w0, w1, w2, w3] := by
    have hs : args.size = 4 := by simpa [Cond.value, given_1] using g1
    obtain ⟨L⟩ := args
    match L, hs with
    | [w0, w1, w2, w3], _ => exact ⟨w0, w1, w2, w3, rfl⟩
  have hw := fun d (hd : d ∈ tables_1) => atoms_spec (ws := Jvm.Cond.code x code maxLocals ret :: tables_1) hat d (List.mem_cons_of_mem _ hd)
  obtain ⟨i0, ei0⟩ := isL_v g3
  obtain rfl : w0 = (.long i0) := Option.some.inj ei0
  obtain ⟨i1, ei1⟩ := isL_v g5
  obtain rfl : w1 = (.long i1) := Option.some.inj ei1
  obtain ⟨i2, ei2⟩ := isL_v g7
  obtain rfl : w2 = (.long i2) := Option.some.inj ei2
  obtain ⟨i3, ei3⟩ := isL_v g8
  obtain rfl : w3 = (.long i3) := Option.some.inj ei3
  obtain ⟨n, o, h1, h2, h3, _, L, rfl, ⟨rfl, N⟩, hq⟩ := rm0 l s _ hw i0 i1 i2 i3 s.heap s.heap.size (Nat.le_refl _) p e ha hc hk s m _ below hf ((Spec.applies_iff_loose hf).mp happ).1 ⟨rfl, State.Warmed39.refl s, rfl⟩ trivial
  refine ⟨n, _, h1, h2, h3, hpost _ _ _ _ _ _ ⟨Cond.after_iff.mpr rfl, Cond.after_iff.mpr (eq_i res_at (Term.int_eval (1)) rfl), trivial⟩ ⟨hq.1, hq.2.1, (hq.2.2.sift fun y hy => Or.inr (N y hy)).mono (by decide) (by decide)⟩⟩
theorem main_1_1 : Claimed_1_1 := comes_1 fun _ _ _ _ _ _ h hF => ⟨h.1, hF⟩
theorem main_1_2 : Claimed_1_2 := comes_1 fun _ _ _ _ _ _ h hF => ⟨h.2.1, hF⟩
end Jvm.Pilot.@@N@@
namespace Jvm.Pilot.@@N@@
open Jvm Jvm.ClassFile Sem Op Lib Jvm.Free Jvm.Stand Jvm.Pilot.@@N@@.Jvm.D
/-! MADE BY PROGRAM (witnessworld.py) out of the Statement's table words and the real class files: 31 classes; the members and pool entries that the words name. The judged class is class 1, her method 1. -/
namespace start1
open Jvm.ClassFile
def u (s : String) : CpInfo := .utf8 (stringToUtf16 s)
/-- a pool by its gaps: so many unusable entries, then the entry; so many at the end -/
def gap : Nat → List CpInfo → List CpInfo
  | 0, r => r
  | n + 1, r => .unusable :: gap n r
def poolList (es : List (Nat × CpInfo)) (last : Nat) : List CpInfo := es.foldr (fun e r => gap e.1 (e.2 :: r)) (gap last [])
def pool (es : List (Nat × CpInfo)) (last : Nat) : Array CpInfo := ⟨poolList es last⟩
def fileOf (pool : Array CpInfo) (this : Nat) (attrs : Array Attribute := #[]) (ms : Array MethodInfo := #[]) (fl : Nat := 33) (sup : Nat := 0) (ifs : Array Nat := #[]) (fds : Array FieldInfo := #[]) : ClassFile where
  minorVersion := 0
  majorVersion := 65
  constantPool := pool
  accessFlags := fl
  thisClass := this
  superClass := sup
  interfaces := ifs
  fields := fds
  methods := ms
  attributes := attrs
def plain (name : String) (sup : Option ClassId) : Class where
  name := name
  kind := .ordinary
  loader := none
  accessFlags := 33
  super := sup
  interfaces := #[]
  cf := none
  fields := #[]
  methods := #[]
  instanceTypes := #[]
  staticTypes := #[]
  resolved := #[]
  callSites := []
  init := .initialized
  statics := none
  mirror := none

def pool0 : Array CpInfo := pool [(5, u "<init>"), (0, u "()V"), (1, .class_ 10), (1, u "java/lang/Object")] 113

def k0c0 : Code := { maxStack := 0, maxLocals := 1, code := object_method_1_code, exceptionTable := #[], attributes := #[] }
def k0m0 : Method := { name := "<init>", desc := "()V", sig := { parameters := [], returnType := none }, accessFlags := 1, code := some k0c0 }
/-- java/lang/Object -/
def k0 : Class := { plain "java/lang/Object" none with
  accessFlags := 33
  interfaces := #[]
  cf := some (fileOf pool0 8 #[] #[{ accessFlags := 1, nameIndex := 5, descriptorIndex := 6, attributes := #[] }] 33 0 #[] #[])
  fields := #[]
  methods := #[k0m0]
  instanceTypes := #[]
  staticTypes := #[]
  resolved := Array.replicate 124 none
  statics := none }

def pool1 : Array CpInfo := pool [(2, .class_ 4), (1, u "java/lang/Object"), (0, u "<init>"), (0, u "()V"), (2, .long 9223372036854775807), (1, .methodref 12 13), (0, .class_ 14), (0, .nameAndType 15 16), (0, u "java/lang/Math"), (0, u "max"), (0, u "(JJ)J"), (0, .long 4611686018427387903), (1, .class_ 20), (0, u "com/example/firm_tread/firmtread/destination/Fill"), (0, .methodref 19 22), (0, .nameAndType 5 23), (0, u "(J)V"), (0, .methodref 19 25), (0, .nameAndType 26 23), (0, u "add"), (0, .methodref 19 28), (0, .nameAndType 29 30), (0, u "octets"), (0, u "()J"), (0, .methodref 19 32), (0, .nameAndType 33 34), (0, u "isFull"), (0, u "()Z"), (0, .methodref 19 36), (0, .nameAndType 37 23), (0, u "remove"), (0, .class_ 39), (0, u "com/example/firm_tread/firmtread/destination/FillAddPinLaw"), (2, u "law"), (0, u "(JJJJ)Z")] 3

def k1m0 : Method := { name := "<init>", desc := "()V", sig := { parameters := [], returnType := none }, accessFlags := 2, code := none }
def k1c1 : Code := { maxStack := 6, maxLocals := 22, code := code, exceptionTable := #[], attributes := #[] }
def k1m1 : Method := { name := "law", desc := "(JJJJ)Z", sig := { parameters := [.long, .long, .long, .long], returnType := some .boolean }, accessFlags := 9, code := some k1c1 }
/-- com/example/firm_tread/firmtread/destination/FillAddPinLaw -/
def k1 : Class := { plain "com/example/firm_tread/firmtread/destination/FillAddPinLaw" (some 0) with
  accessFlags := 49
  interfaces := #[]
  cf := some (fileOf pool1 38 #[] #[{ accessFlags := 2, nameIndex := 5, descriptorIndex := 6, attributes := #[] }, { accessFlags := 9, nameIndex := 42, descriptorIndex := 43, attributes := #[] }] 49 2 #[] #[])
  fields := #[]
  methods := #[k1m0, k1m1]
  instanceTypes := #[]
  staticTypes := #[]
  resolved := Array.replicate 47 none
  statics := none }

def pool2 : Array CpInfo := pool [(1, .class_ 2), (0, u "java/lang/Math"), (1, .class_ 6), (1, u "java/lang/Object"), (0, u "<init>"), (0, u "()V"), (89, .class_ 100), (1, u "java/lang/Math$RandomNumberGeneratorHolder"), (20, u "(JJ)J"), (50, u "negativeZeroFloatBits"), (0, u "J"), (2, u "negativeZeroDoubleBits"), (21, u "max"), (46, u "$assertionsDisabled"), (0, u "Z"), (91, u "twoToTheDoubleScaleDown"), (0, u "D"), (4, u "twoToTheDoubleScaleUp"), (9, u "E"), (3, u "PI"), (2, u "TAU"), (2, u "DEGREES_TO_RADIANS"), (0, u "RADIANS_TO_DEGREES")] 94

def k2m0 : Method := { name := "<init>", desc := "()V", sig := { parameters := [], returnType := none }, accessFlags := 2, code := none }
def k2c1 : Code := { maxStack := 4, maxLocals := 4, code := jdk_29_method_66_code, exceptionTable := #[], attributes := #[] }
def k2m1 : Method := { name := "max", desc := "(JJ)J", sig := { parameters := [.long, .long], returnType := some .long }, accessFlags := 9, code := some k2c1 }
/-- java/lang/Math -/
def k2 : Class := { plain "java/lang/Math" (some 0) with
  accessFlags := 49
  interfaces := #[]
  cf := some (fileOf pool2 1 #[.nestMembers #[98]] #[{ accessFlags := 2, nameIndex := 7, descriptorIndex := 8, attributes := #[] }, { accessFlags := 9, nameIndex := 198, descriptorIndex := 121, attributes := #[] }] 49 4 #[] #[{ accessFlags := 25, nameIndex := 354, descriptorIndex := 339, attributes := #[] }, { accessFlags := 25, nameIndex := 358, descriptorIndex := 339, attributes := #[] }, { accessFlags := 25, nameIndex := 361, descriptorIndex := 339, attributes := #[] }, { accessFlags := 26, nameIndex := 364, descriptorIndex := 339, attributes := #[] }, { accessFlags := 26, nameIndex := 365, descriptorIndex := 339, attributes := #[] }, { accessFlags := 26, nameIndex := 172, descriptorIndex := 173, attributes := #[] }, { accessFlags := 26, nameIndex := 176, descriptorIndex := 173, attributes := #[] }, { accessFlags := 8, nameIndex := 344, descriptorIndex := 339, attributes := #[] }, { accessFlags := 8, nameIndex := 338, descriptorIndex := 339, attributes := #[] }, { accessFlags := 4120, nameIndex := 245, descriptorIndex := 246, attributes := #[] }])
  fields := #[{ name := "E", type := .double, accessFlags := 25, slot := 0, constantValue := 0 }, { name := "PI", type := .double, accessFlags := 25, slot := 1, constantValue := 0 }, { name := "TAU", type := .double, accessFlags := 25, slot := 2, constantValue := 0 }, { name := "DEGREES_TO_RADIANS", type := .double, accessFlags := 26, slot := 3, constantValue := 0 }, { name := "RADIANS_TO_DEGREES", type := .double, accessFlags := 26, slot := 4, constantValue := 0 }, { name := "negativeZeroFloatBits", type := .long, accessFlags := 26, slot := 5, constantValue := 0 }, { name := "negativeZeroDoubleBits", type := .long, accessFlags := 26, slot := 6, constantValue := 0 }, { name := "twoToTheDoubleScaleUp", type := .double, accessFlags := 8, slot := 7, constantValue := 0 }, { name := "twoToTheDoubleScaleDown", type := .double, accessFlags := 8, slot := 8, constantValue := 0 }, { name := "$assertionsDisabled", type := .boolean, accessFlags := 4120, slot := 9, constantValue := 0 }]
  methods := #[k2m0, k2m1]
  instanceTypes := #[]
  staticTypes := #[.double, .double, .double, .double, .double, .long, .long, .double, .double, .boolean]
  resolved := Array.replicate 460 none
  statics := none }

def pool3 : Array CpInfo := pool [(1, .methodref 2 3), (0, .class_ 4), (0, .nameAndType 5 6), (0, u "java/lang/Object"), (0, u "<init>"), (0, u "()V"), (0, .class_ 8), (0, u "com/example/firm_tread/firmtread/destination/Waiters"), (0, .methodref 7 3), (0, .fieldref 11 12), (0, .class_ 13), (0, .nameAndType 14 15), (0, u "com/example/firm_tread/firmtread/destination/Fill"), (0, u "waiters"), (0, u "Lcom/example/firm_tread/firmtread/destination/Waiters;"), (0, .fieldref 11 17), (0, .nameAndType 18 15), (0, u "owing"), (19, .fieldref 11 39), (0, .nameAndType 40 41), (0, u "cap"), (0, u "J"), (0, .long 4), (1, .fieldref 11 45), (0, .nameAndType 46 41), (0, u "octets"), (0, .fieldref 11 48), (0, .nameAndType 49 50), (0, u "full"), (0, u "Z"), (0, .class_ 52), (0, u "com/example/firm_tread/firmtread/destination/Fill$Credit"), (5, u "add"), (1, .fieldref 11 61), (0, .nameAndType 62 41), (0, u "fillings"), (0, .fieldref 11 64), (0, .nameAndType 65 41), (0, u "owed"), (0, .methodref 11 67), (0, .nameAndType 68 69), (0, u "drainedAt"), (0, u "()J"), (0, .methodref 7 71), (0, .nameAndType 72 6), (0, u "tellAll"), (6, u "(J)V"), (4, u "isFull"), (0, u "()Z"), (4, u "remove")] 10

def k3c0 : Code := { maxStack := 8, maxLocals := 3, code := prog_29_method_1_code, exceptionTable := #[], attributes := #[] }
def k3m0 : Method := { name := "<init>", desc := "(J)V", sig := { parameters := [.long], returnType := none }, accessFlags := 1, code := some k3c0 }
def k3c1 : Code := { maxStack := 6, maxLocals := 1, code := prog_29_method_3_code, exceptionTable := #[], attributes := #[] }
def k3m1 : Method := { name := "drainedAt", desc := "()J", sig := { parameters := [], returnType := some .long }, accessFlags := 17, code := some k3c1 }
def k3c2 : Code := { maxStack := 2, maxLocals := 1, code := prog_29_method_5_code, exceptionTable := #[], attributes := #[] }
def k3m2 : Method := { name := "octets", desc := "()J", sig := { parameters := [], returnType := some .long }, accessFlags := 17, code := some k3c2 }
def k3c3 : Code := { maxStack := 1, maxLocals := 1, code := prog_29_method_6_code, exceptionTable := #[], attributes := #[] }
def k3m3 : Method := { name := "isFull", desc := "()Z", sig := { parameters := [], returnType := some .boolean }, accessFlags := 17, code := some k3c3 }
def k3c4 : Code := { maxStack := 5, maxLocals := 3, code := prog_29_method_9_code, exceptionTable := #[], attributes := #[] }
def k3m4 : Method := { name := "add", desc := "(J)V", sig := { parameters := [.long], returnType := none }, accessFlags := 17, code := some k3c4 }
def k3c5 : Code := { maxStack := 5, maxLocals := 3, code := prog_29_method_10_code, exceptionTable := #[], attributes := #[] }
def k3m5 : Method := { name := "remove", desc := "(J)V", sig := { parameters := [.long], returnType := none }, accessFlags := 17, code := some k3c5 }
/-- com/example/firm_tread/firmtread/destination/Fill -/
def k3 : Class := { plain "com/example/firm_tread/firmtread/destination/Fill" (some 0) with
  accessFlags := 33
  interfaces := #[]
  cf := some (fileOf pool3 11 #[.nestMembers #[51]] #[{ accessFlags := 1, nameIndex := 5, descriptorIndex := 79, attributes := #[] }, { accessFlags := 17, nameIndex := 68, descriptorIndex := 69, attributes := #[] }, { accessFlags := 17, nameIndex := 46, descriptorIndex := 69, attributes := #[] }, { accessFlags := 17, nameIndex := 84, descriptorIndex := 85, attributes := #[] }, { accessFlags := 17, nameIndex := 58, descriptorIndex := 79, attributes := #[] }, { accessFlags := 17, nameIndex := 90, descriptorIndex := 79, attributes := #[] }] 33 2 #[] #[{ accessFlags := 18, nameIndex := 40, descriptorIndex := 41, attributes := #[] }, { accessFlags := 18, nameIndex := 14, descriptorIndex := 15, attributes := #[] }, { accessFlags := 18, nameIndex := 18, descriptorIndex := 15, attributes := #[] }, { accessFlags := 2, nameIndex := 46, descriptorIndex := 41, attributes := #[] }, { accessFlags := 2, nameIndex := 49, descriptorIndex := 50, attributes := #[] }, { accessFlags := 2, nameIndex := 62, descriptorIndex := 41, attributes := #[] }, { accessFlags := 2, nameIndex := 65, descriptorIndex := 41, attributes := #[] }])
  fields := #[{ name := "cap", type := .long, accessFlags := 18, slot := 0, constantValue := 0 }, { name := "waiters", type := (.object "com/example/firm_tread/firmtread/destination/Waiters"), accessFlags := 18, slot := 1, constantValue := 0 }, { name := "owing", type := (.object "com/example/firm_tread/firmtread/destination/Waiters"), accessFlags := 18, slot := 2, constantValue := 0 }, { name := "octets", type := .long, accessFlags := 2, slot := 3, constantValue := 0 }, { name := "full", type := .boolean, accessFlags := 2, slot := 4, constantValue := 0 }, { name := "fillings", type := .long, accessFlags := 2, slot := 5, constantValue := 0 }, { name := "owed", type := .long, accessFlags := 2, slot := 6, constantValue := 0 }]
  methods := #[k3m0, k3m1, k3m2, k3m3, k3m4, k3m5]
  instanceTypes := #[.long, (.object "com/example/firm_tread/firmtread/destination/Waiters"), (.object "com/example/firm_tread/firmtread/destination/Waiters"), .long, .boolean, .long, .long]
  staticTypes := #[]
  resolved := Array.replicate 101 none
  statics := none }

def pool4 : Array CpInfo := pool [(1, .methodref 2 3), (0, .class_ 4), (0, .nameAndType 5 6), (0, u "java/lang/Object"), (0, u "<init>"), (0, u "()V"), (0, .class_ 8), (0, u "java/util/LinkedHashSet"), (0, .methodref 7 3), (0, .fieldref 11 12), (0, .class_ 13), (0, .nameAndType 14 15), (0, u "com/example/firm_tread/firmtread/destination/Waiters"), (0, u "waiting"), (0, u "Ljava/util/Set;"), (1, .class_ 19), (1, u "java/util/Set"), (2, .interfaceMethodref 17 23), (0, .nameAndType 24 25), (0, u "isEmpty"), (0, u "()Z"), (31, u "tellAll")] 3

def k4c0 : Code := { maxStack := 3, maxLocals := 1, code := prog_42_method_1_code, exceptionTable := #[], attributes := #[] }
def k4m0 : Method := { name := "<init>", desc := "()V", sig := { parameters := [], returnType := none }, accessFlags := 0, code := some k4c0 }
def k4c1 : Code := { maxStack := 3, maxLocals := 4, code := prog_42_method_3_code, exceptionTable := #[], attributes := #[] }
def k4m1 : Method := { name := "tellAll", desc := "()V", sig := { parameters := [], returnType := none }, accessFlags := 0, code := some k4c1 }
/-- com/example/firm_tread/firmtread/destination/Waiters -/
def k4 : Class := { plain "com/example/firm_tread/firmtread/destination/Waiters" (some 0) with
  accessFlags := 48
  interfaces := #[]
  cf := some (fileOf pool4 11 #[] #[{ accessFlags := 0, nameIndex := 5, descriptorIndex := 6, attributes := #[] }, { accessFlags := 0, nameIndex := 57, descriptorIndex := 6, attributes := #[] }] 48 2 #[] #[{ accessFlags := 18, nameIndex := 14, descriptorIndex := 15, attributes := #[] }])
  fields := #[{ name := "waiting", type := (.object "java/util/Set"), accessFlags := 18, slot := 0, constantValue := 0 }]
  methods := #[k4m0, k4m1]
  instanceTypes := #[(.object "java/util/Set")]
  staticTypes := #[]
  resolved := Array.replicate 61 none
  statics := none }

def pool5 : Array CpInfo := pool [(8, .class_ 10), (1, u "java/lang/Iterable"), (24, .class_ 36), (0, u "java/lang/Object")] 25

/-- java/lang/Iterable -/
def k5 : Class := { plain "java/lang/Iterable" (some 0) with
  accessFlags := 1537
  interfaces := #[]
  cf := some (fileOf pool5 8 #[] #[] 1537 35 #[] #[])
  fields := #[]
  methods := #[]
  instanceTypes := #[]
  staticTypes := #[]
  resolved := Array.replicate 62 none
  statics := none }

def pool6 : Array CpInfo := pool [(10, .class_ 12), (1, u "java/util/Collection"), (47, .class_ 61), (0, u "java/lang/Object"), (0, .class_ 63), (0, u "java/lang/Iterable")] 51

/-- java/util/Collection -/
def k6 : Class := { plain "java/util/Collection" (some 0) with
  accessFlags := 1537
  interfaces := #[5]
  cf := some (fileOf pool6 10 #[] #[] 1537 60 #[62] #[])
  fields := #[]
  methods := #[]
  instanceTypes := #[]
  staticTypes := #[]
  resolved := Array.replicate 115 none
  statics := none }

def pool7 : Array CpInfo := pool [(1, .methodref 2 3), (0, .class_ 4), (0, .nameAndType 5 6), (0, u "java/lang/Object"), (0, u "<init>"), (0, u "()V"), (1, .class_ 10), (1, u "java/util/AbstractCollection"), (66, .class_ 78), (0, u "java/util/Collection")] 81

def k7c0 : Code := { maxStack := 1, maxLocals := 1, code := jdk_22_method_1_code, exceptionTable := #[], attributes := #[] }
def k7m0 : Method := { name := "<init>", desc := "()V", sig := { parameters := [], returnType := none }, accessFlags := 4, code := some k7c0 }
/-- java/util/AbstractCollection -/
def k7 : Class := { plain "java/util/AbstractCollection" (some 0) with
  accessFlags := 1057
  interfaces := #[6]
  cf := some (fileOf pool7 8 #[] #[{ accessFlags := 4, nameIndex := 5, descriptorIndex := 6, attributes := #[] }] 1057 2 #[77] #[])
  fields := #[]
  methods := #[k7m0]
  instanceTypes := #[]
  staticTypes := #[]
  resolved := Array.replicate 160 none
  statics := none }

def pool8 : Array CpInfo := pool [(26, .class_ 27), (0, u "java/lang/Object"), (5, .class_ 34), (0, u "java/util/Set"), (1, .class_ 38), (1, u "java/util/Collection"), (0, u "isEmpty"), (0, u "()Z")] 103

def k8m0 : Method := { name := "isEmpty", desc := "()Z", sig := { parameters := [], returnType := some .boolean }, accessFlags := 1025, code := none }
/-- java/util/Set -/
def k8 : Class := { plain "java/util/Set" (some 0) with
  accessFlags := 1537
  interfaces := #[6]
  cf := some (fileOf pool8 33 #[] #[{ accessFlags := 1025, nameIndex := 39, descriptorIndex := 40, attributes := #[] }] 1537 26 #[36] #[])
  fields := #[]
  methods := #[k8m0]
  instanceTypes := #[]
  staticTypes := #[]
  resolved := Array.replicate 144 none
  statics := none }

def pool9 : Array CpInfo := pool [(1, .methodref 2 3), (0, .class_ 4), (0, .nameAndType 5 6), (0, u "java/util/AbstractCollection"), (0, u "<init>"), (0, u "()V"), (0, .class_ 8), (0, u "java/util/Set"), (7, .class_ 17), (0, u "java/util/AbstractSet")] 78

def k9c0 : Code := { maxStack := 1, maxLocals := 1, code := jdk_91_method_1_code, exceptionTable := #[], attributes := #[] }
def k9m0 : Method := { name := "<init>", desc := "()V", sig := { parameters := [], returnType := none }, accessFlags := 4, code := some k9c0 }
/-- java/util/AbstractSet -/
def k9 : Class := { plain "java/util/AbstractSet" (some 7) with
  accessFlags := 1057
  interfaces := #[8]
  cf := some (fileOf pool9 16 #[] #[{ accessFlags := 4, nameIndex := 5, descriptorIndex := 6, attributes := #[] }] 1057 2 #[7] #[])
  fields := #[]
  methods := #[k9m0]
  instanceTypes := #[]
  staticTypes := #[]
  resolved := Array.replicate 96 none
  statics := none }

def pool10 : Array CpInfo := pool [(1, .class_ 2), (0, u "java/lang/Cloneable"), (0, .class_ 4), (0, u "java/lang/Object")] 2

/-- java/lang/Cloneable -/
def k10 : Class := { plain "java/lang/Cloneable" (some 0) with
  accessFlags := 1537
  interfaces := #[]
  cf := some (fileOf pool10 1 #[] #[] 1537 3 #[] #[])
  fields := #[]
  methods := #[]
  instanceTypes := #[]
  staticTypes := #[]
  resolved := Array.replicate 7 none
  statics := none }

def pool11 : Array CpInfo := pool [(1, .class_ 2), (0, u "java/io/Serializable"), (0, .class_ 4), (0, u "java/lang/Object")] 2

/-- java/io/Serializable -/
def k11 : Class := { plain "java/io/Serializable" (some 0) with
  accessFlags := 1537
  interfaces := #[]
  cf := some (fileOf pool11 1 #[] #[] 1537 3 #[] #[])
  fields := #[]
  methods := #[]
  instanceTypes := #[]
  staticTypes := #[]
  resolved := Array.replicate 7 none
  statics := none }

def pool12 : Array CpInfo := pool [(1, .methodref 2 3), (0, .class_ 4), (0, .nameAndType 5 6), (0, u "java/util/AbstractSet"), (0, u "<init>"), (0, u "()V"), (0, .class_ 8), (0, u "java/util/HashMap"), (1, .fieldref 11 12), (0, .class_ 13), (0, .nameAndType 14 15), (0, u "java/util/HashSet"), (0, u "map"), (0, u "Ljava/util/HashMap;"), (21, .nameAndType 5 38), (0, u "(IF)V"), (3, .class_ 43), (0, u "java/util/LinkedHashMap"), (0, .methodref 42 37), (5, .class_ 52), (1, u "java/util/Set"), (3, .methodref 7 57), (0, .nameAndType 58 59), (0, u "isEmpty"), (0, u "()Z"), (6, u "PRESENT"), (0, u "Ljava/lang/Object;"), (158, .class_ 227), (0, u "java/lang/Cloneable"), (0, .class_ 229), (0, u "java/io/Serializable"), (0, u "serialVersionUID"), (0, u "J"), (20, u "(IFZ)V")] 50

def k12m0 : Method := { name := "<init>", desc := "()V", sig := { parameters := [], returnType := none }, accessFlags := 1, code := none }
def k12c1 : Code := { maxStack := 5, maxLocals := 4, code := jdk_93_method_5_code, exceptionTable := #[], attributes := #[] }
def k12m1 : Method := { name := "<init>", desc := "(IFZ)V", sig := { parameters := [.int, .float, .boolean], returnType := none }, accessFlags := 0, code := some k12c1 }
def k12c2 : Code := { maxStack := 1, maxLocals := 1, code := jdk_93_method_8_code, exceptionTable := #[], attributes := #[] }
def k12m2 : Method := { name := "isEmpty", desc := "()Z", sig := { parameters := [], returnType := some .boolean }, accessFlags := 1, code := some k12c2 }
/-- java/util/HashSet -/
def k12 : Class := { plain "java/util/HashSet" (some 9) with
  accessFlags := 33
  interfaces := #[8, 10, 11]
  cf := some (fileOf pool12 11 #[] #[{ accessFlags := 1, nameIndex := 5, descriptorIndex := 6, attributes := #[] }, { accessFlags := 0, nameIndex := 5, descriptorIndex := 252, attributes := #[] }, { accessFlags := 1, nameIndex := 58, descriptorIndex := 59, attributes := #[] }] 33 2 #[50, 226, 228] #[{ accessFlags := 24, nameIndex := 230, descriptorIndex := 231, attributes := #[] }, { accessFlags := 128, nameIndex := 14, descriptorIndex := 15, attributes := #[] }, { accessFlags := 24, nameIndex := 66, descriptorIndex := 67, attributes := #[] }])
  fields := #[{ name := "serialVersionUID", type := .long, accessFlags := 24, slot := 0, constantValue := 0 }, { name := "map", type := (.object "java/util/HashMap"), accessFlags := 128, slot := 0, constantValue := 0 }, { name := "PRESENT", type := (.object "java/lang/Object"), accessFlags := 24, slot := 1, constantValue := 0 }]
  methods := #[k12m0, k12m1, k12m2]
  instanceTypes := #[(.object "java/util/HashMap")]
  staticTypes := #[.long, (.object "java/lang/Object")]
  resolved := Array.replicate 303 none
  statics := none }

def pool13 : Array CpInfo := pool [(8, .class_ 10), (1, u "java/util/SequencedCollection"), (15, .class_ 27), (0, u "java/lang/Object"), (0, .class_ 29), (0, u "java/util/Collection")] 27

/-- java/util/SequencedCollection -/
def k13 : Class := { plain "java/util/SequencedCollection" (some 0) with
  accessFlags := 1537
  interfaces := #[6]
  cf := some (fileOf pool13 8 #[] #[] 1537 26 #[28] #[])
  fields := #[]
  methods := #[]
  instanceTypes := #[]
  staticTypes := #[]
  resolved := Array.replicate 57 none
  statics := none }

def pool14 : Array CpInfo := pool [(2, .class_ 4), (1, u "java/util/SequencedSet"), (2, .class_ 8), (0, u "java/lang/Object"), (0, .class_ 10), (0, u "java/util/SequencedCollection"), (0, .class_ 12), (0, u "java/util/Set")] 13

/-- java/util/SequencedSet -/
def k14 : Class := { plain "java/util/SequencedSet" (some 0) with
  accessFlags := 1537
  interfaces := #[13, 8]
  cf := some (fileOf pool14 2 #[] #[] 1537 7 #[9, 11] #[])
  fields := #[]
  methods := #[]
  instanceTypes := #[]
  staticTypes := #[]
  resolved := Array.replicate 26 none
  statics := none }

def pool15 : Array CpInfo := pool [(1, .methodref 2 3), (0, .class_ 4), (0, .nameAndType 5 6), (0, u "java/util/HashSet"), (0, u "<init>"), (0, u "(IFZ)V"), (0, .float 1061158912), (19, .class_ 29), (1, u "java/util/LinkedHashSet"), (16, u "()V"), (44, .class_ 93), (1, u "java/util/SequencedSet"), (11, .class_ 106), (0, u "java/util/LinkedHashSet$1ReverseLinkedHashSetView"), (6, .class_ 114), (0, u "java/lang/Cloneable"), (0, .class_ 116), (0, u "java/io/Serializable"), (0, u "serialVersionUID"), (0, u "J")] 44

def k15c0 : Code := { maxStack := 4, maxLocals := 1, code := jdk_2620_method_3_code, exceptionTable := #[], attributes := #[] }
def k15m0 : Method := { name := "<init>", desc := "()V", sig := { parameters := [], returnType := none }, accessFlags := 1, code := some k15c0 }
/-- java/util/LinkedHashSet -/
def k15 : Class := { plain "java/util/LinkedHashSet" (some 12) with
  accessFlags := 33
  interfaces := #[14, 10, 11]
  cf := some (fileOf pool15 27 #[.nestMembers #[105]] #[{ accessFlags := 1, nameIndex := 5, descriptorIndex := 46, attributes := #[] }] 33 2 #[91, 113, 115] #[{ accessFlags := 26, nameIndex := 117, descriptorIndex := 118, attributes := #[] }])
  fields := #[{ name := "serialVersionUID", type := .long, accessFlags := 26, slot := 0, constantValue := 0 }]
  methods := #[k15m0]
  instanceTypes := #[(.object "java/util/HashMap")]
  staticTypes := #[.long]
  resolved := Array.replicate 163 none
  statics := none }

def pool16 : Array CpInfo := pool [(2, .class_ 4), (1, u "java/util/Map"), (31, .class_ 37), (0, u "java/util/Map$Entry"), (55, .class_ 94), (0, u "java/lang/Object")] 168

/-- java/util/Map -/
def k16 : Class := { plain "java/util/Map" (some 0) with
  accessFlags := 1537
  interfaces := #[]
  cf := some (fileOf pool16 2 #[.nestMembers #[36]] #[] 1537 93 #[] #[])
  fields := #[]
  methods := #[]
  instanceTypes := #[]
  staticTypes := #[]
  resolved := Array.replicate 263 none
  statics := none }

def pool17 : Array CpInfo := pool [(1, .methodref 2 3), (0, .class_ 4), (0, .nameAndType 5 6), (0, u "java/lang/Object"), (0, u "<init>"), (0, u "()V"), (1, .class_ 10), (1, u "java/util/AbstractMap"), (42, .class_ 54), (0, u "java/util/Map"), (9, u "keySet"), (0, u "Ljava/util/Set;"), (0, .class_ 67), (0, u "java/util/AbstractMap$1"), (5, u "values"), (0, u "Ljava/util/Collection;"), (0, .class_ 76), (0, u "java/util/AbstractMap$2"), (104, .class_ 182), (0, u "java/util/AbstractMap$ViewCollection"), (0, .class_ 184), (0, u "java/util/AbstractMap$SimpleImmutableEntry"), (0, .class_ 186), (0, u "java/util/AbstractMap$SimpleEntry"), (0, .class_ 188), (0, u "java/util/AbstractMap$2$1"), (0, .class_ 190), (0, u "java/util/AbstractMap$1$1")] 5

def k17c0 : Code := { maxStack := 1, maxLocals := 1, code := jdk_71_method_1_code, exceptionTable := #[], attributes := #[] }
def k17m0 : Method := { name := "<init>", desc := "()V", sig := { parameters := [], returnType := none }, accessFlags := 4, code := some k17c0 }
/-- java/util/AbstractMap -/
def k17 : Class := { plain "java/util/AbstractMap" (some 0) with
  accessFlags := 1057
  interfaces := #[16]
  cf := some (fileOf pool17 8 #[.nestMembers #[181, 183, 185, 75, 187, 66, 189]] #[{ accessFlags := 4, nameIndex := 5, descriptorIndex := 6, attributes := #[] }] 1057 2 #[53] #[{ accessFlags := 128, nameIndex := 64, descriptorIndex := 65, attributes := #[] }, { accessFlags := 128, nameIndex := 73, descriptorIndex := 74, attributes := #[] }])
  fields := #[{ name := "keySet", type := (.object "java/util/Set"), accessFlags := 128, slot := 0, constantValue := 0 }, { name := "values", type := (.object "java/util/Collection"), accessFlags := 128, slot := 1, constantValue := 0 }]
  methods := #[k17m0]
  instanceTypes := #[(.object "java/util/Set"), (.object "java/util/Collection")]
  staticTypes := #[]
  resolved := Array.replicate 196 none
  statics := none }

def pool18 : Array CpInfo := pool [(34, .methodref 35 36), (0, .class_ 37), (0, .nameAndType 38 39), (0, u "java/lang/Integer"), (0, u "numberOfLeadingZeros"), (0, u "(I)I"), (0, .class_ 41), (0, u "java/util/HashMap"), (0, .integer 1073741824), (0, .methodref 44 45), (0, .class_ 46), (0, .nameAndType 47 48), (0, u "java/util/AbstractMap"), (0, u "<init>"), (0, u "()V"), (21, .methodref 71 72), (0, .class_ 73), (0, .nameAndType 74 75), (0, u "java/lang/Float"), (0, u "isNaN"), (0, u "(F)Z"), (5, .fieldref 40 82), (0, .nameAndType 83 84), (0, u "loadFactor"), (0, u "F"), (0, .methodref 40 86), (0, .nameAndType 87 39), (0, u "tableSizeFor"), (0, .fieldref 40 89), (0, .nameAndType 90 91), (0, u "threshold"), (0, u "I"), (3, u "(IF)V"), (5, .class_ 103), (1, u "java/util/Map"), (0, u "size"), (2, u "table"), (0, u "[Ljava/util/HashMap$Node;"), (14, u "entrySet"), (12, u "()Z"), (19, .fieldref 40 157), (0, .nameAndType 104 91), (5, .class_ 165), (1, u "java/util/HashMap$Node"), (14, .class_ 181), (0, u "java/util/HashMap$TreeNode"), (22, u "modCount"), (37, u "Ljava/util/Set;"), (0, .class_ 244), (0, u "java/util/HashMap$KeySet"), (18, .class_ 264), (0, u "java/util/HashMap$Values"), (3, .class_ 269), (0, u "java/util/HashMap$EntrySet"), (76, .class_ 348), (1, u "java/util/HashMap$UnsafeHolder"), (43, .class_ 393), (0, u "java/lang/Cloneable"), (0, .class_ 395), (0, u "java/io/Serializable"), (0, u "serialVersionUID"), (0, u "J"), (3, u "DEFAULT_INITIAL_CAPACITY"), (1, u "MAXIMUM_CAPACITY"), (0, u "DEFAULT_LOAD_FACTOR"), (0, u "TREEIFY_THRESHOLD"), (1, u "UNTREEIFY_THRESHOLD"), (1, u "MIN_TREEIFY_CAPACITY"), (52, u "isEmpty"), (133, .class_ 597), (0, u "java/util/HashMap$EntrySpliterator"), (0, .class_ 599), (0, u "java/util/HashMap$ValueSpliterator"), (0, .class_ 601), (0, u "java/util/HashMap$KeySpliterator"), (0, .class_ 603), (0, u "java/util/HashMap$HashMapSpliterator"), (0, .class_ 605), (0, u "java/util/HashMap$EntryIterator"), (0, .class_ 607), (0, u "java/util/HashMap$ValueIterator"), (0, .class_ 609), (0, u "java/util/HashMap$KeyIterator"), (0, .class_ 611), (0, u "java/util/HashMap$HashIterator")] 17

def k18c0 : Code := { maxStack := 3, maxLocals := 2, code := jdk_69_method_4_code, exceptionTable := #[], attributes := #[] }
def k18m0 : Method := { name := "tableSizeFor", desc := "(I)I", sig := { parameters := [.int], returnType := some .int }, accessFlags := 24, code := some k18c0 }
def k18c1 : Code := { maxStack := 4, maxLocals := 3, code := jdk_69_method_5_code, exceptionTable := #[], attributes := #[] }
def k18m1 : Method := { name := "<init>", desc := "(IF)V", sig := { parameters := [.int, .float], returnType := none }, accessFlags := 1, code := some k18c1 }
def k18m2 : Method := { name := "<init>", desc := "()V", sig := { parameters := [], returnType := none }, accessFlags := 1, code := none }
def k18c3 : Code := { maxStack := 1, maxLocals := 1, code := jdk_69_method_11_code, exceptionTable := #[], attributes := #[] }
def k18m3 : Method := { name := "isEmpty", desc := "()Z", sig := { parameters := [], returnType := some .boolean }, accessFlags := 1, code := some k18c3 }
/-- java/util/HashMap -/
def k18 : Class := { plain "java/util/HashMap" (some 17) with
  accessFlags := 33
  interfaces := #[16, 10, 11]
  cf := some (fileOf pool18 40 #[.nestMembers #[180, 596, 598, 600, 602, 604, 606, 608, 610, 346, 268, 263, 243, 163]] #[{ accessFlags := 24, nameIndex := 87, descriptorIndex := 39, attributes := #[] }, { accessFlags := 1, nameIndex := 47, descriptorIndex := 95, attributes := #[] }, { accessFlags := 1, nameIndex := 47, descriptorIndex := 48, attributes := #[] }, { accessFlags := 1, nameIndex := 462, descriptorIndex := 136, attributes := #[] }] 33 44 #[101, 392, 394] #[{ accessFlags := 26, nameIndex := 396, descriptorIndex := 397, attributes := #[] }, { accessFlags := 24, nameIndex := 401, descriptorIndex := 91, attributes := #[] }, { accessFlags := 24, nameIndex := 403, descriptorIndex := 91, attributes := #[] }, { accessFlags := 24, nameIndex := 404, descriptorIndex := 84, attributes := #[] }, { accessFlags := 24, nameIndex := 405, descriptorIndex := 91, attributes := #[] }, { accessFlags := 24, nameIndex := 407, descriptorIndex := 91, attributes := #[] }, { accessFlags := 24, nameIndex := 409, descriptorIndex := 91, attributes := #[] }, { accessFlags := 128, nameIndex := 107, descriptorIndex := 108, attributes := #[] }, { accessFlags := 128, nameIndex := 123, descriptorIndex := 242, attributes := #[] }, { accessFlags := 128, nameIndex := 104, descriptorIndex := 91, attributes := #[] }, { accessFlags := 128, nameIndex := 204, descriptorIndex := 91, attributes := #[] }, { accessFlags := 0, nameIndex := 90, descriptorIndex := 91, attributes := #[] }, { accessFlags := 16, nameIndex := 83, descriptorIndex := 84, attributes := #[] }])
  fields := #[{ name := "serialVersionUID", type := .long, accessFlags := 26, slot := 0, constantValue := 0 }, { name := "DEFAULT_INITIAL_CAPACITY", type := .int, accessFlags := 24, slot := 1, constantValue := 0 }, { name := "MAXIMUM_CAPACITY", type := .int, accessFlags := 24, slot := 2, constantValue := 0 }, { name := "DEFAULT_LOAD_FACTOR", type := .float, accessFlags := 24, slot := 3, constantValue := 0 }, { name := "TREEIFY_THRESHOLD", type := .int, accessFlags := 24, slot := 4, constantValue := 0 }, { name := "UNTREEIFY_THRESHOLD", type := .int, accessFlags := 24, slot := 5, constantValue := 0 }, { name := "MIN_TREEIFY_CAPACITY", type := .int, accessFlags := 24, slot := 6, constantValue := 0 }, { name := "table", type := (.array (.object "java/util/HashMap$Node")), accessFlags := 128, slot := 2, constantValue := 0 }, { name := "entrySet", type := (.object "java/util/Set"), accessFlags := 128, slot := 3, constantValue := 0 }, { name := "size", type := .int, accessFlags := 128, slot := 4, constantValue := 0 }, { name := "modCount", type := .int, accessFlags := 128, slot := 5, constantValue := 0 }, { name := "threshold", type := .int, accessFlags := 0, slot := 6, constantValue := 0 }, { name := "loadFactor", type := .float, accessFlags := 16, slot := 7, constantValue := 0 }]
  methods := #[k18m0, k18m1, k18m2, k18m3]
  instanceTypes := #[(.object "java/util/Set"), (.object "java/util/Collection"), (.array (.object "java/util/HashMap$Node")), (.object "java/util/Set"), .int, .int, .int, .float]
  staticTypes := #[.long, .int, .int, .float, .int, .int, .int]
  resolved := Array.replicate 629 none
  statics := none }

def pool19 : Array CpInfo := pool [(2, .class_ 4), (1, u "java/util/SequencedMap"), (38, .class_ 44), (0, u "java/util/SequencedMap$1SeqKeySet"), (3, .class_ 49), (0, u "java/util/SequencedMap$1SeqValues"), (1, .class_ 52), (0, u "java/util/SequencedMap$1SeqEntrySet"), (1, .class_ 55), (0, u "java/lang/Object"), (0, .class_ 57), (0, u "java/util/Map")] 48

/-- java/util/SequencedMap -/
def k19 : Class := { plain "java/util/SequencedMap" (some 0) with
  accessFlags := 1537
  interfaces := #[16]
  cf := some (fileOf pool19 2 #[.nestMembers #[51, 48, 43]] #[] 1537 54 #[56] #[])
  fields := #[]
  methods := #[]
  instanceTypes := #[]
  staticTypes := #[]
  resolved := Array.replicate 106 none
  statics := none }

def pool20 : Array CpInfo := pool [(1, .fieldref 2 3), (0, .class_ 4), (0, .nameAndType 5 6), (0, u "java/util/LinkedHashMap"), (0, u "putMode"), (0, u "I"), (2, u "head"), (0, u "Ljava/util/LinkedHashMap$Entry;"), (2, u "tail"), (1, .class_ 17), (1, u "java/util/LinkedHashMap$Entry"), (5, .class_ 25), (1, u "java/util/HashMap"), (1, u "()V"), (2, u "<init>"), (33, .fieldref 2 65), (0, .nameAndType 66 67), (0, u "accessOrder"), (0, u "Z"), (13, .methodref 23 82), (0, .nameAndType 30 83), (0, u "(IF)V"), (37, .class_ 122), (0, u "java/util/LinkedHashMap$LinkedKeySet"), (20, .class_ 144), (0, u "java/util/LinkedHashMap$LinkedValues"), (9, .class_ 155), (0, u "java/util/LinkedHashMap$LinkedEntrySet"), (44, .class_ 201), (0, u "java/util/LinkedHashMap$ReversedLinkedHashMapView"), (3, .class_ 206), (0, u "java/util/SequencedMap"), (0, u "serialVersionUID"), (0, u "J"), (5, u "PUT_NORM"), (1, u "PUT_FIRST"), (1, u "PUT_LAST"), (143, .class_ 363), (0, u "java/util/LinkedHashMap$LinkedEntryIterator"), (0, .class_ 365), (0, u "java/util/LinkedHashMap$LinkedValueIterator"), (0, .class_ 367), (0, u "java/util/LinkedHashMap$LinkedKeyIterator"), (0, .class_ 369), (0, u "java/util/LinkedHashMap$LinkedHashIterator")] 16

def k20c0 : Code := { maxStack := 3, maxLocals := 3, code := jdk_94_method_14_code, exceptionTable := #[], attributes := #[] }
def k20m0 : Method := { name := "<init>", desc := "(IF)V", sig := { parameters := [.int, .float], returnType := none }, accessFlags := 1, code := some k20c0 }
def k20m1 : Method := { name := "<init>", desc := "()V", sig := { parameters := [], returnType := none }, accessFlags := 1, code := none }
/-- java/util/LinkedHashMap -/
def k20 : Class := { plain "java/util/LinkedHashMap" (some 18) with
  accessFlags := 33
  interfaces := #[19]
  cf := some (fileOf pool20 2 #[.nestMembers #[200, 362, 364, 366, 368, 154, 143, 121, 15]] #[{ accessFlags := 1, nameIndex := 30, descriptorIndex := 83, attributes := #[] }, { accessFlags := 1, nameIndex := 30, descriptorIndex := 27, attributes := #[] }] 33 23 #[205] #[{ accessFlags := 26, nameIndex := 207, descriptorIndex := 208, attributes := #[] }, { accessFlags := 128, nameIndex := 9, descriptorIndex := 10, attributes := #[] }, { accessFlags := 128, nameIndex := 13, descriptorIndex := 10, attributes := #[] }, { accessFlags := 16, nameIndex := 66, descriptorIndex := 67, attributes := #[] }, { accessFlags := 24, nameIndex := 214, descriptorIndex := 6, attributes := #[] }, { accessFlags := 24, nameIndex := 216, descriptorIndex := 6, attributes := #[] }, { accessFlags := 24, nameIndex := 218, descriptorIndex := 6, attributes := #[] }, { accessFlags := 128, nameIndex := 5, descriptorIndex := 6, attributes := #[] }])
  fields := #[{ name := "serialVersionUID", type := .long, accessFlags := 26, slot := 0, constantValue := 0 }, { name := "head", type := (.object "java/util/LinkedHashMap$Entry"), accessFlags := 128, slot := 8, constantValue := 0 }, { name := "tail", type := (.object "java/util/LinkedHashMap$Entry"), accessFlags := 128, slot := 9, constantValue := 0 }, { name := "accessOrder", type := .boolean, accessFlags := 16, slot := 10, constantValue := 0 }, { name := "PUT_NORM", type := .int, accessFlags := 24, slot := 1, constantValue := 0 }, { name := "PUT_FIRST", type := .int, accessFlags := 24, slot := 2, constantValue := 0 }, { name := "PUT_LAST", type := .int, accessFlags := 24, slot := 3, constantValue := 0 }, { name := "putMode", type := .int, accessFlags := 128, slot := 11, constantValue := 0 }]
  methods := #[k20m0, k20m1]
  instanceTypes := #[(.object "java/util/Set"), (.object "java/util/Collection"), (.array (.object "java/util/HashMap$Node")), (.object "java/util/Set"), .int, .int, .int, .float, (.object "java/util/LinkedHashMap$Entry"), (.object "java/util/LinkedHashMap$Entry"), .boolean, .int]
  staticTypes := #[.long, .int, .int, .int]
  resolved := Array.replicate 386 none
  statics := none }

def pool21 : Array CpInfo := pool [(2, .class_ 4), (1, u "java/lang/Object"), (0, u "<init>"), (0, u "()V"), (1, .class_ 10), (1, u "java/lang/Number"), (2, .class_ 14), (0, u "java/io/Serializable"), (0, u "serialVersionUID"), (0, u "J")] 20

def k21m0 : Method := { name := "<init>", desc := "()V", sig := { parameters := [], returnType := none }, accessFlags := 1, code := none }
/-- java/lang/Number -/
def k21 : Class := { plain "java/lang/Number" (some 0) with
  accessFlags := 1057
  interfaces := #[11]
  cf := some (fileOf pool21 8 #[] #[{ accessFlags := 1, nameIndex := 5, descriptorIndex := 6, attributes := #[] }] 1057 2 #[13] #[{ accessFlags := 26, nameIndex := 15, descriptorIndex := 16, attributes := #[] }])
  fields := #[{ name := "serialVersionUID", type := .long, accessFlags := 26, slot := 0, constantValue := 0 }]
  methods := #[k21m0]
  instanceTypes := #[]
  staticTypes := #[.long]
  resolved := Array.replicate 37 none
  statics := none }

def pool22 : Array CpInfo := pool [(1, .class_ 2), (0, u "java/lang/Comparable"), (0, .class_ 4), (0, u "java/lang/Object")] 7

/-- java/lang/Comparable -/
def k22 : Class := { plain "java/lang/Comparable" (some 0) with
  accessFlags := 1537
  interfaces := #[]
  cf := some (fileOf pool22 1 #[] #[] 1537 3 #[] #[])
  fields := #[]
  methods := #[]
  instanceTypes := #[]
  staticTypes := #[]
  resolved := Array.replicate 12 none
  statics := none }

def pool23 : Array CpInfo := pool [(1, .class_ 2), (0, u "java/lang/constant/Constable"), (0, .class_ 4), (0, u "java/lang/Object")] 6

/-- java/lang/constant/Constable -/
def k23 : Class := { plain "java/lang/constant/Constable" (some 0) with
  accessFlags := 1537
  interfaces := #[]
  cf := some (fileOf pool23 1 #[] #[] 1537 3 #[] #[])
  fields := #[]
  methods := #[]
  instanceTypes := #[]
  staticTypes := #[]
  resolved := Array.replicate 11 none
  statics := none }

def pool24 : Array CpInfo := pool [(1, .class_ 2), (0, u "java/lang/constant/ConstantDesc"), (0, .class_ 4), (0, u "java/lang/Object")] 32

/-- java/lang/constant/ConstantDesc -/
def k24 : Class := { plain "java/lang/constant/ConstantDesc" (some 0) with
  accessFlags := 1537
  interfaces := #[]
  cf := some (fileOf pool24 1 #[] #[] 1537 3 #[] #[])
  fields := #[]
  methods := #[]
  instanceTypes := #[]
  staticTypes := #[]
  resolved := Array.replicate 37 none
  statics := none }

def pool25 : Array CpInfo := pool [(1, .class_ 2), (0, u "java/lang/Float"), (48, .class_ 53), (1, u "java/lang/Number"), (3, u "value"), (0, u "F"), (2, u "isNaN"), (0, u "(F)Z"), (28, u "$assertionsDisabled"), (0, u "Z"), (52, u "TYPE"), (0, u "Ljava/lang/Class;"), (0, .class_ 148), (0, u "java/lang/Comparable"), (0, .class_ 150), (0, u "java/lang/constant/Constable"), (0, .class_ 152), (0, u "java/lang/constant/ConstantDesc"), (0, u "POSITIVE_INFINITY"), (1, u "NEGATIVE_INFINITY"), (1, u "NaN"), (1, u "MAX_VALUE"), (0, u "MIN_NORMAL"), (0, u "MIN_VALUE"), (1, u "SIZE"), (0, u "I"), (1, u "PRECISION"), (1, u "MAX_EXPONENT"), (1, u "MIN_EXPONENT"), (1, u "BYTES"), (3, u "serialVersionUID"), (0, u "J")] 101

def k25c0 : Code := { maxStack := 2, maxLocals := 1, code := jdk_118_method_6_code, exceptionTable := #[], attributes := #[] }
def k25m0 : Method := { name := "isNaN", desc := "(F)Z", sig := { parameters := [.float], returnType := some .boolean }, accessFlags := 9, code := some k25c0 }
/-- java/lang/Float -/
def k25 : Class := { plain "java/lang/Float" (some 21) with
  accessFlags := 49
  interfaces := #[22, 23, 24]
  cf := some (fileOf pool25 1 #[] #[{ accessFlags := 9, nameIndex := 61, descriptorIndex := 62, attributes := #[] }] 49 51 #[147, 149, 151] #[{ accessFlags := 25, nameIndex := 153, descriptorIndex := 58, attributes := #[] }, { accessFlags := 25, nameIndex := 155, descriptorIndex := 58, attributes := #[] }, { accessFlags := 25, nameIndex := 157, descriptorIndex := 58, attributes := #[] }, { accessFlags := 25, nameIndex := 159, descriptorIndex := 58, attributes := #[] }, { accessFlags := 25, nameIndex := 160, descriptorIndex := 58, attributes := #[] }, { accessFlags := 25, nameIndex := 161, descriptorIndex := 58, attributes := #[] }, { accessFlags := 25, nameIndex := 163, descriptorIndex := 164, attributes := #[] }, { accessFlags := 25, nameIndex := 166, descriptorIndex := 164, attributes := #[] }, { accessFlags := 25, nameIndex := 168, descriptorIndex := 164, attributes := #[] }, { accessFlags := 25, nameIndex := 170, descriptorIndex := 164, attributes := #[] }, { accessFlags := 25, nameIndex := 172, descriptorIndex := 164, attributes := #[] }, { accessFlags := 25, nameIndex := 145, descriptorIndex := 146, attributes := #[] }, { accessFlags := 18, nameIndex := 57, descriptorIndex := 58, attributes := #[] }, { accessFlags := 26, nameIndex := 176, descriptorIndex := 177, attributes := #[] }, { accessFlags := 4120, nameIndex := 91, descriptorIndex := 92, attributes := #[] }])
  fields := #[{ name := "POSITIVE_INFINITY", type := .float, accessFlags := 25, slot := 0, constantValue := 0 }, { name := "NEGATIVE_INFINITY", type := .float, accessFlags := 25, slot := 1, constantValue := 0 }, { name := "NaN", type := .float, accessFlags := 25, slot := 2, constantValue := 0 }, { name := "MAX_VALUE", type := .float, accessFlags := 25, slot := 3, constantValue := 0 }, { name := "MIN_NORMAL", type := .float, accessFlags := 25, slot := 4, constantValue := 0 }, { name := "MIN_VALUE", type := .float, accessFlags := 25, slot := 5, constantValue := 0 }, { name := "SIZE", type := .int, accessFlags := 25, slot := 6, constantValue := 0 }, { name := "PRECISION", type := .int, accessFlags := 25, slot := 7, constantValue := 0 }, { name := "MAX_EXPONENT", type := .int, accessFlags := 25, slot := 8, constantValue := 0 }, { name := "MIN_EXPONENT", type := .int, accessFlags := 25, slot := 9, constantValue := 0 }, { name := "BYTES", type := .int, accessFlags := 25, slot := 10, constantValue := 0 }, { name := "TYPE", type := (.object "java/lang/Class"), accessFlags := 25, slot := 11, constantValue := 0 }, { name := "value", type := .float, accessFlags := 18, slot := 0, constantValue := 0 }, { name := "serialVersionUID", type := .long, accessFlags := 26, slot := 12, constantValue := 0 }, { name := "$assertionsDisabled", type := .boolean, accessFlags := 4120, slot := 13, constantValue := 0 }]
  methods := #[k25m0]
  instanceTypes := #[.float]
  staticTypes := #[.float, .float, .float, .float, .float, .float, .int, .int, .int, .int, .int, (.object "java/lang/Class"), .long, .boolean]
  resolved := Array.replicate 279 none
  statics := none }

def pool26 : Array CpInfo := pool [(1, .class_ 2), (0, u "java/lang/Integer"), (16, u "digits"), (0, u "[C"), (32, u "numberOfLeadingZeros"), (0, u "(I)I"), (30, u "DigitOnes"), (0, u "[B"), (2, u "DigitTens"), (99, .class_ 190), (0, u "java/lang/Integer$IntegerCache"), (3, u "I"), (8, .class_ 204), (0, u "java/lang/Number"), (2, u "value"), (56, .integer 65536), (37, u "TYPE"), (0, u "Ljava/lang/Class;"), (0, .class_ 305), (0, u "java/lang/Comparable"), (0, .class_ 307), (0, u "java/lang/constant/Constable"), (0, .class_ 309), (0, u "java/lang/constant/ConstantDesc"), (0, u "MIN_VALUE"), (1, u "MAX_VALUE"), (3, u "SIZE"), (1, u "BYTES"), (1, u "serialVersionUID"), (0, u "J")] 131

def k26c0 : Code := { maxStack := 3, maxLocals := 2, code := jdk_33_method_47_code, exceptionTable := #[], attributes := #[] }
def k26m0 : Method := { name := "numberOfLeadingZeros", desc := "(I)I", sig := { parameters := [.int], returnType := some .int }, accessFlags := 9, code := some k26c0 }
/-- java/lang/Integer -/
def k26 : Class := { plain "java/lang/Integer" (some 21) with
  accessFlags := 49
  interfaces := #[22, 23, 24]
  cf := some (fileOf pool26 1 #[.nestMembers #[189]] #[{ accessFlags := 9, nameIndex := 53, descriptorIndex := 54, attributes := #[] }] 49 203 #[304, 306, 308] #[{ accessFlags := 25, nameIndex := 310, descriptorIndex := 194, attributes := #[] }, { accessFlags := 25, nameIndex := 312, descriptorIndex := 194, attributes := #[] }, { accessFlags := 25, nameIndex := 302, descriptorIndex := 303, attributes := #[] }, { accessFlags := 24, nameIndex := 19, descriptorIndex := 20, attributes := #[] }, { accessFlags := 24, nameIndex := 89, descriptorIndex := 86, attributes := #[] }, { accessFlags := 24, nameIndex := 85, descriptorIndex := 86, attributes := #[] }, { accessFlags := 18, nameIndex := 207, descriptorIndex := 194, attributes := #[] }, { accessFlags := 25, nameIndex := 316, descriptorIndex := 194, attributes := #[] }, { accessFlags := 25, nameIndex := 318, descriptorIndex := 194, attributes := #[] }, { accessFlags := 26, nameIndex := 320, descriptorIndex := 321, attributes := #[] }])
  fields := #[{ name := "MIN_VALUE", type := .int, accessFlags := 25, slot := 0, constantValue := 0 }, { name := "MAX_VALUE", type := .int, accessFlags := 25, slot := 1, constantValue := 0 }, { name := "TYPE", type := (.object "java/lang/Class"), accessFlags := 25, slot := 2, constantValue := 0 }, { name := "digits", type := (.array .char), accessFlags := 24, slot := 3, constantValue := 0 }, { name := "DigitTens", type := (.array .byte), accessFlags := 24, slot := 4, constantValue := 0 }, { name := "DigitOnes", type := (.array .byte), accessFlags := 24, slot := 5, constantValue := 0 }, { name := "value", type := .int, accessFlags := 18, slot := 0, constantValue := 0 }, { name := "SIZE", type := .int, accessFlags := 25, slot := 6, constantValue := 0 }, { name := "BYTES", type := .int, accessFlags := 25, slot := 7, constantValue := 0 }, { name := "serialVersionUID", type := .long, accessFlags := 26, slot := 8, constantValue := 0 }]
  methods := #[k26m0]
  instanceTypes := #[.int]
  staticTypes := #[.int, .int, (.object "java/lang/Class"), (.array .char), (.array .byte), (.array .byte), .int, .int, .long]
  resolved := Array.replicate 453 none
  statics := none }

/-- the primitive byte -/
def k27 : Class := { plain "byte" none with kind := .primitive 'B', accessFlags := 0x411 }
/-- [B -/
def k28 : Class := { plain "[B" (some 0) with kind := .array 27 .byte, interfaces := #[10, 11], accessFlags := 1041 }

/-- the primitive int -/
def k29 : Class := { plain "int" none with kind := .primitive 'I', accessFlags := 0x411 }
/-- [I -/
def k30 : Class := { plain "[I" (some 0) with kind := .array 29 .int, interfaces := #[10, 11], accessFlags := 1041 }

def heap : Heap := #[]
def classes : Array Class := #[k0, k1, k2, k3, k4, k5, k6, k7, k8, k9, k10, k11, k12, k13, k14, k15, k16, k17, k18, k19, k20, k21, k22, k23, k24, k25, k26, k27, k28, k29, k30]
def interned : List (Array UInt16 × Addr) := []
def slotsUsed : Nat := 0
def theMethod : MethodId := ⟨1, 1⟩
def args0 : Array Value := #[.long 5, .long 7, .long 8, .long 9]
def aboutOver (below : List Frame) : State where
  vm := { classes := classes, interned := interned.toArray }
  heap := heap
  slotsUsed := slotsUsed
  threads := #[{ frames := .invoking theMethod args0 :: below }]
def below0 : List Frame := [.native { method := ⟨0, 0⟩, args := #[] }]
def about1 : State := aboutOver below0
def p0 : Program := .bare "" "" ""
def e0 : Env := launch0.env 0 0 0
theorem w_frames : about1.frames = Frame.invoking theMethod args0 :: below0 := rfl
set_option maxRecDepth 65536 in
theorem w_args : argsFit about1.vm theMethod args0 = true := by decide +kernel
set_option maxRecDepth 65536 in
theorem w_heap : heapFits about1 = true := by decide +kernel
set_option maxRecDepth 65536 in
theorem w_runnable : about1.curStatus? = some .runnable := by decide +kernel
set_option maxRecDepth 65536 in
theorem w_alone : about1.alone = true := by decide +kernel
set_option maxRecDepth 65536 in
theorem w_named : about1.methodNamed? x = some theMethod := by decide +kernel
set_option maxRecDepth 65536 in
theorem w_hears : about1.hears theMethod below0 = true := by decide +kernel
set_option maxRecDepth 65536 in
theorem w_ripe : about1.ripe theMethod args0 below0 = true := by decide +kernel
theorem w_running : about1.status = .running := rfl
set_option maxRecDepth 65536 in
theorem w_room : about1.hasRoom e0.platform room_1 = true :=
  launch0.hasRoom_least _ room_1 (by decide +kernel) (by decide +kernel) (by decide +kernel) (by decide +kernel) (by decide +kernel) (by decide +kernel)
theorem allAtoms_all (ts : List Jvm.Cond) (a : Array Jvm.Value) (st : Jvm.State) : (allAtoms ts).before a st = ts.all (fun c => c.before a st) := by
  induction ts with
  | nil => rfl
  | cons c t ih =>
    show (Jvm.Cond.and c (allAtoms t)).before a st = _
    rw [Jvm.Cond.before_and, ih, List.all_cons]
def words1 : List Jvm.Cond := Jvm.Cond.code x code maxLocals ret :: tables_1
/-- a 'code' word, met by the world's own term for the bytes: nothing is compared byte by byte -/
theorem code_word {y : MethodName} {bytes : ByteArray} {mx : Nat} {rt : Option FieldType} {a : Array Value} {s : State} {m : MethodId} {meth : Method} {c : Code} (h1 : s.methodNamed? y = some m) (h2 : s.vm.method? m = some meth) (h3 : meth.code = some c) (h4 : c.code = bytes)
    (h5 : (c.maxLocals == mx && c.exceptionTable.isEmpty && decide (c.maxStack ≤ mostOperands) && decide (meth.sig.returnType = rt) && !meth.locks && decide (parseMethodDescriptor y.desc = some meth.sig)) = true) : (Jvm.Cond.code y bytes mx rt).before a s = true := by
  simp only [Bool.and_eq_true, beq_iff_eq, Bool.not_eq_true', decide_eq_true_eq] at h5
  obtain ⟨⟨⟨⟨⟨g1, g2⟩, g3⟩, g4⟩, g5⟩, g6⟩ := h5
  simp [Cond.before, Cond.holds, Cond.value, h1, h2, h3, h4, g1, g2, g3, g4, g5, g6]
def isCode : Jvm.Cond → Bool
  | .code _ _ _ _ => true
  | _ => false
theorem all_split {L : List Jvm.Cond} {P : Jvm.Cond → Bool} (h1 : L.all (fun c => isCode c || P c) = true) (h2 : ∀ c ∈ L.filter isCode, P c = true) : L.all P = true := by
  refine List.all_eq_true.mpr fun c hc => ?_
  have h := List.all_eq_true.mp h1 c hc
  rcases Bool.eq_false_or_eq_true (isCode c) with hi | hi
  · exact h2 c (List.mem_filter.mpr ⟨hc, hi⟩)
  · simpa [hi] using h
set_option maxRecDepth 65536 in
theorem w_c0 : (Jvm.Cond.code x code maxLocals ret).before args0 about1 = true := code_word (m := ⟨1, 1⟩) (meth := k1m1) (c := k1c1) (by decide +kernel) rfl rfl rfl (by decide +kernel)
set_option maxRecDepth 65536 in
theorem w_c1 : (Jvm.Cond.code ({ cls := "java/lang/Math", name := "max", desc := "(JJ)J" } : Jvm.MethodName) jdk_29_method_66_code (4 : Nat) (Option.some Jvm.ClassFile.FieldType.long)).before args0 about1 = true := code_word (m := ⟨2, 1⟩) (meth := k2m1) (c := k2c1) (by decide +kernel) rfl rfl rfl (by decide +kernel)
set_option maxRecDepth 65536 in
theorem w_c2 : (Jvm.Cond.code ({ cls := "com/example/firm_tread/firmtread/destination/Fill", name := "<init>", desc := "(J)V" } : Jvm.MethodName) prog_29_method_1_code (3 : Nat) (Option.none : Option Jvm.ClassFile.FieldType)).before args0 about1 = true := code_word (m := ⟨3, 0⟩) (meth := k3m0) (c := k3c0) (by decide +kernel) rfl rfl rfl (by decide +kernel)
set_option maxRecDepth 65536 in
theorem w_c3 : (Jvm.Cond.code ({ cls := "java/lang/Object", name := "<init>", desc := "()V" } : Jvm.MethodName) object_method_1_code (1 : Nat) (Option.none : Option Jvm.ClassFile.FieldType)).before args0 about1 = true := code_word (m := ⟨0, 0⟩) (meth := k0m0) (c := k0c0) (by decide +kernel) rfl rfl rfl (by decide +kernel)
set_option maxRecDepth 65536 in
theorem w_c4 : (Jvm.Cond.code ({ cls := "com/example/firm_tread/firmtread/destination/Waiters", name := "<init>", desc := "()V" } : Jvm.MethodName) prog_42_method_1_code (1 : Nat) (Option.none : Option Jvm.ClassFile.FieldType)).before args0 about1 = true := code_word (m := ⟨4, 0⟩) (meth := k4m0) (c := k4c0) (by decide +kernel) rfl rfl rfl (by decide +kernel)
set_option maxRecDepth 65536 in
theorem w_c5 : (Jvm.Cond.code ({ cls := "java/util/LinkedHashSet", name := "<init>", desc := "()V" } : Jvm.MethodName) jdk_2620_method_3_code (1 : Nat) (Option.none : Option Jvm.ClassFile.FieldType)).before args0 about1 = true := code_word (m := ⟨15, 0⟩) (meth := k15m0) (c := k15c0) (by decide +kernel) rfl rfl rfl (by decide +kernel)
set_option maxRecDepth 65536 in
theorem w_c6 : (Jvm.Cond.code ({ cls := "java/util/HashSet", name := "<init>", desc := "(IFZ)V" } : Jvm.MethodName) jdk_93_method_5_code (4 : Nat) (Option.none : Option Jvm.ClassFile.FieldType)).before args0 about1 = true := code_word (m := ⟨12, 1⟩) (meth := k12m1) (c := k12c1) (by decide +kernel) rfl rfl rfl (by decide +kernel)
set_option maxRecDepth 65536 in
theorem w_c7 : (Jvm.Cond.code ({ cls := "java/util/AbstractSet", name := "<init>", desc := "()V" } : Jvm.MethodName) jdk_91_method_1_code (1 : Nat) (Option.none : Option Jvm.ClassFile.FieldType)).before args0 about1 = true := code_word (m := ⟨9, 0⟩) (meth := k9m0) (c := k9c0) (by decide +kernel) rfl rfl rfl (by decide +kernel)
set_option maxRecDepth 65536 in
theorem w_c8 : (Jvm.Cond.code ({ cls := "java/util/AbstractCollection", name := "<init>", desc := "()V" } : Jvm.MethodName) jdk_22_method_1_code (1 : Nat) (Option.none : Option Jvm.ClassFile.FieldType)).before args0 about1 = true := code_word (m := ⟨7, 0⟩) (meth := k7m0) (c := k7c0) (by decide +kernel) rfl rfl rfl (by decide +kernel)
set_option maxRecDepth 65536 in
theorem w_c9 : (Jvm.Cond.code ({ cls := "java/util/LinkedHashMap", name := "<init>", desc := "(IF)V" } : Jvm.MethodName) jdk_94_method_14_code (3 : Nat) (Option.none : Option Jvm.ClassFile.FieldType)).before args0 about1 = true := code_word (m := ⟨20, 0⟩) (meth := k20m0) (c := k20c0) (by decide +kernel) rfl rfl rfl (by decide +kernel)
set_option maxRecDepth 65536 in
theorem w_c10 : (Jvm.Cond.code ({ cls := "java/util/HashMap", name := "<init>", desc := "(IF)V" } : Jvm.MethodName) jdk_69_method_5_code (3 : Nat) (Option.none : Option Jvm.ClassFile.FieldType)).before args0 about1 = true := code_word (m := ⟨18, 1⟩) (meth := k18m1) (c := k18c1) (by decide +kernel) rfl rfl rfl (by decide +kernel)
set_option maxRecDepth 65536 in
theorem w_c11 : (Jvm.Cond.code ({ cls := "java/util/AbstractMap", name := "<init>", desc := "()V" } : Jvm.MethodName) jdk_71_method_1_code (1 : Nat) (Option.none : Option Jvm.ClassFile.FieldType)).before args0 about1 = true := code_word (m := ⟨17, 0⟩) (meth := k17m0) (c := k17c0) (by decide +kernel) rfl rfl rfl (by decide +kernel)
set_option maxRecDepth 65536 in
theorem w_c12 : (Jvm.Cond.code ({ cls := "java/lang/Float", name := "isNaN", desc := "(F)Z" } : Jvm.MethodName) jdk_118_method_6_code (1 : Nat) (Option.some Jvm.ClassFile.FieldType.boolean)).before args0 about1 = true := code_word (m := ⟨25, 0⟩) (meth := k25m0) (c := k25c0) (by decide +kernel) rfl rfl rfl (by decide +kernel)
set_option maxRecDepth 65536 in
theorem w_c13 : (Jvm.Cond.code ({ cls := "java/util/HashMap", name := "tableSizeFor", desc := "(I)I" } : Jvm.MethodName) jdk_69_method_4_code (2 : Nat) (Option.some Jvm.ClassFile.FieldType.int)).before args0 about1 = true := code_word (m := ⟨18, 0⟩) (meth := k18m0) (c := k18c0) (by decide +kernel) rfl rfl rfl (by decide +kernel)
set_option maxRecDepth 65536 in
theorem w_c14 : (Jvm.Cond.code ({ cls := "java/lang/Integer", name := "numberOfLeadingZeros", desc := "(I)I" } : Jvm.MethodName) jdk_33_method_47_code (2 : Nat) (Option.some Jvm.ClassFile.FieldType.int)).before args0 about1 = true := code_word (m := ⟨26, 0⟩) (meth := k26m0) (c := k26c0) (by decide +kernel) rfl rfl rfl (by decide +kernel)
set_option maxRecDepth 65536 in
theorem w_c15 : (Jvm.Cond.code ({ cls := "com/example/firm_tread/firmtread/destination/Fill", name := "add", desc := "(J)V" } : Jvm.MethodName) prog_29_method_9_code (3 : Nat) (Option.none : Option Jvm.ClassFile.FieldType)).before args0 about1 = true := code_word (m := ⟨3, 4⟩) (meth := k3m4) (c := k3c4) (by decide +kernel) rfl rfl rfl (by decide +kernel)
set_option maxRecDepth 65536 in
theorem w_c16 : (Jvm.Cond.code ({ cls := "com/example/firm_tread/firmtread/destination/Fill", name := "octets", desc := "()J" } : Jvm.MethodName) prog_29_method_5_code (1 : Nat) (Option.some Jvm.ClassFile.FieldType.long)).before args0 about1 = true := code_word (m := ⟨3, 2⟩) (meth := k3m2) (c := k3c2) (by decide +kernel) rfl rfl rfl (by decide +kernel)
set_option maxRecDepth 65536 in
theorem w_c17 : (Jvm.Cond.code ({ cls := "com/example/firm_tread/firmtread/destination/Fill", name := "isFull", desc := "()Z" } : Jvm.MethodName) prog_29_method_6_code (1 : Nat) (Option.some Jvm.ClassFile.FieldType.boolean)).before args0 about1 = true := code_word (m := ⟨3, 3⟩) (meth := k3m3) (c := k3c3) (by decide +kernel) rfl rfl rfl (by decide +kernel)
set_option maxRecDepth 65536 in
theorem w_c18 : (Jvm.Cond.code ({ cls := "com/example/firm_tread/firmtread/destination/Fill", name := "remove", desc := "(J)V" } : Jvm.MethodName) prog_29_method_10_code (3 : Nat) (Option.none : Option Jvm.ClassFile.FieldType)).before args0 about1 = true := code_word (m := ⟨3, 5⟩) (meth := k3m5) (c := k3c5) (by decide +kernel) rfl rfl rfl (by decide +kernel)
set_option maxRecDepth 65536 in
theorem w_c19 : (Jvm.Cond.code ({ cls := "com/example/firm_tread/firmtread/destination/Fill", name := "drainedAt", desc := "()J" } : Jvm.MethodName) prog_29_method_3_code (1 : Nat) (Option.some Jvm.ClassFile.FieldType.long)).before args0 about1 = true := code_word (m := ⟨3, 1⟩) (meth := k3m1) (c := k3c1) (by decide +kernel) rfl rfl rfl (by decide +kernel)
set_option maxRecDepth 65536 in
theorem w_c20 : (Jvm.Cond.code ({ cls := "com/example/firm_tread/firmtread/destination/Waiters", name := "tellAll", desc := "()V" } : Jvm.MethodName) prog_42_method_3_code (4 : Nat) (Option.none : Option Jvm.ClassFile.FieldType)).before args0 about1 = true := code_word (m := ⟨4, 1⟩) (meth := k4m1) (c := k4c1) (by decide +kernel) rfl rfl rfl (by decide +kernel)
set_option maxRecDepth 65536 in
theorem w_c21 : (Jvm.Cond.code ({ cls := "java/util/HashSet", name := "isEmpty", desc := "()Z" } : Jvm.MethodName) jdk_93_method_8_code (1 : Nat) (Option.some Jvm.ClassFile.FieldType.boolean)).before args0 about1 = true := code_word (m := ⟨12, 2⟩) (meth := k12m2) (c := k12c2) (by decide +kernel) rfl rfl rfl (by decide +kernel)
set_option maxRecDepth 65536 in
theorem w_c22 : (Jvm.Cond.code ({ cls := "java/util/HashMap", name := "isEmpty", desc := "()Z" } : Jvm.MethodName) jdk_69_method_11_code (1 : Nat) (Option.some Jvm.ClassFile.FieldType.boolean)).before args0 about1 = true := code_word (m := ⟨18, 3⟩) (meth := k18m3) (c := k18c3) (by decide +kernel) rfl rfl rfl (by decide +kernel)
def codes1 : List Jvm.Cond := [Jvm.Cond.code x code maxLocals ret, Jvm.Cond.code ({ cls := "java/lang/Math", name := "max", desc := "(JJ)J" } : Jvm.MethodName) jdk_29_method_66_code (4 : Nat) (Option.some Jvm.ClassFile.FieldType.long), Jvm.Cond.code ({ cls := "com/example/firm_tread/firmtread/destination/Fill", name := "<init>", desc := "(J)V" } : Jvm.MethodName) prog_29_method_1_code (3 : Nat) (Option.none : Option Jvm.ClassFile.FieldType), Jvm.Cond.code ({ cls := "java/lang/Object", name := "<init>", desc := "()V" } : Jvm.MethodName) object_method_1_code (1 : Nat) (Option.none : Option Jvm.ClassFile.FieldType), Jvm.Cond.code ({ cls := "com/example/firm_tread/firmtread/destination/Waiters", name := "<init>", desc := "()V" } : Jvm.MethodName) prog_42_method_1_code (1 : Nat) (Option.none : Option Jvm.ClassFile.FieldType), Jvm.Cond.code ({ cls := "java/util/LinkedHashSet", name := "<init>", desc := "()V" } : Jvm.MethodName) jdk_2620_method_3_code (1 : Nat) (Option.none : Option Jvm.ClassFile.FieldType), Jvm.Cond.code ({ cls := "java/util/HashSet", name := "<init>", desc := "(IFZ)V" } : Jvm.MethodName) jdk_93_method_5_code (4 : Nat) (Option.none : Option Jvm.ClassFile.FieldType), Jvm.Cond.code ({ cls := "java/util/AbstractSet", name := "<init>", desc := "()V" } : Jvm.MethodName) jdk_91_method_1_code (1 : Nat) (Option.none : Option Jvm.ClassFile.FieldType), Jvm.Cond.code ({ cls := "java/util/AbstractCollection", name := "<init>", desc := "()V" } : Jvm.MethodName) jdk_22_method_1_code (1 : Nat) (Option.none : Option Jvm.ClassFile.FieldType), Jvm.Cond.code ({ cls := "java/util/LinkedHashMap", name := "<init>", desc := "(IF)V" } : Jvm.MethodName) jdk_94_method_14_code (3 : Nat) (Option.none : Option Jvm.ClassFile.FieldType), Jvm.Cond.code ({ cls := "java/util/HashMap", name := "<init>", desc := "(IF)V" } : Jvm.MethodName) jdk_69_method_5_code (3 : Nat) (Option.none : Option Jvm.ClassFile.FieldType), Jvm.Cond.code ({ cls := "java/util/AbstractMap", name := "<init>", desc := "()V" } : Jvm.MethodName) jdk_71_method_1_code (1 : Nat) (Option.none : Option Jvm.ClassFile.FieldType), Jvm.Cond.code ({ cls := "java/lang/Float", name := "isNaN", desc := "(F)Z" } : Jvm.MethodName) jdk_118_method_6_code (1 : Nat) (Option.some Jvm.ClassFile.FieldType.boolean), Jvm.Cond.code ({ cls := "java/util/HashMap", name := "tableSizeFor", desc := "(I)I" } : Jvm.MethodName) jdk_69_method_4_code (2 : Nat) (Option.some Jvm.ClassFile.FieldType.int), Jvm.Cond.code ({ cls := "java/lang/Integer", name := "numberOfLeadingZeros", desc := "(I)I" } : Jvm.MethodName) jdk_33_method_47_code (2 : Nat) (Option.some Jvm.ClassFile.FieldType.int), Jvm.Cond.code ({ cls := "com/example/firm_tread/firmtread/destination/Fill", name := "add", desc := "(J)V" } : Jvm.MethodName) prog_29_method_9_code (3 : Nat) (Option.none : Option Jvm.ClassFile.FieldType), Jvm.Cond.code ({ cls := "com/example/firm_tread/firmtread/destination/Fill", name := "octets", desc := "()J" } : Jvm.MethodName) prog_29_method_5_code (1 : Nat) (Option.some Jvm.ClassFile.FieldType.long), Jvm.Cond.code ({ cls := "com/example/firm_tread/firmtread/destination/Fill", name := "isFull", desc := "()Z" } : Jvm.MethodName) prog_29_method_6_code (1 : Nat) (Option.some Jvm.ClassFile.FieldType.boolean), Jvm.Cond.code ({ cls := "com/example/firm_tread/firmtread/destination/Fill", name := "remove", desc := "(J)V" } : Jvm.MethodName) prog_29_method_10_code (3 : Nat) (Option.none : Option Jvm.ClassFile.FieldType), Jvm.Cond.code ({ cls := "com/example/firm_tread/firmtread/destination/Fill", name := "drainedAt", desc := "()J" } : Jvm.MethodName) prog_29_method_3_code (1 : Nat) (Option.some Jvm.ClassFile.FieldType.long), Jvm.Cond.code ({ cls := "com/example/firm_tread/firmtread/destination/Waiters", name := "tellAll", desc := "()V" } : Jvm.MethodName) prog_42_method_3_code (4 : Nat) (Option.none : Option Jvm.ClassFile.FieldType), Jvm.Cond.code ({ cls := "java/util/HashSet", name := "isEmpty", desc := "()Z" } : Jvm.MethodName) jdk_93_method_8_code (1 : Nat) (Option.some Jvm.ClassFile.FieldType.boolean), Jvm.Cond.code ({ cls := "java/util/HashMap", name := "isEmpty", desc := "()Z" } : Jvm.MethodName) jdk_69_method_11_code (1 : Nat) (Option.some Jvm.ClassFile.FieldType.boolean)]
set_option maxRecDepth 65536 in
theorem codes_eq : words1.filter isCode = codes1 := rfl
theorem w_codes : ∀ c ∈ words1.filter isCode, c.before args0 about1 = true := by
  rw [codes_eq]
  intro c hc
  simp only [codes1, List.mem_cons, List.not_mem_nil, or_false] at hc
  rcases hc with rfl | rfl | rfl | rfl | rfl | rfl | rfl | rfl | rfl | rfl | rfl | rfl | rfl | rfl | rfl | rfl | rfl | rfl | rfl | rfl | rfl | rfl | rfl
  · exact w_c0
  · exact w_c1
  · exact w_c2
  · exact w_c3
  · exact w_c4
  · exact w_c5
  · exact w_c6
  · exact w_c7
  · exact w_c8
  · exact w_c9
  · exact w_c10
  · exact w_c11
  · exact w_c12
  · exact w_c13
  · exact w_c14
  · exact w_c15
  · exact w_c16
  · exact w_c17
  · exact w_c18
  · exact w_c19
  · exact w_c20
  · exact w_c21
  · exact w_c22
set_option maxRecDepth 65536 in
theorem w_t1 : (words1.take 24).all (fun c => isCode c || c.before args0 about1) = true := by decide +kernel
set_option maxRecDepth 65536 in
theorem w_t2 : ((words1.drop 24).take 24).all (fun c => isCode c || c.before args0 about1) = true := by decide +kernel
set_option maxRecDepth 65536 in
theorem w_t3 : (((words1.drop 24).drop 24).take 24).all (fun c => isCode c || c.before args0 about1) = true := by decide +kernel
set_option maxRecDepth 65536 in
theorem w_t4 : ((((words1.drop 24).drop 24).drop 24).take 24).all (fun c => isCode c || c.before args0 about1) = true := by decide +kernel
set_option maxRecDepth 65536 in
theorem w_t5 : (((((words1.drop 24).drop 24).drop 24).drop 24).take 24).all (fun c => isCode c || c.before args0 about1) = true := by decide +kernel
set_option maxRecDepth 65536 in
theorem w_t6 : ((((((words1.drop 24).drop 24).drop 24).drop 24).drop 24).take 24).all (fun c => isCode c || c.before args0 about1) = true := by decide +kernel
set_option maxRecDepth 65536 in
theorem w_t7 : ((((((words1.drop 24).drop 24).drop 24).drop 24).drop 24).drop 24).all (fun c => isCode c || c.before args0 about1) = true := by decide +kernel
theorem w_tables : (allAtoms (Jvm.Cond.code x code maxLocals ret :: tables_1)).before args0 about1 = true := by
  rw [allAtoms_all]
  show words1.all (fun c => c.before args0 about1) = true
  refine all_split ?_ w_codes
  rw [← List.take_append_drop 24 words1, List.all_append, w_t1, ← List.take_append_drop 24 (words1.drop 24), List.all_append, w_t2, ← List.take_append_drop 24 ((words1.drop 24).drop 24), List.all_append, w_t3, ← List.take_append_drop 24 (((words1.drop 24).drop 24).drop 24), List.all_append, w_t4, ← List.take_append_drop 24 ((((words1.drop 24).drop 24).drop 24).drop 24), List.all_append, w_t5, ← List.take_append_drop 24 (((((words1.drop 24).drop 24).drop 24).drop 24).drop 24), List.all_append, w_t6, w_t7]
  rfl
set_option maxRecDepth 65536 in
theorem w_case : (Jvm.Cond.and given_1 narrow_1).before args0 about1 = true := by decide +kernel
theorem w_applies : (headSpec (Jvm.Cond.code x code maxLocals ret :: tables_1) room_1).applies x e0.platform about1 = true :=
  (Spec.applies_iff w_frames).mpr ⟨w_running, w_runnable, w_alone, w_named, w_hears, w_ripe, w_room, w_tables⟩
theorem atStart : AtStart classFile x code maxLocals ret World_1 tables_1 room_1 Calls_1 rest_1 Pre_1 launch0 p0 e0 about1 theMethod args0 below0 :=
  ⟨lists_1, trivial, launch0.admits_env _ _ _, launch0.least_env, fairChoices_fair.cas, fairChoices_fair.clock, w_frames, w_args, w_heap, w_applies, trivial, trivial, w_case⟩
end start1
theorem witness_1 : WitnessClaimed_1 := ⟨start1.p0, start1.e0, start1.about1, start1.theMethod, start1.args0, start1.below0, start1.atStart⟩
end Jvm.Pilot.@@N@@
