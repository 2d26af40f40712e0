import JvmDerived
import JvmDerived.Pilot.@@N@@Statement
import JvmDerived.Pilot.@@N@@Code
set_option linter.unusedVariables false
set_option linter.unusedSimpArgs false
namespace Jvm.Pilot.@@N@@
open Jvm Jvm.ClassFile Sem Op Lib Jvm.Free Jvm.Stand Jvm.LawKit Jvm.RoadKit Bundle Jvm.Pilot.@@N@@.Jvm.D
/-! own_..: the walk in goal form: own_Go says that from a frame on the run comes to its end as the contract says; every step turns the goal for one frame into the goal for the next, so a branch is a case split and a join a 'have'. -/
def own_Post (s : State) (Q : Option Value → Heap → List Loc → Prop) (cs ss : Nat) (o : Outcome) (u : State) : Prop := ∃ v L, o = .returned v ∧ Q v u.heap L ∧ FrameEnd s o u L cs ss
def own_Go (p : Program) (e : Env) (below : List Frame) (Qf : Outcome → State → Prop) (T : State) (g : JFrame) : Prop := ∃ s₂ o, Steps p.tables e below (T.setTop g) s₂ ∧ s₂.status = .running ∧ Ended s₂ below o ∧ Qf o s₂
abbrev own_Met (l : Launch) (Z : State) (y : MethodName) (bytes : ByteArray) (maxL : Nat) (ret : Option FieldType) (ws : List Jvm.Cond) (rm : Room) (as' : Array Value) (h0 : Heap) (cs ss : Nat) (Q : Option Value → Heap → List Loc → Prop) : Prop :=
  MetFree l y (head1 (Jvm.Cond.code y bytes maxL ret :: ws) rm) (fun a U => a = as' ∧ Z.Warmed39 U.vm ∧ U.heap = h0) (fun _ _ _ _ _ => True) (fun _ U o U' => ∃ v L, o = .returned v ∧ Q v U'.heap L ∧ FrameEnd U o U' L cs ss)
def own_b (b : Bool) : Int32 := if b then 1 else 0
theorem own_b_t {b : Bool} (h : b = true) : own_b b = 1 := by subst h; rfl
theorem own_b_f {b : Bool} (h : ¬ b = true) : own_b b = 0 := by rw [Bool.eq_false_iff.mpr h]; rfl
theorem own_b_n {b : Bool} (h : b = true) : ¬ own_b b = 0 := by subst h; decide
theorem own_b_nar (b : Bool) : nar .boolean (own_b b) = own_b b := by cases b <;> rfl
theorem own_b_fits (b : Bool) : fits .boolean (.int (own_b b)) = true := by cases b <;> rfl
theorem own_b_inj {a b : Bool} (h : own_b a = own_b b) : a = b := by cases a <;> cases b <;> first | rfl | exact absurd h (by decide)
section Own
variable {p : Program} {l : Launch} {e : Env} {R : Room} {s : State} {m : MethodId} {args : Array Value} {below : List Frame} {meth : Method} {c : Code} {T T' : State} {locs : List Loc} {cells slots : Nat} {Z : State} {a0 : Array Value} {h : Heap}
theorem own_go {Qf : Outcome → State → Prop} {g g' : JFrame} (h : ∀ t, Steps p.tables e below (T'.setTop g') t → Steps p.tables e below (T.setTop g) t) (k : own_Go p e below Qf T' g') : own_Go p e below Qf T g := by
  obtain ⟨s₂, o, h1, h2⟩ := k
  exact ⟨s₂, o, h _ h1, h2⟩
theorem own_cast {Qf : Outcome → State → Prop} {g g' : JFrame} (q : g = g') (k : own_Go p e below Qf T g') : own_Go p e below Qf T g := q ▸ k
theorem own_met {y : MethodName} {bytes : ByteArray} {maxL : Nat} {ret : Option FieldType} {ws : List Jvm.Cond} {rm : Room} {as' : Array Value} {h0 : Heap} {cs ss : Nat} {Q : Option Value → Heap → List Loc → Prop} (hp : plainFor y = true)
    (body : ∀ (p : Program) (e : Env) (s : State) (m : MethodId) (below : List Frame) (meth : Method) (c : Code) (s₁ : State), BodyLoose p l y (head1 (Jvm.Cond.code y bytes maxL ret :: ws) rm) bytes maxL ret e s m as' below meth c s₁ → c.maxLocals = maxL → Z.Warmed39 s.vm →
      Stand p l e rm s m as' below meth c s₁ [] 0 0 → s₁.heap = h0 → own_Go p e below (own_Post s Q cs ss) s₁ (entryFrame m as' maxL)) : own_Met l Z y bytes maxL ret ws rm as' h0 cs ss Q := by
  refine MetFree.of_bodySF hp hisR ?_
  intro p e s m args below meth c s₁ Bd hml0 hP hK
  obtain ⟨rfl, hZ, hh⟩ := hP
  exact body p e s m below meth c s₁ Bd hml0 hZ (Stand.of_body Bd) (by rw [← hh, Bd.state]; rfl)
theorem own_retN (X : Stand p l e R s m args below meth c T locs cells slots) (hx : p.tables.exec = Jvm.exec) (t : FieldType) (hret : meth.sig.returnType = some t) (hlk : meth.locks = false) (ht : t = .boolean ∨ t = .byte ∨ t = .char ∨ t = .short) {pc : Nat} {Ls : Array Slot} {z : Int32} {rest : List Value} (hd : decode c.code pc = .ok (.ireturn, 1))
    {Q : Option Value → Heap → List Loc → Prop} {cs ss : Nat} (hc : cells ≤ cs) (hs : slots ≤ ss) (hQ : Q (some (.int (nar t z))) T.heap locs) : own_Go p e below (own_Post s Q cs ss) T (mkF m pc Ls (.int z :: rest)) := by
  obtain ⟨fs, hr, hrun, hended, hW, hsame⟩ := X.leave (v := some (.int (nar t z))) (fun h => by rw [hret] at h; cases h) hlk
  exact ⟨_, _, retN X hx hret ht hd hr, hrun, hended, _, _, rfl, hQ, ⟨_, rfl⟩, hW, hsame.mono hc hs⟩
theorem own_retI (X : Stand p l e R s m args below meth c T locs cells slots) (hx : p.tables.exec = Jvm.exec) (hret : meth.sig.returnType = some .int) (hlk : meth.locks = false) {pc : Nat} {Ls : Array Slot} {z : Int32} {rest : List Value} (hd : decode c.code pc = .ok (.ireturn, 1))
    {Q : Option Value → Heap → List Loc → Prop} {cs ss : Nat} (hc : cells ≤ cs) (hs : slots ≤ ss) (hQ : Q (some (.int z)) T.heap locs) : own_Go p e below (own_Post s Q cs ss) T (mkF m pc Ls (.int z :: rest)) := by
  obtain ⟨fs, hr, hrun, hended, hW, hsame⟩ := X.leave (v := some (.int z)) (fun h => by rw [hret] at h; cases h) hlk
  exact ⟨_, _, retOut X hx hret rfl (Or.inl ⟨rfl, Or.inl rfl, _, rfl⟩) hd hr, hrun, hended, _, _, rfl, hQ, ⟨_, rfl⟩, hW, hsame.mono hc hs⟩
theorem own_retJ (X : Stand p l e R s m args below meth c T locs cells slots) (hx : p.tables.exec = Jvm.exec) (hret : meth.sig.returnType = some .long) (hlk : meth.locks = false) {pc : Nat} {Ls : Array Slot} {z : Int64} {rest : List Value} (hd : decode c.code pc = .ok (.lreturn, 1))
    {Q : Option Value → Heap → List Loc → Prop} {cs ss : Nat} (hc : cells ≤ cs) (hs : slots ≤ ss) (hQ : Q (some (.long z)) T.heap locs) : own_Go p e below (own_Post s Q cs ss) T (mkF m pc Ls (.long z :: rest)) := by
  obtain ⟨fs, hr, hrun, hended, hW, hsame⟩ := X.leave (v := some (.long z)) (fun h => by rw [hret] at h; cases h) hlk
  exact ⟨_, _, retOut X hx hret rfl (Or.inr (Or.inl ⟨rfl, rfl, _, rfl⟩)) hd hr, hrun, hended, _, _, rfl, hQ, ⟨_, rfl⟩, hW, hsame.mono hc hs⟩
theorem own_retA (X : Stand p l e R s m args below meth c T locs cells slots) (hx : p.tables.exec = Jvm.exec) {t : FieldType} (hret : meth.sig.returnType = some t) (hlk : meth.locks = false) (ht : t.isReference = true) {pc : Nat} {Ls : Array Slot} {w : Value} {rest : List Value} (hw : w.isRef = true) (hd : decode c.code pc = .ok (.areturn, 1))
    {Q : Option Value → Heap → List Loc → Prop} {cs ss : Nat} (hc : cells ≤ cs) (hs : slots ≤ ss) (hQ : Q (some w) T.heap locs) : own_Go p e below (own_Post s Q cs ss) T (mkF m pc Ls (w :: rest)) := by
  obtain ⟨fs, hr, hrun, hended, hW, hsame⟩ := X.leave (v := some w) (fun h => by rw [hret] at h; cases h) hlk
  have hn : narrow t w = w := by rcases ref_cases hw with rfl | ⟨a, rfl⟩ <;> cases t <;> first | rfl | cases ht
  exact ⟨_, _, retOut X hx hret hn (Or.inr (Or.inr (Or.inr (Or.inr ⟨rfl, ht, hw⟩)))) hd hr, hrun, hended, _, _, rfl, hQ, ⟨_, rfl⟩, hW, hsame.mono hc hs⟩
theorem own_retV (X : Stand p l e R s m args below meth c T locs cells slots) (hx : p.tables.exec = Jvm.exec) (hret : meth.sig.returnType = none) (hlk : meth.locks = false) {pc : Nat} {Ls : Array Slot} (hd : decode c.code pc = .ok (.return_, 1))
    {Q : Option Value → Heap → List Loc → Prop} {cs ss : Nat} (hc : cells ≤ cs) (hs : slots ≤ ss) (hQ : Q none T.heap locs) : own_Go p e below (own_Post s Q cs ss) T (mkF m pc Ls []) := by
  obtain ⟨fs, hr, hrun, hended, hW, hsame⟩ := X.leave (v := none) (fun _ => rfl) hlk
  exact ⟨_, _, X.returnOut hx hret hd hr, hrun, hended, _, _, rfl, hQ, ⟨_, rfl⟩, hW, hsame.mono hc hs⟩
theorem own_callS (X : Stand p l e R s m args below meth c T locs cells slots) (hx : p.tables.exec = Jvm.exec) (hZ : Z.Warmed39 s.vm) {own : String} {index : Nat} {y : MethodName} {bytes : ByteArray} {maxL : Nat} {ret : Option FieldType} (hown : s.vm.findClass own = some m.cls)
    (w1 : (Jvm.Cond.methodLink own index y).before a0 Z = true) (w2 : (Jvm.Cond.static y).before a0 Z = true) (w3 : (Jvm.Cond.initialized y.cls).before a0 Z = true) (w4 : (Jvm.Cond.code y bytes maxL ret).before a0 Z = true)
    (hy : y.cls ≠ "java/lang/invoke/MethodHandle" ∧ y.cls ≠ "java/lang/invoke/VarHandle") {rm : Room} {argsL : List Value} {Q : Option Value → Heap → List Loc → Prop} (hM : own_Met l Z y bytes maxL ret [] rm argsL.toArray h rm.cells rm.slots Q) (eT : T.heap = h)
    {g : JFrame} (hg : g.method = m) (hsize : g.locals.size = c.maxLocals) {rest : List Value} (hlen : ∀ sig, parseMethodDescriptor y.desc = some sig → argsL.length = sig.parameters.length) (hstack : g.stack = argsL.reverse ++ rest)
    (hdg : decode c.code g.pc = .ok (.invokestatic index, 3)) {W : Nat} (hW : 2 * g.monitorRoom + (rest.map fun v => v.category).sum ≤ W) (hf : rm.frames + 1 ≤ R.frames) (hl : W + (maxL + 11) + rm.locals ≤ R.locals) (hc : cells + rm.cells ≤ R.cells) (hs : slots + rm.slots ≤ R.slots) :
    ∃ (v : Option Value) (T' : State) (L : List Loc), Q v T'.heap L ∧ Stand p l e R s m args below meth c T' (locs ++ L) (cells + rm.cells) (slots + rm.slots) ∧
      ∀ t, Steps p.tables e below (T'.setTop { g with pc := g.pc + 3, stack := v.toList ++ rest }) t → Steps p.tables e below (T.setTop g) t := by
  obtain ⟨v, _, ⟨T', L', k', n'⟩, -, X', ⟨L, hQ, l1, l2, l3⟩, st⟩ := Jvm.LawKit.callS X hx hown (mvT hZ w1) (mvT hZ w2) (mvT hZ w3) (mvT hZ w4) hy (backOf (W := W) hM hZ w4 w3 hf hl) hg hsize hlen hstack hW hdg (fun _ _ => ⟨rfl, eT, hc, hs⟩)
  dsimp only [Pt.U, Pt.locs, Pt.cells, Pt.slots] at X' l1 l2 l3 st hQ
  subst l1 l2 l3
  exact ⟨v, T', L, hQ, X', st⟩
theorem own_callI (X : Stand p l e R s m args below meth c T locs cells slots) (hx : p.tables.exec = Jvm.exec) (hZ : Z.Warmed39 s.vm) {own : String} {index : Nat} {y : MethodName} {bytes : ByteArray} {maxL : Nat} (hy1 : y.name = "<init>") (hown : s.vm.findClass own = some m.cls)
    (w1 : (Jvm.Cond.methodLink own index y).before a0 Z = true) (w2 : (Jvm.Cond.instanceMethod y).before a0 Z = true) (w3 : (Jvm.Cond.initialized y.cls).before a0 Z = true) (w4 : (Jvm.Cond.code y bytes maxL none).before a0 Z = true)
    (hy : y.cls ≠ "java/lang/invoke/MethodHandle" ∧ y.cls ≠ "java/lang/invoke/VarHandle") {rm : Room} {a : Addr} {argsL : List Value} {Q : Option Value → Heap → List Loc → Prop} (hM : own_Met l Z y bytes maxL none [] rm (.ref a :: argsL).toArray h rm.cells rm.slots Q) (eT : T.heap = h)
    {g : JFrame} (hg : g.method = m) (hsize : g.locals.size = c.maxLocals) {rest : List Value} (hlen : ∀ sig, parseMethodDescriptor y.desc = some sig → argsL.length = sig.parameters.length) (hstack : g.stack = argsL.reverse ++ .ref a :: rest)
    (hdg : decode c.code g.pc = .ok (.invokespecial index, 3)) {W : Nat} (hW : 2 * g.monitorRoom + (rest.map fun v => v.category).sum ≤ W) (hf : rm.frames + 1 ≤ R.frames) (hl : W + (maxL + 11) + rm.locals ≤ R.locals) (hc : cells + rm.cells ≤ R.cells) (hs : slots + rm.slots ≤ R.slots) :
    ∃ (v : Option Value) (T' : State) (L : List Loc), Q v T'.heap L ∧ Stand p l e R s m args below meth c T' (locs ++ L) (cells + rm.cells) (slots + rm.slots) ∧
      ∀ t, Steps p.tables e below (T'.setTop { g with pc := g.pc + 3, stack := v.toList ++ rest }) t → Steps p.tables e below (T.setTop g) t := by
  obtain ⟨v, _, ⟨T', L', k', n'⟩, -, X', ⟨L, hQ, l1, l2, l3⟩, st⟩ := X.specialBack hx hy1 hown (mvT hZ w1) (mvT hZ w2) (mvT hZ w4) hy (backOf (W := W) hM hZ w4 w3 hf hl) hg hsize (Steps.refl _) hlen hstack hW hdg (fun _ _ => ⟨rfl, eT, hc, hs⟩)
  dsimp only [Pt.U, Pt.locs, Pt.cells, Pt.slots] at X' l1 l2 l3 st hQ
  subst l1 l2 l3
  exact ⟨v, T', L, hQ, X', fun _ k => st.trans k⟩
theorem own_callV (X : Stand p l e R s m args below meth c T locs cells slots) (hx : p.tables.exec = Jvm.exec) (hZ : Z.Warmed39 s.vm) {own C : String} {index : Nat} {y z : MethodName} {bytes : ByteArray} {maxL : Nat} {ret : Option FieldType} (hown : s.vm.findClass own = some m.cls)
    (w1 : (Jvm.Cond.methodLink own index y).before a0 Z = true) (w2 : (Jvm.Cond.declares y).before a0 Z = true) (hnf : NotFace s y) (ws : (Jvm.Cond.selects C y z).before a0 Z = true) (wi : (Jvm.Cond.instanceMethod z).before a0 Z = true) (w3 : (Jvm.Cond.initialized z.cls).before a0 Z = true) (w4 : (Jvm.Cond.code z bytes maxL ret).before a0 Z = true)
    (hy : y.cls ≠ "java/lang/invoke/MethodHandle" ∧ y.cls ≠ "java/lang/invoke/VarHandle") {rm : Room} {a : Addr} {argsL : List Value} {Q : Option Value → Heap → List Loc → Prop} (hM : own_Met l Z z bytes maxL ret [] rm (.ref a :: argsL).toArray h rm.cells rm.slots Q) (eT : T.heap = h) (E : Exa Z h a C)
    {g : JFrame} (hg : g.method = m) (hsize : g.locals.size = c.maxLocals) {rest : List Value} (hlen : ∀ sig, parseMethodDescriptor y.desc = some sig → argsL.length = sig.parameters.length) (hstack : g.stack = argsL.reverse ++ .ref a :: rest)
    (hdg : decode c.code g.pc = .ok (.invokevirtual index, 3)) {W : Nat} (hW : 2 * g.monitorRoom + (rest.map fun v => v.category).sum ≤ W) (hf : rm.frames + 1 ≤ R.frames) (hl : W + (maxL + 11) + rm.locals ≤ R.locals) (hc : cells + rm.cells ≤ R.cells) (hs : slots + rm.slots ≤ R.slots) :
    ∃ (v : Option Value) (T' : State) (L : List Loc), Q v T'.heap L ∧ Stand p l e R s m args below meth c T' (locs ++ L) (cells + rm.cells) (slots + rm.slots) ∧
      ∀ t, Steps p.tables e below (T'.setTop { g with pc := g.pc + 3, stack := v.toList ++ rest }) t → Steps p.tables e below (T.setTop g) t := by
  obtain ⟨cq, kq, qa, qb, qc⟩ := isOf hZ eT E
  obtain ⟨v, _, ⟨T', L', k', n'⟩, -, X', ⟨L, hQ, l1, l2, l3⟩, st⟩ := X.virtualBack hx hown (mvT hZ w1) (mvT hZ w2) hnf (mvT hZ ws) (mvT hZ wi) hy (backOf (W := W) hM hZ w4 w3 hf hl) qa qc hg hsize (Steps.refl _) hlen hstack hW hdg (fun _ _ => ⟨rfl, eT, hc, hs⟩)
  dsimp only [Pt.U, Pt.locs, Pt.cells, Pt.slots] at X' l1 l2 l3 st hQ
  subst l1 l2 l3
  exact ⟨v, T', L, hQ, X', fun _ k => st.trans k⟩
theorem own_callF (X : Stand p l e R s m args below meth c T locs cells slots) (hx : p.tables.exec = Jvm.exec) (hZ : Z.Warmed39 s.vm) {own C : String} {index count : Nat} {xi y : MethodName} {bytes : ByteArray} {maxL : Nat} {ret : Option FieldType} (hown : s.vm.findClass own = some m.cls)
    (w1 : (Jvm.Cond.methodLink own index xi).before args s = true) (w2 : (Jvm.Cond.declares xi).before args s = true) (wf : (Jvm.Cond.interfaceMethod xi.cls xi.cls xi.name xi.desc).before args s = true) (ws : (Jvm.Cond.selects C xi y).before args s = true) (wi : (Jvm.Cond.instanceMethod y).before args s = true) (wp : (Jvm.Cond.publicMethod y).before args s = true) (wu : (Jvm.Cond.unhidden C xi.name xi.desc).before args s = true) (wc : (Jvm.Cond.castable C xi.cls).before args s = true) (w3 : (Jvm.Cond.initialized y.cls).before a0 Z = true) (w4 : (Jvm.Cond.code y bytes maxL ret).before a0 Z = true)
    (hy : xi.cls ≠ "java/lang/invoke/MethodHandle" ∧ xi.cls ≠ "java/lang/invoke/VarHandle") {rm : Room} {a : Addr} {argsL : List Value} {Q : Option Value → Heap → List Loc → Prop} (hM : own_Met l Z y bytes maxL ret [] rm (.ref a :: argsL).toArray h rm.cells rm.slots Q) (eT : T.heap = h) (E : Exa Z h a C)
    {g : JFrame} (hg : g.method = m) (hsize : g.locals.size = c.maxLocals) {rest : List Value} (hlen : ∀ sig, parseMethodDescriptor xi.desc = some sig → argsL.length = sig.parameters.length) (hstack : g.stack = argsL.reverse ++ .ref a :: rest)
    (hdg : decode c.code g.pc = .ok (.invokeinterface index count, 5)) {W : Nat} (hW : 2 * g.monitorRoom + (rest.map fun v => v.category).sum ≤ W) (hf : rm.frames + 1 ≤ R.frames) (hl : W + (maxL + 11) + rm.locals ≤ R.locals) (hc : cells + rm.cells ≤ R.cells) (hs : slots + rm.slots ≤ R.slots) :
    ∃ (v : Option Value) (T' : State) (L : List Loc), Q v T'.heap L ∧ Stand p l e R s m args below meth c T' (locs ++ L) (cells + rm.cells) (slots + rm.slots) ∧
      ∀ t, Steps p.tables e below (T'.setTop { g with pc := g.pc + 5, stack := v.toList ++ rest }) t → Steps p.tables e below (T.setTop g) t := by
  obtain ⟨cq, kq, qa, qb, qc⟩ := isOf hZ eT E
  obtain ⟨v, _, ⟨T', L', k', n'⟩, -, X', ⟨L, hQ, l1, l2, l3⟩, st⟩ := X.interfaceBack hx hown w1 w2 wf ws wi wp wu wc hy (backOf (W := W) hM hZ w4 w3 hf hl) qa qb qc hg hsize (Steps.refl _) hlen hstack hW hdg (fun _ _ => ⟨rfl, eT, hc, hs⟩)
  dsimp only [Pt.U, Pt.locs, Pt.cells, Pt.slots] at X' l1 l2 l3 st hQ
  subst l1 l2 l3
  exact ⟨v, T', L, hQ, X', fun _ k => st.trans k⟩
theorem own_irem {g : JFrame} {target : State} (X : Stand p l e R s m args below meth c T locs cells slots) (hx : p.tables.exec = Jvm.exec) (hg : g.method = m) {x y : Int32} {rest : List Value} (hd : decode c.code g.pc = .ok (.irem, 1)) (hs : g.stack = .int y :: .int x :: rest) (hy : y ≠ 0)
    (hr : Steps p.tables e below (T.setTop { g with pc := g.pc + 1, stack := .int (x % y) :: rest }) target) : Steps p.tables e below (T.setTop g) target := iremM X hx hg hd hs hy hr
theorem own_lrem {g : JFrame} {target : State} (X : Stand p l e R s m args below meth c T locs cells slots) (hx : p.tables.exec = Jvm.exec) (hg : g.method = m) {x y : Int64} {rest : List Value} (hd : decode c.code g.pc = .ok (.lrem, 1)) (hs : g.stack = .long y :: .long x :: rest) (hy : y ≠ 0)
    (hr : Steps p.tables e below (T.setTop { g with pc := g.pc + 1, stack := .long (x % y) :: rest }) target) : Steps p.tables e below (T.setTop g) target :=
  XS.lrem X.here hx hg hd hs hy (by rw [lrem_mod]; exact hr)
theorem own_pop2 {g : JFrame} {target : State} (X : Stand p l e R s m args below meth c T locs cells slots) (hx : p.tables.exec = Jvm.exec) (hg : g.method = m) {x : Int64} {rest : List Value} (hd : decode c.code g.pc = .ok (.pop2, 1)) (hs : g.stack = .long x :: rest)
    (hr : Steps p.tables e below (T.setTop { g with pc := g.pc + 1, stack := rest }) target) : Steps p.tables e below (T.setTop g) target := by
  subst hg
  jvm_step X.here [X.here.top, hx, hd, hs, Value.category]
  exact hr
theorem own_fldJ {t : Term} {C n d : String} {a : Addr} {z : Int64} (ht : t.eval args s none [] s = some (.ref a)) (q : (Jvm.Cond.eq (.field t C n d) (.long z)).value args s none s [] = some true) : Fld s s.heap a C n d (.long z) := by
  obtain ⟨x, y, ha, hb, -, k2⟩ := cmp_v (Or.inl q)
  obtain rfl : y = .long z := Option.some.inj (hb.symm.trans (long_at z))
  obtain ⟨w, rfl⟩ := k2
  have e : w = z := gotT (eq_L ha hb) q
  subst e
  exact Fld.start ((fld_at ht).symm.trans ha)
theorem own_staI {C n d : String} {z : Int32} (q : (Jvm.Cond.eq (.static C n d) (.int z)).value args s none s [] = some true) (hi : (Jvm.Cond.initializedFor C n d).before args s = true ∨ ((Jvm.Cond.initialized C).before args s = true ∧ (Jvm.Cond.laysStatic C n d).before args s = true)) : Sta s s.heap C n d (.int z) := by
  obtain ⟨x, y, ha, hb, -, k2⟩ := cmp_v (Or.inl q)
  obtain rfl : y = .int z := Option.some.inj (hb.symm.trans (Term.int_eval z))
  obtain ⟨w, rfl⟩ := k2
  have e : w = z := gotT (Cond.eq_ints ha hb) q
  subst e
  exact Sta.start ha hi
theorem own_ns_exa {a : Addr} {C : String} (E : Exa Z h a C) : ∃ c : Cell, h[a]? = some c ∧ c.vm.isStatics = false := by
  obtain ⟨c, k, h1, -, -, h4, -⟩ := E
  exact ⟨c, h1, h4⟩
theorem own_ns_arv {a : Addr} {k : ClassId} {ty : FieldType} {z : Int32} {vs : List Value} {dv : Value} (F : Arv Z h a k ty z vs dv) : ∃ c : Cell, h[a]? = some c ∧ c.vm.isStatics = false := by
  obtain ⟨c, A, -⟩ := F
  exact ⟨c, A.1, A.plain⟩
theorem own_sta_keep {h' : Heap} {C n d : String} {w : Value} {ws : List Addr} (F : Sta Z h C n d w) (K : Keep h h' ws) (hn : ∀ x ∈ ws, ∃ c : Cell, h[x]? = some c ∧ c.vm.isStatics = false) : Sta Z h' C n d w := by
  obtain ⟨cf, i, k, f, st, cell, h1, h2, h3, h4, h5, h6, h7⟩ := F
  exact ⟨cf, i, k, f, st, cell, h1, h2, h3, h4, K.2.1 st cell h5 (fun q => by obtain ⟨c, e1, e2⟩ := hn st q; cases h5.symm.trans e1; rw [e2] at h6; cases h6), h6, h7⟩
end Own
abbrev own_n (x : Int64) : Nat := x.toUInt64.toNat
theorem own_n_lt (x : Int64) : own_n x < 18446744073709551616 := x.toUInt64.toNat_lt
theorem own_n_and (x y : Int64) : own_n (x &&& y) = own_n x &&& own_n y := by
  show (x &&& y).toBitVec.toNat = _
  rw [Int64.toBitVec_and, BitVec.toNat_and]; rfl
theorem own_n_or (x y : Int64) : own_n (x ||| y) = own_n x ||| own_n y := by
  show (x ||| y).toBitVec.toNat = _
  rw [Int64.toBitVec_or, BitVec.toNat_or]; rfl
theorem own_n_xor (x y : Int64) : own_n (x ^^^ y) = own_n x ^^^ own_n y := by
  show (x ^^^ y).toBitVec.toNat = _
  rw [Int64.toBitVec_xor, BitVec.toNat_xor]; rfl
theorem own_n_add (x y : Int64) : own_n (x + y) = (own_n x + own_n y) % 18446744073709551616 := by
  show (x + y).toBitVec.toNat = _
  rw [Int64.toBitVec_add, BitVec.toNat_add]; rfl
theorem own_n_sub {x y : Int64} (h : own_n y ≤ own_n x) : own_n (x - y) = own_n x - own_n y := by
  show (x - y).toBitVec.toNat = _
  rw [Int64.toBitVec_sub, BitVec.toNat_sub_of_le (by exact h)]; rfl
theorem own_n_shr (x : Int64) (u : UInt64) (k : Nat) (hk : u.toNat = k) (h : k < 64) : own_n ((x.toUInt64 >>> u).toInt64) = own_n x / 2 ^ k := by
  show (x.toUInt64 >>> u).toNat = _
  rw [UInt64.toNat_shiftRight, hk, Nat.mod_eq_of_lt h, Nat.shiftRight_eq_div_pow]
theorem own_n_int (x : Int64) : x.toInt = if own_n x < 9223372036854775808 then (own_n x : Int) else (own_n x : Int) - 18446744073709551616 := by
  show x.toBitVec.toInt = _
  rw [BitVec.toInt_eq_toNat_cond]
  show (if 2 * own_n x < 2 ^ 64 then (own_n x : Int) else (own_n x : Int) - ((2 ^ 64 : Nat) : Int)) = _
  have := own_n_lt x
  split <;> split <;> omega
def own_t (x : Int64) (r : Nat) : Bool := (own_n x).testBit r
theorem own_t_ge (x : Int64) {r : Nat} (h : 64 ≤ r) : own_t x r = false := by
  have h1 : (2 : Nat) ^ 64 ≤ 2 ^ r := Nat.pow_le_pow_right (by decide) h
  exact Nat.testBit_lt_two_pow (Nat.lt_of_lt_of_le (show own_n x < 2 ^ 64 from own_n_lt x) h1)
theorem own_t_and (x y : Int64) (r : Nat) : own_t (x &&& y) r = (own_t x r && own_t y r) := by unfold own_t; rw [own_n_and, Nat.testBit_and]
theorem own_t_or (x y : Int64) (r : Nat) : own_t (x ||| y) r = (own_t x r || own_t y r) := by unfold own_t; rw [own_n_or, Nat.testBit_or]
theorem own_t_not (x : Int64) {r : Nat} (h : r < 64) : own_t (x ^^^ (-1 : Int64)) r = !own_t x r := by
  unfold own_t; rw [own_n_xor, Nat.testBit_xor, show own_n (-1 : Int64) = 2 ^ 64 - 1 from by decide, Nat.testBit_two_pow_sub_one, decide_eq_true h, Bool.xor_true]
theorem own_sh64 : ∀ k, k < 64 → (((Int32.ofNat k &&& 0x3f).toInt64.toUInt64).toNat = k ∧ ((Int32.ofNat k &&& 0x3f).toInt64.toBitVec.smod 64).toNat = k ∧ (Int32.ofNat k).toInt = k) := by decide +kernel
theorem own_k {sh : Int32} {k : Nat} (h : sh.toInt = k) (hk : k < 64) : sh = Int32.ofNat k := by rw [← Int32.toInt_inj, h, (own_sh64 k hk).2.2]
theorem own_t_shr (x : Int64) {sh : Int32} {k : Nat} (h : sh.toInt = k) (hk : k < 64) (r : Nat) : own_t ((x.toUInt64 >>> (sh &&& 0x3f).toInt64.toUInt64).toInt64) r = own_t x (r + k) := by
  obtain rfl := own_k h hk
  unfold own_t
  rw [own_n_shr x _ k (own_sh64 k hk).1 hk, Nat.testBit_div_two_pow]
theorem own_t_shl (x : Int64) {sh : Int32} {k : Nat} (h : sh.toInt = k) (hk : k < 64) {r : Nat} (hr : r < 64) : own_t (x <<< (sh &&& 0x3f).toInt64) r = (decide (k ≤ r) && own_t x (r - k)) := by
  obtain rfl := own_k h hk
  have e : (x <<< (Int32.ofNat k &&& 0x3f).toInt64).toBitVec = x.toBitVec <<< k := by
    show x.toBitVec <<< ((Int32.ofNat k &&& 0x3f).toInt64.toBitVec.smod 64) = _
    rw [BitVec.shiftLeft_eq', (own_sh64 k hk).2.1]
  unfold own_t
  show (x <<< (Int32.ofNat k &&& 0x3f).toInt64).toBitVec.toNat.testBit r = (decide (k ≤ r) && x.toBitVec.toNat.testBit (r - k))
  rw [e]
  have := BitVec.getLsbD_shiftLeft (x := x.toBitVec) (n := k) (i := r)
  simp only [BitVec.getLsbD] at this
  rw [this, decide_eq_true hr, Bool.true_and]
  by_cases q : r < k
  · rw [decide_eq_true q, decide_eq_false (by omega : ¬ k ≤ r)]; rfl
  · rw [decide_eq_false q, decide_eq_true (by omega : k ≤ r)]; rfl

def own_B (ws : List Int64) (t : Nat) : Bool := own_t (ws.getD (t / 64) 0) (t % 64)
/-- the bits of a value: an int that is not below 0 -/
def own_vt (v : Int32) (r : Nat) : Bool := v.toInt.toNat.testBit r
theorem own_t_v {v : Int32} (h : 0 ≤ v.toInt) (r : Nat) : own_t v.toInt64 r = own_vt v r := by
  have h1 := own_n_int v.toInt64
  rw [c_i2l] at h1
  have h2 := own_n_lt v.toInt64
  have h3 := rng32 v
  have e : own_n v.toInt64 = v.toInt.toNat := by split at h1 <;> omega
  unfold own_t own_vt; rw [e]
theorem own_vt_ge {v : Int32} {b : Nat} (h : 0 ≤ v.toInt) (hb : v.toInt < ((2 ^ b : Nat) : Int)) {r : Nat} (hr : b ≤ r) : own_vt v r = false := by
  have h1 : (2 : Nat) ^ b ≤ 2 ^ r := Nat.pow_le_pow_right (by decide) hr
  exact Nat.testBit_lt_two_pow (by omega)
def own_s1 (w m : Int64) (sh v : Int32) : Int64 := ((w &&& ((m <<< (sh &&& 0x3f).toInt64) ^^^ (-1 : Int64))) ||| (v.toInt64 <<< (sh &&& 0x3f).toInt64))
def own_s2 (w m : Int64) (ca v : Int32) : Int64 := ((w &&& (((m.toUInt64 >>> (ca &&& 0x3f).toInt64.toUInt64).toInt64) ^^^ (-1 : Int64))) ||| ((v.toInt64.toUInt64 >>> (ca &&& 0x3f).toInt64.toUInt64).toInt64))
def own_M (m : Int64) (b : Nat) : Prop := ∀ r, own_t m r = decide (r < b)
theorem own_s1_t {w m : Int64} {sh v : Int32} {b k r : Nat} (hm : own_M m b) (hk : sh.toInt = k) (k64 : k < 64) (h0 : 0 ≤ v.toInt) (hb : v.toInt < ((2 ^ b : Nat) : Int)) (hr : r < 64) : own_t (own_s1 w m sh v) r = if k ≤ r ∧ r < k + b then own_vt v (r - k) else own_t w r := by
  unfold own_s1
  rw [own_t_or, own_t_and, own_t_not _ hr, own_t_shl _ hk k64 hr, own_t_shl _ hk k64 hr, hm, own_t_v h0]
  by_cases c1 : k ≤ r
  · by_cases c2 : r < k + b
    · rw [if_pos ⟨c1, c2⟩, decide_eq_true c1, decide_eq_true (by omega : r - k < b)]; simp
    · rw [if_neg (fun q => c2 q.2), own_vt_ge h0 hb (by omega : b ≤ r - k), decide_eq_false (by omega : ¬ r - k < b)]; simp
  · rw [if_neg (fun q => c1 q.1), decide_eq_false c1]; simp
theorem own_s2_t {w m : Int64} {ca v : Int32} {b k r : Nat} (hm : own_M m b) (hk : ca.toInt = k) (k64 : k < 64) (h0 : 0 ≤ v.toInt) (hb : v.toInt < ((2 ^ b : Nat) : Int)) (hr : r < 64) : own_t (own_s2 w m ca v) r = if r + k < b then own_vt v (r + k) else own_t w r := by
  unfold own_s2
  rw [own_t_or, own_t_and, own_t_not _ hr, own_t_shr _ hk k64, own_t_shr _ hk k64, hm, own_t_v h0]
  by_cases c1 : r + k < b
  · rw [if_pos c1, decide_eq_true c1]; simp
  · rw [if_neg c1, decide_eq_false c1, own_vt_ge h0 hb (by omega : b ≤ r + k)]; simp
theorem own_getD_set {ws : List Int64} {i j : Nat} {x : Int64} (h : i < ws.length) : (ws.set i x).getD j 0 = if j = i then x else ws.getD j 0 := by
  simp only [List.getD_eq_getElem?_getD, List.getElem?_set]
  by_cases c : i = j
  · subst c; simp [h]
  · rw [if_neg c, if_neg (fun q => c q.symm)]
/-- what set does: k its shift, j its word -/
def own_set (ws : List Int64) (m : Int64) (b : Nat) (j : Nat) (sh ca v : Int32) (k : Nat) : List Int64 :=
  if 64 < k + b then (ws.set j (own_s1 (ws.getD j 0) m sh v)).set (j + 1) (own_s2 ((ws.set j (own_s1 (ws.getD j 0) m sh v)).getD (j + 1) 0) m ca v) else ws.set j (own_s1 (ws.getD j 0) m sh v)
theorem own_set_len {ws : List Int64} {m : Int64} {b j : Nat} {sh ca v : Int32} {k : Nat} : (own_set ws m b j sh ca v k).length = ws.length := by
  unfold own_set; split <;> simp
theorem own_set_B {ws : List Int64} {m : Int64} {b j : Nat} {sh ca v : Int32} {k P t : Nat} (hm : own_M m b) (hb63 : b ≤ 63) (hP : P = 64 * j + k) (k64 : k < 64) (hsh : sh.toInt = k) (hca : 64 < k + b → ca.toInt = ((64 - k : Nat) : Int)) (h0 : 0 ≤ v.toInt) (hv : v.toInt < ((2 ^ b : Nat) : Int))
    (hl : P + b ≤ 64 * ws.length) (hb1 : 1 ≤ b) : own_B (own_set ws m b j sh ca v k) t = if P ≤ t ∧ t < P + b then own_vt v (t - P) else own_B ws t := by
  have hj : j < ws.length := by omega
  have ht : t % 64 < 64 := Nat.mod_lt _ (by omega)
  unfold own_B own_set
  by_cases c : 64 < k + b
  · rw [if_pos c]
    have hj1 : j + 1 < (ws.set j (own_s1 (ws.getD j 0) m sh v)).length := by rw [List.length_set]; omega
    rw [own_getD_set hj1, own_getD_set hj, own_getD_set hj, if_neg (by omega : ¬ j + 1 = j)]
    by_cases c1 : t / 64 = j + 1
    · rw [if_pos c1, own_s2_t hm (hca c) (by omega) h0 hv ht, c1]
      by_cases c2 : t % 64 + (64 - k) < b
      · rw [if_pos c2, if_pos (by omega)]; congr 1; omega
      · rw [if_neg c2, if_neg (by omega)]
    · rw [if_neg c1]
      by_cases c2 : t / 64 = j
      · rw [if_pos c2, own_s1_t hm hsh k64 h0 hv ht, c2]
        by_cases c3 : k ≤ t % 64 ∧ t % 64 < k + b
        · rw [if_pos c3, if_pos (by omega)]; congr 1; omega
        · rw [if_neg c3, if_neg (by omega)]
      · rw [if_neg c2, if_neg (by omega)]
  · rw [if_neg c, own_getD_set hj]
    by_cases c2 : t / 64 = j
    · rw [if_pos c2, own_s1_t hm hsh k64 h0 hv ht, c2]
      by_cases c3 : k ≤ t % 64 ∧ t % 64 < k + b
      · rw [if_pos c3, if_pos (by omega)]; congr 1; omega
      · rw [if_neg c3, if_neg (by omega)]
    · rw [if_neg c2, if_neg (by omega)]
/-- what get reads -/
def own_get (ws : List Int64) (m : Int64) (b j : Nat) (sh ca : Int32) (k : Nat) : Int32 :=
  (if 64 < k + b then ((((((ws.getD j 0).toUInt64 >>> (sh &&& 0x3f).toInt64.toUInt64).toInt64) ||| ((ws.getD (j + 1) 0) <<< (ca &&& 0x3f).toInt64)) &&& m).toInt32) else (((((ws.getD j 0).toUInt64 >>> (sh &&& 0x3f).toInt64.toUInt64).toInt64) &&& m).toInt32))
theorem own_n_v {y : Int64} {v : Int32} (h0 : 0 ≤ v.toInt) (h : ∀ r, own_t y r = own_vt v r) : y.toInt32 = v := by
  have e : own_n y = v.toInt.toNat := Nat.eq_of_testBit_eq h
  have h1 := own_n_int y
  have h2 := c_l2i y
  have h3 := rng32 v
  have h4 := rng32 y.toInt32
  rw [← Int32.toInt_inj]
  split at h1 <;> omega
theorem own_get_B {ws : List Int64} {m : Int64} {b j : Nat} {sh ca v : Int32} {k P : Nat} (hm : own_M m b) (hb63 : b ≤ 63) (hP : P = 64 * j + k) (k64 : k < 64) (hsh : sh.toInt = k) (hca : 64 < k + b → ca.toInt = ((64 - k : Nat) : Int)) (h0 : 0 ≤ v.toInt) (hv : v.toInt < ((2 ^ b : Nat) : Int))
    (hB : ∀ r, r < b → own_B ws (P + r) = own_vt v r) : own_get ws m b j sh ca k = v := by
  unfold own_get
  have hB' : ∀ r, r < b → own_t (ws.getD ((P + r) / 64) 0) ((P + r) % 64) = own_vt v r := hB
  by_cases c : 64 < k + b
  · rw [if_pos c]
    refine own_n_v h0 fun r => ?_
    rw [own_t_and, own_t_or, own_t_shr _ hsh k64, hm]
    by_cases c1 : r < b
    · rw [decide_eq_true c1, Bool.and_true, own_t_shl _ (hca c) (by omega) (by omega)]
      rw [← hB' r c1]
      by_cases c2 : r + k < 64
      · rw [show (P + r) / 64 = j by omega, show (P + r) % 64 = r + k by omega, decide_eq_false (by omega : ¬ 64 - k ≤ r)]; simp
      · rw [show (P + r) / 64 = j + 1 by omega, show (P + r) % 64 = r - (64 - k) by omega, decide_eq_true (by omega : 64 - k ≤ r), own_t_ge _ (by omega : 64 ≤ r + k)]; simp
    · rw [decide_eq_false c1, Bool.and_false, own_vt_ge h0 hv (by omega)]
  · rw [if_neg c]
    refine own_n_v h0 fun r => ?_
    rw [own_t_and, own_t_shr _ hsh k64, hm]
    by_cases c1 : r < b
    · rw [decide_eq_true c1, Bool.and_true, ← hB' r c1, show (P + r) / 64 = j by omega, show (P + r) % 64 = r + k by omega]
    · rw [decide_eq_false c1, Bool.and_false, own_vt_ge h0 hv (by omega)]
theorem own_nz {p : Int32} (h : 1 ≤ p.toInt ∧ p.toInt ≤ 63) : ¬ p = (0 : Int32) := fun q => by rw [q] at h; exact absurd h (by decide)
theorem own_nzL {p : Int32} (h : 1 ≤ p.toInt ∧ p.toInt ≤ 63) : ¬ p.toInt64 = (0 : Int64) := fun q => by
  have := c_i2l p
  rw [q] at this; simp only [Int64.reduceToInt] at this; omega
theorem own_mx63 : ∀ k, k < 64 → 1 ≤ k → (66 : Int) ≤ ((137438952896 : Int64) / (Int32.ofNat k).toInt64).toInt := by decide +kernel
theorem own_mxc {p : Int32} {q : Int64} (h : 1 ≤ p.toInt ∧ p.toInt ≤ 63) (hq : 3 ≤ q.toInt ∧ q.toInt ≤ 66) : ¬ ((137438952896 : Int64) / p.toInt64) < q := by
  obtain ⟨k, hk⟩ : ∃ k : Nat, p.toInt = k := ⟨p.toInt.toNat, by omega⟩
  have h1 := own_mx63 k (by omega) (by omega)
  rw [← own_k hk (by omega)] at h1
  rw [Int64.lt_iff_toInt_lt]; omega
def own_by (q : Int64) (p : Int32) : Int64 := (((((q * p.toInt64) + (64 : Int64)) - (1 : Int64)) / (64 : Int64)) * (8 : Int64))
theorem own_nw {p : Int32} {q : Int64} (h : 1 ≤ p.toInt ∧ p.toInt ≤ 63) (hq : 3 ≤ q.toInt ∧ q.toInt ≤ 66) : ((own_by q p / (8 : Int64)).toInt32).toInt = (q.toInt * p.toInt + 63) / 64 ∧ 1 ≤ (q.toInt * p.toInt + 63) / 64 ∧ (q.toInt * p.toInt + 63) / 64 ≤ 65 := by
  have hP : 3 ≤ q.toInt * p.toInt ∧ q.toInt * p.toInt ≤ 4158 := by
    have a1 := Int.mul_le_mul hq.1 h.1 (by omega) (by omega)
    have a2 := Int.mul_le_mul hq.2 h.2 (by omega) (by omega)
    omega
  have m1 := c_lmul q p.toInt64
  rw [c_i2l] at m1
  have r1 := rng64 (q * p.toInt64)
  generalize q.toInt * p.toInt = P at *
  have e1 : (q * p.toInt64).toInt = P := by omega
  have m2 := c_ladd (q * p.toInt64) (64 : Int64)
  have r2 := rng64 ((q * p.toInt64) + (64 : Int64))
  simp only [Int64.reduceToInt, e1] at m2
  have m3 := c_lsub ((q * p.toInt64) + (64 : Int64)) (1 : Int64)
  have r3 := rng64 (((q * p.toInt64) + (64 : Int64)) - (1 : Int64))
  simp only [Int64.reduceToInt] at m3
  have e3 : (((q * p.toInt64) + (64 : Int64)) - (1 : Int64)).toInt = P + 63 := by omega
  have e4 : ((((q * p.toInt64) + (64 : Int64)) - (1 : Int64)) / (64 : Int64)).toInt = (P + 63) / 64 := by
    rw [Int64.toInt_div, e3, show (64 : Int64).toInt = 64 from by decide, Int.tdiv_eq_ediv_of_nonneg (by omega)]
    rw [Int.bmod_eq_of_le (by omega) (by omega)]
  have m5 := c_lmul ((((q * p.toInt64) + (64 : Int64)) - (1 : Int64)) / (64 : Int64)) (8 : Int64)
  simp only [Int64.reduceToInt, e4] at m5
  have r5 := rng64 (own_by q p)
  have e5 : (own_by q p).toInt = (P + 63) / 64 * 8 := by unfold own_by at r5 ⊢; omega
  have e6 : (own_by q p / (8 : Int64)).toInt = (P + 63) / 64 := by
    rw [Int64.toInt_div, e5, show (8 : Int64).toInt = 8 from by decide, Int.tdiv_eq_ediv_of_nonneg (by omega), Int.bmod_eq_of_le (by omega) (by omega)]
    omega
  have m7 := c_l2i (own_by q p / (8 : Int64))
  have r7 := rng32 (own_by q p / (8 : Int64)).toInt32
  omega
theorem own_clamp {n : Int32} {k : Nat} (h : n.toInt ≤ k) : n.toNatClampNeg ≤ k := by simp only [Int32.toNatClampNeg]; omega
theorem own_nneg {n : Int32} (h : 0 ≤ n.toInt) : ¬ n < 0 := by simp only [Int32.lt_iff_toInt_lt, Int32.reduceToInt]; omega
theorem own_padL (k : Nat) : ∀ i, ((List.replicate k (0 : Int64)).map Value.long).getD i (.long 0) = ([] : List Value).getD i (.long 0) := fun i => by
  simp only [List.getD_eq_getElem?_getD, List.map_replicate, List.getElem?_replicate]; split <;> rfl
theorem own_padN (k : Nat) : ∀ i, (List.replicate k Value.null).getD i .null = ([] : List Value).getD i .null := fun i => by
  simp only [List.getD_eq_getElem?_getD, List.getElem?_replicate]; split <;> rfl
theorem own_next {c w : Int32} (h : c < w) : (c + (1 : Int32)).toInt = c.toInt + 1 := by
  have q := c_iadd c (1 : Int32)
  have r := rng32 (c + (1 : Int32))
  have t := rng32 w
  have u := rng32 c
  simp only [Int32.lt_iff_toInt_lt, Int32.reduceToInt] at h q
  omega
theorem own_ixj {j n : Int32} (h0 : 0 ≤ j.toInt) (h : j < n) : ¬ j < 0 ∧ j < n := ⟨own_nneg h0, h⟩
theorem own_lti {a b : Int32} : a < b ↔ a.toInt < b.toInt := Int32.lt_iff_toInt_lt
theorem d4_0 : decode prog_56_method_2_code 0 = .ok (.ldc2_w 60, 3) := by decide +kernel
theorem d4_3 : decode prog_56_method_2_code 3 = .ok (.iload_n 0, 1) := by decide +kernel
theorem d4_4 : decode prog_56_method_2_code 4 = .ok (.i2l, 1) := by decide +kernel
theorem d4_5 : decode prog_56_method_2_code 5 = .ok (.ldiv, 1) := by decide +kernel
theorem d4_6 : decode prog_56_method_2_code 6 = .ok (.lreturn, 1) := by decide +kernel
theorem pn_rm4 : plainName "com/example/seenset/seenset/util/Cells" = true := by first | (simp [plainName, overriddenIn]; done) | decide +kernel
theorem ef_rm4 (m : MethodId) (p0 : Int32) : entryFrame m #[(.int p0)] 1 = mkF m 0 #[.val (.int p0)] [] := by first | (simp [entryFrame, mkF, argsToLocals, Value.category]; done) | rfl
set_option maxRecDepth 65536 in
set_option maxHeartbeats 40000000 in
theorem rm4 (l : Launch) (Z : State) (a0 : Array Value) (hw : ∀ d ∈ tables_1, d.before a0 Z = true) (p0 : Int32)  (h0 : Heap) (hb1 : 1 ≤ p0.toInt ∧ p0.toInt ≤ 63) :
    own_Met l Z (⟨"com/example/seenset/seenset/util/Cells", "maxCount", "(I)J"⟩ : MethodName) prog_56_method_2_code 1 (some .long) [] ({ frames := 0, cells := 0, slots := 0, locals := 0 } : Room) #[(.int p0)] h0 0 0 (fun v h L => v = some (.long ((137438952896 : Int64) / p0.toInt64)) ∧ h = h0 ∧ L = []) := by
  refine own_met (plainFor_of_name pn_rm4) ?_
  intro p e s m below meth c s₁ Bd hml0 hZ X0 e0
  have hx := Bd.exec
  have hby := Bd.bytes
  have hml : c.maxLocals = 1 := hml0
  have hown : s.vm.findClass "com/example/seenset/seenset/util/Cells" = some m.cls := findClass_of_methodNamed Bd.named
  have hnm := (name_of_methodNamed Bd.named Bd.method).1
  refine own_cast (ef_rm4 m p0) ?_
  generalize hQQ : (fun (v : Option Value) (h : Heap) (L : List Loc) => v = some (.long ((137438952896 : Int64) / p0.toInt64)) ∧ h = h0 ∧ L = []) = QQ
  refine own_go (g' := (mkF m 3 #[.val (.int p0)] [(.long (137438952896 : Int64))])) (X0.ldc2Long hx hown (mvT hZ (hw _ (List.mem_of_getElem? (i := 18) rfl))) (g := (mkF m 0 #[.val (.int p0)] [])) rfl (hb hby d4_0)) ?_
  refine own_go (g' := (mkF m 4 #[.val (.int p0)] [(.int p0), (.long (137438952896 : Int64))])) (fun _ kgo => XS.iloadN X0.here hx rfl (hb hby d4_3) rfl kgo) ?_
  refine own_go (g' := (mkF m 5 #[.val (.int p0)] [(.long (p0.toInt64)), (.long (137438952896 : Int64))])) (fun _ kgo => XS.i2l X0.here hx rfl (hb hby d4_4) rfl kgo) ?_
  refine own_go (g' := (mkF m 6 #[.val (.int p0)] [(.long ((137438952896 : Int64) / (p0.toInt64)))])) (fun _ kgo => XS.ldiv X0.here hx rfl (hb hby d4_5) rfl (own_nzL hb1) kgo) ?_
  refine own_retJ X0 hx Bd.returns Bd.notSynchronized (hb hby d4_6) (by decide) (by decide) ?_
  show QQ _ s₁.heap _
  rw [e0]
  rw [← hQQ]
  exact ⟨rfl, rfl, rfl⟩
theorem d5_0 : decode prog_56_method_3_code 0 = .ok (.lload_n 0, 1) := by decide +kernel
theorem d5_1 : decode prog_56_method_3_code 1 = .ok (.iload_n 2, 1) := by decide +kernel
theorem d5_2 : decode prog_56_method_3_code 2 = .ok (.i2l, 1) := by decide +kernel
theorem d5_3 : decode prog_56_method_3_code 3 = .ok (.lmul, 1) := by decide +kernel
theorem d5_4 : decode prog_56_method_3_code 4 = .ok (.ldc2_w 62, 3) := by decide +kernel
theorem d5_7 : decode prog_56_method_3_code 7 = .ok (.ladd, 1) := by decide +kernel
theorem d5_8 : decode prog_56_method_3_code 8 = .ok (.lconst 1, 1) := by decide +kernel
theorem d5_9 : decode prog_56_method_3_code 9 = .ok (.lsub, 1) := by decide +kernel
theorem d5_10 : decode prog_56_method_3_code 10 = .ok (.ldc2_w 62, 3) := by decide +kernel
theorem d5_13 : decode prog_56_method_3_code 13 = .ok (.ldiv, 1) := by decide +kernel
theorem d5_14 : decode prog_56_method_3_code 14 = .ok (.ldc2_w 38, 3) := by decide +kernel
theorem d5_17 : decode prog_56_method_3_code 17 = .ok (.lmul, 1) := by decide +kernel
theorem d5_18 : decode prog_56_method_3_code 18 = .ok (.lreturn, 1) := by decide +kernel
theorem pn_rm5 : plainName "com/example/seenset/seenset/util/Cells" = true := by first | (simp [plainName, overriddenIn]; done) | decide +kernel
theorem ef_rm5 (m : MethodId) (q0 : Int64) (p1 : Int32) : entryFrame m #[(.long q0), (.int p1)] 3 = mkF m 0 #[.val (.long q0), .second, .val (.int p1)] [] := by first | (simp [entryFrame, mkF, argsToLocals, Value.category]; done) | rfl
set_option maxRecDepth 65536 in
set_option maxHeartbeats 40000000 in
theorem rm5 (l : Launch) (Z : State) (a0 : Array Value) (hw : ∀ d ∈ tables_1, d.before a0 Z = true) (q0 : Int64) (p1 : Int32)  (h0 : Heap) :
    own_Met l Z (⟨"com/example/seenset/seenset/util/Cells", "bytes", "(JI)J"⟩ : MethodName) prog_56_method_3_code 3 (some .long) [] ({ frames := 0, cells := 0, slots := 0, locals := 0 } : Room) #[(.long q0), (.int p1)] h0 0 0 (fun v h L => v = some (.long (own_by q0 p1)) ∧ h = h0 ∧ L = []) := by
  refine own_met (plainFor_of_name pn_rm5) ?_
  intro p e s m below meth c s₁ Bd hml0 hZ X0 e0
  have hx := Bd.exec
  have hby := Bd.bytes
  have hml : c.maxLocals = 3 := hml0
  have hown : s.vm.findClass "com/example/seenset/seenset/util/Cells" = some m.cls := findClass_of_methodNamed Bd.named
  have hnm := (name_of_methodNamed Bd.named Bd.method).1
  refine own_cast (ef_rm5 m q0 p1) ?_
  generalize hQQ : (fun (v : Option Value) (h : Heap) (L : List Loc) => v = some (.long (own_by q0 p1)) ∧ h = h0 ∧ L = []) = QQ
  refine own_go (g' := (mkF m 1 #[.val (.long q0), .second, .val (.int p1)] [(.long q0)])) (fun _ kgo => XS.lloadN X0.here hx rfl (hb hby d5_0) rfl kgo) ?_
  refine own_go (g' := (mkF m 2 #[.val (.long q0), .second, .val (.int p1)] [(.int p1), (.long q0)])) (fun _ kgo => XS.iloadN X0.here hx rfl (hb hby d5_1) rfl kgo) ?_
  refine own_go (g' := (mkF m 3 #[.val (.long q0), .second, .val (.int p1)] [(.long (p1.toInt64)), (.long q0)])) (fun _ kgo => XS.i2l X0.here hx rfl (hb hby d5_2) rfl kgo) ?_
  refine own_go (g' := (mkF m 4 #[.val (.long q0), .second, .val (.int p1)] [(.long (q0 * (p1.toInt64)))])) (fun _ kgo => XS.lmul X0.here hx rfl (hb hby d5_3) rfl kgo) ?_
  refine own_go (g' := (mkF m 7 #[.val (.long q0), .second, .val (.int p1)] [(.long (64 : Int64)), (.long (q0 * (p1.toInt64)))])) (X0.ldc2Long hx hown (mvT hZ (hw _ (List.mem_of_getElem? (i := 26) rfl))) (g := (mkF m 4 #[.val (.long q0), .second, .val (.int p1)] [(.long (q0 * (p1.toInt64)))])) rfl (hb hby d5_4)) ?_
  refine own_go (g' := (mkF m 8 #[.val (.long q0), .second, .val (.int p1)] [(.long ((q0 * (p1.toInt64)) + (64 : Int64)))])) (fun _ kgo => XS.ladd X0.here hx rfl (hb hby d5_7) rfl kgo) ?_
  refine own_go (g' := (mkF m 9 #[.val (.long q0), .second, .val (.int p1)] [(.long (1 : Int64)), (.long ((q0 * (p1.toInt64)) + (64 : Int64)))])) (fun _ kgo => XS.lconst X0.here hx rfl (hb hby d5_8) kgo) ?_
  refine own_go (g' := (mkF m 10 #[.val (.long q0), .second, .val (.int p1)] [(.long (((q0 * (p1.toInt64)) + (64 : Int64)) - (1 : Int64)))])) (fun _ kgo => XS.lsub X0.here hx rfl (hb hby d5_9) rfl kgo) ?_
  refine own_go (g' := (mkF m 13 #[.val (.long q0), .second, .val (.int p1)] [(.long (64 : Int64)), (.long (((q0 * (p1.toInt64)) + (64 : Int64)) - (1 : Int64)))])) (X0.ldc2Long hx hown (mvT hZ (hw _ (List.mem_of_getElem? (i := 26) rfl))) (g := (mkF m 10 #[.val (.long q0), .second, .val (.int p1)] [(.long (((q0 * (p1.toInt64)) + (64 : Int64)) - (1 : Int64)))])) rfl (hb hby d5_10)) ?_
  refine own_go (g' := (mkF m 14 #[.val (.long q0), .second, .val (.int p1)] [(.long ((((q0 * (p1.toInt64)) + (64 : Int64)) - (1 : Int64)) / (64 : Int64)))])) (fun _ kgo => XS.ldiv X0.here hx rfl (hb hby d5_13) rfl (by decide) kgo) ?_
  refine own_go (g' := (mkF m 17 #[.val (.long q0), .second, .val (.int p1)] [(.long (8 : Int64)), (.long ((((q0 * (p1.toInt64)) + (64 : Int64)) - (1 : Int64)) / (64 : Int64)))])) (X0.ldc2Long hx hown (mvT hZ (hw _ (List.mem_of_getElem? (i := 27) rfl))) (g := (mkF m 14 #[.val (.long q0), .second, .val (.int p1)] [(.long ((((q0 * (p1.toInt64)) + (64 : Int64)) - (1 : Int64)) / (64 : Int64)))])) rfl (hb hby d5_14)) ?_
  refine own_go (g' := (mkF m 18 #[.val (.long q0), .second, .val (.int p1)] [(.long (((((q0 * (p1.toInt64)) + (64 : Int64)) - (1 : Int64)) / (64 : Int64)) * (8 : Int64)))])) (fun _ kgo => XS.lmul X0.here hx rfl (hb hby d5_17) rfl kgo) ?_
  refine own_retJ X0 hx Bd.returns Bd.notSynchronized (hb hby d5_18) (by decide) (by decide) ?_
  show QQ _ s₁.heap _
  rw [e0]
  rw [← hQQ]
  exact ⟨rfl, rfl, rfl⟩
theorem d6_0 : decode prog_57_method_1_code 0 = .ok (.aload_n 0, 1) := by decide +kernel
theorem d6_1 : decode prog_57_method_1_code 1 = .ok (.invokespecial 1, 3) := by decide +kernel
theorem d6_4 : decode prog_57_method_1_code 4 = .ok (.iload_n 1, 1) := by decide +kernel
theorem d6_5 : decode prog_57_method_1_code 5 = .ok (.iload_n 2, 1) := by decide +kernel
theorem d6_6 : decode prog_57_method_1_code 6 = .ok (.isub, 1) := by decide +kernel
theorem d6_7 : decode prog_57_method_1_code 7 = .ok (.iload_n 1, 1) := by decide +kernel
theorem d6_8 : decode prog_57_method_1_code 8 = .ok (.irem, 1) := by decide +kernel
theorem d6_9 : decode prog_57_method_1_code 9 = .ok (.istore_n 3, 1) := by decide +kernel
theorem d6_10 : decode prog_57_method_1_code 10 = .ok (.bipush 64, 2) := by decide +kernel
theorem d6_12 : decode prog_57_method_1_code 12 = .ok (.iload_n 3, 1) := by decide +kernel
theorem d6_13 : decode prog_57_method_1_code 13 = .ok (.isub, 1) := by decide +kernel
theorem d6_14 : decode prog_57_method_1_code 14 = .ok (.iload_n 1, 1) := by decide +kernel
theorem d6_15 : decode prog_57_method_1_code 15 = .ok (.idiv, 1) := by decide +kernel
theorem d6_16 : decode prog_57_method_1_code 16 = .ok (.istore 4, 2) := by decide +kernel
theorem d6_18 : decode prog_57_method_1_code 18 = .ok (.lconst 0, 1) := by decide +kernel
theorem d6_19 : decode prog_57_method_1_code 19 = .ok (.lstore 5, 2) := by decide +kernel
theorem d6_21 : decode prog_57_method_1_code 21 = .ok (.lconst 0, 1) := by decide +kernel
theorem d6_22 : decode prog_57_method_1_code 22 = .ok (.lstore 7, 2) := by decide +kernel
theorem d6_24 : decode prog_57_method_1_code 24 = .ok (.iconst 0, 1) := by decide +kernel
theorem d6_25 : decode prog_57_method_1_code 25 = .ok (.istore 9, 2) := by decide +kernel
theorem d6_27 : decode prog_57_method_1_code 27 = .ok (.iload 9, 2) := by decide +kernel
theorem d6_29 : decode prog_57_method_1_code 29 = .ok (.iload 4, 2) := by decide +kernel
theorem d6_31 : decode prog_57_method_1_code 31 = .ok (.if_icmp .ge 45, 3) := by decide +kernel
theorem d6_34 : decode prog_57_method_1_code 34 = .ok (.iload_n 3, 1) := by decide +kernel
theorem d6_35 : decode prog_57_method_1_code 35 = .ok (.iload 9, 2) := by decide +kernel
theorem d6_37 : decode prog_57_method_1_code 37 = .ok (.iload_n 1, 1) := by decide +kernel
theorem d6_38 : decode prog_57_method_1_code 38 = .ok (.imul, 1) := by decide +kernel
theorem d6_39 : decode prog_57_method_1_code 39 = .ok (.iadd, 1) := by decide +kernel
theorem d6_40 : decode prog_57_method_1_code 40 = .ok (.istore 10, 2) := by decide +kernel
theorem d6_42 : decode prog_57_method_1_code 42 = .ok (.lload 5, 2) := by decide +kernel
theorem d6_44 : decode prog_57_method_1_code 44 = .ok (.lconst 1, 1) := by decide +kernel
theorem d6_45 : decode prog_57_method_1_code 45 = .ok (.iload_n 1, 1) := by decide +kernel
theorem d6_46 : decode prog_57_method_1_code 46 = .ok (.iconst 1, 1) := by decide +kernel
theorem d6_47 : decode prog_57_method_1_code 47 = .ok (.isub, 1) := by decide +kernel
theorem d6_48 : decode prog_57_method_1_code 48 = .ok (.lshl, 1) := by decide +kernel
theorem d6_49 : decode prog_57_method_1_code 49 = .ok (.lconst 1, 1) := by decide +kernel
theorem d6_50 : decode prog_57_method_1_code 50 = .ok (.lsub, 1) := by decide +kernel
theorem d6_51 : decode prog_57_method_1_code 51 = .ok (.iload 10, 2) := by decide +kernel
theorem d6_53 : decode prog_57_method_1_code 53 = .ok (.lshl, 1) := by decide +kernel
theorem d6_54 : decode prog_57_method_1_code 54 = .ok (.lor, 1) := by decide +kernel
theorem d6_55 : decode prog_57_method_1_code 55 = .ok (.lstore 5, 2) := by decide +kernel
theorem d6_57 : decode prog_57_method_1_code 57 = .ok (.lload 7, 2) := by decide +kernel
theorem d6_59 : decode prog_57_method_1_code 59 = .ok (.lconst 1, 1) := by decide +kernel
theorem d6_60 : decode prog_57_method_1_code 60 = .ok (.iload 10, 2) := by decide +kernel
theorem d6_62 : decode prog_57_method_1_code 62 = .ok (.iload_n 1, 1) := by decide +kernel
theorem d6_63 : decode prog_57_method_1_code 63 = .ok (.iadd, 1) := by decide +kernel
theorem d6_64 : decode prog_57_method_1_code 64 = .ok (.iconst 1, 1) := by decide +kernel
theorem d6_65 : decode prog_57_method_1_code 65 = .ok (.isub, 1) := by decide +kernel
theorem d6_66 : decode prog_57_method_1_code 66 = .ok (.lshl, 1) := by decide +kernel
theorem d6_67 : decode prog_57_method_1_code 67 = .ok (.lor, 1) := by decide +kernel
theorem d6_68 : decode prog_57_method_1_code 68 = .ok (.lstore 7, 2) := by decide +kernel
theorem d6_70 : decode prog_57_method_1_code 70 = .ok (.iinc 9 1, 3) := by decide +kernel
theorem d6_73 : decode prog_57_method_1_code 73 = .ok (.goto (-46), 3) := by decide +kernel
theorem d6_76 : decode prog_57_method_1_code 76 = .ok (.aload_n 0, 1) := by decide +kernel
theorem d6_77 : decode prog_57_method_1_code 77 = .ok (.lload 5, 2) := by decide +kernel
theorem d6_79 : decode prog_57_method_1_code 79 = .ok (.putfield 9, 3) := by decide +kernel
theorem d6_82 : decode prog_57_method_1_code 82 = .ok (.aload_n 0, 1) := by decide +kernel
theorem d6_83 : decode prog_57_method_1_code 83 = .ok (.lload 7, 2) := by decide +kernel
theorem d6_85 : decode prog_57_method_1_code 85 = .ok (.putfield 15, 3) := by decide +kernel
theorem d6_88 : decode prog_57_method_1_code 88 = .ok (.bipush 64, 2) := by decide +kernel
theorem d6_90 : decode prog_57_method_1_code 90 = .ok (.iload_n 3, 1) := by decide +kernel
theorem d6_91 : decode prog_57_method_1_code 91 = .ok (.isub, 1) := by decide +kernel
theorem d6_92 : decode prog_57_method_1_code 92 = .ok (.iload 4, 2) := by decide +kernel
theorem d6_94 : decode prog_57_method_1_code 94 = .ok (.iload_n 1, 1) := by decide +kernel
theorem d6_95 : decode prog_57_method_1_code 95 = .ok (.imul, 1) := by decide +kernel
theorem d6_96 : decode prog_57_method_1_code 96 = .ok (.isub, 1) := by decide +kernel
theorem d6_97 : decode prog_57_method_1_code 97 = .ok (.istore 9, 2) := by decide +kernel
theorem d6_99 : decode prog_57_method_1_code 99 = .ok (.aload_n 0, 1) := by decide +kernel
theorem d6_100 : decode prog_57_method_1_code 100 = .ok (.iload 9, 2) := by decide +kernel
theorem d6_102 : decode prog_57_method_1_code 102 = .ok (.ifCond .ne 7, 3) := by decide +kernel
theorem d6_105 : decode prog_57_method_1_code 105 = .ok (.lconst 0, 1) := by decide +kernel
theorem d6_106 : decode prog_57_method_1_code 106 = .ok (.goto 12, 3) := by decide +kernel
theorem d6_109 : decode prog_57_method_1_code 109 = .ok (.ldc2_w 18, 3) := by decide +kernel
theorem d6_112 : decode prog_57_method_1_code 112 = .ok (.bipush 64, 2) := by decide +kernel
theorem d6_114 : decode prog_57_method_1_code 114 = .ok (.iload 9, 2) := by decide +kernel
theorem d6_116 : decode prog_57_method_1_code 116 = .ok (.isub, 1) := by decide +kernel
theorem d6_117 : decode prog_57_method_1_code 117 = .ok (.lshl, 1) := by decide +kernel
theorem d6_118 : decode prog_57_method_1_code 118 = .ok (.putfield 20, 3) := by decide +kernel
theorem d6_121 : decode prog_57_method_1_code 121 = .ok (.aload_n 0, 1) := by decide +kernel
theorem d6_122 : decode prog_57_method_1_code 122 = .ok (.iload 9, 2) := by decide +kernel
theorem d6_124 : decode prog_57_method_1_code 124 = .ok (.ifCond .ne 7, 3) := by decide +kernel
theorem d6_127 : decode prog_57_method_1_code 127 = .ok (.lconst 0, 1) := by decide +kernel
theorem d6_128 : decode prog_57_method_1_code 128 = .ok (.goto 10, 3) := by decide +kernel
theorem d6_131 : decode prog_57_method_1_code 131 = .ok (.lconst 1, 1) := by decide +kernel
theorem d6_132 : decode prog_57_method_1_code 132 = .ok (.bipush 64, 2) := by decide +kernel
theorem d6_134 : decode prog_57_method_1_code 134 = .ok (.iload 9, 2) := by decide +kernel
theorem d6_136 : decode prog_57_method_1_code 136 = .ok (.isub, 1) := by decide +kernel
theorem d6_137 : decode prog_57_method_1_code 137 = .ok (.lshl, 1) := by decide +kernel
theorem d6_138 : decode prog_57_method_1_code 138 = .ok (.putfield 23, 3) := by decide +kernel
theorem d6_141 : decode prog_57_method_1_code 141 = .ok (.aload_n 0, 1) := by decide +kernel
theorem d6_142 : decode prog_57_method_1_code 142 = .ok (.iload 9, 2) := by decide +kernel
theorem d6_144 : decode prog_57_method_1_code 144 = .ok (.ifCond .ne 7, 3) := by decide +kernel
theorem d6_147 : decode prog_57_method_1_code 147 = .ok (.lconst 0, 1) := by decide +kernel
theorem d6_148 : decode prog_57_method_1_code 148 = .ok (.goto 11, 3) := by decide +kernel
theorem d6_151 : decode prog_57_method_1_code 151 = .ok (.lconst 1, 1) := by decide +kernel
theorem d6_152 : decode prog_57_method_1_code 152 = .ok (.iload_n 1, 1) := by decide +kernel
theorem d6_153 : decode prog_57_method_1_code 153 = .ok (.iload 9, 2) := by decide +kernel
theorem d6_155 : decode prog_57_method_1_code 155 = .ok (.isub, 1) := by decide +kernel
theorem d6_156 : decode prog_57_method_1_code 156 = .ok (.lshl, 1) := by decide +kernel
theorem d6_157 : decode prog_57_method_1_code 157 = .ok (.lconst 1, 1) := by decide +kernel
theorem d6_158 : decode prog_57_method_1_code 158 = .ok (.lsub, 1) := by decide +kernel
theorem d6_159 : decode prog_57_method_1_code 159 = .ok (.putfield 26, 3) := by decide +kernel
theorem d6_162 : decode prog_57_method_1_code 162 = .ok (.return_, 1) := by decide +kernel
theorem pn_phi : plainName "com/example/seenset/seenset/util/Cells$Phase" = true := by first | (simp [plainName, overriddenIn]; done) | decide +kernel
theorem ef_phi (m : MethodId) (o0 : Addr) (p1 : Int32) (p2 : Int32) : entryFrame m #[(.ref o0), (.int p1), (.int p2)] 11 = mkF m 0 #[.val (.ref o0), .val (.int p1), .val (.int p2), .unset, .unset, .unset, .unset, .unset, .unset, .unset, .unset] [] := by first | (simp [entryFrame, mkF, argsToLocals, Value.category]; done) | rfl
set_option maxRecDepth 65536 in
set_option maxHeartbeats 40000000 in
theorem phi (l : Launch) (Z : State) (a0 : Array Value) (hw : ∀ d ∈ tables_1, d.before a0 Z = true) (o0 : Addr) (p1 : Int32) (p2 : Int32)  (h0 : Heap) (n0 : Nat) (Z0 : n0 ≤ h0.size) (g_o0 : n0 ≤ o0) (P0 : Exa Z h0 o0 "com/example/seenset/seenset/util/Cells$Phase") (P1 : Fld Z h0 o0 "com/example/seenset/seenset/util/Cells$Phase" "lower" "J" (.long (0 : Int64))) (P2 : Fld Z h0 o0 "com/example/seenset/seenset/util/Cells$Phase" "top" "J" (.long (0 : Int64))) (P3 : Fld Z h0 o0 "com/example/seenset/seenset/util/Cells$Phase" "straddleLow" "J" (.long (0 : Int64))) (P4 : Fld Z h0 o0 "com/example/seenset/seenset/util/Cells$Phase" "straddleFirst" "J" (.long (0 : Int64))) (P5 : Fld Z h0 o0 "com/example/seenset/seenset/util/Cells$Phase" "straddleHigh" "J" (.long (0 : Int64))) (hb1 : 1 ≤ p1.toInt ∧ p1.toInt ≤ 63) :
    own_Met l Z (⟨"com/example/seenset/seenset/util/Cells$Phase", "<init>", "(II)V"⟩ : MethodName) prog_57_method_1_code 11 none [] ({ frames := 1, cells := 0, slots := 0, locals := 12 } : Room) #[(.ref o0), (.int p1), (.int p2)] h0 0 0 (fun v h L => v = none ∧ Fr n0 L ∧ Keep h0 h [o0] ∧ Exa Z h o0 "com/example/seenset/seenset/util/Cells$Phase") := by
  refine own_met (plainFor_of_name pn_phi) ?_
  intro p e s m below meth c s₁ Bd hml0 hZ X0 e0
  have hx := Bd.exec
  have hby := Bd.bytes
  have hml : c.maxLocals = 11 := hml0
  have hown : s.vm.findClass "com/example/seenset/seenset/util/Cells$Phase" = some m.cls := findClass_of_methodNamed Bd.named
  have hnm := (name_of_methodNamed Bd.named Bd.method).1
  refine own_cast (ef_phi m o0 p1 p2) ?_
  generalize hQQ : (fun (v : Option Value) (h : Heap) (L : List Loc) => v = none ∧ Fr n0 L ∧ Keep h0 h [o0] ∧ Exa Z h o0 "com/example/seenset/seenset/util/Cells$Phase") = QQ
  have N0 := Fr.nil n0
  have K0 := Keep.refl h0 [o0]
  refine own_go (g' := (mkF m 1 #[.val (.ref o0), .val (.int p1), .val (.int p2), .unset, .unset, .unset, .unset, .unset, .unset, .unset, .unset] [(.ref o0)])) (fun _ kgo => XS.aloadN X0.here hx rfl (hb hby d6_0) rfl rfl kgo) ?_
  obtain ⟨T1, X1, e1, st1⟩ := initO X0 hx hZ hown (hw _ (List.mem_of_getElem? (i := 40) rfl)) (hw _ (List.mem_of_getElem? (i := 13) rfl)) (hw _ (List.mem_of_getElem? (i := 14) rfl)) e0 (g := (mkF m 1 #[.val (.ref o0), .val (.int p1), .val (.int p2), .unset, .unset, .unset, .unset, .unset, .unset, .unset, .unset] [(.ref o0)])) rfl (by rw [hml]; rfl) rfl (hb hby d6_1) (by decide) (W := 0) (by show 2 * 0 + _ ≤ _; exact Nat.le_of_eq rfl) (by decide)
  refine own_go (g' := (mkF m 4 #[.val (.ref o0), .val (.int p1), .val (.int p2), .unset, .unset, .unset, .unset, .unset, .unset, .unset, .unset] [])) (st1) ?_
  refine own_go (g' := (mkF m 5 #[.val (.ref o0), .val (.int p1), .val (.int p2), .unset, .unset, .unset, .unset, .unset, .unset, .unset, .unset] [(.int p1)])) (fun _ kgo => XS.iloadN X1.here hx rfl (hb hby d6_4) rfl kgo) ?_
  refine own_go (g' := (mkF m 6 #[.val (.ref o0), .val (.int p1), .val (.int p2), .unset, .unset, .unset, .unset, .unset, .unset, .unset, .unset] [(.int p2), (.int p1)])) (fun _ kgo => XS.iloadN X1.here hx rfl (hb hby d6_5) rfl kgo) ?_
  refine own_go (g' := (mkF m 7 #[.val (.ref o0), .val (.int p1), .val (.int p2), .unset, .unset, .unset, .unset, .unset, .unset, .unset, .unset] [(.int (p1 - p2))])) (fun _ kgo => XS.isub X1.here hx rfl (hb hby d6_6) rfl kgo) ?_
  refine own_go (g' := (mkF m 8 #[.val (.ref o0), .val (.int p1), .val (.int p2), .unset, .unset, .unset, .unset, .unset, .unset, .unset, .unset] [(.int p1), (.int (p1 - p2))])) (fun _ kgo => XS.iloadN X1.here hx rfl (hb hby d6_7) rfl kgo) ?_
  refine own_go (g' := (mkF m 9 #[.val (.ref o0), .val (.int p1), .val (.int p2), .unset, .unset, .unset, .unset, .unset, .unset, .unset, .unset] [(.int ((p1 - p2) % p1))])) (fun _ kgo => own_irem X1 hx rfl (hb hby d6_8) rfl (own_nz hb1) kgo) ?_
  suffices JNe_sr : ∀ sr : Int32, sr = ((p1 - p2) % p1) → own_Go p e below (own_Post s QQ 0 0) T1 (mkF m 9 #[.val (.ref o0), .val (.int p1), .val (.int p2), .unset, .unset, .unset, .unset, .unset, .unset, .unset, .unset] [(.int sr)]) from JNe_sr _ (rfl)
  intro sr e_sr
  refine own_go (g' := (mkF m 10 #[.val (.ref o0), .val (.int p1), .val (.int p2), .val (.int sr), .unset, .unset, .unset, .unset, .unset, .unset, .unset] [])) (fun _ kgo => XS.istoreN X1.here hx rfl (hb hby d6_9) rfl (l' := #[.val (.ref o0), .val (.int p1), .val (.int p2), .val (.int sr), .unset, .unset, .unset, .unset, .unset, .unset, .unset]) rfl kgo) ?_
  refine own_go (g' := (mkF m 12 #[.val (.ref o0), .val (.int p1), .val (.int p2), .val (.int sr), .unset, .unset, .unset, .unset, .unset, .unset, .unset] [(.int (64 : Int32))])) (fun _ kgo => XS.bipush X1.here hx rfl (hb hby d6_10) kgo) ?_
  refine own_go (g' := (mkF m 13 #[.val (.ref o0), .val (.int p1), .val (.int p2), .val (.int sr), .unset, .unset, .unset, .unset, .unset, .unset, .unset] [(.int sr), (.int (64 : Int32))])) (fun _ kgo => XS.iloadN X1.here hx rfl (hb hby d6_12) rfl kgo) ?_
  refine own_go (g' := (mkF m 14 #[.val (.ref o0), .val (.int p1), .val (.int p2), .val (.int sr), .unset, .unset, .unset, .unset, .unset, .unset, .unset] [(.int ((64 : Int32) - sr))])) (fun _ kgo => XS.isub X1.here hx rfl (hb hby d6_13) rfl kgo) ?_
  refine own_go (g' := (mkF m 15 #[.val (.ref o0), .val (.int p1), .val (.int p2), .val (.int sr), .unset, .unset, .unset, .unset, .unset, .unset, .unset] [(.int p1), (.int ((64 : Int32) - sr))])) (fun _ kgo => XS.iloadN X1.here hx rfl (hb hby d6_14) rfl kgo) ?_
  refine own_go (g' := (mkF m 16 #[.val (.ref o0), .val (.int p1), .val (.int p2), .val (.int sr), .unset, .unset, .unset, .unset, .unset, .unset, .unset] [(.int (((64 : Int32) - sr) / p1))])) (fun _ kgo => XS.idiv X1.here hx rfl (hb hby d6_15) rfl (own_nz hb1) kgo) ?_
  suffices JNe_wh : ∀ wh : Int32, wh = (((64 : Int32) - sr) / p1) → own_Go p e below (own_Post s QQ 0 0) T1 (mkF m 16 #[.val (.ref o0), .val (.int p1), .val (.int p2), .val (.int sr), .unset, .unset, .unset, .unset, .unset, .unset, .unset] [(.int wh)]) from JNe_wh _ (rfl)
  intro wh e_wh
  refine own_go (g' := (mkF m 18 #[.val (.ref o0), .val (.int p1), .val (.int p2), .val (.int sr), .val (.int wh), .unset, .unset, .unset, .unset, .unset, .unset] [])) (fun _ kgo => XS.istore X1.here hx rfl (hb hby d6_16) rfl (l' := #[.val (.ref o0), .val (.int p1), .val (.int p2), .val (.int sr), .val (.int wh), .unset, .unset, .unset, .unset, .unset, .unset]) rfl kgo) ?_
  refine own_go (g' := (mkF m 19 #[.val (.ref o0), .val (.int p1), .val (.int p2), .val (.int sr), .val (.int wh), .unset, .unset, .unset, .unset, .unset, .unset] [(.long (0 : Int64))])) (fun _ kgo => XS.lconst X1.here hx rfl (hb hby d6_18) kgo) ?_
  refine own_go (g' := (mkF m 21 #[.val (.ref o0), .val (.int p1), .val (.int p2), .val (.int sr), .val (.int wh), .val (.long (0 : Int64)), .second, .unset, .unset, .unset, .unset] [])) (fun _ kgo => XS.lstore X1.here hx rfl (hb hby d6_19) rfl (l' := #[.val (.ref o0), .val (.int p1), .val (.int p2), .val (.int sr), .val (.int wh), .val (.long (0 : Int64)), .second, .unset, .unset, .unset, .unset]) rfl kgo) ?_
  refine own_go (g' := (mkF m 22 #[.val (.ref o0), .val (.int p1), .val (.int p2), .val (.int sr), .val (.int wh), .val (.long (0 : Int64)), .second, .unset, .unset, .unset, .unset] [(.long (0 : Int64))])) (fun _ kgo => XS.lconst X1.here hx rfl (hb hby d6_21) kgo) ?_
  refine own_go (g' := (mkF m 24 #[.val (.ref o0), .val (.int p1), .val (.int p2), .val (.int sr), .val (.int wh), .val (.long (0 : Int64)), .second, .val (.long (0 : Int64)), .second, .unset, .unset] [])) (fun _ kgo => XS.lstore X1.here hx rfl (hb hby d6_22) rfl (l' := #[.val (.ref o0), .val (.int p1), .val (.int p2), .val (.int sr), .val (.int wh), .val (.long (0 : Int64)), .second, .val (.long (0 : Int64)), .second, .unset, .unset]) rfl kgo) ?_
  refine own_go (g' := (mkF m 25 #[.val (.ref o0), .val (.int p1), .val (.int p2), .val (.int sr), .val (.int wh), .val (.long (0 : Int64)), .second, .val (.long (0 : Int64)), .second, .unset, .unset] [(.int (0 : Int32))])) (fun _ kgo => XS.iconst X1.here hx rfl (hb hby d6_24) kgo) ?_
  refine own_go (g' := (mkF m 27 #[.val (.ref o0), .val (.int p1), .val (.int p2), .val (.int sr), .val (.int wh), .val (.long (0 : Int64)), .second, .val (.long (0 : Int64)), .second, .val (.int (0 : Int32)), .unset] [])) (fun _ kgo => XS.istore X1.here hx rfl (hb hby d6_25) rfl (l' := #[.val (.ref o0), .val (.int p1), .val (.int p2), .val (.int sr), .val (.int wh), .val (.long (0 : Int64)), .second, .val (.long (0 : Int64)), .second, .val (.int (0 : Int32)), .unset]) rfl kgo) ?_
  have J2 : ∀ (lx : Int64), ∀ (tx : Int64), ∀ (cx : Int32), ∀ (sx : Slot), own_Go p e below (own_Post s QQ 0 0) T1 (mkF m 76 #[.val (.ref o0), .val (.int p1), .val (.int p2), .val (.int sr), .val (.int wh), .val (.long lx), .second, .val (.long tx), .second, .val (.int cx), sx] []) := by
    intro lx tx cx sx
    refine own_go (g' := (mkF m 77 #[.val (.ref o0), .val (.int p1), .val (.int p2), .val (.int sr), .val (.int wh), .val (.long lx), .second, .val (.long tx), .second, .val (.int cx), sx] [(.ref o0)])) (fun _ kgo => XS.aloadN X1.here hx rfl (hb hby d6_76) rfl rfl kgo) ?_
    refine own_go (g' := (mkF m 79 #[.val (.ref o0), .val (.int p1), .val (.int p2), .val (.int sr), .val (.int wh), .val (.long lx), .second, .val (.long tx), .second, .val (.int cx), sx] [(.long lx), (.ref o0)])) (fun _ kgo => XS.lload X1.here hx rfl (hb hby d6_77) rfl kgo) ?_
    obtain ⟨T3, h3, X3, e3, W3, st3⟩ := putF X1 hx hZ hown (host := "") (Or.inl (hw _ (List.mem_of_getElem? (i := 41) rfl))) Via.refl e1 P1 P0 (Or.inr ⟨(hw _ (List.mem_of_getElem? (i := 42) rfl)), rfl, hnm⟩) (hw _ (List.mem_of_getElem? (i := 35) rfl)) (ty := .long) (by decide) rfl rfl (g := (mkF m 79 #[.val (.ref o0), .val (.int p1), .val (.int p2), .val (.int sr), .val (.int wh), .val (.long lx), .second, .val (.long tx), .second, .val (.int cx), sx] [(.long lx), (.ref o0)])) rfl rfl (hb hby d6_79)
    have fw3 := Fld.same W3 P1
    have N3 := Fr.snoc X3 N0 g_o0
    have Z3 : n0 ≤ h3.size := by rw [W3.size]; exact Z0
    have K3 : Keep h0 h3 [o0] := K0.wr W3 (Or.inl (List.mem_of_getElem? (i := 0) rfl))
    refine own_go (g' := (mkF m 82 #[.val (.ref o0), .val (.int p1), .val (.int p2), .val (.int sr), .val (.int wh), .val (.long lx), .second, .val (.long tx), .second, .val (.int cx), sx] [])) (st3) ?_
    refine own_go (g' := (mkF m 83 #[.val (.ref o0), .val (.int p1), .val (.int p2), .val (.int sr), .val (.int wh), .val (.long lx), .second, .val (.long tx), .second, .val (.int cx), sx] [(.ref o0)])) (fun _ kgo => XS.aloadN X3.here hx rfl (hb hby d6_82) rfl rfl kgo) ?_
    refine own_go (g' := (mkF m 85 #[.val (.ref o0), .val (.int p1), .val (.int p2), .val (.int sr), .val (.int wh), .val (.long lx), .second, .val (.long tx), .second, .val (.int cx), sx] [(.long tx), (.ref o0)])) (fun _ kgo => XS.lload X3.here hx rfl (hb hby d6_83) rfl kgo) ?_
    have fx4 : Fld Z h3 o0 "com/example/seenset/seenset/util/Cells$Phase" "top" "J" (.long (0 : Int64)) := (Fld.other W3 P2 (Or.inr (slot_ne (Or.inr (hw _ (List.mem_of_getElem? (i := 44) rfl))) (Or.inr (hw _ (List.mem_of_getElem? (i := 42) rfl))) (by decide) (t := .long) (t' := .long) (by decide) (by decide))))
    have fx5 : Exa Z h3 o0 "com/example/seenset/seenset/util/Cells$Phase" := (Exa.wr W3 P0)
    obtain ⟨T6, h6, X6, e6, W6, st6⟩ := putF X3 hx hZ hown (host := "") (Or.inl (hw _ (List.mem_of_getElem? (i := 43) rfl))) Via.refl e3 fx4 fx5 (Or.inr ⟨(hw _ (List.mem_of_getElem? (i := 44) rfl)), rfl, hnm⟩) (hw _ (List.mem_of_getElem? (i := 35) rfl)) (ty := .long) (by decide) rfl rfl (g := (mkF m 85 #[.val (.ref o0), .val (.int p1), .val (.int p2), .val (.int sr), .val (.int wh), .val (.long lx), .second, .val (.long tx), .second, .val (.int cx), sx] [(.long tx), (.ref o0)])) rfl rfl (hb hby d6_85)
    have fw6 := Fld.same W6 fx4
    have N6 := Fr.snoc X6 N3 g_o0
    have Z6 : n0 ≤ h6.size := by rw [W6.size]; exact Z3
    have K6 : Keep h0 h6 [o0] := K3.wr W6 (Or.inl (List.mem_of_getElem? (i := 0) rfl))
    refine own_go (g' := (mkF m 88 #[.val (.ref o0), .val (.int p1), .val (.int p2), .val (.int sr), .val (.int wh), .val (.long lx), .second, .val (.long tx), .second, .val (.int cx), sx] [])) (st6) ?_
    refine own_go (g' := (mkF m 90 #[.val (.ref o0), .val (.int p1), .val (.int p2), .val (.int sr), .val (.int wh), .val (.long lx), .second, .val (.long tx), .second, .val (.int cx), sx] [(.int (64 : Int32))])) (fun _ kgo => XS.bipush X6.here hx rfl (hb hby d6_88) kgo) ?_
    refine own_go (g' := (mkF m 91 #[.val (.ref o0), .val (.int p1), .val (.int p2), .val (.int sr), .val (.int wh), .val (.long lx), .second, .val (.long tx), .second, .val (.int cx), sx] [(.int sr), (.int (64 : Int32))])) (fun _ kgo => XS.iloadN X6.here hx rfl (hb hby d6_90) rfl kgo) ?_
    refine own_go (g' := (mkF m 92 #[.val (.ref o0), .val (.int p1), .val (.int p2), .val (.int sr), .val (.int wh), .val (.long lx), .second, .val (.long tx), .second, .val (.int cx), sx] [(.int ((64 : Int32) - sr))])) (fun _ kgo => XS.isub X6.here hx rfl (hb hby d6_91) rfl kgo) ?_
    refine own_go (g' := (mkF m 94 #[.val (.ref o0), .val (.int p1), .val (.int p2), .val (.int sr), .val (.int wh), .val (.long lx), .second, .val (.long tx), .second, .val (.int cx), sx] [(.int wh), (.int ((64 : Int32) - sr))])) (fun _ kgo => XS.iload X6.here hx rfl (hb hby d6_92) rfl kgo) ?_
    refine own_go (g' := (mkF m 95 #[.val (.ref o0), .val (.int p1), .val (.int p2), .val (.int sr), .val (.int wh), .val (.long lx), .second, .val (.long tx), .second, .val (.int cx), sx] [(.int p1), (.int wh), (.int ((64 : Int32) - sr))])) (fun _ kgo => XS.iloadN X6.here hx rfl (hb hby d6_94) rfl kgo) ?_
    refine own_go (g' := (mkF m 96 #[.val (.ref o0), .val (.int p1), .val (.int p2), .val (.int sr), .val (.int wh), .val (.long lx), .second, .val (.long tx), .second, .val (.int cx), sx] [(.int (wh * p1)), (.int ((64 : Int32) - sr))])) (fun _ kgo => XS.imul X6.here hx rfl (hb hby d6_95) rfl kgo) ?_
    refine own_go (g' := (mkF m 97 #[.val (.ref o0), .val (.int p1), .val (.int p2), .val (.int sr), .val (.int wh), .val (.long lx), .second, .val (.long tx), .second, .val (.int cx), sx] [(.int (((64 : Int32) - sr) - (wh * p1)))])) (fun _ kgo => XS.isub X6.here hx rfl (hb hby d6_96) rfl kgo) ?_
    suffices JNe_sd : ∀ sd : Int32, sd = (((64 : Int32) - sr) - (wh * p1)) → own_Go p e below (own_Post s QQ 0 0) T6 (mkF m 97 #[.val (.ref o0), .val (.int p1), .val (.int p2), .val (.int sr), .val (.int wh), .val (.long lx), .second, .val (.long tx), .second, .val (.int cx), sx] [(.int sd)]) from JNe_sd _ (rfl)
    intro sd e_sd
    refine own_go (g' := (mkF m 99 #[.val (.ref o0), .val (.int p1), .val (.int p2), .val (.int sr), .val (.int wh), .val (.long lx), .second, .val (.long tx), .second, .val (.int sd), sx] [])) (fun _ kgo => XS.istore X6.here hx rfl (hb hby d6_97) rfl (l' := #[.val (.ref o0), .val (.int p1), .val (.int p2), .val (.int sr), .val (.int wh), .val (.long lx), .second, .val (.long tx), .second, .val (.int sd), sx]) rfl kgo) ?_
    refine own_go (g' := (mkF m 100 #[.val (.ref o0), .val (.int p1), .val (.int p2), .val (.int sr), .val (.int wh), .val (.long lx), .second, .val (.long tx), .second, .val (.int sd), sx] [(.ref o0)])) (fun _ kgo => XS.aloadN X6.here hx rfl (hb hby d6_99) rfl rfl kgo) ?_
    refine own_go (g' := (mkF m 102 #[.val (.ref o0), .val (.int p1), .val (.int p2), .val (.int sr), .val (.int wh), .val (.long lx), .second, .val (.long tx), .second, .val (.int sd), sx] [(.int sd), (.ref o0)])) (fun _ kgo => XS.iload X6.here hx rfl (hb hby d6_100) rfl kgo) ?_
    have J7 : ∀ (z1 : Int64), own_Go p e below (own_Post s QQ 0 0) T6 (mkF m 118 #[.val (.ref o0), .val (.int p1), .val (.int p2), .val (.int sr), .val (.int wh), .val (.long lx), .second, .val (.long tx), .second, .val (.int sd), sx] [(.long z1), (.ref o0)]) := by
      intro z1
      have fx8 : Fld Z h6 o0 "com/example/seenset/seenset/util/Cells$Phase" "straddleLow" "J" (.long (0 : Int64)) := (Fld.other W6 (Fld.other W3 P3 (Or.inr (slot_ne (Or.inr (hw _ (List.mem_of_getElem? (i := 46) rfl))) (Or.inr (hw _ (List.mem_of_getElem? (i := 42) rfl))) (by decide) (t := .long) (t' := .long) (by decide) (by decide)))) (Or.inr (slot_ne (Or.inr (hw _ (List.mem_of_getElem? (i := 46) rfl))) (Or.inr (hw _ (List.mem_of_getElem? (i := 44) rfl))) (by decide) (t := .long) (t' := .long) (by decide) (by decide))))
      have fx9 : Exa Z h6 o0 "com/example/seenset/seenset/util/Cells$Phase" := (Exa.wr W6 fx5)
      obtain ⟨T10, h10, X10, e10, W10, st10⟩ := putF X6 hx hZ hown (host := "") (Or.inl (hw _ (List.mem_of_getElem? (i := 45) rfl))) Via.refl e6 fx8 fx9 (Or.inr ⟨(hw _ (List.mem_of_getElem? (i := 46) rfl)), rfl, hnm⟩) (hw _ (List.mem_of_getElem? (i := 35) rfl)) (ty := .long) (by decide) rfl rfl (g := (mkF m 118 #[.val (.ref o0), .val (.int p1), .val (.int p2), .val (.int sr), .val (.int wh), .val (.long lx), .second, .val (.long tx), .second, .val (.int sd), sx] [(.long z1), (.ref o0)])) rfl rfl (hb hby d6_118)
      have fw10 := Fld.same W10 fx8
      have N10 := Fr.snoc X10 N6 g_o0
      have Z10 : n0 ≤ h10.size := by rw [W10.size]; exact Z6
      have K10 : Keep h0 h10 [o0] := K6.wr W10 (Or.inl (List.mem_of_getElem? (i := 0) rfl))
      refine own_go (g' := (mkF m 121 #[.val (.ref o0), .val (.int p1), .val (.int p2), .val (.int sr), .val (.int wh), .val (.long lx), .second, .val (.long tx), .second, .val (.int sd), sx] [])) (st10) ?_
      refine own_go (g' := (mkF m 122 #[.val (.ref o0), .val (.int p1), .val (.int p2), .val (.int sr), .val (.int wh), .val (.long lx), .second, .val (.long tx), .second, .val (.int sd), sx] [(.ref o0)])) (fun _ kgo => XS.aloadN X10.here hx rfl (hb hby d6_121) rfl rfl kgo) ?_
      refine own_go (g' := (mkF m 124 #[.val (.ref o0), .val (.int p1), .val (.int p2), .val (.int sr), .val (.int wh), .val (.long lx), .second, .val (.long tx), .second, .val (.int sd), sx] [(.int sd), (.ref o0)])) (fun _ kgo => XS.iload X10.here hx rfl (hb hby d6_122) rfl kgo) ?_
      have J11 : ∀ (z2 : Int64), own_Go p e below (own_Post s QQ 0 0) T10 (mkF m 138 #[.val (.ref o0), .val (.int p1), .val (.int p2), .val (.int sr), .val (.int wh), .val (.long lx), .second, .val (.long tx), .second, .val (.int sd), sx] [(.long z2), (.ref o0)]) := by
        intro z2
        have fx12 : Fld Z h10 o0 "com/example/seenset/seenset/util/Cells$Phase" "straddleFirst" "J" (.long (0 : Int64)) := (Fld.other W10 (Fld.other W6 (Fld.other W3 P4 (Or.inr (slot_ne (Or.inr (hw _ (List.mem_of_getElem? (i := 48) rfl))) (Or.inr (hw _ (List.mem_of_getElem? (i := 42) rfl))) (by decide) (t := .long) (t' := .long) (by decide) (by decide)))) (Or.inr (slot_ne (Or.inr (hw _ (List.mem_of_getElem? (i := 48) rfl))) (Or.inr (hw _ (List.mem_of_getElem? (i := 44) rfl))) (by decide) (t := .long) (t' := .long) (by decide) (by decide)))) (Or.inr (slot_ne (Or.inr (hw _ (List.mem_of_getElem? (i := 48) rfl))) (Or.inr (hw _ (List.mem_of_getElem? (i := 46) rfl))) (by decide) (t := .long) (t' := .long) (by decide) (by decide))))
        have fx13 : Exa Z h10 o0 "com/example/seenset/seenset/util/Cells$Phase" := (Exa.wr W10 fx9)
        obtain ⟨T14, h14, X14, e14, W14, st14⟩ := putF X10 hx hZ hown (host := "") (Or.inl (hw _ (List.mem_of_getElem? (i := 47) rfl))) Via.refl e10 fx12 fx13 (Or.inr ⟨(hw _ (List.mem_of_getElem? (i := 48) rfl)), rfl, hnm⟩) (hw _ (List.mem_of_getElem? (i := 35) rfl)) (ty := .long) (by decide) rfl rfl (g := (mkF m 138 #[.val (.ref o0), .val (.int p1), .val (.int p2), .val (.int sr), .val (.int wh), .val (.long lx), .second, .val (.long tx), .second, .val (.int sd), sx] [(.long z2), (.ref o0)])) rfl rfl (hb hby d6_138)
        have fw14 := Fld.same W14 fx12
        have N14 := Fr.snoc X14 N10 g_o0
        have Z14 : n0 ≤ h14.size := by rw [W14.size]; exact Z10
        have K14 : Keep h0 h14 [o0] := K10.wr W14 (Or.inl (List.mem_of_getElem? (i := 0) rfl))
        refine own_go (g' := (mkF m 141 #[.val (.ref o0), .val (.int p1), .val (.int p2), .val (.int sr), .val (.int wh), .val (.long lx), .second, .val (.long tx), .second, .val (.int sd), sx] [])) (st14) ?_
        refine own_go (g' := (mkF m 142 #[.val (.ref o0), .val (.int p1), .val (.int p2), .val (.int sr), .val (.int wh), .val (.long lx), .second, .val (.long tx), .second, .val (.int sd), sx] [(.ref o0)])) (fun _ kgo => XS.aloadN X14.here hx rfl (hb hby d6_141) rfl rfl kgo) ?_
        refine own_go (g' := (mkF m 144 #[.val (.ref o0), .val (.int p1), .val (.int p2), .val (.int sr), .val (.int wh), .val (.long lx), .second, .val (.long tx), .second, .val (.int sd), sx] [(.int sd), (.ref o0)])) (fun _ kgo => XS.iload X14.here hx rfl (hb hby d6_142) rfl kgo) ?_
        have J15 : ∀ (z3 : Int64), own_Go p e below (own_Post s QQ 0 0) T14 (mkF m 159 #[.val (.ref o0), .val (.int p1), .val (.int p2), .val (.int sr), .val (.int wh), .val (.long lx), .second, .val (.long tx), .second, .val (.int sd), sx] [(.long z3), (.ref o0)]) := by
          intro z3
          have fx16 : Fld Z h14 o0 "com/example/seenset/seenset/util/Cells$Phase" "straddleHigh" "J" (.long (0 : Int64)) := (Fld.other W14 (Fld.other W10 (Fld.other W6 (Fld.other W3 P5 (Or.inr (slot_ne (Or.inr (hw _ (List.mem_of_getElem? (i := 50) rfl))) (Or.inr (hw _ (List.mem_of_getElem? (i := 42) rfl))) (by decide) (t := .long) (t' := .long) (by decide) (by decide)))) (Or.inr (slot_ne (Or.inr (hw _ (List.mem_of_getElem? (i := 50) rfl))) (Or.inr (hw _ (List.mem_of_getElem? (i := 44) rfl))) (by decide) (t := .long) (t' := .long) (by decide) (by decide)))) (Or.inr (slot_ne (Or.inr (hw _ (List.mem_of_getElem? (i := 50) rfl))) (Or.inr (hw _ (List.mem_of_getElem? (i := 46) rfl))) (by decide) (t := .long) (t' := .long) (by decide) (by decide)))) (Or.inr (slot_ne (Or.inr (hw _ (List.mem_of_getElem? (i := 50) rfl))) (Or.inr (hw _ (List.mem_of_getElem? (i := 48) rfl))) (by decide) (t := .long) (t' := .long) (by decide) (by decide))))
          have fx17 : Exa Z h14 o0 "com/example/seenset/seenset/util/Cells$Phase" := (Exa.wr W14 fx13)
          obtain ⟨T18, h18, X18, e18, W18, st18⟩ := putF X14 hx hZ hown (host := "") (Or.inl (hw _ (List.mem_of_getElem? (i := 49) rfl))) Via.refl e14 fx16 fx17 (Or.inr ⟨(hw _ (List.mem_of_getElem? (i := 50) rfl)), rfl, hnm⟩) (hw _ (List.mem_of_getElem? (i := 35) rfl)) (ty := .long) (by decide) rfl rfl (g := (mkF m 159 #[.val (.ref o0), .val (.int p1), .val (.int p2), .val (.int sr), .val (.int wh), .val (.long lx), .second, .val (.long tx), .second, .val (.int sd), sx] [(.long z3), (.ref o0)])) rfl rfl (hb hby d6_159)
          have fw18 := Fld.same W18 fx16
          have N18 := Fr.snoc X18 N14 g_o0
          have Z18 : n0 ≤ h18.size := by rw [W18.size]; exact Z14
          have K18 : Keep h0 h18 [o0] := K14.wr W18 (Or.inl (List.mem_of_getElem? (i := 0) rfl))
          refine own_go (g' := (mkF m 162 #[.val (.ref o0), .val (.int p1), .val (.int p2), .val (.int sr), .val (.int wh), .val (.long lx), .second, .val (.long tx), .second, .val (.int sd), sx] [])) (st18) ?_
          refine own_retV X18 hx Bd.returns Bd.notSynchronized (hb hby d6_162) (by decide) (by decide) ?_
          show QQ _ T18.heap _
          rw [e18]
          have fx19 : Exa Z h18 o0 "com/example/seenset/seenset/util/Cells$Phase" := (Exa.wr W18 fx17)
          rw [← hQQ]
          exact ⟨rfl, N18, K18, fx19⟩
        by_cases hc20 : sd = (0 : Int32)
        ·
          refine own_go (g' := (mkF m 147 #[.val (.ref o0), .val (.int p1), .val (.int p2), .val (.int sr), .val (.int wh), .val (.long lx), .second, .val (.long tx), .second, .val (.int sd), sx] [(.ref o0)])) (fun _ kgo => XS.ifNo X14.here hx rfl (hb hby d6_144) rfl ((if0 _ _).trans (teq hc20).2) kgo) ?_
          refine own_go (g' := (mkF m 148 #[.val (.ref o0), .val (.int p1), .val (.int p2), .val (.int sr), .val (.int wh), .val (.long lx), .second, .val (.long tx), .second, .val (.int sd), sx] [(.long (0 : Int64)), (.ref o0)])) (fun _ kgo => XS.lconst X14.here hx rfl (hb hby d6_147) kgo) ?_
          refine own_go (g' := (mkF m 159 #[.val (.ref o0), .val (.int p1), .val (.int p2), .val (.int sr), .val (.int wh), .val (.long lx), .second, .val (.long tx), .second, .val (.int sd), sx] [(.long (0 : Int64)), (.ref o0)])) (fun _ kgo => XS.goto X14.here hx rfl (pc0 := 148) (pc' := 159) rfl (hb hby d6_148) (by decide) (by decide) kgo) ?_
          exact J15 _
        ·
          refine own_go (g' := (mkF m 151 #[.val (.ref o0), .val (.int p1), .val (.int p2), .val (.int sr), .val (.int wh), .val (.long lx), .second, .val (.long tx), .second, .val (.int sd), sx] [(.ref o0)])) (fun _ kgo => XS.ifYes X14.here hx rfl (pc0 := 144) (pc' := 151) rfl (hb hby d6_144) rfl ((if0 _ _).trans (feq hc20).2) (by decide) (by decide) kgo) ?_
          refine own_go (g' := (mkF m 152 #[.val (.ref o0), .val (.int p1), .val (.int p2), .val (.int sr), .val (.int wh), .val (.long lx), .second, .val (.long tx), .second, .val (.int sd), sx] [(.long (1 : Int64)), (.ref o0)])) (fun _ kgo => XS.lconst X14.here hx rfl (hb hby d6_151) kgo) ?_
          refine own_go (g' := (mkF m 153 #[.val (.ref o0), .val (.int p1), .val (.int p2), .val (.int sr), .val (.int wh), .val (.long lx), .second, .val (.long tx), .second, .val (.int sd), sx] [(.int p1), (.long (1 : Int64)), (.ref o0)])) (fun _ kgo => XS.iloadN X14.here hx rfl (hb hby d6_152) rfl kgo) ?_
          refine own_go (g' := (mkF m 155 #[.val (.ref o0), .val (.int p1), .val (.int p2), .val (.int sr), .val (.int wh), .val (.long lx), .second, .val (.long tx), .second, .val (.int sd), sx] [(.int sd), (.int p1), (.long (1 : Int64)), (.ref o0)])) (fun _ kgo => XS.iload X14.here hx rfl (hb hby d6_153) rfl kgo) ?_
          refine own_go (g' := (mkF m 156 #[.val (.ref o0), .val (.int p1), .val (.int p2), .val (.int sr), .val (.int wh), .val (.long lx), .second, .val (.long tx), .second, .val (.int sd), sx] [(.int (p1 - sd)), (.long (1 : Int64)), (.ref o0)])) (fun _ kgo => XS.isub X14.here hx rfl (hb hby d6_155) rfl kgo) ?_
          refine own_go (g' := (mkF m 157 #[.val (.ref o0), .val (.int p1), .val (.int p2), .val (.int sr), .val (.int wh), .val (.long lx), .second, .val (.long tx), .second, .val (.int sd), sx] [(.long ((1 : Int64) <<< ((p1 - sd) &&& 0x3f).toInt64)), (.ref o0)])) (fun _ kgo => XS.lshl X14.here hx rfl (hb hby d6_156) rfl kgo) ?_
          refine own_go (g' := (mkF m 158 #[.val (.ref o0), .val (.int p1), .val (.int p2), .val (.int sr), .val (.int wh), .val (.long lx), .second, .val (.long tx), .second, .val (.int sd), sx] [(.long (1 : Int64)), (.long ((1 : Int64) <<< ((p1 - sd) &&& 0x3f).toInt64)), (.ref o0)])) (fun _ kgo => XS.lconst X14.here hx rfl (hb hby d6_157) kgo) ?_
          refine own_go (g' := (mkF m 159 #[.val (.ref o0), .val (.int p1), .val (.int p2), .val (.int sr), .val (.int wh), .val (.long lx), .second, .val (.long tx), .second, .val (.int sd), sx] [(.long (((1 : Int64) <<< ((p1 - sd) &&& 0x3f).toInt64) - (1 : Int64))), (.ref o0)])) (fun _ kgo => XS.lsub X14.here hx rfl (hb hby d6_158) rfl kgo) ?_
          exact J15 _
      by_cases hc21 : sd = (0 : Int32)
      ·
        refine own_go (g' := (mkF m 127 #[.val (.ref o0), .val (.int p1), .val (.int p2), .val (.int sr), .val (.int wh), .val (.long lx), .second, .val (.long tx), .second, .val (.int sd), sx] [(.ref o0)])) (fun _ kgo => XS.ifNo X10.here hx rfl (hb hby d6_124) rfl ((if0 _ _).trans (teq hc21).2) kgo) ?_
        refine own_go (g' := (mkF m 128 #[.val (.ref o0), .val (.int p1), .val (.int p2), .val (.int sr), .val (.int wh), .val (.long lx), .second, .val (.long tx), .second, .val (.int sd), sx] [(.long (0 : Int64)), (.ref o0)])) (fun _ kgo => XS.lconst X10.here hx rfl (hb hby d6_127) kgo) ?_
        refine own_go (g' := (mkF m 138 #[.val (.ref o0), .val (.int p1), .val (.int p2), .val (.int sr), .val (.int wh), .val (.long lx), .second, .val (.long tx), .second, .val (.int sd), sx] [(.long (0 : Int64)), (.ref o0)])) (fun _ kgo => XS.goto X10.here hx rfl (pc0 := 128) (pc' := 138) rfl (hb hby d6_128) (by decide) (by decide) kgo) ?_
        exact J11 _
      ·
        refine own_go (g' := (mkF m 131 #[.val (.ref o0), .val (.int p1), .val (.int p2), .val (.int sr), .val (.int wh), .val (.long lx), .second, .val (.long tx), .second, .val (.int sd), sx] [(.ref o0)])) (fun _ kgo => XS.ifYes X10.here hx rfl (pc0 := 124) (pc' := 131) rfl (hb hby d6_124) rfl ((if0 _ _).trans (feq hc21).2) (by decide) (by decide) kgo) ?_
        refine own_go (g' := (mkF m 132 #[.val (.ref o0), .val (.int p1), .val (.int p2), .val (.int sr), .val (.int wh), .val (.long lx), .second, .val (.long tx), .second, .val (.int sd), sx] [(.long (1 : Int64)), (.ref o0)])) (fun _ kgo => XS.lconst X10.here hx rfl (hb hby d6_131) kgo) ?_
        refine own_go (g' := (mkF m 134 #[.val (.ref o0), .val (.int p1), .val (.int p2), .val (.int sr), .val (.int wh), .val (.long lx), .second, .val (.long tx), .second, .val (.int sd), sx] [(.int (64 : Int32)), (.long (1 : Int64)), (.ref o0)])) (fun _ kgo => XS.bipush X10.here hx rfl (hb hby d6_132) kgo) ?_
        refine own_go (g' := (mkF m 136 #[.val (.ref o0), .val (.int p1), .val (.int p2), .val (.int sr), .val (.int wh), .val (.long lx), .second, .val (.long tx), .second, .val (.int sd), sx] [(.int sd), (.int (64 : Int32)), (.long (1 : Int64)), (.ref o0)])) (fun _ kgo => XS.iload X10.here hx rfl (hb hby d6_134) rfl kgo) ?_
        refine own_go (g' := (mkF m 137 #[.val (.ref o0), .val (.int p1), .val (.int p2), .val (.int sr), .val (.int wh), .val (.long lx), .second, .val (.long tx), .second, .val (.int sd), sx] [(.int ((64 : Int32) - sd)), (.long (1 : Int64)), (.ref o0)])) (fun _ kgo => XS.isub X10.here hx rfl (hb hby d6_136) rfl kgo) ?_
        refine own_go (g' := (mkF m 138 #[.val (.ref o0), .val (.int p1), .val (.int p2), .val (.int sr), .val (.int wh), .val (.long lx), .second, .val (.long tx), .second, .val (.int sd), sx] [(.long ((1 : Int64) <<< (((64 : Int32) - sd) &&& 0x3f).toInt64)), (.ref o0)])) (fun _ kgo => XS.lshl X10.here hx rfl (hb hby d6_137) rfl kgo) ?_
        exact J11 _
    by_cases hc22 : sd = (0 : Int32)
    ·
      refine own_go (g' := (mkF m 105 #[.val (.ref o0), .val (.int p1), .val (.int p2), .val (.int sr), .val (.int wh), .val (.long lx), .second, .val (.long tx), .second, .val (.int sd), sx] [(.ref o0)])) (fun _ kgo => XS.ifNo X6.here hx rfl (hb hby d6_102) rfl ((if0 _ _).trans (teq hc22).2) kgo) ?_
      refine own_go (g' := (mkF m 106 #[.val (.ref o0), .val (.int p1), .val (.int p2), .val (.int sr), .val (.int wh), .val (.long lx), .second, .val (.long tx), .second, .val (.int sd), sx] [(.long (0 : Int64)), (.ref o0)])) (fun _ kgo => XS.lconst X6.here hx rfl (hb hby d6_105) kgo) ?_
      refine own_go (g' := (mkF m 118 #[.val (.ref o0), .val (.int p1), .val (.int p2), .val (.int sr), .val (.int wh), .val (.long lx), .second, .val (.long tx), .second, .val (.int sd), sx] [(.long (0 : Int64)), (.ref o0)])) (fun _ kgo => XS.goto X6.here hx rfl (pc0 := 106) (pc' := 118) rfl (hb hby d6_106) (by decide) (by decide) kgo) ?_
      exact J7 _
    ·
      refine own_go (g' := (mkF m 109 #[.val (.ref o0), .val (.int p1), .val (.int p2), .val (.int sr), .val (.int wh), .val (.long lx), .second, .val (.long tx), .second, .val (.int sd), sx] [(.ref o0)])) (fun _ kgo => XS.ifYes X6.here hx rfl (pc0 := 102) (pc' := 109) rfl (hb hby d6_102) rfl ((if0 _ _).trans (feq hc22).2) (by decide) (by decide) kgo) ?_
      refine own_go (g' := (mkF m 112 #[.val (.ref o0), .val (.int p1), .val (.int p2), .val (.int sr), .val (.int wh), .val (.long lx), .second, .val (.long tx), .second, .val (.int sd), sx] [(.long (-1 : Int64)), (.ref o0)])) (X6.ldc2Long hx hown (mvT hZ (hw _ (List.mem_of_getElem? (i := 69) rfl))) (g := (mkF m 109 #[.val (.ref o0), .val (.int p1), .val (.int p2), .val (.int sr), .val (.int wh), .val (.long lx), .second, .val (.long tx), .second, .val (.int sd), sx] [(.ref o0)])) rfl (hb hby d6_109)) ?_
      refine own_go (g' := (mkF m 114 #[.val (.ref o0), .val (.int p1), .val (.int p2), .val (.int sr), .val (.int wh), .val (.long lx), .second, .val (.long tx), .second, .val (.int sd), sx] [(.int (64 : Int32)), (.long (-1 : Int64)), (.ref o0)])) (fun _ kgo => XS.bipush X6.here hx rfl (hb hby d6_112) kgo) ?_
      refine own_go (g' := (mkF m 116 #[.val (.ref o0), .val (.int p1), .val (.int p2), .val (.int sr), .val (.int wh), .val (.long lx), .second, .val (.long tx), .second, .val (.int sd), sx] [(.int sd), (.int (64 : Int32)), (.long (-1 : Int64)), (.ref o0)])) (fun _ kgo => XS.iload X6.here hx rfl (hb hby d6_114) rfl kgo) ?_
      refine own_go (g' := (mkF m 117 #[.val (.ref o0), .val (.int p1), .val (.int p2), .val (.int sr), .val (.int wh), .val (.long lx), .second, .val (.long tx), .second, .val (.int sd), sx] [(.int ((64 : Int32) - sd)), (.long (-1 : Int64)), (.ref o0)])) (fun _ kgo => XS.isub X6.here hx rfl (hb hby d6_116) rfl kgo) ?_
      refine own_go (g' := (mkF m 118 #[.val (.ref o0), .val (.int p1), .val (.int p2), .val (.int sr), .val (.int wh), .val (.long lx), .second, .val (.long tx), .second, .val (.int sd), sx] [(.long ((-1 : Int64) <<< (((64 : Int32) - sd) &&& 0x3f).toInt64)), (.ref o0)])) (fun _ kgo => XS.lshl X6.here hx rfl (hb hby d6_117) rfl kgo) ?_
      exact J7 _
  have JL : ∀ (nn : Nat) (lx : Int64) (tx : Int64) (cx : Int32) (sx : Slot), (wh.toInt - cx.toInt ≤ nn) → (sx = .unset ∨ ∃ y, sx = .val (.int y)) → own_Go p e below (own_Post s QQ 0 0) T1 (mkF m 27 #[.val (.ref o0), .val (.int p1), .val (.int p2), .val (.int sr), .val (.int wh), .val (.long lx), .second, .val (.long tx), .second, .val (.int cx), sx] []) := by
    intro nn
    induction nn with
    | zero =>
      intro lx tx cx sx hn hsx
      refine own_go (g' := (mkF m 29 #[.val (.ref o0), .val (.int p1), .val (.int p2), .val (.int sr), .val (.int wh), .val (.long lx), .second, .val (.long tx), .second, .val (.int cx), sx] [(.int cx)])) (fun _ kgo => XS.iload X1.here hx rfl (hb hby d6_27) rfl kgo) ?_
      refine own_go (g' := (mkF m 31 #[.val (.ref o0), .val (.int p1), .val (.int p2), .val (.int sr), .val (.int wh), .val (.long lx), .second, .val (.long tx), .second, .val (.int cx), sx] [(.int wh), (.int cx)])) (fun _ kgo => XS.iload X1.here hx rfl (hb hby d6_29) rfl kgo) ?_
      refine own_go (g' := (mkF m 76 #[.val (.ref o0), .val (.int p1), .val (.int p2), .val (.int sr), .val (.int wh), .val (.long lx), .second, .val (.long tx), .second, .val (.int cx), sx] [])) (fun _ kgo => XS.icmpYes X1.here hx rfl (pc0 := 31) (pc' := 76) rfl (hb hby d6_31) rfl (flt (by rw [own_lti]; omega)).2.1 (by decide) (by decide) kgo) ?_
      exact J2 _ _ _ _
    | succ nn ih =>
      intro lx tx cx sx hn hsx
      refine own_go (g' := (mkF m 29 #[.val (.ref o0), .val (.int p1), .val (.int p2), .val (.int sr), .val (.int wh), .val (.long lx), .second, .val (.long tx), .second, .val (.int cx), sx] [(.int cx)])) (fun _ kgo => XS.iload X1.here hx rfl (hb hby d6_27) rfl kgo) ?_
      refine own_go (g' := (mkF m 31 #[.val (.ref o0), .val (.int p1), .val (.int p2), .val (.int sr), .val (.int wh), .val (.long lx), .second, .val (.long tx), .second, .val (.int cx), sx] [(.int wh), (.int cx)])) (fun _ kgo => XS.iload X1.here hx rfl (hb hby d6_29) rfl kgo) ?_
      by_cases hc23 : cx < wh
      ·
        refine own_go (g' := (mkF m 34 #[.val (.ref o0), .val (.int p1), .val (.int p2), .val (.int sr), .val (.int wh), .val (.long lx), .second, .val (.long tx), .second, .val (.int cx), sx] [])) (fun _ kgo => XS.icmpNo X1.here hx rfl (hb hby d6_31) rfl (tlt hc23).2.1 kgo) ?_
        refine own_go (g' := (mkF m 35 #[.val (.ref o0), .val (.int p1), .val (.int p2), .val (.int sr), .val (.int wh), .val (.long lx), .second, .val (.long tx), .second, .val (.int cx), sx] [(.int sr)])) (fun _ kgo => XS.iloadN X1.here hx rfl (hb hby d6_34) rfl kgo) ?_
        refine own_go (g' := (mkF m 37 #[.val (.ref o0), .val (.int p1), .val (.int p2), .val (.int sr), .val (.int wh), .val (.long lx), .second, .val (.long tx), .second, .val (.int cx), sx] [(.int cx), (.int sr)])) (fun _ kgo => XS.iload X1.here hx rfl (hb hby d6_35) rfl kgo) ?_
        refine own_go (g' := (mkF m 38 #[.val (.ref o0), .val (.int p1), .val (.int p2), .val (.int sr), .val (.int wh), .val (.long lx), .second, .val (.long tx), .second, .val (.int cx), sx] [(.int p1), (.int cx), (.int sr)])) (fun _ kgo => XS.iloadN X1.here hx rfl (hb hby d6_37) rfl kgo) ?_
        refine own_go (g' := (mkF m 39 #[.val (.ref o0), .val (.int p1), .val (.int p2), .val (.int sr), .val (.int wh), .val (.long lx), .second, .val (.long tx), .second, .val (.int cx), sx] [(.int (cx * p1)), (.int sr)])) (fun _ kgo => XS.imul X1.here hx rfl (hb hby d6_38) rfl kgo) ?_
        refine own_go (g' := (mkF m 40 #[.val (.ref o0), .val (.int p1), .val (.int p2), .val (.int sr), .val (.int wh), .val (.long lx), .second, .val (.long tx), .second, .val (.int cx), sx] [(.int (sr + (cx * p1)))])) (fun _ kgo => XS.iadd X1.here hx rfl (hb hby d6_39) rfl kgo) ?_
        rcases hsx with rfl | ⟨yx, rfl⟩
        ·
          refine own_go (g' := (mkF m 42 #[.val (.ref o0), .val (.int p1), .val (.int p2), .val (.int sr), .val (.int wh), .val (.long lx), .second, .val (.long tx), .second, .val (.int cx), .val (.int (sr + (cx * p1)))] [])) (fun _ kgo => XS.istore X1.here hx rfl (hb hby d6_40) rfl (l' := #[.val (.ref o0), .val (.int p1), .val (.int p2), .val (.int sr), .val (.int wh), .val (.long lx), .second, .val (.long tx), .second, .val (.int cx), .val (.int (sr + (cx * p1)))]) rfl kgo) ?_
          refine own_go (g' := (mkF m 44 #[.val (.ref o0), .val (.int p1), .val (.int p2), .val (.int sr), .val (.int wh), .val (.long lx), .second, .val (.long tx), .second, .val (.int cx), .val (.int (sr + (cx * p1)))] [(.long lx)])) (fun _ kgo => XS.lload X1.here hx rfl (hb hby d6_42) rfl kgo) ?_
          refine own_go (g' := (mkF m 45 #[.val (.ref o0), .val (.int p1), .val (.int p2), .val (.int sr), .val (.int wh), .val (.long lx), .second, .val (.long tx), .second, .val (.int cx), .val (.int (sr + (cx * p1)))] [(.long (1 : Int64)), (.long lx)])) (fun _ kgo => XS.lconst X1.here hx rfl (hb hby d6_44) kgo) ?_
          refine own_go (g' := (mkF m 46 #[.val (.ref o0), .val (.int p1), .val (.int p2), .val (.int sr), .val (.int wh), .val (.long lx), .second, .val (.long tx), .second, .val (.int cx), .val (.int (sr + (cx * p1)))] [(.int p1), (.long (1 : Int64)), (.long lx)])) (fun _ kgo => XS.iloadN X1.here hx rfl (hb hby d6_45) rfl kgo) ?_
          refine own_go (g' := (mkF m 47 #[.val (.ref o0), .val (.int p1), .val (.int p2), .val (.int sr), .val (.int wh), .val (.long lx), .second, .val (.long tx), .second, .val (.int cx), .val (.int (sr + (cx * p1)))] [(.int (1 : Int32)), (.int p1), (.long (1 : Int64)), (.long lx)])) (fun _ kgo => XS.iconst X1.here hx rfl (hb hby d6_46) kgo) ?_
          refine own_go (g' := (mkF m 48 #[.val (.ref o0), .val (.int p1), .val (.int p2), .val (.int sr), .val (.int wh), .val (.long lx), .second, .val (.long tx), .second, .val (.int cx), .val (.int (sr + (cx * p1)))] [(.int (p1 - (1 : Int32))), (.long (1 : Int64)), (.long lx)])) (fun _ kgo => XS.isub X1.here hx rfl (hb hby d6_47) rfl kgo) ?_
          refine own_go (g' := (mkF m 49 #[.val (.ref o0), .val (.int p1), .val (.int p2), .val (.int sr), .val (.int wh), .val (.long lx), .second, .val (.long tx), .second, .val (.int cx), .val (.int (sr + (cx * p1)))] [(.long ((1 : Int64) <<< ((p1 - (1 : Int32)) &&& 0x3f).toInt64)), (.long lx)])) (fun _ kgo => XS.lshl X1.here hx rfl (hb hby d6_48) rfl kgo) ?_
          refine own_go (g' := (mkF m 50 #[.val (.ref o0), .val (.int p1), .val (.int p2), .val (.int sr), .val (.int wh), .val (.long lx), .second, .val (.long tx), .second, .val (.int cx), .val (.int (sr + (cx * p1)))] [(.long (1 : Int64)), (.long ((1 : Int64) <<< ((p1 - (1 : Int32)) &&& 0x3f).toInt64)), (.long lx)])) (fun _ kgo => XS.lconst X1.here hx rfl (hb hby d6_49) kgo) ?_
          refine own_go (g' := (mkF m 51 #[.val (.ref o0), .val (.int p1), .val (.int p2), .val (.int sr), .val (.int wh), .val (.long lx), .second, .val (.long tx), .second, .val (.int cx), .val (.int (sr + (cx * p1)))] [(.long (((1 : Int64) <<< ((p1 - (1 : Int32)) &&& 0x3f).toInt64) - (1 : Int64))), (.long lx)])) (fun _ kgo => XS.lsub X1.here hx rfl (hb hby d6_50) rfl kgo) ?_
          refine own_go (g' := (mkF m 53 #[.val (.ref o0), .val (.int p1), .val (.int p2), .val (.int sr), .val (.int wh), .val (.long lx), .second, .val (.long tx), .second, .val (.int cx), .val (.int (sr + (cx * p1)))] [(.int (sr + (cx * p1))), (.long (((1 : Int64) <<< ((p1 - (1 : Int32)) &&& 0x3f).toInt64) - (1 : Int64))), (.long lx)])) (fun _ kgo => XS.iload X1.here hx rfl (hb hby d6_51) rfl kgo) ?_
          refine own_go (g' := (mkF m 54 #[.val (.ref o0), .val (.int p1), .val (.int p2), .val (.int sr), .val (.int wh), .val (.long lx), .second, .val (.long tx), .second, .val (.int cx), .val (.int (sr + (cx * p1)))] [(.long ((((1 : Int64) <<< ((p1 - (1 : Int32)) &&& 0x3f).toInt64) - (1 : Int64)) <<< ((sr + (cx * p1)) &&& 0x3f).toInt64)), (.long lx)])) (fun _ kgo => XS.lshl X1.here hx rfl (hb hby d6_53) rfl kgo) ?_
          refine own_go (g' := (mkF m 55 #[.val (.ref o0), .val (.int p1), .val (.int p2), .val (.int sr), .val (.int wh), .val (.long lx), .second, .val (.long tx), .second, .val (.int cx), .val (.int (sr + (cx * p1)))] [(.long (lx ||| ((((1 : Int64) <<< ((p1 - (1 : Int32)) &&& 0x3f).toInt64) - (1 : Int64)) <<< ((sr + (cx * p1)) &&& 0x3f).toInt64)))])) (fun _ kgo => XS.lor X1.here hx rfl (hb hby d6_54) rfl kgo) ?_
          refine own_go (g' := (mkF m 57 #[.val (.ref o0), .val (.int p1), .val (.int p2), .val (.int sr), .val (.int wh), .val (.long (lx ||| ((((1 : Int64) <<< ((p1 - (1 : Int32)) &&& 0x3f).toInt64) - (1 : Int64)) <<< ((sr + (cx * p1)) &&& 0x3f).toInt64))), .second, .val (.long tx), .second, .val (.int cx), .val (.int (sr + (cx * p1)))] [])) (fun _ kgo => XS.lstore X1.here hx rfl (hb hby d6_55) rfl (l' := #[.val (.ref o0), .val (.int p1), .val (.int p2), .val (.int sr), .val (.int wh), .val (.long (lx ||| ((((1 : Int64) <<< ((p1 - (1 : Int32)) &&& 0x3f).toInt64) - (1 : Int64)) <<< ((sr + (cx * p1)) &&& 0x3f).toInt64))), .second, .val (.long tx), .second, .val (.int cx), .val (.int (sr + (cx * p1)))]) rfl kgo) ?_
          refine own_go (g' := (mkF m 59 #[.val (.ref o0), .val (.int p1), .val (.int p2), .val (.int sr), .val (.int wh), .val (.long (lx ||| ((((1 : Int64) <<< ((p1 - (1 : Int32)) &&& 0x3f).toInt64) - (1 : Int64)) <<< ((sr + (cx * p1)) &&& 0x3f).toInt64))), .second, .val (.long tx), .second, .val (.int cx), .val (.int (sr + (cx * p1)))] [(.long tx)])) (fun _ kgo => XS.lload X1.here hx rfl (hb hby d6_57) rfl kgo) ?_
          refine own_go (g' := (mkF m 60 #[.val (.ref o0), .val (.int p1), .val (.int p2), .val (.int sr), .val (.int wh), .val (.long (lx ||| ((((1 : Int64) <<< ((p1 - (1 : Int32)) &&& 0x3f).toInt64) - (1 : Int64)) <<< ((sr + (cx * p1)) &&& 0x3f).toInt64))), .second, .val (.long tx), .second, .val (.int cx), .val (.int (sr + (cx * p1)))] [(.long (1 : Int64)), (.long tx)])) (fun _ kgo => XS.lconst X1.here hx rfl (hb hby d6_59) kgo) ?_
          refine own_go (g' := (mkF m 62 #[.val (.ref o0), .val (.int p1), .val (.int p2), .val (.int sr), .val (.int wh), .val (.long (lx ||| ((((1 : Int64) <<< ((p1 - (1 : Int32)) &&& 0x3f).toInt64) - (1 : Int64)) <<< ((sr + (cx * p1)) &&& 0x3f).toInt64))), .second, .val (.long tx), .second, .val (.int cx), .val (.int (sr + (cx * p1)))] [(.int (sr + (cx * p1))), (.long (1 : Int64)), (.long tx)])) (fun _ kgo => XS.iload X1.here hx rfl (hb hby d6_60) rfl kgo) ?_
          refine own_go (g' := (mkF m 63 #[.val (.ref o0), .val (.int p1), .val (.int p2), .val (.int sr), .val (.int wh), .val (.long (lx ||| ((((1 : Int64) <<< ((p1 - (1 : Int32)) &&& 0x3f).toInt64) - (1 : Int64)) <<< ((sr + (cx * p1)) &&& 0x3f).toInt64))), .second, .val (.long tx), .second, .val (.int cx), .val (.int (sr + (cx * p1)))] [(.int p1), (.int (sr + (cx * p1))), (.long (1 : Int64)), (.long tx)])) (fun _ kgo => XS.iloadN X1.here hx rfl (hb hby d6_62) rfl kgo) ?_
          refine own_go (g' := (mkF m 64 #[.val (.ref o0), .val (.int p1), .val (.int p2), .val (.int sr), .val (.int wh), .val (.long (lx ||| ((((1 : Int64) <<< ((p1 - (1 : Int32)) &&& 0x3f).toInt64) - (1 : Int64)) <<< ((sr + (cx * p1)) &&& 0x3f).toInt64))), .second, .val (.long tx), .second, .val (.int cx), .val (.int (sr + (cx * p1)))] [(.int ((sr + (cx * p1)) + p1)), (.long (1 : Int64)), (.long tx)])) (fun _ kgo => XS.iadd X1.here hx rfl (hb hby d6_63) rfl kgo) ?_
          refine own_go (g' := (mkF m 65 #[.val (.ref o0), .val (.int p1), .val (.int p2), .val (.int sr), .val (.int wh), .val (.long (lx ||| ((((1 : Int64) <<< ((p1 - (1 : Int32)) &&& 0x3f).toInt64) - (1 : Int64)) <<< ((sr + (cx * p1)) &&& 0x3f).toInt64))), .second, .val (.long tx), .second, .val (.int cx), .val (.int (sr + (cx * p1)))] [(.int (1 : Int32)), (.int ((sr + (cx * p1)) + p1)), (.long (1 : Int64)), (.long tx)])) (fun _ kgo => XS.iconst X1.here hx rfl (hb hby d6_64) kgo) ?_
          refine own_go (g' := (mkF m 66 #[.val (.ref o0), .val (.int p1), .val (.int p2), .val (.int sr), .val (.int wh), .val (.long (lx ||| ((((1 : Int64) <<< ((p1 - (1 : Int32)) &&& 0x3f).toInt64) - (1 : Int64)) <<< ((sr + (cx * p1)) &&& 0x3f).toInt64))), .second, .val (.long tx), .second, .val (.int cx), .val (.int (sr + (cx * p1)))] [(.int (((sr + (cx * p1)) + p1) - (1 : Int32))), (.long (1 : Int64)), (.long tx)])) (fun _ kgo => XS.isub X1.here hx rfl (hb hby d6_65) rfl kgo) ?_
          refine own_go (g' := (mkF m 67 #[.val (.ref o0), .val (.int p1), .val (.int p2), .val (.int sr), .val (.int wh), .val (.long (lx ||| ((((1 : Int64) <<< ((p1 - (1 : Int32)) &&& 0x3f).toInt64) - (1 : Int64)) <<< ((sr + (cx * p1)) &&& 0x3f).toInt64))), .second, .val (.long tx), .second, .val (.int cx), .val (.int (sr + (cx * p1)))] [(.long ((1 : Int64) <<< ((((sr + (cx * p1)) + p1) - (1 : Int32)) &&& 0x3f).toInt64)), (.long tx)])) (fun _ kgo => XS.lshl X1.here hx rfl (hb hby d6_66) rfl kgo) ?_
          refine own_go (g' := (mkF m 68 #[.val (.ref o0), .val (.int p1), .val (.int p2), .val (.int sr), .val (.int wh), .val (.long (lx ||| ((((1 : Int64) <<< ((p1 - (1 : Int32)) &&& 0x3f).toInt64) - (1 : Int64)) <<< ((sr + (cx * p1)) &&& 0x3f).toInt64))), .second, .val (.long tx), .second, .val (.int cx), .val (.int (sr + (cx * p1)))] [(.long (tx ||| ((1 : Int64) <<< ((((sr + (cx * p1)) + p1) - (1 : Int32)) &&& 0x3f).toInt64)))])) (fun _ kgo => XS.lor X1.here hx rfl (hb hby d6_67) rfl kgo) ?_
          refine own_go (g' := (mkF m 70 #[.val (.ref o0), .val (.int p1), .val (.int p2), .val (.int sr), .val (.int wh), .val (.long (lx ||| ((((1 : Int64) <<< ((p1 - (1 : Int32)) &&& 0x3f).toInt64) - (1 : Int64)) <<< ((sr + (cx * p1)) &&& 0x3f).toInt64))), .second, .val (.long (tx ||| ((1 : Int64) <<< ((((sr + (cx * p1)) + p1) - (1 : Int32)) &&& 0x3f).toInt64))), .second, .val (.int cx), .val (.int (sr + (cx * p1)))] [])) (fun _ kgo => XS.lstore X1.here hx rfl (hb hby d6_68) rfl (l' := #[.val (.ref o0), .val (.int p1), .val (.int p2), .val (.int sr), .val (.int wh), .val (.long (lx ||| ((((1 : Int64) <<< ((p1 - (1 : Int32)) &&& 0x3f).toInt64) - (1 : Int64)) <<< ((sr + (cx * p1)) &&& 0x3f).toInt64))), .second, .val (.long (tx ||| ((1 : Int64) <<< ((((sr + (cx * p1)) + p1) - (1 : Int32)) &&& 0x3f).toInt64))), .second, .val (.int cx), .val (.int (sr + (cx * p1)))]) rfl kgo) ?_
          refine own_go (g' := (mkF m 73 #[.val (.ref o0), .val (.int p1), .val (.int p2), .val (.int sr), .val (.int wh), .val (.long (lx ||| ((((1 : Int64) <<< ((p1 - (1 : Int32)) &&& 0x3f).toInt64) - (1 : Int64)) <<< ((sr + (cx * p1)) &&& 0x3f).toInt64))), .second, .val (.long (tx ||| ((1 : Int64) <<< ((((sr + (cx * p1)) + p1) - (1 : Int32)) &&& 0x3f).toInt64))), .second, .val (.int (cx + (1 : Int32))), .val (.int (sr + (cx * p1)))] [])) (fun _ kgo => XS.iinc X1.here hx rfl (hb hby d6_70) rfl (l' := #[.val (.ref o0), .val (.int p1), .val (.int p2), .val (.int sr), .val (.int wh), .val (.long (lx ||| ((((1 : Int64) <<< ((p1 - (1 : Int32)) &&& 0x3f).toInt64) - (1 : Int64)) <<< ((sr + (cx * p1)) &&& 0x3f).toInt64))), .second, .val (.long (tx ||| ((1 : Int64) <<< ((((sr + (cx * p1)) + p1) - (1 : Int32)) &&& 0x3f).toInt64))), .second, .val (.int (cx + (1 : Int32))), .val (.int (sr + (cx * p1)))]) rfl kgo) ?_
          refine own_go (g' := (mkF m 27 #[.val (.ref o0), .val (.int p1), .val (.int p2), .val (.int sr), .val (.int wh), .val (.long (lx ||| ((((1 : Int64) <<< ((p1 - (1 : Int32)) &&& 0x3f).toInt64) - (1 : Int64)) <<< ((sr + (cx * p1)) &&& 0x3f).toInt64))), .second, .val (.long (tx ||| ((1 : Int64) <<< ((((sr + (cx * p1)) + p1) - (1 : Int32)) &&& 0x3f).toInt64))), .second, .val (.int (cx + (1 : Int32))), .val (.int (sr + (cx * p1)))] [])) (fun _ kgo => XS.goto X1.here hx rfl (pc0 := 73) (pc' := 27) rfl (hb hby d6_73) (by decide) (by decide) kgo) ?_
          exact ih _ _ _ _ (by rw [own_next hc23]; omega) (Or.inr ⟨_, rfl⟩)
        ·
          refine own_go (g' := (mkF m 42 #[.val (.ref o0), .val (.int p1), .val (.int p2), .val (.int sr), .val (.int wh), .val (.long lx), .second, .val (.long tx), .second, .val (.int cx), .val (.int (sr + (cx * p1)))] [])) (fun _ kgo => XS.istore X1.here hx rfl (hb hby d6_40) rfl (l' := #[.val (.ref o0), .val (.int p1), .val (.int p2), .val (.int sr), .val (.int wh), .val (.long lx), .second, .val (.long tx), .second, .val (.int cx), .val (.int (sr + (cx * p1)))]) rfl kgo) ?_
          refine own_go (g' := (mkF m 44 #[.val (.ref o0), .val (.int p1), .val (.int p2), .val (.int sr), .val (.int wh), .val (.long lx), .second, .val (.long tx), .second, .val (.int cx), .val (.int (sr + (cx * p1)))] [(.long lx)])) (fun _ kgo => XS.lload X1.here hx rfl (hb hby d6_42) rfl kgo) ?_
          refine own_go (g' := (mkF m 45 #[.val (.ref o0), .val (.int p1), .val (.int p2), .val (.int sr), .val (.int wh), .val (.long lx), .second, .val (.long tx), .second, .val (.int cx), .val (.int (sr + (cx * p1)))] [(.long (1 : Int64)), (.long lx)])) (fun _ kgo => XS.lconst X1.here hx rfl (hb hby d6_44) kgo) ?_
          refine own_go (g' := (mkF m 46 #[.val (.ref o0), .val (.int p1), .val (.int p2), .val (.int sr), .val (.int wh), .val (.long lx), .second, .val (.long tx), .second, .val (.int cx), .val (.int (sr + (cx * p1)))] [(.int p1), (.long (1 : Int64)), (.long lx)])) (fun _ kgo => XS.iloadN X1.here hx rfl (hb hby d6_45) rfl kgo) ?_
          refine own_go (g' := (mkF m 47 #[.val (.ref o0), .val (.int p1), .val (.int p2), .val (.int sr), .val (.int wh), .val (.long lx), .second, .val (.long tx), .second, .val (.int cx), .val (.int (sr + (cx * p1)))] [(.int (1 : Int32)), (.int p1), (.long (1 : Int64)), (.long lx)])) (fun _ kgo => XS.iconst X1.here hx rfl (hb hby d6_46) kgo) ?_
          refine own_go (g' := (mkF m 48 #[.val (.ref o0), .val (.int p1), .val (.int p2), .val (.int sr), .val (.int wh), .val (.long lx), .second, .val (.long tx), .second, .val (.int cx), .val (.int (sr + (cx * p1)))] [(.int (p1 - (1 : Int32))), (.long (1 : Int64)), (.long lx)])) (fun _ kgo => XS.isub X1.here hx rfl (hb hby d6_47) rfl kgo) ?_
          refine own_go (g' := (mkF m 49 #[.val (.ref o0), .val (.int p1), .val (.int p2), .val (.int sr), .val (.int wh), .val (.long lx), .second, .val (.long tx), .second, .val (.int cx), .val (.int (sr + (cx * p1)))] [(.long ((1 : Int64) <<< ((p1 - (1 : Int32)) &&& 0x3f).toInt64)), (.long lx)])) (fun _ kgo => XS.lshl X1.here hx rfl (hb hby d6_48) rfl kgo) ?_
          refine own_go (g' := (mkF m 50 #[.val (.ref o0), .val (.int p1), .val (.int p2), .val (.int sr), .val (.int wh), .val (.long lx), .second, .val (.long tx), .second, .val (.int cx), .val (.int (sr + (cx * p1)))] [(.long (1 : Int64)), (.long ((1 : Int64) <<< ((p1 - (1 : Int32)) &&& 0x3f).toInt64)), (.long lx)])) (fun _ kgo => XS.lconst X1.here hx rfl (hb hby d6_49) kgo) ?_
          refine own_go (g' := (mkF m 51 #[.val (.ref o0), .val (.int p1), .val (.int p2), .val (.int sr), .val (.int wh), .val (.long lx), .second, .val (.long tx), .second, .val (.int cx), .val (.int (sr + (cx * p1)))] [(.long (((1 : Int64) <<< ((p1 - (1 : Int32)) &&& 0x3f).toInt64) - (1 : Int64))), (.long lx)])) (fun _ kgo => XS.lsub X1.here hx rfl (hb hby d6_50) rfl kgo) ?_
          refine own_go (g' := (mkF m 53 #[.val (.ref o0), .val (.int p1), .val (.int p2), .val (.int sr), .val (.int wh), .val (.long lx), .second, .val (.long tx), .second, .val (.int cx), .val (.int (sr + (cx * p1)))] [(.int (sr + (cx * p1))), (.long (((1 : Int64) <<< ((p1 - (1 : Int32)) &&& 0x3f).toInt64) - (1 : Int64))), (.long lx)])) (fun _ kgo => XS.iload X1.here hx rfl (hb hby d6_51) rfl kgo) ?_
          refine own_go (g' := (mkF m 54 #[.val (.ref o0), .val (.int p1), .val (.int p2), .val (.int sr), .val (.int wh), .val (.long lx), .second, .val (.long tx), .second, .val (.int cx), .val (.int (sr + (cx * p1)))] [(.long ((((1 : Int64) <<< ((p1 - (1 : Int32)) &&& 0x3f).toInt64) - (1 : Int64)) <<< ((sr + (cx * p1)) &&& 0x3f).toInt64)), (.long lx)])) (fun _ kgo => XS.lshl X1.here hx rfl (hb hby d6_53) rfl kgo) ?_
          refine own_go (g' := (mkF m 55 #[.val (.ref o0), .val (.int p1), .val (.int p2), .val (.int sr), .val (.int wh), .val (.long lx), .second, .val (.long tx), .second, .val (.int cx), .val (.int (sr + (cx * p1)))] [(.long (lx ||| ((((1 : Int64) <<< ((p1 - (1 : Int32)) &&& 0x3f).toInt64) - (1 : Int64)) <<< ((sr + (cx * p1)) &&& 0x3f).toInt64)))])) (fun _ kgo => XS.lor X1.here hx rfl (hb hby d6_54) rfl kgo) ?_
          refine own_go (g' := (mkF m 57 #[.val (.ref o0), .val (.int p1), .val (.int p2), .val (.int sr), .val (.int wh), .val (.long (lx ||| ((((1 : Int64) <<< ((p1 - (1 : Int32)) &&& 0x3f).toInt64) - (1 : Int64)) <<< ((sr + (cx * p1)) &&& 0x3f).toInt64))), .second, .val (.long tx), .second, .val (.int cx), .val (.int (sr + (cx * p1)))] [])) (fun _ kgo => XS.lstore X1.here hx rfl (hb hby d6_55) rfl (l' := #[.val (.ref o0), .val (.int p1), .val (.int p2), .val (.int sr), .val (.int wh), .val (.long (lx ||| ((((1 : Int64) <<< ((p1 - (1 : Int32)) &&& 0x3f).toInt64) - (1 : Int64)) <<< ((sr + (cx * p1)) &&& 0x3f).toInt64))), .second, .val (.long tx), .second, .val (.int cx), .val (.int (sr + (cx * p1)))]) rfl kgo) ?_
          refine own_go (g' := (mkF m 59 #[.val (.ref o0), .val (.int p1), .val (.int p2), .val (.int sr), .val (.int wh), .val (.long (lx ||| ((((1 : Int64) <<< ((p1 - (1 : Int32)) &&& 0x3f).toInt64) - (1 : Int64)) <<< ((sr + (cx * p1)) &&& 0x3f).toInt64))), .second, .val (.long tx), .second, .val (.int cx), .val (.int (sr + (cx * p1)))] [(.long tx)])) (fun _ kgo => XS.lload X1.here hx rfl (hb hby d6_57) rfl kgo) ?_
          refine own_go (g' := (mkF m 60 #[.val (.ref o0), .val (.int p1), .val (.int p2), .val (.int sr), .val (.int wh), .val (.long (lx ||| ((((1 : Int64) <<< ((p1 - (1 : Int32)) &&& 0x3f).toInt64) - (1 : Int64)) <<< ((sr + (cx * p1)) &&& 0x3f).toInt64))), .second, .val (.long tx), .second, .val (.int cx), .val (.int (sr + (cx * p1)))] [(.long (1 : Int64)), (.long tx)])) (fun _ kgo => XS.lconst X1.here hx rfl (hb hby d6_59) kgo) ?_
          refine own_go (g' := (mkF m 62 #[.val (.ref o0), .val (.int p1), .val (.int p2), .val (.int sr), .val (.int wh), .val (.long (lx ||| ((((1 : Int64) <<< ((p1 - (1 : Int32)) &&& 0x3f).toInt64) - (1 : Int64)) <<< ((sr + (cx * p1)) &&& 0x3f).toInt64))), .second, .val (.long tx), .second, .val (.int cx), .val (.int (sr + (cx * p1)))] [(.int (sr + (cx * p1))), (.long (1 : Int64)), (.long tx)])) (fun _ kgo => XS.iload X1.here hx rfl (hb hby d6_60) rfl kgo) ?_
          refine own_go (g' := (mkF m 63 #[.val (.ref o0), .val (.int p1), .val (.int p2), .val (.int sr), .val (.int wh), .val (.long (lx ||| ((((1 : Int64) <<< ((p1 - (1 : Int32)) &&& 0x3f).toInt64) - (1 : Int64)) <<< ((sr + (cx * p1)) &&& 0x3f).toInt64))), .second, .val (.long tx), .second, .val (.int cx), .val (.int (sr + (cx * p1)))] [(.int p1), (.int (sr + (cx * p1))), (.long (1 : Int64)), (.long tx)])) (fun _ kgo => XS.iloadN X1.here hx rfl (hb hby d6_62) rfl kgo) ?_
          refine own_go (g' := (mkF m 64 #[.val (.ref o0), .val (.int p1), .val (.int p2), .val (.int sr), .val (.int wh), .val (.long (lx ||| ((((1 : Int64) <<< ((p1 - (1 : Int32)) &&& 0x3f).toInt64) - (1 : Int64)) <<< ((sr + (cx * p1)) &&& 0x3f).toInt64))), .second, .val (.long tx), .second, .val (.int cx), .val (.int (sr + (cx * p1)))] [(.int ((sr + (cx * p1)) + p1)), (.long (1 : Int64)), (.long tx)])) (fun _ kgo => XS.iadd X1.here hx rfl (hb hby d6_63) rfl kgo) ?_
          refine own_go (g' := (mkF m 65 #[.val (.ref o0), .val (.int p1), .val (.int p2), .val (.int sr), .val (.int wh), .val (.long (lx ||| ((((1 : Int64) <<< ((p1 - (1 : Int32)) &&& 0x3f).toInt64) - (1 : Int64)) <<< ((sr + (cx * p1)) &&& 0x3f).toInt64))), .second, .val (.long tx), .second, .val (.int cx), .val (.int (sr + (cx * p1)))] [(.int (1 : Int32)), (.int ((sr + (cx * p1)) + p1)), (.long (1 : Int64)), (.long tx)])) (fun _ kgo => XS.iconst X1.here hx rfl (hb hby d6_64) kgo) ?_
          refine own_go (g' := (mkF m 66 #[.val (.ref o0), .val (.int p1), .val (.int p2), .val (.int sr), .val (.int wh), .val (.long (lx ||| ((((1 : Int64) <<< ((p1 - (1 : Int32)) &&& 0x3f).toInt64) - (1 : Int64)) <<< ((sr + (cx * p1)) &&& 0x3f).toInt64))), .second, .val (.long tx), .second, .val (.int cx), .val (.int (sr + (cx * p1)))] [(.int (((sr + (cx * p1)) + p1) - (1 : Int32))), (.long (1 : Int64)), (.long tx)])) (fun _ kgo => XS.isub X1.here hx rfl (hb hby d6_65) rfl kgo) ?_
          refine own_go (g' := (mkF m 67 #[.val (.ref o0), .val (.int p1), .val (.int p2), .val (.int sr), .val (.int wh), .val (.long (lx ||| ((((1 : Int64) <<< ((p1 - (1 : Int32)) &&& 0x3f).toInt64) - (1 : Int64)) <<< ((sr + (cx * p1)) &&& 0x3f).toInt64))), .second, .val (.long tx), .second, .val (.int cx), .val (.int (sr + (cx * p1)))] [(.long ((1 : Int64) <<< ((((sr + (cx * p1)) + p1) - (1 : Int32)) &&& 0x3f).toInt64)), (.long tx)])) (fun _ kgo => XS.lshl X1.here hx rfl (hb hby d6_66) rfl kgo) ?_
          refine own_go (g' := (mkF m 68 #[.val (.ref o0), .val (.int p1), .val (.int p2), .val (.int sr), .val (.int wh), .val (.long (lx ||| ((((1 : Int64) <<< ((p1 - (1 : Int32)) &&& 0x3f).toInt64) - (1 : Int64)) <<< ((sr + (cx * p1)) &&& 0x3f).toInt64))), .second, .val (.long tx), .second, .val (.int cx), .val (.int (sr + (cx * p1)))] [(.long (tx ||| ((1 : Int64) <<< ((((sr + (cx * p1)) + p1) - (1 : Int32)) &&& 0x3f).toInt64)))])) (fun _ kgo => XS.lor X1.here hx rfl (hb hby d6_67) rfl kgo) ?_
          refine own_go (g' := (mkF m 70 #[.val (.ref o0), .val (.int p1), .val (.int p2), .val (.int sr), .val (.int wh), .val (.long (lx ||| ((((1 : Int64) <<< ((p1 - (1 : Int32)) &&& 0x3f).toInt64) - (1 : Int64)) <<< ((sr + (cx * p1)) &&& 0x3f).toInt64))), .second, .val (.long (tx ||| ((1 : Int64) <<< ((((sr + (cx * p1)) + p1) - (1 : Int32)) &&& 0x3f).toInt64))), .second, .val (.int cx), .val (.int (sr + (cx * p1)))] [])) (fun _ kgo => XS.lstore X1.here hx rfl (hb hby d6_68) rfl (l' := #[.val (.ref o0), .val (.int p1), .val (.int p2), .val (.int sr), .val (.int wh), .val (.long (lx ||| ((((1 : Int64) <<< ((p1 - (1 : Int32)) &&& 0x3f).toInt64) - (1 : Int64)) <<< ((sr + (cx * p1)) &&& 0x3f).toInt64))), .second, .val (.long (tx ||| ((1 : Int64) <<< ((((sr + (cx * p1)) + p1) - (1 : Int32)) &&& 0x3f).toInt64))), .second, .val (.int cx), .val (.int (sr + (cx * p1)))]) rfl kgo) ?_
          refine own_go (g' := (mkF m 73 #[.val (.ref o0), .val (.int p1), .val (.int p2), .val (.int sr), .val (.int wh), .val (.long (lx ||| ((((1 : Int64) <<< ((p1 - (1 : Int32)) &&& 0x3f).toInt64) - (1 : Int64)) <<< ((sr + (cx * p1)) &&& 0x3f).toInt64))), .second, .val (.long (tx ||| ((1 : Int64) <<< ((((sr + (cx * p1)) + p1) - (1 : Int32)) &&& 0x3f).toInt64))), .second, .val (.int (cx + (1 : Int32))), .val (.int (sr + (cx * p1)))] [])) (fun _ kgo => XS.iinc X1.here hx rfl (hb hby d6_70) rfl (l' := #[.val (.ref o0), .val (.int p1), .val (.int p2), .val (.int sr), .val (.int wh), .val (.long (lx ||| ((((1 : Int64) <<< ((p1 - (1 : Int32)) &&& 0x3f).toInt64) - (1 : Int64)) <<< ((sr + (cx * p1)) &&& 0x3f).toInt64))), .second, .val (.long (tx ||| ((1 : Int64) <<< ((((sr + (cx * p1)) + p1) - (1 : Int32)) &&& 0x3f).toInt64))), .second, .val (.int (cx + (1 : Int32))), .val (.int (sr + (cx * p1)))]) rfl kgo) ?_
          refine own_go (g' := (mkF m 27 #[.val (.ref o0), .val (.int p1), .val (.int p2), .val (.int sr), .val (.int wh), .val (.long (lx ||| ((((1 : Int64) <<< ((p1 - (1 : Int32)) &&& 0x3f).toInt64) - (1 : Int64)) <<< ((sr + (cx * p1)) &&& 0x3f).toInt64))), .second, .val (.long (tx ||| ((1 : Int64) <<< ((((sr + (cx * p1)) + p1) - (1 : Int32)) &&& 0x3f).toInt64))), .second, .val (.int (cx + (1 : Int32))), .val (.int (sr + (cx * p1)))] [])) (fun _ kgo => XS.goto X1.here hx rfl (pc0 := 73) (pc' := 27) rfl (hb hby d6_73) (by decide) (by decide) kgo) ?_
          exact ih _ _ _ _ (by rw [own_next hc23]; omega) (Or.inr ⟨_, rfl⟩)
      ·
        refine own_go (g' := (mkF m 76 #[.val (.ref o0), .val (.int p1), .val (.int p2), .val (.int sr), .val (.int wh), .val (.long lx), .second, .val (.long tx), .second, .val (.int cx), sx] [])) (fun _ kgo => XS.icmpYes X1.here hx rfl (pc0 := 31) (pc' := 76) rfl (hb hby d6_31) rfl (flt hc23).2.1 (by decide) (by decide) kgo) ?_
        exact J2 _ _ _ _
  exact JL (wh.toInt - (0 : Int32).toInt).toNat (0 : Int64) (0 : Int64) (0 : Int32) .unset (by simp only [Int32.reduceToInt]; omega) (Or.inl rfl)
theorem d2_0 : decode prog_56_method_1_code 0 = .ok (.aload_n 0, 1) := by decide +kernel
theorem d2_1 : decode prog_56_method_1_code 1 = .ok (.invokespecial 3, 3) := by decide +kernel
theorem d2_4 : decode prog_56_method_1_code 4 = .ok (.lload_n 1, 1) := by decide +kernel
theorem d2_5 : decode prog_56_method_1_code 5 = .ok (.iload_n 3, 1) := by decide +kernel
theorem d2_6 : decode prog_56_method_1_code 6 = .ok (.invokestatic 9, 3) := by decide +kernel
theorem d2_9 : decode prog_56_method_1_code 9 = .ok (.lcmp, 1) := by decide +kernel
theorem d2_10 : decode prog_56_method_1_code 10 = .ok (.ifCond .le 21, 3) := by decide +kernel
theorem d2_31 : decode prog_56_method_1_code 31 = .ok (.aload_n 0, 1) := by decide +kernel
theorem d2_32 : decode prog_56_method_1_code 32 = .ok (.iload_n 3, 1) := by decide +kernel
theorem d2_33 : decode prog_56_method_1_code 33 = .ok (.putfield 24, 3) := by decide +kernel
theorem d2_36 : decode prog_56_method_1_code 36 = .ok (.aload_n 0, 1) := by decide +kernel
theorem d2_37 : decode prog_56_method_1_code 37 = .ok (.lconst 1, 1) := by decide +kernel
theorem d2_38 : decode prog_56_method_1_code 38 = .ok (.iload_n 3, 1) := by decide +kernel
theorem d2_39 : decode prog_56_method_1_code 39 = .ok (.lshl, 1) := by decide +kernel
theorem d2_40 : decode prog_56_method_1_code 40 = .ok (.lconst 1, 1) := by decide +kernel
theorem d2_41 : decode prog_56_method_1_code 41 = .ok (.lsub, 1) := by decide +kernel
theorem d2_42 : decode prog_56_method_1_code 42 = .ok (.putfield 28, 3) := by decide +kernel
theorem d2_45 : decode prog_56_method_1_code 45 = .ok (.aload_n 0, 1) := by decide +kernel
theorem d2_46 : decode prog_56_method_1_code 46 = .ok (.lload_n 1, 1) := by decide +kernel
theorem d2_47 : decode prog_56_method_1_code 47 = .ok (.iload_n 3, 1) := by decide +kernel
theorem d2_48 : decode prog_56_method_1_code 48 = .ok (.invokestatic 32, 3) := by decide +kernel
theorem d2_51 : decode prog_56_method_1_code 51 = .ok (.ldc2_w 38, 3) := by decide +kernel
theorem d2_54 : decode prog_56_method_1_code 54 = .ok (.ldiv, 1) := by decide +kernel
theorem d2_55 : decode prog_56_method_1_code 55 = .ok (.l2i, 1) := by decide +kernel
theorem d2_56 : decode prog_56_method_1_code 56 = .ok (.newarray .long, 2) := by decide +kernel
theorem d2_58 : decode prog_56_method_1_code 58 = .ok (.putfield 40, 3) := by decide +kernel
theorem d2_61 : decode prog_56_method_1_code 61 = .ok (.aload_n 0, 1) := by decide +kernel
theorem d2_62 : decode prog_56_method_1_code 62 = .ok (.iload_n 3, 1) := by decide +kernel
theorem d2_63 : decode prog_56_method_1_code 63 = .ok (.anewarray 44, 3) := by decide +kernel
theorem d2_66 : decode prog_56_method_1_code 66 = .ok (.putfield 46, 3) := by decide +kernel
theorem d2_69 : decode prog_56_method_1_code 69 = .ok (.iconst 0, 1) := by decide +kernel
theorem d2_70 : decode prog_56_method_1_code 70 = .ok (.istore 4, 2) := by decide +kernel
theorem d2_72 : decode prog_56_method_1_code 72 = .ok (.iload 4, 2) := by decide +kernel
theorem d2_74 : decode prog_56_method_1_code 74 = .ok (.iload_n 3, 1) := by decide +kernel
theorem d2_75 : decode prog_56_method_1_code 75 = .ok (.if_icmp .ge 26, 3) := by decide +kernel
theorem d2_78 : decode prog_56_method_1_code 78 = .ok (.aload_n 0, 1) := by decide +kernel
theorem d2_79 : decode prog_56_method_1_code 79 = .ok (.getfield 46, 3) := by decide +kernel
theorem d2_82 : decode prog_56_method_1_code 82 = .ok (.iload 4, 2) := by decide +kernel
theorem d2_84 : decode prog_56_method_1_code 84 = .ok (.new 44, 3) := by decide +kernel
theorem d2_87 : decode prog_56_method_1_code 87 = .ok (.dup, 1) := by decide +kernel
theorem d2_88 : decode prog_56_method_1_code 88 = .ok (.iload_n 3, 1) := by decide +kernel
theorem d2_89 : decode prog_56_method_1_code 89 = .ok (.iload 4, 2) := by decide +kernel
theorem d2_91 : decode prog_56_method_1_code 91 = .ok (.invokespecial 50, 3) := by decide +kernel
theorem d2_94 : decode prog_56_method_1_code 94 = .ok (.aastore, 1) := by decide +kernel
theorem d2_95 : decode prog_56_method_1_code 95 = .ok (.iinc 4 1, 3) := by decide +kernel
theorem d2_98 : decode prog_56_method_1_code 98 = .ok (.goto (-26), 3) := by decide +kernel
theorem d2_101 : decode prog_56_method_1_code 101 = .ok (.aload_n 0, 1) := by decide +kernel
theorem d2_102 : decode prog_56_method_1_code 102 = .ok (.bipush 64, 2) := by decide +kernel
theorem d2_104 : decode prog_56_method_1_code 104 = .ok (.newarray .int, 2) := by decide +kernel
theorem d2_106 : decode prog_56_method_1_code 106 = .ok (.putfield 53, 3) := by decide +kernel
theorem d2_109 : decode prog_56_method_1_code 109 = .ok (.iconst 0, 1) := by decide +kernel
theorem d2_110 : decode prog_56_method_1_code 110 = .ok (.istore 4, 2) := by decide +kernel
theorem d2_112 : decode prog_56_method_1_code 112 = .ok (.iload 4, 2) := by decide +kernel
theorem d2_114 : decode prog_56_method_1_code 114 = .ok (.bipush 64, 2) := by decide +kernel
theorem d2_116 : decode prog_56_method_1_code 116 = .ok (.if_icmp .ge 24, 3) := by decide +kernel
theorem d2_119 : decode prog_56_method_1_code 119 = .ok (.aload_n 0, 1) := by decide +kernel
theorem d2_120 : decode prog_56_method_1_code 120 = .ok (.getfield 53, 3) := by decide +kernel
theorem d2_123 : decode prog_56_method_1_code 123 = .ok (.iload 4, 2) := by decide +kernel
theorem d2_125 : decode prog_56_method_1_code 125 = .ok (.iload_n 3, 1) := by decide +kernel
theorem d2_126 : decode prog_56_method_1_code 126 = .ok (.iload 4, 2) := by decide +kernel
theorem d2_128 : decode prog_56_method_1_code 128 = .ok (.iload_n 3, 1) := by decide +kernel
theorem d2_129 : decode prog_56_method_1_code 129 = .ok (.irem, 1) := by decide +kernel
theorem d2_130 : decode prog_56_method_1_code 130 = .ok (.isub, 1) := by decide +kernel
theorem d2_131 : decode prog_56_method_1_code 131 = .ok (.iload_n 3, 1) := by decide +kernel
theorem d2_132 : decode prog_56_method_1_code 132 = .ok (.irem, 1) := by decide +kernel
theorem d2_133 : decode prog_56_method_1_code 133 = .ok (.iastore, 1) := by decide +kernel
theorem d2_134 : decode prog_56_method_1_code 134 = .ok (.iinc 4 1, 3) := by decide +kernel
theorem d2_137 : decode prog_56_method_1_code 137 = .ok (.goto (-25), 3) := by decide +kernel
theorem d2_140 : decode prog_56_method_1_code 140 = .ok (.aload_n 0, 1) := by decide +kernel
theorem d2_141 : decode prog_56_method_1_code 141 = .ok (.bipush 64, 2) := by decide +kernel
theorem d2_143 : decode prog_56_method_1_code 143 = .ok (.iload_n 3, 1) := by decide +kernel
theorem d2_144 : decode prog_56_method_1_code 144 = .ok (.irem, 1) := by decide +kernel
theorem d2_145 : decode prog_56_method_1_code 145 = .ok (.putfield 57, 3) := by decide +kernel
theorem d2_148 : decode prog_56_method_1_code 148 = .ok (.return_, 1) := by decide +kernel
theorem pn_cti : plainName "com/example/seenset/seenset/util/Cells" = true := by first | (simp [plainName, overriddenIn]; done) | decide +kernel
theorem pd2_0 : parseMethodDescriptor "(I)J" = some ⟨[.int], some .long⟩ := by decide +kernel
theorem pd2_1 : parseMethodDescriptor "(JI)J" = some ⟨[.long, .int], some .long⟩ := by decide +kernel
theorem pd2_2 : parseMethodDescriptor "(II)V" = some ⟨[.int, .int], none⟩ := by decide +kernel
theorem ef_cti (m : MethodId) (o0 : Addr) (q1 : Int64) (p2 : Int32) : entryFrame m #[(.ref o0), (.long q1), (.int p2)] 5 = mkF m 0 #[.val (.ref o0), .val (.long q1), .second, .val (.int p2), .unset] [] := by first | (simp [entryFrame, mkF, argsToLocals, Value.category]; done) | rfl
set_option maxRecDepth 65536 in
set_option maxHeartbeats 40000000 in
theorem cti (l : Launch) (Z : State) (a0 : Array Value) (hw : ∀ d ∈ tables_1, d.before a0 Z = true) (o0 : Addr) (q1 : Int64) (p2 : Int32)  (h0 : Heap) (n0 : Nat) (Z0 : n0 ≤ h0.size) (g_o0 : n0 ≤ o0) (P0 : Exa Z h0 o0 "com/example/seenset/seenset/util/Cells") (P1 : Fld Z h0 o0 "com/example/seenset/seenset/util/Cells" "bits" "I" (.int (0 : Int32))) (P2 : Fld Z h0 o0 "com/example/seenset/seenset/util/Cells" "mask" "J" (.long (0 : Int64))) (P3 : Fld Z h0 o0 "com/example/seenset/seenset/util/Cells" "words" "[J" .null) (P4 : Fld Z h0 o0 "com/example/seenset/seenset/util/Cells" "phases" "[Lcom/example/seenset/seenset/util/Cells$Phase;" .null) (P5 : Fld Z h0 o0 "com/example/seenset/seenset/util/Cells" "phaseAfter" "[I" .null) (P6 : Fld Z h0 o0 "com/example/seenset/seenset/util/Cells" "step" "I" (.int (0 : Int32))) (hq1 : 3 ≤ q1.toInt ∧ q1.toInt ≤ 66) (hb1 : 1 ≤ p2.toInt ∧ p2.toInt ≤ 63) :
    own_Met l Z (⟨"com/example/seenset/seenset/util/Cells", "<init>", "(JI)V"⟩ : MethodName) prog_56_method_1_code 5 none [] ({ frames := 2, cells := 66, slots := 507, locals := 37 } : Room) #[(.ref o0), (.long q1), (.int p2)] h0 66 507 (fun v h L => ∃ (wa : Addr), ∃ (kw : ClassId), v = none ∧ Fr n0 L ∧ Keep h0 h [o0] ∧ h0.size ≤ wa ∧ Exa Z h o0 "com/example/seenset/seenset/util/Cells" ∧ Fld Z h o0 "com/example/seenset/seenset/util/Cells" "bits" "I" (.int p2) ∧ Fld Z h o0 "com/example/seenset/seenset/util/Cells" "mask" "J" (.long (((1 : Int64) <<< (p2 &&& 0x3f).toInt64) - (1 : Int64))) ∧ Fld Z h o0 "com/example/seenset/seenset/util/Cells" "words" "[J" (.ref wa) ∧ Arv Z h wa kw .long ((own_by q1 p2 / (8 : Int64)).toInt32) ((List.replicate ((own_by q1 p2 / (8 : Int64)).toInt32).toInt.toNat (0 : Int64)).map Value.long) (.long (0 : Int64))) := by
  refine own_met (plainFor_of_name pn_cti) ?_
  intro p e s m below meth c s₁ Bd hml0 hZ X0 e0
  have hx := Bd.exec
  have hby := Bd.bytes
  have hml : c.maxLocals = 5 := hml0
  have hown : s.vm.findClass "com/example/seenset/seenset/util/Cells" = some m.cls := findClass_of_methodNamed Bd.named
  have hnm := (name_of_methodNamed Bd.named Bd.method).1
  refine own_cast (ef_cti m o0 q1 p2) ?_
  generalize hQQ : (fun (v : Option Value) (h : Heap) (L : List Loc) => ∃ (wa : Addr), ∃ (kw : ClassId), v = none ∧ Fr n0 L ∧ Keep h0 h [o0] ∧ h0.size ≤ wa ∧ Exa Z h o0 "com/example/seenset/seenset/util/Cells" ∧ Fld Z h o0 "com/example/seenset/seenset/util/Cells" "bits" "I" (.int p2) ∧ Fld Z h o0 "com/example/seenset/seenset/util/Cells" "mask" "J" (.long (((1 : Int64) <<< (p2 &&& 0x3f).toInt64) - (1 : Int64))) ∧ Fld Z h o0 "com/example/seenset/seenset/util/Cells" "words" "[J" (.ref wa) ∧ Arv Z h wa kw .long ((own_by q1 p2 / (8 : Int64)).toInt32) ((List.replicate ((own_by q1 p2 / (8 : Int64)).toInt32).toInt.toNat (0 : Int64)).map Value.long) (.long (0 : Int64))) = QQ
  have N0 := Fr.nil n0
  have K0 := Keep.refl h0 [o0]
  refine own_go (g' := (mkF m 1 #[.val (.ref o0), .val (.long q1), .second, .val (.int p2), .unset] [(.ref o0)])) (fun _ kgo => XS.aloadN X0.here hx rfl (hb hby d2_0) rfl rfl kgo) ?_
  obtain ⟨T1, X1, e1, st1⟩ := initO X0 hx hZ hown (hw _ (List.mem_of_getElem? (i := 12) rfl)) (hw _ (List.mem_of_getElem? (i := 13) rfl)) (hw _ (List.mem_of_getElem? (i := 14) rfl)) e0 (g := (mkF m 1 #[.val (.ref o0), .val (.long q1), .second, .val (.int p2), .unset] [(.ref o0)])) rfl (by rw [hml]; rfl) rfl (hb hby d2_1) (by decide) (W := 0) (by show 2 * 0 + _ ≤ _; exact Nat.le_of_eq rfl) (by decide)
  refine own_go (g' := (mkF m 4 #[.val (.ref o0), .val (.long q1), .second, .val (.int p2), .unset] [])) (st1) ?_
  have hnw := own_nw hb1 hq1
  refine own_go (g' := (mkF m 5 #[.val (.ref o0), .val (.long q1), .second, .val (.int p2), .unset] [(.long q1)])) (fun _ kgo => XS.lloadN X1.here hx rfl (hb hby d2_4) rfl kgo) ?_
  refine own_go (g' := (mkF m 6 #[.val (.ref o0), .val (.long q1), .second, .val (.int p2), .unset] [(.int p2), (.long q1)])) (fun _ kgo => XS.iloadN X1.here hx rfl (hb hby d2_5) rfl kgo) ?_
  obtain ⟨v2, T2, L2, hQ2, X2, st2⟩ := own_callS X1 hx hZ (y := (⟨"com/example/seenset/seenset/util/Cells", "maxCount", "(I)J"⟩ : MethodName)) hown (hw _ (List.mem_of_getElem? (i := 15) rfl)) (hw _ (List.mem_of_getElem? (i := 16) rfl)) (hw _ (List.mem_of_getElem? (i := 8) rfl)) (hw _ (List.mem_of_getElem? (i := 17) rfl)) ⟨by decide, by decide⟩ (argsL := [(.int p2)]) (rm4 l Z a0 hw p2 h0 hb1) e1 (g := (mkF m 6 #[.val (.ref o0), .val (.long q1), .second, .val (.int p2), .unset] [(.int p2), (.long q1)])) rfl (by rw [hml]; rfl) (rest := [(.long q1)]) (lenOf pd2_0 rfl) rfl (hb hby d2_6) (W := 2) (by show 2 * 0 + _ ≤ _; exact Nat.le_of_eq rfl) (by decide) (by decide) (by decide) (by decide)
  obtain ⟨rfl, e2, rfl⟩ := hQ2
  have N2 := Fr.app N0 (Fr.nil n0)
  refine own_go (g' := (mkF m 9 #[.val (.ref o0), .val (.long q1), .second, .val (.int p2), .unset] [(.long ((137438952896 : Int64) / p2.toInt64)), (.long q1)])) (st2) ?_
  refine own_go (g' := (mkF m 10 #[.val (.ref o0), .val (.long q1), .second, .val (.int p2), .unset] [(.int (lcmpW q1 ((137438952896 : Int64) / p2.toInt64)))])) (fun _ kgo => XS.lcmp X2.here hx rfl (hb hby d2_9) rfl kgo) ?_
  refine own_go (g' := (mkF m 31 #[.val (.ref o0), .val (.long q1), .second, .val (.int p2), .unset] [])) (fun _ kgo => XS.ifYes X2.here hx rfl (pc0 := 10) (pc' := 31) rfl (hb hby d2_10) rfl ((if0 _ _).trans (flt (mt (lw_gt _ _).mp (own_mxc hb1 hq1))).2.2.2) (by decide) (by decide) kgo) ?_
  refine own_go (g' := (mkF m 32 #[.val (.ref o0), .val (.long q1), .second, .val (.int p2), .unset] [(.ref o0)])) (fun _ kgo => XS.aloadN X2.here hx rfl (hb hby d2_31) rfl rfl kgo) ?_
  refine own_go (g' := (mkF m 33 #[.val (.ref o0), .val (.long q1), .second, .val (.int p2), .unset] [(.int p2), (.ref o0)])) (fun _ kgo => XS.iloadN X2.here hx rfl (hb hby d2_32) rfl kgo) ?_
  obtain ⟨T3, h3, X3, e3, W3, st3⟩ := putF X2 hx hZ hown (host := "") (Or.inl (hw _ (List.mem_of_getElem? (i := 19) rfl))) Via.refl e2 P1 P0 (Or.inr ⟨(hw _ (List.mem_of_getElem? (i := 20) rfl)), rfl, hnm⟩) (hw _ (List.mem_of_getElem? (i := 7) rfl)) (ty := .int) (by decide) rfl rfl (g := (mkF m 33 #[.val (.ref o0), .val (.long q1), .second, .val (.int p2), .unset] [(.int p2), (.ref o0)])) rfl rfl (hb hby d2_33)
  have fw3 := Fld.same W3 P1
  have N3 := Fr.snoc X3 N2 g_o0
  have Z3 : n0 ≤ h3.size := by rw [W3.size]; exact Z0
  have K3 : Keep h0 h3 [o0] := K0.wr W3 (Or.inl (List.mem_of_getElem? (i := 0) rfl))
  refine own_go (g' := (mkF m 36 #[.val (.ref o0), .val (.long q1), .second, .val (.int p2), .unset] [])) (st3) ?_
  refine own_go (g' := (mkF m 37 #[.val (.ref o0), .val (.long q1), .second, .val (.int p2), .unset] [(.ref o0)])) (fun _ kgo => XS.aloadN X3.here hx rfl (hb hby d2_36) rfl rfl kgo) ?_
  refine own_go (g' := (mkF m 38 #[.val (.ref o0), .val (.long q1), .second, .val (.int p2), .unset] [(.long (1 : Int64)), (.ref o0)])) (fun _ kgo => XS.lconst X3.here hx rfl (hb hby d2_37) kgo) ?_
  refine own_go (g' := (mkF m 39 #[.val (.ref o0), .val (.long q1), .second, .val (.int p2), .unset] [(.int p2), (.long (1 : Int64)), (.ref o0)])) (fun _ kgo => XS.iloadN X3.here hx rfl (hb hby d2_38) rfl kgo) ?_
  refine own_go (g' := (mkF m 40 #[.val (.ref o0), .val (.long q1), .second, .val (.int p2), .unset] [(.long ((1 : Int64) <<< (p2 &&& 0x3f).toInt64)), (.ref o0)])) (fun _ kgo => XS.lshl X3.here hx rfl (hb hby d2_39) rfl kgo) ?_
  refine own_go (g' := (mkF m 41 #[.val (.ref o0), .val (.long q1), .second, .val (.int p2), .unset] [(.long (1 : Int64)), (.long ((1 : Int64) <<< (p2 &&& 0x3f).toInt64)), (.ref o0)])) (fun _ kgo => XS.lconst X3.here hx rfl (hb hby d2_40) kgo) ?_
  refine own_go (g' := (mkF m 42 #[.val (.ref o0), .val (.long q1), .second, .val (.int p2), .unset] [(.long (((1 : Int64) <<< (p2 &&& 0x3f).toInt64) - (1 : Int64))), (.ref o0)])) (fun _ kgo => XS.lsub X3.here hx rfl (hb hby d2_41) rfl kgo) ?_
  have fx4 : Fld Z h3 o0 "com/example/seenset/seenset/util/Cells" "mask" "J" (.long (0 : Int64)) := (Fld.other W3 P2 (Or.inr (slot_ne (Or.inr (hw _ (List.mem_of_getElem? (i := 22) rfl))) (Or.inr (hw _ (List.mem_of_getElem? (i := 20) rfl))) (by decide) (t := .long) (t' := .int) (by decide) (by decide))))
  have fx5 : Exa Z h3 o0 "com/example/seenset/seenset/util/Cells" := (Exa.wr W3 P0)
  obtain ⟨T6, h6, X6, e6, W6, st6⟩ := putF X3 hx hZ hown (host := "") (Or.inl (hw _ (List.mem_of_getElem? (i := 21) rfl))) Via.refl e3 fx4 fx5 (Or.inr ⟨(hw _ (List.mem_of_getElem? (i := 22) rfl)), rfl, hnm⟩) (hw _ (List.mem_of_getElem? (i := 7) rfl)) (ty := .long) (by decide) rfl rfl (g := (mkF m 42 #[.val (.ref o0), .val (.long q1), .second, .val (.int p2), .unset] [(.long (((1 : Int64) <<< (p2 &&& 0x3f).toInt64) - (1 : Int64))), (.ref o0)])) rfl rfl (hb hby d2_42)
  have fw6 := Fld.same W6 fx4
  have N6 := Fr.snoc X6 N3 g_o0
  have Z6 : n0 ≤ h6.size := by rw [W6.size]; exact Z3
  have K6 : Keep h0 h6 [o0] := K3.wr W6 (Or.inl (List.mem_of_getElem? (i := 0) rfl))
  refine own_go (g' := (mkF m 45 #[.val (.ref o0), .val (.long q1), .second, .val (.int p2), .unset] [])) (st6) ?_
  refine own_go (g' := (mkF m 46 #[.val (.ref o0), .val (.long q1), .second, .val (.int p2), .unset] [(.ref o0)])) (fun _ kgo => XS.aloadN X6.here hx rfl (hb hby d2_45) rfl rfl kgo) ?_
  refine own_go (g' := (mkF m 47 #[.val (.ref o0), .val (.long q1), .second, .val (.int p2), .unset] [(.long q1), (.ref o0)])) (fun _ kgo => XS.lloadN X6.here hx rfl (hb hby d2_46) rfl kgo) ?_
  refine own_go (g' := (mkF m 48 #[.val (.ref o0), .val (.long q1), .second, .val (.int p2), .unset] [(.int p2), (.long q1), (.ref o0)])) (fun _ kgo => XS.iloadN X6.here hx rfl (hb hby d2_47) rfl kgo) ?_
  obtain ⟨v7, T7, L7, hQ7, X7, st7⟩ := own_callS X6 hx hZ (y := (⟨"com/example/seenset/seenset/util/Cells", "bytes", "(JI)J"⟩ : MethodName)) hown (hw _ (List.mem_of_getElem? (i := 23) rfl)) (hw _ (List.mem_of_getElem? (i := 24) rfl)) (hw _ (List.mem_of_getElem? (i := 8) rfl)) (hw _ (List.mem_of_getElem? (i := 25) rfl)) ⟨by decide, by decide⟩ (argsL := [(.long q1), (.int p2)]) (rm5 l Z a0 hw q1 p2 h6) e6 (g := (mkF m 48 #[.val (.ref o0), .val (.long q1), .second, .val (.int p2), .unset] [(.int p2), (.long q1), (.ref o0)])) rfl (by rw [hml]; rfl) (rest := [(.ref o0)]) (lenOf pd2_1 rfl) rfl (hb hby d2_48) (W := 1) (by show 2 * 0 + _ ≤ _; exact Nat.le_of_eq rfl) (by decide) (by decide) (by decide) (by decide)
  obtain ⟨rfl, e7, rfl⟩ := hQ7
  have N7 := Fr.app N6 (Fr.nil n0)
  refine own_go (g' := (mkF m 51 #[.val (.ref o0), .val (.long q1), .second, .val (.int p2), .unset] [(.long (own_by q1 p2)), (.ref o0)])) (st7) ?_
  refine own_go (g' := (mkF m 54 #[.val (.ref o0), .val (.long q1), .second, .val (.int p2), .unset] [(.long (8 : Int64)), (.long (own_by q1 p2)), (.ref o0)])) (X7.ldc2Long hx hown (mvT hZ (hw _ (List.mem_of_getElem? (i := 27) rfl))) (g := (mkF m 51 #[.val (.ref o0), .val (.long q1), .second, .val (.int p2), .unset] [(.long (own_by q1 p2)), (.ref o0)])) rfl (hb hby d2_51)) ?_
  refine own_go (g' := (mkF m 55 #[.val (.ref o0), .val (.long q1), .second, .val (.int p2), .unset] [(.long ((own_by q1 p2) / (8 : Int64))), (.ref o0)])) (fun _ kgo => XS.ldiv X7.here hx rfl (hb hby d2_54) rfl (by decide) kgo) ?_
  refine own_go (g' := (mkF m 56 #[.val (.ref o0), .val (.long q1), .second, .val (.int p2), .unset] [(.int (((own_by q1 p2) / (8 : Int64)).toInt32)), (.ref o0)])) (fun _ kgo => XS.l2i X7.here hx rfl (hb hby d2_55) rfl kgo) ?_
  obtain ⟨T8, h8, k8, X8, e8, E8, A8, st8⟩ := newP X7 hx hZ (hw _ (List.mem_of_getElem? (i := 28) rfl)) e7 (g := (mkF m 56 #[.val (.ref o0), .val (.long q1), .second, .val (.int p2), .unset] [(.int (((own_by q1 p2) / (8 : Int64)).toInt32)), (.ref o0)])) rfl (hb hby d2_56) rfl (own_nneg (by omega)) (cap := 65) (own_clamp (by omega)) (by decide) (by decide) (by decide)
  obtain ⟨b8, ad8⟩ : ∃ z, z = h6.size := ⟨_, rfl⟩
  rw [← ad8] at A8 st8
  have fx9 : Exa Z h6 o0 "com/example/seenset/seenset/util/Cells" := (Exa.wr W6 fx5)
  have ne_o0_b8 : o0 ≠ b8 := Nat.ne_of_lt (by rw [ad8]; exact fx9.lt)
  have ge_b8 : n0 ≤ b8 := by rw [ad8]; exact Z6
  have sz_b8 : h0.size ≤ b8 := by rw [ad8]; exact K6.1
  have Z8 : n0 ≤ h8.size := Nat.le_trans Z6 E8.1
  have K8 : Keep h0 h8 [o0] := K6.ext E8
  have V8 : Arv Z h8 b8 k8 .long (((own_by q1 p2) / (8 : Int64)).toInt32) ((List.replicate ((own_by q1 p2 / (8 : Int64)).toInt32).toInt.toNat (0 : Int64)).map Value.long) (.long (0 : Int64)) := (Arv.new A8 (own_nneg (by omega))).pad (own_padL _)
  refine own_go (g' := (mkF m 58 #[.val (.ref o0), .val (.long q1), .second, .val (.int p2), .unset] [(.ref b8), (.ref o0)])) (st8) ?_
  have fx10 : Fld Z h8 o0 "com/example/seenset/seenset/util/Cells" "words" "[J" .null := (Fld.ext E8 (Fld.other W6 (Fld.other W3 P3 (Or.inr (slot_ne (Or.inr (hw _ (List.mem_of_getElem? (i := 30) rfl))) (Or.inr (hw _ (List.mem_of_getElem? (i := 20) rfl))) (by decide) (t := (.array .long)) (t' := .int) (by decide) (by decide)))) (Or.inr (slot_ne (Or.inr (hw _ (List.mem_of_getElem? (i := 30) rfl))) (Or.inr (hw _ (List.mem_of_getElem? (i := 22) rfl))) (by decide) (t := (.array .long)) (t' := .long) (by decide) (by decide)))))
  have fx11 : Exa Z h8 o0 "com/example/seenset/seenset/util/Cells" := (Exa.ext E8 fx9)
  obtain ⟨T12, h12, X12, e12, W12, st12⟩ := putF X8 hx hZ hown (host := "") (Or.inl (hw _ (List.mem_of_getElem? (i := 29) rfl))) Via.refl e8 fx10 fx11 (Or.inr ⟨(hw _ (List.mem_of_getElem? (i := 30) rfl)), rfl, hnm⟩) (hw _ (List.mem_of_getElem? (i := 7) rfl)) (ty := (.array .long)) (by decide) rfl rfl (g := (mkF m 58 #[.val (.ref o0), .val (.long q1), .second, .val (.int p2), .unset] [(.ref b8), (.ref o0)])) rfl rfl (hb hby d2_58)
  have fw12 := Fld.same W12 fx10
  have N12 := Fr.snoc X12 N7 g_o0
  have Z12 : n0 ≤ h12.size := by rw [W12.size]; exact Z8
  have K12 : Keep h0 h12 [o0] := K8.wr W12 (Or.inl (List.mem_of_getElem? (i := 0) rfl))
  refine own_go (g' := (mkF m 61 #[.val (.ref o0), .val (.long q1), .second, .val (.int p2), .unset] [])) (st12) ?_
  refine own_go (g' := (mkF m 62 #[.val (.ref o0), .val (.long q1), .second, .val (.int p2), .unset] [(.ref o0)])) (fun _ kgo => XS.aloadN X12.here hx rfl (hb hby d2_61) rfl rfl kgo) ?_
  refine own_go (g' := (mkF m 63 #[.val (.ref o0), .val (.long q1), .second, .val (.int p2), .unset] [(.int p2), (.ref o0)])) (fun _ kgo => XS.iloadN X12.here hx rfl (hb hby d2_62) rfl kgo) ?_
  obtain ⟨T13, h13, k13, X13, e13, E13, A13, O13, st13⟩ := newR X12 hx hZ hown (C := "com/example/seenset/seenset/util/Cells$Phase") (hw _ (List.mem_of_getElem? (i := 31) rfl)) (hw _ (List.mem_of_getElem? (i := 32) rfl)) e12 (g := (mkF m 63 #[.val (.ref o0), .val (.long q1), .second, .val (.int p2), .unset] [(.int p2), (.ref o0)])) rfl (hb hby d2_63) rfl (own_nneg (by omega)) (cap := 63) (own_clamp (by omega)) (by decide) (by decide) (by decide)
  obtain ⟨b13, ad13⟩ : ∃ z, z = h12.size := ⟨_, rfl⟩
  rw [← ad13] at A13 st13
  have fx14 : Exa Z h12 o0 "com/example/seenset/seenset/util/Cells" := (Exa.wr W12 fx11)
  have ne_o0_b13 : o0 ≠ b13 := Nat.ne_of_lt (by rw [ad13]; exact fx14.lt)
  have fx15 : Arv Z h12 b8 k8 .long (((own_by q1 p2) / (8 : Int64)).toInt32) ((List.replicate ((own_by q1 p2 / (8 : Int64)).toInt32).toInt.toNat (0 : Int64)).map Value.long) (.long (0 : Int64)) := (Arv.other V8 W12 (Ne.symm ne_o0_b8))
  have ne_b8_b13 : b8 ≠ b13 := Nat.ne_of_lt (by rw [ad13]; exact fx15.lt)
  have ge_b13 : n0 ≤ b13 := by rw [ad13]; exact Z12
  have sz_b13 : h0.size ≤ b13 := by rw [ad13]; exact K12.1
  have Z13 : n0 ≤ h13.size := Nat.le_trans Z12 E13.1
  have K13 : Keep h0 h13 [o0] := K12.ext E13
  have V13 : Arv Z h13 b13 k13 (.object "com/example/seenset/seenset/util/Cells$Phase") p2 (List.replicate p2.toInt.toNat Value.null) .null := (Arv.new A13 (own_nneg (by omega))).pad (own_padN _)
  refine own_go (g' := (mkF m 66 #[.val (.ref o0), .val (.long q1), .second, .val (.int p2), .unset] [(.ref b13), (.ref o0)])) (st13) ?_
  have fx16 : Fld Z h13 o0 "com/example/seenset/seenset/util/Cells" "phases" "[Lcom/example/seenset/seenset/util/Cells$Phase;" .null := (Fld.ext E13 (Fld.other W12 (Fld.ext E8 (Fld.other W6 (Fld.other W3 P4 (Or.inr (slot_ne (Or.inr (hw _ (List.mem_of_getElem? (i := 34) rfl))) (Or.inr (hw _ (List.mem_of_getElem? (i := 20) rfl))) (by decide) (t := (.array (.object "com/example/seenset/seenset/util/Cells$Phase"))) (t' := .int) (by decide) (by decide)))) (Or.inr (slot_ne (Or.inr (hw _ (List.mem_of_getElem? (i := 34) rfl))) (Or.inr (hw _ (List.mem_of_getElem? (i := 22) rfl))) (by decide) (t := (.array (.object "com/example/seenset/seenset/util/Cells$Phase"))) (t' := .long) (by decide) (by decide))))) (Or.inr (slot_ne (Or.inr (hw _ (List.mem_of_getElem? (i := 34) rfl))) (Or.inr (hw _ (List.mem_of_getElem? (i := 30) rfl))) (by decide) (t := (.array (.object "com/example/seenset/seenset/util/Cells$Phase"))) (t' := (.array .long)) (by decide) (by decide)))))
  have fx17 : Exa Z h13 o0 "com/example/seenset/seenset/util/Cells" := (Exa.ext E13 fx14)
  obtain ⟨T18, h18, X18, e18, W18, st18⟩ := putF X13 hx hZ hown (host := "") (Or.inl (hw _ (List.mem_of_getElem? (i := 33) rfl))) Via.refl e13 fx16 fx17 (Or.inr ⟨(hw _ (List.mem_of_getElem? (i := 34) rfl)), rfl, hnm⟩) (hw _ (List.mem_of_getElem? (i := 7) rfl)) (ty := (.array (.object "com/example/seenset/seenset/util/Cells$Phase"))) (by decide) rfl rfl (g := (mkF m 66 #[.val (.ref o0), .val (.long q1), .second, .val (.int p2), .unset] [(.ref b13), (.ref o0)])) rfl rfl (hb hby d2_66)
  have fw18 := Fld.same W18 fx16
  have N18 := Fr.snoc X18 N12 g_o0
  have Z18 : n0 ≤ h18.size := by rw [W18.size]; exact Z13
  have K18 : Keep h0 h18 [o0] := K13.wr W18 (Or.inl (List.mem_of_getElem? (i := 0) rfl))
  refine own_go (g' := (mkF m 69 #[.val (.ref o0), .val (.long q1), .second, .val (.int p2), .unset] [])) (st18) ?_
  refine own_go (g' := (mkF m 70 #[.val (.ref o0), .val (.long q1), .second, .val (.int p2), .unset] [(.int (0 : Int32))])) (fun _ kgo => XS.iconst X18.here hx rfl (hb hby d2_69) kgo) ?_
  refine own_go (g' := (mkF m 72 #[.val (.ref o0), .val (.long q1), .second, .val (.int p2), .val (.int (0 : Int32))] [])) (fun _ kgo => XS.istore X18.here hx rfl (hb hby d2_70) rfl (l' := #[.val (.ref o0), .val (.long q1), .second, .val (.int p2), .val (.int (0 : Int32))]) rfl kgo) ?_
  have JA : ∀ (T_j : State) (L_j : List Loc) (X_j : Stand p l e ({ frames := 2, cells := 66, slots := 507, locals := 37 } : Room) s m #[(.ref o0), (.long q1), (.int p2)] below meth c T_j L_j 65 443) (h_j : Heap) (e_j : T_j.heap = h_j) (N_j : Fr n0 L_j) (Z_j : n0 ≤ h_j.size) (K_j : Keep h0 h_j [o0]) (cx : Int32) (G0_j : Exa Z h_j o0 "com/example/seenset/seenset/util/Cells") (G1_j : Fld Z h_j o0 "com/example/seenset/seenset/util/Cells" "bits" "I" (.int p2)) (G2_j : Fld Z h_j o0 "com/example/seenset/seenset/util/Cells" "mask" "J" (.long (((1 : Int64) <<< (p2 &&& 0x3f).toInt64) - (1 : Int64)))) (G3_j : Fld Z h_j o0 "com/example/seenset/seenset/util/Cells" "words" "[J" (.ref b8)) (G4_j : Fld Z h_j o0 "com/example/seenset/seenset/util/Cells" "phases" "[Lcom/example/seenset/seenset/util/Cells$Phase;" (.ref b13)) (G5_j : Fld Z h_j o0 "com/example/seenset/seenset/util/Cells" "phaseAfter" "[I" .null) (G6_j : Fld Z h_j o0 "com/example/seenset/seenset/util/Cells" "step" "I" (.int (0 : Int32))) (G7_j : Arv Z h_j b8 k8 .long (((own_by q1 p2) / (8 : Int64)).toInt32) ((List.replicate ((own_by q1 p2 / (8 : Int64)).toInt32).toInt.toNat (0 : Int64)).map Value.long) (.long (0 : Int64))), own_Go p e below (own_Post s QQ 66 507) T_j (mkF m 101 #[.val (.ref o0), .val (.long q1), .second, .val (.int p2), .val (.int cx)] []) := by
    intro T_j L_j X_j h_j e_j N_j Z_j K_j cx G0_j G1_j G2_j G3_j G4_j G5_j G6_j G7_j
    refine own_go (g' := (mkF m 102 #[.val (.ref o0), .val (.long q1), .second, .val (.int p2), .val (.int cx)] [(.ref o0)])) (fun _ kgo => XS.aloadN X_j.here hx rfl (hb hby d2_101) rfl rfl kgo) ?_
    refine own_go (g' := (mkF m 104 #[.val (.ref o0), .val (.long q1), .second, .val (.int p2), .val (.int cx)] [(.int (64 : Int32)), (.ref o0)])) (fun _ kgo => XS.bipush X_j.here hx rfl (hb hby d2_102) kgo) ?_
    obtain ⟨T19, h19, k19, X19, e19, E19, A19, st19⟩ := newP X_j hx hZ (hw _ (List.mem_of_getElem? (i := 52) rfl)) e_j (g := (mkF m 104 #[.val (.ref o0), .val (.long q1), .second, .val (.int p2), .val (.int cx)] [(.int (64 : Int32)), (.ref o0)])) rfl (hb hby d2_104) rfl (by decide) (cap := 64) (by decide) (by decide) (by decide) (by decide)
    obtain ⟨b19, ad19⟩ : ∃ z, z = h_j.size := ⟨_, rfl⟩
    rw [← ad19] at A19 st19
    have ne_o0_b19 : o0 ≠ b19 := Nat.ne_of_lt (by rw [ad19]; exact G0_j.lt)
    have ne_b8_b19 : b8 ≠ b19 := Nat.ne_of_lt (by rw [ad19]; exact G7_j.lt)
    have ge_b19 : n0 ≤ b19 := by rw [ad19]; exact Z_j
    have sz_b19 : h0.size ≤ b19 := by rw [ad19]; exact K_j.1
    have Z19 : n0 ≤ h19.size := Nat.le_trans Z_j E19.1
    have K19 : Keep h0 h19 [o0] := K_j.ext E19
    have V19 : Arv Z h19 b19 k19 .int (64 : Int32) [(.int (0 : Int32)), (.int (0 : Int32)), (.int (0 : Int32)), (.int (0 : Int32)), (.int (0 : Int32)), (.int (0 : Int32)), (.int (0 : Int32)), (.int (0 : Int32)), (.int (0 : Int32)), (.int (0 : Int32)), (.int (0 : Int32)), (.int (0 : Int32)), (.int (0 : Int32)), (.int (0 : Int32)), (.int (0 : Int32)), (.int (0 : Int32)), (.int (0 : Int32)), (.int (0 : Int32)), (.int (0 : Int32)), (.int (0 : Int32)), (.int (0 : Int32)), (.int (0 : Int32)), (.int (0 : Int32)), (.int (0 : Int32)), (.int (0 : Int32)), (.int (0 : Int32)), (.int (0 : Int32)), (.int (0 : Int32)), (.int (0 : Int32)), (.int (0 : Int32)), (.int (0 : Int32)), (.int (0 : Int32)), (.int (0 : Int32)), (.int (0 : Int32)), (.int (0 : Int32)), (.int (0 : Int32)), (.int (0 : Int32)), (.int (0 : Int32)), (.int (0 : Int32)), (.int (0 : Int32)), (.int (0 : Int32)), (.int (0 : Int32)), (.int (0 : Int32)), (.int (0 : Int32)), (.int (0 : Int32)), (.int (0 : Int32)), (.int (0 : Int32)), (.int (0 : Int32)), (.int (0 : Int32)), (.int (0 : Int32)), (.int (0 : Int32)), (.int (0 : Int32)), (.int (0 : Int32)), (.int (0 : Int32)), (.int (0 : Int32)), (.int (0 : Int32)), (.int (0 : Int32)), (.int (0 : Int32)), (.int (0 : Int32)), (.int (0 : Int32)), (.int (0 : Int32)), (.int (0 : Int32)), (.int (0 : Int32)), (.int (0 : Int32))] (.int (0 : Int32)) := (Arv.new A19 (by decide)).pad (pad_rep [] (.int (0 : Int32)) 64)
    refine own_go (g' := (mkF m 106 #[.val (.ref o0), .val (.long q1), .second, .val (.int p2), .val (.int cx)] [(.ref b19), (.ref o0)])) (st19) ?_
    have fx20 : Fld Z h19 o0 "com/example/seenset/seenset/util/Cells" "phaseAfter" "[I" .null := (Fld.ext E19 G5_j)
    have fx21 : Exa Z h19 o0 "com/example/seenset/seenset/util/Cells" := (Exa.ext E19 G0_j)
    obtain ⟨T22, h22, X22, e22, W22, st22⟩ := putF X19 hx hZ hown (host := "") (Or.inl (hw _ (List.mem_of_getElem? (i := 53) rfl))) Via.refl e19 fx20 fx21 (Or.inr ⟨(hw _ (List.mem_of_getElem? (i := 54) rfl)), rfl, hnm⟩) (hw _ (List.mem_of_getElem? (i := 7) rfl)) (ty := (.array .int)) (by decide) rfl rfl (g := (mkF m 106 #[.val (.ref o0), .val (.long q1), .second, .val (.int p2), .val (.int cx)] [(.ref b19), (.ref o0)])) rfl rfl (hb hby d2_106)
    have fw22 := Fld.same W22 fx20
    have N22 := Fr.snoc X22 N_j g_o0
    have Z22 : n0 ≤ h22.size := by rw [W22.size]; exact Z19
    have K22 : Keep h0 h22 [o0] := K19.wr W22 (Or.inl (List.mem_of_getElem? (i := 0) rfl))
    refine own_go (g' := (mkF m 109 #[.val (.ref o0), .val (.long q1), .second, .val (.int p2), .val (.int cx)] [])) (st22) ?_
    refine own_go (g' := (mkF m 110 #[.val (.ref o0), .val (.long q1), .second, .val (.int p2), .val (.int cx)] [(.int (0 : Int32))])) (fun _ kgo => XS.iconst X22.here hx rfl (hb hby d2_109) kgo) ?_
    refine own_go (g' := (mkF m 112 #[.val (.ref o0), .val (.long q1), .second, .val (.int p2), .val (.int (0 : Int32))] [])) (fun _ kgo => XS.istore X22.here hx rfl (hb hby d2_110) rfl (l' := #[.val (.ref o0), .val (.long q1), .second, .val (.int p2), .val (.int (0 : Int32))]) rfl kgo) ?_
    have JB : ∀ (T_j : State) (L_j : List Loc) (X_j : Stand p l e ({ frames := 2, cells := 66, slots := 507, locals := 37 } : Room) s m #[(.ref o0), (.long q1), (.int p2)] below meth c T_j L_j 66 507) (h_j : Heap) (e_j : T_j.heap = h_j) (N_j : Fr n0 L_j) (Z_j : n0 ≤ h_j.size) (K_j : Keep h0 h_j [o0]) (cx : Int32) (G0_j : Exa Z h_j o0 "com/example/seenset/seenset/util/Cells") (G1_j : Fld Z h_j o0 "com/example/seenset/seenset/util/Cells" "bits" "I" (.int p2)) (G2_j : Fld Z h_j o0 "com/example/seenset/seenset/util/Cells" "mask" "J" (.long (((1 : Int64) <<< (p2 &&& 0x3f).toInt64) - (1 : Int64)))) (G3_j : Fld Z h_j o0 "com/example/seenset/seenset/util/Cells" "words" "[J" (.ref b8)) (G4_j : Fld Z h_j o0 "com/example/seenset/seenset/util/Cells" "phases" "[Lcom/example/seenset/seenset/util/Cells$Phase;" (.ref b13)) (G5_j : Fld Z h_j o0 "com/example/seenset/seenset/util/Cells" "phaseAfter" "[I" (.ref b19)) (G6_j : Fld Z h_j o0 "com/example/seenset/seenset/util/Cells" "step" "I" (.int (0 : Int32))) (G7_j : Arv Z h_j b8 k8 .long (((own_by q1 p2) / (8 : Int64)).toInt32) ((List.replicate ((own_by q1 p2 / (8 : Int64)).toInt32).toInt.toNat (0 : Int64)).map Value.long) (.long (0 : Int64))), own_Go p e below (own_Post s QQ 66 507) T_j (mkF m 140 #[.val (.ref o0), .val (.long q1), .second, .val (.int p2), .val (.int cx)] []) := by
      intro T_j L_j X_j h_j e_j N_j Z_j K_j cx G0_j G1_j G2_j G3_j G4_j G5_j G6_j G7_j
      refine own_go (g' := (mkF m 141 #[.val (.ref o0), .val (.long q1), .second, .val (.int p2), .val (.int cx)] [(.ref o0)])) (fun _ kgo => XS.aloadN X_j.here hx rfl (hb hby d2_140) rfl rfl kgo) ?_
      refine own_go (g' := (mkF m 143 #[.val (.ref o0), .val (.long q1), .second, .val (.int p2), .val (.int cx)] [(.int (64 : Int32)), (.ref o0)])) (fun _ kgo => XS.bipush X_j.here hx rfl (hb hby d2_141) kgo) ?_
      refine own_go (g' := (mkF m 144 #[.val (.ref o0), .val (.long q1), .second, .val (.int p2), .val (.int cx)] [(.int p2), (.int (64 : Int32)), (.ref o0)])) (fun _ kgo => XS.iloadN X_j.here hx rfl (hb hby d2_143) rfl kgo) ?_
      refine own_go (g' := (mkF m 145 #[.val (.ref o0), .val (.long q1), .second, .val (.int p2), .val (.int cx)] [(.int ((64 : Int32) % p2)), (.ref o0)])) (fun _ kgo => own_irem X_j hx rfl (hb hby d2_144) rfl (own_nz hb1) kgo) ?_
      obtain ⟨T23, h23, X23, e23, W23, st23⟩ := putF X_j hx hZ hown (host := "") (Or.inl (hw _ (List.mem_of_getElem? (i := 55) rfl))) Via.refl e_j G6_j G0_j (Or.inr ⟨(hw _ (List.mem_of_getElem? (i := 56) rfl)), rfl, hnm⟩) (hw _ (List.mem_of_getElem? (i := 7) rfl)) (ty := .int) (by decide) rfl rfl (g := (mkF m 145 #[.val (.ref o0), .val (.long q1), .second, .val (.int p2), .val (.int cx)] [(.int ((64 : Int32) % p2)), (.ref o0)])) rfl rfl (hb hby d2_145)
      have fw23 := Fld.same W23 G6_j
      have N23 := Fr.snoc X23 N_j g_o0
      have Z23 : n0 ≤ h23.size := by rw [W23.size]; exact Z_j
      have K23 : Keep h0 h23 [o0] := K_j.wr W23 (Or.inl (List.mem_of_getElem? (i := 0) rfl))
      refine own_go (g' := (mkF m 148 #[.val (.ref o0), .val (.long q1), .second, .val (.int p2), .val (.int cx)] [])) (st23) ?_
      refine own_retV X23 hx Bd.returns Bd.notSynchronized (hb hby d2_148) (by decide) (by decide) ?_
      show QQ _ T23.heap _
      rw [e23]
      have fx24 : Exa Z h23 o0 "com/example/seenset/seenset/util/Cells" := (Exa.wr W23 G0_j)
      have fx25 : Fld Z h23 o0 "com/example/seenset/seenset/util/Cells" "bits" "I" (.int p2) := (Fld.other W23 G1_j (Or.inr (slot_ne (Or.inr (hw _ (List.mem_of_getElem? (i := 20) rfl))) (Or.inr (hw _ (List.mem_of_getElem? (i := 56) rfl))) (by decide) (t := .int) (t' := .int) (by decide) (by decide))))
      have fx26 : Fld Z h23 o0 "com/example/seenset/seenset/util/Cells" "mask" "J" (.long (((1 : Int64) <<< (p2 &&& 0x3f).toInt64) - (1 : Int64))) := (Fld.other W23 G2_j (Or.inr (slot_ne (Or.inr (hw _ (List.mem_of_getElem? (i := 22) rfl))) (Or.inr (hw _ (List.mem_of_getElem? (i := 56) rfl))) (by decide) (t := .long) (t' := .int) (by decide) (by decide))))
      have fx27 : Fld Z h23 o0 "com/example/seenset/seenset/util/Cells" "words" "[J" (.ref b8) := (Fld.other W23 G3_j (Or.inr (slot_ne (Or.inr (hw _ (List.mem_of_getElem? (i := 30) rfl))) (Or.inr (hw _ (List.mem_of_getElem? (i := 56) rfl))) (by decide) (t := (.array .long)) (t' := .int) (by decide) (by decide))))
      have fx28 : Arv Z h23 b8 k8 .long (((own_by q1 p2) / (8 : Int64)).toInt32) ((List.replicate ((own_by q1 p2 / (8 : Int64)).toInt32).toInt.toNat (0 : Int64)).map Value.long) (.long (0 : Int64)) := (Arv.other G7_j W23 (Ne.symm ne_o0_b8))
      rw [← hQQ]
      exact ⟨b8, k8, rfl, N23, K23, sz_b8, fx24, fx25, fx26, fx27, fx28⟩
    have JM : ∀ (nn : Nat) (T_j : State) (L_j : List Loc) (X_j : Stand p l e ({ frames := 2, cells := 66, slots := 507, locals := 37 } : Room) s m #[(.ref o0), (.long q1), (.int p2)] below meth c T_j L_j 66 507) (h_j : Heap) (e_j : T_j.heap = h_j) (N_j : Fr n0 L_j) (Z_j : n0 ≤ h_j.size) (K_j : Keep h0 h_j [o0]) (cx : Int32) (av : List Value) (G0_j : Exa Z h_j o0 "com/example/seenset/seenset/util/Cells") (G1_j : Fld Z h_j o0 "com/example/seenset/seenset/util/Cells" "bits" "I" (.int p2)) (G2_j : Fld Z h_j o0 "com/example/seenset/seenset/util/Cells" "mask" "J" (.long (((1 : Int64) <<< (p2 &&& 0x3f).toInt64) - (1 : Int64)))) (G3_j : Fld Z h_j o0 "com/example/seenset/seenset/util/Cells" "words" "[J" (.ref b8)) (G4_j : Fld Z h_j o0 "com/example/seenset/seenset/util/Cells" "phases" "[Lcom/example/seenset/seenset/util/Cells$Phase;" (.ref b13)) (G5_j : Fld Z h_j o0 "com/example/seenset/seenset/util/Cells" "phaseAfter" "[I" (.ref b19)) (G6_j : Fld Z h_j o0 "com/example/seenset/seenset/util/Cells" "step" "I" (.int (0 : Int32))) (G7_j : Arv Z h_j b8 k8 .long (((own_by q1 p2) / (8 : Int64)).toInt32) ((List.replicate ((own_by q1 p2 / (8 : Int64)).toInt32).toInt.toNat (0 : Int64)).map Value.long) (.long (0 : Int64))) (G8_j : Arv Z h_j b19 k19 .int (64 : Int32) av (.int (0 : Int32))) (hcx : 0 ≤ cx.toInt ∧ cx.toInt ≤ 64) (hn : 64 - cx.toInt ≤ nn) (hpl : av.length = 64), own_Go p e below (own_Post s QQ 66 507) T_j (mkF m 112 #[.val (.ref o0), .val (.long q1), .second, .val (.int p2), .val (.int cx)] []) := by
      intro nn
      induction nn with
      | zero =>
        intro T_j L_j X_j h_j e_j N_j Z_j K_j cx av G0_j G1_j G2_j G3_j G4_j G5_j G6_j G7_j G8_j hcx hn hpl
        refine own_go (g' := (mkF m 114 #[.val (.ref o0), .val (.long q1), .second, .val (.int p2), .val (.int cx)] [(.int cx)])) (fun _ kgo => XS.iload X_j.here hx rfl (hb hby d2_112) rfl kgo) ?_
        refine own_go (g' := (mkF m 116 #[.val (.ref o0), .val (.long q1), .second, .val (.int p2), .val (.int cx)] [(.int (64 : Int32)), (.int cx)])) (fun _ kgo => XS.bipush X_j.here hx rfl (hb hby d2_114) kgo) ?_
        refine own_go (g' := (mkF m 140 #[.val (.ref o0), .val (.long q1), .second, .val (.int p2), .val (.int cx)] [])) (fun _ kgo => XS.icmpYes X_j.here hx rfl (pc0 := 116) (pc' := 140) rfl (hb hby d2_116) rfl (flt (by rw [own_lti]; simp only [Int32.reduceToInt]; omega)).2.1 (by decide) (by decide) kgo) ?_
        exact JB _ _ X_j _ e_j N_j Z_j K_j cx G0_j G1_j G2_j G3_j G4_j G5_j G6_j G7_j
      | succ nn ih =>
        intro T_j L_j X_j h_j e_j N_j Z_j K_j cx av G0_j G1_j G2_j G3_j G4_j G5_j G6_j G7_j G8_j hcx hn hpl
        refine own_go (g' := (mkF m 114 #[.val (.ref o0), .val (.long q1), .second, .val (.int p2), .val (.int cx)] [(.int cx)])) (fun _ kgo => XS.iload X_j.here hx rfl (hb hby d2_112) rfl kgo) ?_
        refine own_go (g' := (mkF m 116 #[.val (.ref o0), .val (.long q1), .second, .val (.int p2), .val (.int cx)] [(.int (64 : Int32)), (.int cx)])) (fun _ kgo => XS.bipush X_j.here hx rfl (hb hby d2_114) kgo) ?_
        by_cases hc29 : cx < (64 : Int32)
        ·
          refine own_go (g' := (mkF m 119 #[.val (.ref o0), .val (.long q1), .second, .val (.int p2), .val (.int cx)] [])) (fun _ kgo => XS.icmpNo X_j.here hx rfl (hb hby d2_116) rfl (tlt hc29).2.1 kgo) ?_
          refine own_go (g' := (mkF m 120 #[.val (.ref o0), .val (.long q1), .second, .val (.int p2), .val (.int cx)] [(.ref o0)])) (fun _ kgo => XS.aloadN X_j.here hx rfl (hb hby d2_119) rfl rfl kgo) ?_
          obtain ⟨T30, X30, e30, st30⟩ := getF X_j hx hZ hown (host := "") (Or.inl (hw _ (List.mem_of_getElem? (i := 53) rfl))) Via.refl e_j G5_j (g := (mkF m 120 #[.val (.ref o0), .val (.long q1), .second, .val (.int p2), .val (.int cx)] [(.ref o0)])) rfl rfl (hb hby d2_120)
          refine own_go (g' := (mkF m 123 #[.val (.ref o0), .val (.long q1), .second, .val (.int p2), .val (.int cx)] [(.ref b19)])) (st30) ?_
          refine own_go (g' := (mkF m 125 #[.val (.ref o0), .val (.long q1), .second, .val (.int p2), .val (.int cx)] [(.int cx), (.ref b19)])) (fun _ kgo => XS.iload X30.here hx rfl (hb hby d2_123) rfl kgo) ?_
          refine own_go (g' := (mkF m 126 #[.val (.ref o0), .val (.long q1), .second, .val (.int p2), .val (.int cx)] [(.int p2), (.int cx), (.ref b19)])) (fun _ kgo => XS.iloadN X30.here hx rfl (hb hby d2_125) rfl kgo) ?_
          refine own_go (g' := (mkF m 128 #[.val (.ref o0), .val (.long q1), .second, .val (.int p2), .val (.int cx)] [(.int cx), (.int p2), (.int cx), (.ref b19)])) (fun _ kgo => XS.iload X30.here hx rfl (hb hby d2_126) rfl kgo) ?_
          refine own_go (g' := (mkF m 129 #[.val (.ref o0), .val (.long q1), .second, .val (.int p2), .val (.int cx)] [(.int p2), (.int cx), (.int p2), (.int cx), (.ref b19)])) (fun _ kgo => XS.iloadN X30.here hx rfl (hb hby d2_128) rfl kgo) ?_
          refine own_go (g' := (mkF m 130 #[.val (.ref o0), .val (.long q1), .second, .val (.int p2), .val (.int cx)] [(.int (cx % p2)), (.int p2), (.int cx), (.ref b19)])) (fun _ kgo => own_irem X30 hx rfl (hb hby d2_129) rfl (own_nz hb1) kgo) ?_
          refine own_go (g' := (mkF m 131 #[.val (.ref o0), .val (.long q1), .second, .val (.int p2), .val (.int cx)] [(.int (p2 - (cx % p2))), (.int cx), (.ref b19)])) (fun _ kgo => XS.isub X30.here hx rfl (hb hby d2_130) rfl kgo) ?_
          refine own_go (g' := (mkF m 132 #[.val (.ref o0), .val (.long q1), .second, .val (.int p2), .val (.int cx)] [(.int p2), (.int (p2 - (cx % p2))), (.int cx), (.ref b19)])) (fun _ kgo => XS.iloadN X30.here hx rfl (hb hby d2_131) rfl kgo) ?_
          refine own_go (g' := (mkF m 133 #[.val (.ref o0), .val (.long q1), .second, .val (.int p2), .val (.int cx)] [(.int ((p2 - (cx % p2)) % p2)), (.int cx), (.ref b19)])) (fun _ kgo => own_irem X30 hx rfl (hb hby d2_132) rfl (own_nz hb1) kgo) ?_
          obtain ⟨cl31, Ar31, qk31, sz31, nn31, Hs31, Gs31⟩ := id G8_j
          have hin31 : ¬ (cx < 0 ∨ cl31.slots.size ≤ (cx).toNatClampNeg) := inb_of sz31 (own_ixj hcx.1 hc29)
          obtain ⟨T31, h31, X31, e31, W31, st31⟩ := stI X30 hx hZ e30 Ar31 (j := cx) hin31 (g := (mkF m 133 #[.val (.ref o0), .val (.long q1), .second, .val (.int p2), .val (.int cx)] [(.int ((p2 - (cx % p2)) % p2)), (.int cx), (.ref b19)])) rfl rfl (hb hby d2_133)
          have V31 : Arv Z h31 b19 k19 .int (64 : Int32) (av.set cx.toNatClampNeg (.int ((p2 - (cx % p2)) % p2))) (.int (0 : Int32)) := Arv.set Ar31 qk31 sz31 nn31 Hs31 Gs31 rfl W31 _ rfl (by rw [hpl]; rw [own_lti] at hc29; simp only [Int32.toNatClampNeg, Int32.reduceToInt] at hc29 ⊢; omega)
          have N31 := Fr.snoc X31 N_j ge_b19
          have Z31 : n0 ≤ h31.size := by rw [W31.size]; exact Z_j
          have K31 : Keep h0 h31 [o0] := K_j.wr W31 (Or.inr sz_b19)
          refine own_go (g' := (mkF m 134 #[.val (.ref o0), .val (.long q1), .second, .val (.int p2), .val (.int cx)] [])) (st31) ?_
          refine own_go (g' := (mkF m 137 #[.val (.ref o0), .val (.long q1), .second, .val (.int p2), .val (.int (cx + (1 : Int32)))] [])) (fun _ kgo => XS.iinc X31.here hx rfl (hb hby d2_134) rfl (l' := #[.val (.ref o0), .val (.long q1), .second, .val (.int p2), .val (.int (cx + (1 : Int32)))]) rfl kgo) ?_
          refine own_go (g' := (mkF m 112 #[.val (.ref o0), .val (.long q1), .second, .val (.int p2), .val (.int (cx + (1 : Int32)))] [])) (fun _ kgo => XS.goto X31.here hx rfl (pc0 := 137) (pc' := 112) rfl (hb hby d2_137) (by decide) (by decide) kgo) ?_
          have fx32 : Exa Z h31 o0 "com/example/seenset/seenset/util/Cells" := (Exa.wr W31 G0_j)
          have fx33 : Fld Z h31 o0 "com/example/seenset/seenset/util/Cells" "bits" "I" (.int p2) := (Fld.other W31 G1_j (Or.inl ne_o0_b19))
          have fx34 : Fld Z h31 o0 "com/example/seenset/seenset/util/Cells" "mask" "J" (.long (((1 : Int64) <<< (p2 &&& 0x3f).toInt64) - (1 : Int64))) := (Fld.other W31 G2_j (Or.inl ne_o0_b19))
          have fx35 : Fld Z h31 o0 "com/example/seenset/seenset/util/Cells" "words" "[J" (.ref b8) := (Fld.other W31 G3_j (Or.inl ne_o0_b19))
          have fx36 : Fld Z h31 o0 "com/example/seenset/seenset/util/Cells" "phases" "[Lcom/example/seenset/seenset/util/Cells$Phase;" (.ref b13) := (Fld.other W31 G4_j (Or.inl ne_o0_b19))
          have fx37 : Fld Z h31 o0 "com/example/seenset/seenset/util/Cells" "phaseAfter" "[I" (.ref b19) := (Fld.other W31 G5_j (Or.inl ne_o0_b19))
          have fx38 : Fld Z h31 o0 "com/example/seenset/seenset/util/Cells" "step" "I" (.int (0 : Int32)) := (Fld.other W31 G6_j (Or.inl ne_o0_b19))
          have fx39 : Arv Z h31 b8 k8 .long (((own_by q1 p2) / (8 : Int64)).toInt32) ((List.replicate ((own_by q1 p2 / (8 : Int64)).toInt32).toInt.toNat (0 : Int64)).map Value.long) (.long (0 : Int64)) := (Arv.other G7_j W31 ne_b8_b19)
          exact ih _ _ X31 _ e31 N31 Z31 K31 _ _ fx32 fx33 fx34 fx35 fx36 fx37 fx38 fx39 V31 (by rw [own_next hc29]; rw [own_lti] at hc29; simp only [Int32.reduceToInt] at hc29; omega) (by rw [own_next hc29]; omega) (by rw [List.length_set]; exact hpl)
        ·
          refine own_go (g' := (mkF m 140 #[.val (.ref o0), .val (.long q1), .second, .val (.int p2), .val (.int cx)] [])) (fun _ kgo => XS.icmpYes X_j.here hx rfl (pc0 := 116) (pc' := 140) rfl (hb hby d2_116) rfl (flt hc29).2.1 (by decide) (by decide) kgo) ?_
          exact JB _ _ X_j _ e_j N_j Z_j K_j cx G0_j G1_j G2_j G3_j G4_j G5_j G6_j G7_j
    have fx40 : Exa Z h22 o0 "com/example/seenset/seenset/util/Cells" := (Exa.wr W22 fx21)
    have fx41 : Fld Z h22 o0 "com/example/seenset/seenset/util/Cells" "bits" "I" (.int p2) := (Fld.other W22 (Fld.ext E19 G1_j) (Or.inr (slot_ne (Or.inr (hw _ (List.mem_of_getElem? (i := 20) rfl))) (Or.inr (hw _ (List.mem_of_getElem? (i := 54) rfl))) (by decide) (t := .int) (t' := (.array .int)) (by decide) (by decide))))
    have fx42 : Fld Z h22 o0 "com/example/seenset/seenset/util/Cells" "mask" "J" (.long (((1 : Int64) <<< (p2 &&& 0x3f).toInt64) - (1 : Int64))) := (Fld.other W22 (Fld.ext E19 G2_j) (Or.inr (slot_ne (Or.inr (hw _ (List.mem_of_getElem? (i := 22) rfl))) (Or.inr (hw _ (List.mem_of_getElem? (i := 54) rfl))) (by decide) (t := .long) (t' := (.array .int)) (by decide) (by decide))))
    have fx43 : Fld Z h22 o0 "com/example/seenset/seenset/util/Cells" "words" "[J" (.ref b8) := (Fld.other W22 (Fld.ext E19 G3_j) (Or.inr (slot_ne (Or.inr (hw _ (List.mem_of_getElem? (i := 30) rfl))) (Or.inr (hw _ (List.mem_of_getElem? (i := 54) rfl))) (by decide) (t := (.array .long)) (t' := (.array .int)) (by decide) (by decide))))
    have fx44 : Fld Z h22 o0 "com/example/seenset/seenset/util/Cells" "phases" "[Lcom/example/seenset/seenset/util/Cells$Phase;" (.ref b13) := (Fld.other W22 (Fld.ext E19 G4_j) (Or.inr (slot_ne (Or.inr (hw _ (List.mem_of_getElem? (i := 34) rfl))) (Or.inr (hw _ (List.mem_of_getElem? (i := 54) rfl))) (by decide) (t := (.array (.object "com/example/seenset/seenset/util/Cells$Phase"))) (t' := (.array .int)) (by decide) (by decide))))
    have fx45 : Fld Z h22 o0 "com/example/seenset/seenset/util/Cells" "step" "I" (.int (0 : Int32)) := (Fld.other W22 (Fld.ext E19 G6_j) (Or.inr (slot_ne (Or.inr (hw _ (List.mem_of_getElem? (i := 56) rfl))) (Or.inr (hw _ (List.mem_of_getElem? (i := 54) rfl))) (by decide) (t := .int) (t' := (.array .int)) (by decide) (by decide))))
    have fx46 : Arv Z h22 b8 k8 .long (((own_by q1 p2) / (8 : Int64)).toInt32) ((List.replicate ((own_by q1 p2 / (8 : Int64)).toInt32).toInt.toNat (0 : Int64)).map Value.long) (.long (0 : Int64)) := (Arv.other (Arv.ext G7_j E19) W22 (Ne.symm ne_o0_b8))
    have fx47 : Arv Z h22 b19 k19 .int (64 : Int32) [(.int (0 : Int32)), (.int (0 : Int32)), (.int (0 : Int32)), (.int (0 : Int32)), (.int (0 : Int32)), (.int (0 : Int32)), (.int (0 : Int32)), (.int (0 : Int32)), (.int (0 : Int32)), (.int (0 : Int32)), (.int (0 : Int32)), (.int (0 : Int32)), (.int (0 : Int32)), (.int (0 : Int32)), (.int (0 : Int32)), (.int (0 : Int32)), (.int (0 : Int32)), (.int (0 : Int32)), (.int (0 : Int32)), (.int (0 : Int32)), (.int (0 : Int32)), (.int (0 : Int32)), (.int (0 : Int32)), (.int (0 : Int32)), (.int (0 : Int32)), (.int (0 : Int32)), (.int (0 : Int32)), (.int (0 : Int32)), (.int (0 : Int32)), (.int (0 : Int32)), (.int (0 : Int32)), (.int (0 : Int32)), (.int (0 : Int32)), (.int (0 : Int32)), (.int (0 : Int32)), (.int (0 : Int32)), (.int (0 : Int32)), (.int (0 : Int32)), (.int (0 : Int32)), (.int (0 : Int32)), (.int (0 : Int32)), (.int (0 : Int32)), (.int (0 : Int32)), (.int (0 : Int32)), (.int (0 : Int32)), (.int (0 : Int32)), (.int (0 : Int32)), (.int (0 : Int32)), (.int (0 : Int32)), (.int (0 : Int32)), (.int (0 : Int32)), (.int (0 : Int32)), (.int (0 : Int32)), (.int (0 : Int32)), (.int (0 : Int32)), (.int (0 : Int32)), (.int (0 : Int32)), (.int (0 : Int32)), (.int (0 : Int32)), (.int (0 : Int32)), (.int (0 : Int32)), (.int (0 : Int32)), (.int (0 : Int32)), (.int (0 : Int32))] (.int (0 : Int32)) := (Arv.other V19 W22 (Ne.symm ne_o0_b19))
    exact JM 64 _ _ X22 _ e22 N22 Z22 K22 (0 : Int32) _ fx40 fx41 fx42 fx43 fx44 fw22 fx45 fx46 fx47 (by decide) (by decide) rfl
  have JL : ∀ (nn : Nat) (kk : Nat) (T_j : State) (L_j : List Loc) (X_j : Stand p l e ({ frames := 2, cells := 66, slots := 507, locals := 37 } : Room) s m #[(.ref o0), (.long q1), (.int p2)] below meth c T_j L_j (2 + 1 * kk) (128 + 5 * kk)) (h_j : Heap) (e_j : T_j.heap = h_j) (N_j : Fr n0 L_j) (Z_j : n0 ≤ h_j.size) (K_j : Keep h0 h_j [o0]) (cx : Int32) (pv : List Value) (G0_j : Exa Z h_j o0 "com/example/seenset/seenset/util/Cells") (G1_j : Fld Z h_j o0 "com/example/seenset/seenset/util/Cells" "bits" "I" (.int p2)) (G2_j : Fld Z h_j o0 "com/example/seenset/seenset/util/Cells" "mask" "J" (.long (((1 : Int64) <<< (p2 &&& 0x3f).toInt64) - (1 : Int64)))) (G3_j : Fld Z h_j o0 "com/example/seenset/seenset/util/Cells" "words" "[J" (.ref b8)) (G4_j : Fld Z h_j o0 "com/example/seenset/seenset/util/Cells" "phases" "[Lcom/example/seenset/seenset/util/Cells$Phase;" (.ref b13)) (G5_j : Fld Z h_j o0 "com/example/seenset/seenset/util/Cells" "phaseAfter" "[I" .null) (G6_j : Fld Z h_j o0 "com/example/seenset/seenset/util/Cells" "step" "I" (.int (0 : Int32))) (G7_j : Arv Z h_j b8 k8 .long (((own_by q1 p2) / (8 : Int64)).toInt32) ((List.replicate ((own_by q1 p2 / (8 : Int64)).toInt32).toInt.toNat (0 : Int64)).map Value.long) (.long (0 : Int64))) (G8_j : Arv Z h_j b13 k13 (.object "com/example/seenset/seenset/util/Cells$Phase") p2 pv .null) (hcx : 0 ≤ cx.toInt ∧ cx.toInt ≤ p2.toInt) (hkk : (kk : Int) = cx.toInt) (hn : p2.toInt - cx.toInt ≤ nn) (hpl : pv.length = p2.toInt.toNat), own_Go p e below (own_Post s QQ 66 507) T_j (mkF m 72 #[.val (.ref o0), .val (.long q1), .second, .val (.int p2), .val (.int cx)] []) := by
    intro nn
    induction nn with
    | zero =>
      intro kk T_j L_j X_j h_j e_j N_j Z_j K_j cx pv G0_j G1_j G2_j G3_j G4_j G5_j G6_j G7_j G8_j hcx hkk hn hpl
      refine own_go (g' := (mkF m 74 #[.val (.ref o0), .val (.long q1), .second, .val (.int p2), .val (.int cx)] [(.int cx)])) (fun _ kgo => XS.iload X_j.here hx rfl (hb hby d2_72) rfl kgo) ?_
      refine own_go (g' := (mkF m 75 #[.val (.ref o0), .val (.long q1), .second, .val (.int p2), .val (.int cx)] [(.int p2), (.int cx)])) (fun _ kgo => XS.iloadN X_j.here hx rfl (hb hby d2_74) rfl kgo) ?_
      refine own_go (g' := (mkF m 101 #[.val (.ref o0), .val (.long q1), .second, .val (.int p2), .val (.int cx)] [])) (fun _ kgo => XS.icmpYes X_j.here hx rfl (pc0 := 75) (pc' := 101) rfl (hb hby d2_75) rfl (flt (by rw [own_lti]; omega)).2.1 (by decide) (by decide) kgo) ?_
      have X48 := X_j.mono (cells' := 65) (slots' := 443) (by omega) (by omega)
      exact JA _ _ X48 _ e_j N_j Z_j K_j cx G0_j G1_j G2_j G3_j G4_j G5_j G6_j G7_j
    | succ nn ih =>
      intro kk T_j L_j X_j h_j e_j N_j Z_j K_j cx pv G0_j G1_j G2_j G3_j G4_j G5_j G6_j G7_j G8_j hcx hkk hn hpl
      refine own_go (g' := (mkF m 74 #[.val (.ref o0), .val (.long q1), .second, .val (.int p2), .val (.int cx)] [(.int cx)])) (fun _ kgo => XS.iload X_j.here hx rfl (hb hby d2_72) rfl kgo) ?_
      refine own_go (g' := (mkF m 75 #[.val (.ref o0), .val (.long q1), .second, .val (.int p2), .val (.int cx)] [(.int p2), (.int cx)])) (fun _ kgo => XS.iloadN X_j.here hx rfl (hb hby d2_74) rfl kgo) ?_
      by_cases hc49 : cx < p2
      ·
        refine own_go (g' := (mkF m 78 #[.val (.ref o0), .val (.long q1), .second, .val (.int p2), .val (.int cx)] [])) (fun _ kgo => XS.icmpNo X_j.here hx rfl (hb hby d2_75) rfl (tlt hc49).2.1 kgo) ?_
        refine own_go (g' := (mkF m 79 #[.val (.ref o0), .val (.long q1), .second, .val (.int p2), .val (.int cx)] [(.ref o0)])) (fun _ kgo => XS.aloadN X_j.here hx rfl (hb hby d2_78) rfl rfl kgo) ?_
        obtain ⟨T50, X50, e50, st50⟩ := getF X_j hx hZ hown (host := "") (Or.inl (hw _ (List.mem_of_getElem? (i := 33) rfl))) Via.refl e_j G4_j (g := (mkF m 79 #[.val (.ref o0), .val (.long q1), .second, .val (.int p2), .val (.int cx)] [(.ref o0)])) rfl rfl (hb hby d2_79)
        refine own_go (g' := (mkF m 82 #[.val (.ref o0), .val (.long q1), .second, .val (.int p2), .val (.int cx)] [(.ref b13)])) (st50) ?_
        refine own_go (g' := (mkF m 84 #[.val (.ref o0), .val (.long q1), .second, .val (.int p2), .val (.int cx)] [(.int cx), (.ref b13)])) (fun _ kgo => XS.iload X50.here hx rfl (hb hby d2_82) rfl kgo) ?_
        obtain ⟨T51, h51, X51, e51, E51, A51, D51, -, st51⟩ := newO X50 hx hZ hown (hw _ (List.mem_of_getElem? (i := 31) rfl)) (hw _ (List.mem_of_getElem? (i := 35) rfl)) (hw _ (List.mem_of_getElem? (i := 36) rfl)) e50 (g := (mkF m 84 #[.val (.ref o0), .val (.long q1), .second, .val (.int p2), .val (.int cx)] [(.int cx), (.ref b13)])) rfl (hb hby d2_84) (by show _ ≤ 66; omega) (by show _ ≤ 507; omega)
        obtain ⟨b51, ad51⟩ : ∃ z, z = h_j.size := ⟨_, rfl⟩
        rw [← ad51] at A51 D51 st51
        have ne_o0_b51 : o0 ≠ b51 := Nat.ne_of_lt (by rw [ad51]; exact G0_j.lt)
        have ne_b8_b51 : b8 ≠ b51 := Nat.ne_of_lt (by rw [ad51]; exact G7_j.lt)
        have ne_b13_b51 : b13 ≠ b51 := Nat.ne_of_lt (by rw [ad51]; exact G8_j.lt)
        have ge_b51 : n0 ≤ b51 := by rw [ad51]; exact Z_j
        have sz_b51 : h0.size ≤ b51 := by rw [ad51]; exact K_j.1
        have Z51 : n0 ≤ h51.size := Nat.le_trans Z_j E51.1
        have K51 : Keep h0 h51 [o0] := K_j.ext E51
        have F51_lower : Fld Z h51 b51 "com/example/seenset/seenset/util/Cells$Phase" "lower" "J" (.long (0 : Int64)) := D51 (Or.inr (hw _ (List.mem_of_getElem? (i := 42) rfl))) (ty := .long) (by decide)
        have F51_top : Fld Z h51 b51 "com/example/seenset/seenset/util/Cells$Phase" "top" "J" (.long (0 : Int64)) := D51 (Or.inr (hw _ (List.mem_of_getElem? (i := 44) rfl))) (ty := .long) (by decide)
        have F51_straddleLow : Fld Z h51 b51 "com/example/seenset/seenset/util/Cells$Phase" "straddleLow" "J" (.long (0 : Int64)) := D51 (Or.inr (hw _ (List.mem_of_getElem? (i := 46) rfl))) (ty := .long) (by decide)
        have F51_straddleFirst : Fld Z h51 b51 "com/example/seenset/seenset/util/Cells$Phase" "straddleFirst" "J" (.long (0 : Int64)) := D51 (Or.inr (hw _ (List.mem_of_getElem? (i := 48) rfl))) (ty := .long) (by decide)
        have F51_straddleHigh : Fld Z h51 b51 "com/example/seenset/seenset/util/Cells$Phase" "straddleHigh" "J" (.long (0 : Int64)) := D51 (Or.inr (hw _ (List.mem_of_getElem? (i := 50) rfl))) (ty := .long) (by decide)
        refine own_go (g' := (mkF m 87 #[.val (.ref o0), .val (.long q1), .second, .val (.int p2), .val (.int cx)] [(.ref b51), (.int cx), (.ref b13)])) (st51) ?_
        refine own_go (g' := (mkF m 88 #[.val (.ref o0), .val (.long q1), .second, .val (.int p2), .val (.int cx)] [(.ref b51), (.ref b51), (.int cx), (.ref b13)])) (fun _ kgo => XS.dup X51.here hx rfl (hb hby d2_87) rfl rfl kgo) ?_
        refine own_go (g' := (mkF m 89 #[.val (.ref o0), .val (.long q1), .second, .val (.int p2), .val (.int cx)] [(.int p2), (.ref b51), (.ref b51), (.int cx), (.ref b13)])) (fun _ kgo => XS.iloadN X51.here hx rfl (hb hby d2_88) rfl kgo) ?_
        refine own_go (g' := (mkF m 91 #[.val (.ref o0), .val (.long q1), .second, .val (.int p2), .val (.int cx)] [(.int cx), (.int p2), (.ref b51), (.ref b51), (.int cx), (.ref b13)])) (fun _ kgo => XS.iload X51.here hx rfl (hb hby d2_89) rfl kgo) ?_
        obtain ⟨v52, T52, L52, hQ52, X52, st52⟩ := own_callI X51 hx hZ (y := (⟨"com/example/seenset/seenset/util/Cells$Phase", "<init>", "(II)V"⟩ : MethodName)) rfl hown (hw _ (List.mem_of_getElem? (i := 37) rfl)) (hw _ (List.mem_of_getElem? (i := 38) rfl)) (hw _ (List.mem_of_getElem? (i := 36) rfl)) (hw _ (List.mem_of_getElem? (i := 39) rfl)) ⟨by decide, by decide⟩ (a := b51) (argsL := [(.int p2), (.int cx)]) (phi l Z a0 hw b51 p2 cx h51 n0 Z51 ge_b51 A51 F51_lower F51_top F51_straddleLow F51_straddleFirst F51_straddleHigh hb1) e51 (g := (mkF m 91 #[.val (.ref o0), .val (.long q1), .second, .val (.int p2), .val (.int cx)] [(.int cx), (.int p2), (.ref b51), (.ref b51), (.int cx), (.ref b13)])) rfl (by rw [hml]; rfl) (rest := [(.ref b51), (.int cx), (.ref b13)]) (lenOf pd2_2 rfl) rfl (hb hby d2_91) (W := 3) (by show 2 * 0 + _ ≤ _; exact Nat.le_of_eq rfl) (by decide) (by decide) (by show _ + 0 ≤ 66; omega) (by show _ + 0 ≤ 507; omega)
        obtain ⟨rfl, Nq52, Kq52, q52_0⟩ := hQ52
        have N52 := Fr.app N_j Nq52
        have Z52 : n0 ≤ T52.heap.size := Nat.le_trans Z51 Kq52.1
        have KK52 : Keep h0 T52.heap [o0] := K51.trans Kq52 (allS (Or.inr sz_b51) all0)
        refine own_go (g' := (mkF m 94 #[.val (.ref o0), .val (.long q1), .second, .val (.int p2), .val (.int cx)] [(.ref b51), (.int cx), (.ref b13)])) (st52) ?_
        have fx53 : Arv Z T52.heap b13 k13 (.object "com/example/seenset/seenset/util/Cells$Phase") p2 pv .null := (Arv.keep (Arv.ext G8_j E51) Kq52 (ninS ne_b13_b51 nin0))
        obtain ⟨cl54, Ar54, qk54, sz54, nn54, Hs54, Gs54⟩ := id fx53
        have hin54 : ¬ (cx < 0 ∨ cl54.slots.size ≤ (cx).toNatClampNeg) := inb_of sz54 (own_ixj hcx.1 hc49)
        obtain ⟨T54, h54, X54, e54, W54, st54⟩ := stR X52 hx hZ rfl Ar54 (j := cx) hin54 rfl (Sto.ofV Ar54 qk54 O13 (Ins.self q52_0)) (g := (mkF m 94 #[.val (.ref o0), .val (.long q1), .second, .val (.int p2), .val (.int cx)] [(.ref b51), (.int cx), (.ref b13)])) rfl rfl (hb hby d2_94)
        have V54 : Arv Z h54 b13 k13 (.object "com/example/seenset/seenset/util/Cells$Phase") p2 (pv.set cx.toNatClampNeg (.ref b51)) .null := Arv.set Ar54 qk54 sz54 nn54 Hs54 Gs54 rfl W54 _ rfl (by rw [hpl]; rw [own_lti] at hc49; simp only [Int32.toNatClampNeg]; omega)
        have N54 := Fr.snoc X54 N52 ge_b13
        have Z54 : n0 ≤ h54.size := by rw [W54.size]; exact Z52
        have K54 : Keep h0 h54 [o0] := KK52.wr W54 (Or.inr sz_b13)
        refine own_go (g' := (mkF m 95 #[.val (.ref o0), .val (.long q1), .second, .val (.int p2), .val (.int cx)] [])) (st54) ?_
        refine own_go (g' := (mkF m 98 #[.val (.ref o0), .val (.long q1), .second, .val (.int p2), .val (.int (cx + (1 : Int32)))] [])) (fun _ kgo => XS.iinc X54.here hx rfl (hb hby d2_95) rfl (l' := #[.val (.ref o0), .val (.long q1), .second, .val (.int p2), .val (.int (cx + (1 : Int32)))]) rfl kgo) ?_
        refine own_go (g' := (mkF m 72 #[.val (.ref o0), .val (.long q1), .second, .val (.int p2), .val (.int (cx + (1 : Int32)))] [])) (fun _ kgo => XS.goto X54.here hx rfl (pc0 := 98) (pc' := 72) rfl (hb hby d2_98) (by decide) (by decide) kgo) ?_
        have fx55 : Exa Z h54 o0 "com/example/seenset/seenset/util/Cells" := (Exa.wr W54 (Exa.keep (Exa.ext E51 G0_j) Kq52))
        have fx56 : Fld Z h54 o0 "com/example/seenset/seenset/util/Cells" "bits" "I" (.int p2) := (Fld.other W54 (Fld.keep (Fld.ext E51 G1_j) Kq52 (ninS ne_o0_b51 nin0)) (Or.inl ne_o0_b13))
        have fx57 : Fld Z h54 o0 "com/example/seenset/seenset/util/Cells" "mask" "J" (.long (((1 : Int64) <<< (p2 &&& 0x3f).toInt64) - (1 : Int64))) := (Fld.other W54 (Fld.keep (Fld.ext E51 G2_j) Kq52 (ninS ne_o0_b51 nin0)) (Or.inl ne_o0_b13))
        have fx58 : Fld Z h54 o0 "com/example/seenset/seenset/util/Cells" "words" "[J" (.ref b8) := (Fld.other W54 (Fld.keep (Fld.ext E51 G3_j) Kq52 (ninS ne_o0_b51 nin0)) (Or.inl ne_o0_b13))
        have fx59 : Fld Z h54 o0 "com/example/seenset/seenset/util/Cells" "phases" "[Lcom/example/seenset/seenset/util/Cells$Phase;" (.ref b13) := (Fld.other W54 (Fld.keep (Fld.ext E51 G4_j) Kq52 (ninS ne_o0_b51 nin0)) (Or.inl ne_o0_b13))
        have fx60 : Fld Z h54 o0 "com/example/seenset/seenset/util/Cells" "phaseAfter" "[I" .null := (Fld.other W54 (Fld.keep (Fld.ext E51 G5_j) Kq52 (ninS ne_o0_b51 nin0)) (Or.inl ne_o0_b13))
        have fx61 : Fld Z h54 o0 "com/example/seenset/seenset/util/Cells" "step" "I" (.int (0 : Int32)) := (Fld.other W54 (Fld.keep (Fld.ext E51 G6_j) Kq52 (ninS ne_o0_b51 nin0)) (Or.inl ne_o0_b13))
        have fx62 : Arv Z h54 b8 k8 .long (((own_by q1 p2) / (8 : Int64)).toInt32) ((List.replicate ((own_by q1 p2 / (8 : Int64)).toInt32).toInt.toNat (0 : Int64)).map Value.long) (.long (0 : Int64)) := (Arv.other (Arv.keep (Arv.ext G7_j E51) Kq52 (ninS ne_b8_b51 nin0)) W54 ne_b8_b13)
        exact ih (kk + 1) _ _ (X54.mono (by show _ + 0 ≤ _; omega) (by show _ + 0 ≤ _; omega)) _ e54 N54 Z54 K54 _ _ fx55 fx56 fx57 fx58 fx59 fx60 fx61 fx62 V54 (by rw [own_next hc49]; rw [own_lti] at hc49; omega) (by rw [own_next hc49]; omega) (by rw [own_next hc49]; omega) (by rw [List.length_set]; exact hpl)
      ·
        refine own_go (g' := (mkF m 101 #[.val (.ref o0), .val (.long q1), .second, .val (.int p2), .val (.int cx)] [])) (fun _ kgo => XS.icmpYes X_j.here hx rfl (pc0 := 75) (pc' := 101) rfl (hb hby d2_75) rfl (flt hc49).2.1 (by decide) (by decide) kgo) ?_
        have X63 := X_j.mono (cells' := 65) (slots' := 443) (by omega) (by omega)
        exact JA _ _ X63 _ e_j N_j Z_j K_j cx G0_j G1_j G2_j G3_j G4_j G5_j G6_j G7_j
  have fx64 : Exa Z h18 o0 "com/example/seenset/seenset/util/Cells" := (Exa.wr W18 fx17)
  have fx65 : Fld Z h18 o0 "com/example/seenset/seenset/util/Cells" "bits" "I" (.int p2) := (Fld.other W18 (Fld.ext E13 (Fld.other W12 (Fld.ext E8 (Fld.other W6 fw3 (Or.inr (slot_ne (Or.inr (hw _ (List.mem_of_getElem? (i := 20) rfl))) (Or.inr (hw _ (List.mem_of_getElem? (i := 22) rfl))) (by decide) (t := .int) (t' := .long) (by decide) (by decide))))) (Or.inr (slot_ne (Or.inr (hw _ (List.mem_of_getElem? (i := 20) rfl))) (Or.inr (hw _ (List.mem_of_getElem? (i := 30) rfl))) (by decide) (t := .int) (t' := (.array .long)) (by decide) (by decide))))) (Or.inr (slot_ne (Or.inr (hw _ (List.mem_of_getElem? (i := 20) rfl))) (Or.inr (hw _ (List.mem_of_getElem? (i := 34) rfl))) (by decide) (t := .int) (t' := (.array (.object "com/example/seenset/seenset/util/Cells$Phase"))) (by decide) (by decide))))
  have fx66 : Fld Z h18 o0 "com/example/seenset/seenset/util/Cells" "mask" "J" (.long (((1 : Int64) <<< (p2 &&& 0x3f).toInt64) - (1 : Int64))) := (Fld.other W18 (Fld.ext E13 (Fld.other W12 (Fld.ext E8 fw6) (Or.inr (slot_ne (Or.inr (hw _ (List.mem_of_getElem? (i := 22) rfl))) (Or.inr (hw _ (List.mem_of_getElem? (i := 30) rfl))) (by decide) (t := .long) (t' := (.array .long)) (by decide) (by decide))))) (Or.inr (slot_ne (Or.inr (hw _ (List.mem_of_getElem? (i := 22) rfl))) (Or.inr (hw _ (List.mem_of_getElem? (i := 34) rfl))) (by decide) (t := .long) (t' := (.array (.object "com/example/seenset/seenset/util/Cells$Phase"))) (by decide) (by decide))))
  have fx67 : Fld Z h18 o0 "com/example/seenset/seenset/util/Cells" "words" "[J" (.ref b8) := (Fld.other W18 (Fld.ext E13 fw12) (Or.inr (slot_ne (Or.inr (hw _ (List.mem_of_getElem? (i := 30) rfl))) (Or.inr (hw _ (List.mem_of_getElem? (i := 34) rfl))) (by decide) (t := (.array .long)) (t' := (.array (.object "com/example/seenset/seenset/util/Cells$Phase"))) (by decide) (by decide))))
  have fx68 : Fld Z h18 o0 "com/example/seenset/seenset/util/Cells" "phaseAfter" "[I" .null := (Fld.other W18 (Fld.ext E13 (Fld.other W12 (Fld.ext E8 (Fld.other W6 (Fld.other W3 P5 (Or.inr (slot_ne (Or.inr (hw _ (List.mem_of_getElem? (i := 54) rfl))) (Or.inr (hw _ (List.mem_of_getElem? (i := 20) rfl))) (by decide) (t := (.array .int)) (t' := .int) (by decide) (by decide)))) (Or.inr (slot_ne (Or.inr (hw _ (List.mem_of_getElem? (i := 54) rfl))) (Or.inr (hw _ (List.mem_of_getElem? (i := 22) rfl))) (by decide) (t := (.array .int)) (t' := .long) (by decide) (by decide))))) (Or.inr (slot_ne (Or.inr (hw _ (List.mem_of_getElem? (i := 54) rfl))) (Or.inr (hw _ (List.mem_of_getElem? (i := 30) rfl))) (by decide) (t := (.array .int)) (t' := (.array .long)) (by decide) (by decide))))) (Or.inr (slot_ne (Or.inr (hw _ (List.mem_of_getElem? (i := 54) rfl))) (Or.inr (hw _ (List.mem_of_getElem? (i := 34) rfl))) (by decide) (t := (.array .int)) (t' := (.array (.object "com/example/seenset/seenset/util/Cells$Phase"))) (by decide) (by decide))))
  have fx69 : Fld Z h18 o0 "com/example/seenset/seenset/util/Cells" "step" "I" (.int (0 : Int32)) := (Fld.other W18 (Fld.ext E13 (Fld.other W12 (Fld.ext E8 (Fld.other W6 (Fld.other W3 P6 (Or.inr (slot_ne (Or.inr (hw _ (List.mem_of_getElem? (i := 56) rfl))) (Or.inr (hw _ (List.mem_of_getElem? (i := 20) rfl))) (by decide) (t := .int) (t' := .int) (by decide) (by decide)))) (Or.inr (slot_ne (Or.inr (hw _ (List.mem_of_getElem? (i := 56) rfl))) (Or.inr (hw _ (List.mem_of_getElem? (i := 22) rfl))) (by decide) (t := .int) (t' := .long) (by decide) (by decide))))) (Or.inr (slot_ne (Or.inr (hw _ (List.mem_of_getElem? (i := 56) rfl))) (Or.inr (hw _ (List.mem_of_getElem? (i := 30) rfl))) (by decide) (t := .int) (t' := (.array .long)) (by decide) (by decide))))) (Or.inr (slot_ne (Or.inr (hw _ (List.mem_of_getElem? (i := 56) rfl))) (Or.inr (hw _ (List.mem_of_getElem? (i := 34) rfl))) (by decide) (t := .int) (t' := (.array (.object "com/example/seenset/seenset/util/Cells$Phase"))) (by decide) (by decide))))
  have fx70 : Arv Z h18 b8 k8 .long (((own_by q1 p2) / (8 : Int64)).toInt32) ((List.replicate ((own_by q1 p2 / (8 : Int64)).toInt32).toInt.toNat (0 : Int64)).map Value.long) (.long (0 : Int64)) := (Arv.other (Arv.ext fx15 E13) W18 (Ne.symm ne_o0_b8))
  have fx71 : Arv Z h18 b13 k13 (.object "com/example/seenset/seenset/util/Cells$Phase") p2 (List.replicate p2.toInt.toNat Value.null) .null := (Arv.other V13 W18 (Ne.symm ne_o0_b13))
  exact JL p2.toInt.toNat 0 _ _ (X18.mono (by simp only [Nat.mul_zero, Nat.add_zero]; omega) (by simp only [Nat.mul_zero, Nat.add_zero]; omega)) _ e18 N18 Z18 K18 (0 : Int32) _ fx64 fx65 fx66 fx67 fw18 fx68 fx69 fx70 fx71 (by simp only [Int32.reduceToInt]; omega) rfl (by simp only [Int32.reduceToInt]; omega) (List.length_replicate ..)
theorem own_ofN : ∀ k, k < 5000 → (Int32.ofNat k).toInt = k := fun k h => by
  rw [Int32.toInt_ofNat_of_lt (by omega)]
theorem own_cl {k : Nat} (h : k < 5000) : (Int32.ofNat k).toNatClampNeg = k := by simp only [Int32.toNatClampNeg, own_ofN k h]; omega
theorem own_bt {q : Int64} {b : Int32} {P : Nat} (hb : 1 ≤ b.toInt ∧ b.toInt ≤ 63) (hP : (P : Int) = q.toInt * b.toInt) (h : P < 5000) : (q * b.toInt64).toInt = P := by
  have m1 := c_lmul q b.toInt64
  rw [c_i2l, ← hP] at m1
  have r1 := rng64 (q * b.toInt64)
  omega
theorem own_wdE {x : Int64} {P : Nat} (hx : x.toInt = P) (h : P < 5000) : ((x.toUInt64 >>> ((6 : Int32) &&& 0x3f).toInt64.toUInt64).toInt64).toInt32 = Int32.ofNat (P / 64) := by
  have h1 := c_lushr x (6 : Int32) 6 (by decide) (by decide)
  rw [← Int32.toInt_inj, own_ofN _ (by omega)]
  have h2 := c_l2i ((x.toUInt64 >>> ((6 : Int32) &&& 0x3f).toInt64.toUInt64).toInt64)
  have h3 := rng32 ((x.toUInt64 >>> ((6 : Int32) &&& 0x3f).toInt64.toUInt64).toInt64).toInt32
  rw [h1, hx] at h2
  simp only [Nat.reducePow, Int.cast_ofNat_Int] at h2
  omega
theorem own_shE {x : Int64} {P : Nat} (hx : x.toInt = P) (h : P < 5000) : (x &&& (63 : Int64)).toInt32 = Int32.ofNat (P % 64) := by
  have h1 := c_maskL x (63 : Int64) 6 (by decide) (by decide)
  rw [← Int32.toInt_inj, own_ofN _ (by omega)]
  have h2 := c_l2i (x &&& (63 : Int64))
  have h3 := rng32 (x &&& (63 : Int64)).toInt32
  rw [h1, hx] at h2
  simp only [Nat.reducePow, Int.cast_ofNat_Int] at h2
  omega
theorem own_caE {k : Nat} (h : k < 64) : (64 : Int32) - Int32.ofNat k = Int32.ofNat (64 - k) := by
  rw [← Int32.toInt_inj, own_ofN _ (by omega)]
  have h2 := c_isub (64 : Int32) (Int32.ofNat k)
  have h3 := rng32 ((64 : Int32) - Int32.ofNat k)
  rw [own_ofN k (by omega)] at h2
  simp only [Int32.reduceToInt] at h2
  omega
theorem own_j1E {j : Nat} (h : j < 100) : Int32.ofNat j + (1 : Int32) = Int32.ofNat (j + 1) := by
  rw [← Int32.toInt_inj, own_ofN _ (by omega)]
  have h2 := c_iadd (Int32.ofNat j) (1 : Int32)
  have h3 := rng32 (Int32.ofNat j + (1 : Int32))
  rw [own_ofN j (by omega)] at h2
  simp only [Int32.reduceToInt] at h2
  omega
theorem own_strad {b : Int32} {k : Nat} (hb : 1 ≤ b.toInt ∧ b.toInt ≤ 63) (hk : k < 64) : ((64 : Int32) - b) < Int32.ofNat k ↔ 64 < k + b.toInt.toNat := by
  rw [own_lti, own_ofN k (by omega)]
  have h2 := c_isub (64 : Int32) b
  have h3 := rng32 ((64 : Int32) - b)
  simp only [Int32.reduceToInt] at h2
  omega
theorem own_jin {j : Nat} {n : Int32} (h : j < 100) (hn : (j : Int) < n.toInt) : ¬ Int32.ofNat j < 0 ∧ Int32.ofNat j < n := by
  rw [own_lti, own_lti, own_ofN j (by omega)]; simp only [Int32.reduceToInt]; omega
theorem own_mapD (ws : List Int64) {j : Nat} (h : j < 100) : (ws.map Value.long).getD (Int32.ofNat j).toNatClampNeg (.long 0) = .long (ws.getD j 0) := by
  rw [own_cl (by omega)]; simp only [List.getD_eq_getElem?_getD, List.getElem?_map]; cases ws[j]? <;> rfl
def own_setP (ws : List Int64) (m : Int64) (b P : Nat) (v : Int32) : List Int64 := own_set ws m b (P / 64) (Int32.ofNat (P % 64)) (Int32.ofNat (64 - P % 64)) v (P % 64)
def own_getP (ws : List Int64) (m : Int64) (b P : Nat) : Int32 := own_get ws m b (P / 64) (Int32.ofNat (P % 64)) (Int32.ofNat (64 - P % 64)) (P % 64)
theorem own_map_set (ws : List Int64) (j : Nat) (x : Int64) : ((ws.set j x).map Value.long) = (ws.map Value.long).set j (.long x) := List.map_set
def own_mf (b : Int32) : Int32 := if b < (31 : Int32) then (((1 : Int32) <<< (b &&& 31)) - (1 : Int32)) else (2147483647 : Int32)
theorem own_mf64 : ∀ k, k < 64 → 1 ≤ k → (own_mf (Int32.ofNat k)).toBitVec.toNat = 2 ^ (min k 31) - 1 := by decide +kernel
theorem own_mfv {b : Int32} (hb : 1 ≤ b.toInt ∧ b.toInt ≤ 63) (x : Int32) : 0 ≤ (x &&& own_mf b).toInt ∧ (x &&& own_mf b).toInt < ((2 ^ b.toInt.toNat : Nat) : Int) := by
  obtain ⟨k, hk⟩ : ∃ k : Nat, b.toInt = k := ⟨b.toInt.toNat, by omega⟩
  have h1 := own_mf64 k (by omega) (by omega)
  rw [← own_k hk (by omega)] at h1
  have h2 := c_mask x (own_mf b) (min k 31) (by omega) h1
  rw [h2, hk, Int.toNat_natCast]
  have h3 : 0 < 2 ^ (min k 31) := Nat.pow_pos (by decide)
  have h4 : 2 ^ (min k 31) ≤ 2 ^ k := Nat.pow_le_pow_right (by decide) (by omega)
  have h5 := Int.emod_lt_of_pos x.toInt (show (0 : Int) < ((2 ^ (min k 31) : Nat) : Int) by omega)
  have h6 := Int.emod_nonneg x.toInt (show ((2 ^ (min k 31) : Nat) : Int) ≠ 0 by omega)
  omega
theorem own_mk64 : ∀ k, k < 64 → own_n (((1 : Int64) <<< (Int32.ofNat k &&& 0x3f).toInt64) - (1 : Int64)) = 2 ^ k - 1 := by decide +kernel
theorem own_mkM {b : Int32} (hb : 1 ≤ b.toInt ∧ b.toInt ≤ 63) : own_M (((1 : Int64) <<< (b &&& 0x3f).toInt64) - (1 : Int64)) b.toInt.toNat := by
  obtain ⟨k, hk⟩ : ∃ k : Nat, b.toInt = k := ⟨b.toInt.toNat, by omega⟩
  have h1 := own_mk64 k (by omega)
  rw [← own_k hk (by omega)] at h1
  intro r
  unfold own_t
  rw [h1, hk, Int.toNat_natCast, Nat.testBit_two_pow_sub_one]
theorem own_setB {ws : List Int64} {m : Int64} {b P t : Nat} {v : Int32} (hm : own_M m b) (hb : 1 ≤ b ∧ b ≤ 63) (h0 : 0 ≤ v.toInt ∧ v.toInt < ((2 ^ b : Nat) : Int)) (hl : P + b ≤ 64 * ws.length) : own_B (own_setP ws m b P v) t = if P ≤ t ∧ t < P + b then own_vt v (t - P) else own_B ws t :=
  own_set_B hm hb.2 (by omega) (Nat.mod_lt _ (by omega)) (own_ofN _ (by omega)) (fun _ => own_ofN _ (by omega)) h0.1 h0.2 hl hb.1
theorem own_getB {ws : List Int64} {m : Int64} {b P : Nat} {v : Int32} (hm : own_M m b) (hb : 1 ≤ b ∧ b ≤ 63) (h0 : 0 ≤ v.toInt ∧ v.toInt < ((2 ^ b : Nat) : Int)) (hB : ∀ r, r < b → own_B ws (P + r) = own_vt v r) : own_getP ws m b P = v :=
  own_get_B (P := P) hm hb.2 (by omega) (Nat.mod_lt _ (by omega)) (own_ofN _ (by omega)) (fun _ => own_ofN _ (by omega)) h0.1 h0.2 hB
theorem own_setL {ws : List Int64} {m : Int64} {b P : Nat} {v : Int32} : (own_setP ws m b P v).length = ws.length := own_set_len
theorem own_laws {ws : List Int64} {m : Int64} {b P : Nat} {va vc w0 w : Int32} (hm : own_M m b) (hb : 1 ≤ b ∧ b ≤ 63) (ha : 0 ≤ va.toInt ∧ va.toInt < ((2 ^ b : Nat) : Int)) (hc : 0 ≤ vc.toInt ∧ vc.toInt < ((2 ^ b : Nat) : Int)) (h0 : 0 ≤ w0.toInt ∧ w0.toInt < ((2 ^ b : Nat) : Int)) (hw : 0 ≤ w.toInt ∧ w.toInt < ((2 ^ b : Nat) : Int)) (hl : P + b + b ≤ 64 * ws.length) (hP : b ≤ P) :
    own_getP (own_setP (own_setP (own_setP (own_setP ws m b (P - b) va) m b (P + b) vc) m b P w0) m b P w) m b (P - b) = va ∧ own_getP (own_setP (own_setP (own_setP (own_setP ws m b (P - b) va) m b (P + b) vc) m b P w0) m b P w) m b P = w ∧ own_getP (own_setP (own_setP (own_setP (own_setP ws m b (P - b) va) m b (P + b) vc) m b P w0) m b P w) m b (P + b) = vc := by
  have B : ∀ t, own_B (own_setP (own_setP (own_setP (own_setP ws m b (P - b) va) m b (P + b) vc) m b P w0) m b P w) t = if P ≤ t ∧ t < P + b then own_vt w (t - P) else if P ≤ t ∧ t < P + b then own_vt w0 (t - P) else if P + b ≤ t ∧ t < P + b + b then own_vt vc (t - (P + b)) else if P - b ≤ t ∧ t < P - b + b then own_vt va (t - (P - b)) else own_B ws t := fun t => by
    rw [own_setB hm hb hw (by simp only [own_setL]; omega), own_setB hm hb h0 (by simp only [own_setL]; omega), own_setB hm hb hc (by simp only [own_setL]; omega), own_setB hm hb ha (by omega)]
  refine ⟨own_getB hm hb ha fun r hr => ?_, own_getB hm hb hw fun r hr => ?_, own_getB hm hb hc fun r hr => ?_⟩
  · rw [B, if_neg (by omega), if_neg (by omega), if_neg (by omega), if_pos (by omega)]; congr 1; omega
  · rw [B, if_pos (by omega)]; congr 1; omega
  · rw [B, if_neg (by omega), if_neg (by omega), if_pos (by omega)]; congr 1; omega
theorem d1_0 : decode method_2_code 0 = .ok (.iload_n 0, 1) := by decide +kernel
theorem d1_1 : decode method_2_code 1 = .ok (.bipush 31, 2) := by decide +kernel
theorem d1_3 : decode method_2_code 3 = .ok (.if_icmp .lt 8, 3) := by decide +kernel
theorem d1_6 : decode method_2_code 6 = .ok (.ldc 9, 2) := by decide +kernel
theorem d1_8 : decode method_2_code 8 = .ok (.goto 8, 3) := by decide +kernel
theorem d1_11 : decode method_2_code 11 = .ok (.iconst 1, 1) := by decide +kernel
theorem d1_12 : decode method_2_code 12 = .ok (.iload_n 0, 1) := by decide +kernel
theorem d1_13 : decode method_2_code 13 = .ok (.ishl, 1) := by decide +kernel
theorem d1_14 : decode method_2_code 14 = .ok (.iconst 1, 1) := by decide +kernel
theorem d1_15 : decode method_2_code 15 = .ok (.isub, 1) := by decide +kernel
theorem d1_16 : decode method_2_code 16 = .ok (.ireturn, 1) := by decide +kernel
theorem pn_rm1 : plainName "com/example/seenset/seenset/util/CellsSetPinLaw" = true := by first | (simp [plainName, overriddenIn]; done) | decide +kernel
theorem ef_rm1 (m : MethodId) (p0 : Int32) : entryFrame m #[(.int p0)] 1 = mkF m 0 #[.val (.int p0)] [] := by first | (simp [entryFrame, mkF, argsToLocals, Value.category]; done) | rfl
set_option maxRecDepth 65536 in
set_option maxHeartbeats 40000000 in
theorem rm1 (l : Launch) (Z : State) (a0 : Array Value) (hw : ∀ d ∈ tables_1, d.before a0 Z = true) (p0 : Int32)  (h0 : Heap) :
    own_Met l Z (⟨"com/example/seenset/seenset/util/CellsSetPinLaw", "maskFor", "(I)I"⟩ : MethodName) method_2_code 1 (some .int) [] ({ frames := 0, cells := 0, slots := 0, locals := 0 } : Room) #[(.int p0)] h0 0 0 (fun v h L => v = some (.int (own_mf p0)) ∧ h = h0 ∧ L = []) := by
  refine own_met (plainFor_of_name pn_rm1) ?_
  intro p e s m below meth c s₁ Bd hml0 hZ X0 e0
  have hx := Bd.exec
  have hby := Bd.bytes
  have hml : c.maxLocals = 1 := hml0
  have hown : s.vm.findClass "com/example/seenset/seenset/util/CellsSetPinLaw" = some m.cls := findClass_of_methodNamed Bd.named
  have hnm := (name_of_methodNamed Bd.named Bd.method).1
  refine own_cast (ef_rm1 m p0) ?_
  generalize hQQ : (fun (v : Option Value) (h : Heap) (L : List Loc) => v = some (.int (own_mf p0)) ∧ h = h0 ∧ L = []) = QQ
  refine own_go (g' := (mkF m 1 #[.val (.int p0)] [(.int p0)])) (fun _ kgo => XS.iloadN X0.here hx rfl (hb hby d1_0) rfl kgo) ?_
  refine own_go (g' := (mkF m 3 #[.val (.int p0)] [(.int (31 : Int32)), (.int p0)])) (fun _ kgo => XS.bipush X0.here hx rfl (hb hby d1_1) kgo) ?_
  by_cases hc1 : p0 < (31 : Int32)
  ·
    refine own_go (g' := (mkF m 11 #[.val (.int p0)] [])) (fun _ kgo => XS.icmpYes X0.here hx rfl (pc0 := 3) (pc' := 11) rfl (hb hby d1_3) rfl (tlt hc1).1 (by decide) (by decide) kgo) ?_
    refine own_go (g' := (mkF m 12 #[.val (.int p0)] [(.int (1 : Int32))])) (fun _ kgo => XS.iconst X0.here hx rfl (hb hby d1_11) kgo) ?_
    refine own_go (g' := (mkF m 13 #[.val (.int p0)] [(.int p0), (.int (1 : Int32))])) (fun _ kgo => XS.iloadN X0.here hx rfl (hb hby d1_12) rfl kgo) ?_
    refine own_go (g' := (mkF m 14 #[.val (.int p0)] [(.int ((1 : Int32) <<< (p0 &&& 31)))])) (fun _ kgo => XS.ishl X0.here hx rfl (hb hby d1_13) rfl kgo) ?_
    refine own_go (g' := (mkF m 15 #[.val (.int p0)] [(.int (1 : Int32)), (.int ((1 : Int32) <<< (p0 &&& 31)))])) (fun _ kgo => XS.iconst X0.here hx rfl (hb hby d1_14) kgo) ?_
    refine own_go (g' := (mkF m 16 #[.val (.int p0)] [(.int (((1 : Int32) <<< (p0 &&& 31)) - (1 : Int32)))])) (fun _ kgo => XS.isub X0.here hx rfl (hb hby d1_15) rfl kgo) ?_
    refine own_retI X0 hx Bd.returns Bd.notSynchronized (hb hby d1_16) (by decide) (by decide) ?_
    show QQ _ s₁.heap _
    rw [e0]
    rw [← hQQ]
    exact ⟨(by rw [show own_mf p0 = (((1 : Int32) <<< (p0 &&& 31)) - (1 : Int32)) from if_pos hc1]), rfl, rfl⟩
  ·
    refine own_go (g' := (mkF m 6 #[.val (.int p0)] [])) (fun _ kgo => XS.icmpNo X0.here hx rfl (hb hby d1_3) rfl (flt hc1).1 kgo) ?_
    refine own_go (g' := (mkF m 8 #[.val (.int p0)] [(.int (2147483647 : Int32))])) (X0.ldcInt hx hown (mvT hZ (hw _ (List.mem_of_getElem? (i := 0) rfl))) (g := (mkF m 6 #[.val (.int p0)] [])) rfl (hb hby d1_6)) ?_
    refine own_go (g' := (mkF m 16 #[.val (.int p0)] [(.int (2147483647 : Int32))])) (fun _ kgo => XS.goto X0.here hx rfl (pc0 := 8) (pc' := 16) rfl (hb hby d1_8) (by decide) (by decide) kgo) ?_
    refine own_retI X0 hx Bd.returns Bd.notSynchronized (hb hby d1_16) (by decide) (by decide) ?_
    show QQ _ s₁.heap _
    rw [e0]
    rw [← hQQ]
    exact ⟨(by rw [show own_mf p0 = (2147483647 : Int32) from if_neg hc1]), rfl, rfl⟩
theorem d7_0 : decode prog_56_method_5_code 0 = .ok (.lload_n 1, 1) := by decide +kernel
theorem d7_1 : decode prog_56_method_5_code 1 = .ok (.aload_n 0, 1) := by decide +kernel
theorem d7_2 : decode prog_56_method_5_code 2 = .ok (.getfield 24, 3) := by decide +kernel
theorem d7_5 : decode prog_56_method_5_code 5 = .ok (.i2l, 1) := by decide +kernel
theorem d7_6 : decode prog_56_method_5_code 6 = .ok (.lmul, 1) := by decide +kernel
theorem d7_7 : decode prog_56_method_5_code 7 = .ok (.lstore 4, 2) := by decide +kernel
theorem d7_9 : decode prog_56_method_5_code 9 = .ok (.lload 4, 2) := by decide +kernel
theorem d7_11 : decode prog_56_method_5_code 11 = .ok (.bipush 6, 2) := by decide +kernel
theorem d7_13 : decode prog_56_method_5_code 13 = .ok (.lushr, 1) := by decide +kernel
theorem d7_14 : decode prog_56_method_5_code 14 = .ok (.l2i, 1) := by decide +kernel
theorem d7_15 : decode prog_56_method_5_code 15 = .ok (.istore 6, 2) := by decide +kernel
theorem d7_17 : decode prog_56_method_5_code 17 = .ok (.lload 4, 2) := by decide +kernel
theorem d7_19 : decode prog_56_method_5_code 19 = .ok (.ldc2_w 64, 3) := by decide +kernel
theorem d7_22 : decode prog_56_method_5_code 22 = .ok (.land, 1) := by decide +kernel
theorem d7_23 : decode prog_56_method_5_code 23 = .ok (.l2i, 1) := by decide +kernel
theorem d7_24 : decode prog_56_method_5_code 24 = .ok (.istore 7, 2) := by decide +kernel
theorem d7_26 : decode prog_56_method_5_code 26 = .ok (.aload_n 0, 1) := by decide +kernel
theorem d7_27 : decode prog_56_method_5_code 27 = .ok (.getfield 40, 3) := by decide +kernel
theorem d7_30 : decode prog_56_method_5_code 30 = .ok (.iload 6, 2) := by decide +kernel
theorem d7_32 : decode prog_56_method_5_code 32 = .ok (.aload_n 0, 1) := by decide +kernel
theorem d7_33 : decode prog_56_method_5_code 33 = .ok (.getfield 40, 3) := by decide +kernel
theorem d7_36 : decode prog_56_method_5_code 36 = .ok (.iload 6, 2) := by decide +kernel
theorem d7_38 : decode prog_56_method_5_code 38 = .ok (.laload, 1) := by decide +kernel
theorem d7_39 : decode prog_56_method_5_code 39 = .ok (.aload_n 0, 1) := by decide +kernel
theorem d7_40 : decode prog_56_method_5_code 40 = .ok (.getfield 28, 3) := by decide +kernel
theorem d7_43 : decode prog_56_method_5_code 43 = .ok (.iload 7, 2) := by decide +kernel
theorem d7_45 : decode prog_56_method_5_code 45 = .ok (.lshl, 1) := by decide +kernel
theorem d7_46 : decode prog_56_method_5_code 46 = .ok (.ldc2_w 66, 3) := by decide +kernel
theorem d7_49 : decode prog_56_method_5_code 49 = .ok (.lxor, 1) := by decide +kernel
theorem d7_50 : decode prog_56_method_5_code 50 = .ok (.land, 1) := by decide +kernel
theorem d7_51 : decode prog_56_method_5_code 51 = .ok (.iload_n 3, 1) := by decide +kernel
theorem d7_52 : decode prog_56_method_5_code 52 = .ok (.i2l, 1) := by decide +kernel
theorem d7_53 : decode prog_56_method_5_code 53 = .ok (.iload 7, 2) := by decide +kernel
theorem d7_55 : decode prog_56_method_5_code 55 = .ok (.lshl, 1) := by decide +kernel
theorem d7_56 : decode prog_56_method_5_code 56 = .ok (.lor, 1) := by decide +kernel
theorem d7_57 : decode prog_56_method_5_code 57 = .ok (.lastore, 1) := by decide +kernel
theorem d7_58 : decode prog_56_method_5_code 58 = .ok (.iload 7, 2) := by decide +kernel
theorem d7_60 : decode prog_56_method_5_code 60 = .ok (.bipush 64, 2) := by decide +kernel
theorem d7_62 : decode prog_56_method_5_code 62 = .ok (.aload_n 0, 1) := by decide +kernel
theorem d7_63 : decode prog_56_method_5_code 63 = .ok (.getfield 24, 3) := by decide +kernel
theorem d7_66 : decode prog_56_method_5_code 66 = .ok (.isub, 1) := by decide +kernel
theorem d7_67 : decode prog_56_method_5_code 67 = .ok (.if_icmp .le 46, 3) := by decide +kernel
theorem d7_70 : decode prog_56_method_5_code 70 = .ok (.bipush 64, 2) := by decide +kernel
theorem d7_72 : decode prog_56_method_5_code 72 = .ok (.iload 7, 2) := by decide +kernel
theorem d7_74 : decode prog_56_method_5_code 74 = .ok (.isub, 1) := by decide +kernel
theorem d7_75 : decode prog_56_method_5_code 75 = .ok (.istore 8, 2) := by decide +kernel
theorem d7_77 : decode prog_56_method_5_code 77 = .ok (.aload_n 0, 1) := by decide +kernel
theorem d7_78 : decode prog_56_method_5_code 78 = .ok (.getfield 40, 3) := by decide +kernel
theorem d7_81 : decode prog_56_method_5_code 81 = .ok (.iload 6, 2) := by decide +kernel
theorem d7_83 : decode prog_56_method_5_code 83 = .ok (.iconst 1, 1) := by decide +kernel
theorem d7_84 : decode prog_56_method_5_code 84 = .ok (.iadd, 1) := by decide +kernel
theorem d7_85 : decode prog_56_method_5_code 85 = .ok (.aload_n 0, 1) := by decide +kernel
theorem d7_86 : decode prog_56_method_5_code 86 = .ok (.getfield 40, 3) := by decide +kernel
theorem d7_89 : decode prog_56_method_5_code 89 = .ok (.iload 6, 2) := by decide +kernel
theorem d7_91 : decode prog_56_method_5_code 91 = .ok (.iconst 1, 1) := by decide +kernel
theorem d7_92 : decode prog_56_method_5_code 92 = .ok (.iadd, 1) := by decide +kernel
theorem d7_93 : decode prog_56_method_5_code 93 = .ok (.laload, 1) := by decide +kernel
theorem d7_94 : decode prog_56_method_5_code 94 = .ok (.aload_n 0, 1) := by decide +kernel
theorem d7_95 : decode prog_56_method_5_code 95 = .ok (.getfield 28, 3) := by decide +kernel
theorem d7_98 : decode prog_56_method_5_code 98 = .ok (.iload 8, 2) := by decide +kernel
theorem d7_100 : decode prog_56_method_5_code 100 = .ok (.lushr, 1) := by decide +kernel
theorem d7_101 : decode prog_56_method_5_code 101 = .ok (.ldc2_w 66, 3) := by decide +kernel
theorem d7_104 : decode prog_56_method_5_code 104 = .ok (.lxor, 1) := by decide +kernel
theorem d7_105 : decode prog_56_method_5_code 105 = .ok (.land, 1) := by decide +kernel
theorem d7_106 : decode prog_56_method_5_code 106 = .ok (.iload_n 3, 1) := by decide +kernel
theorem d7_107 : decode prog_56_method_5_code 107 = .ok (.i2l, 1) := by decide +kernel
theorem d7_108 : decode prog_56_method_5_code 108 = .ok (.iload 8, 2) := by decide +kernel
theorem d7_110 : decode prog_56_method_5_code 110 = .ok (.lushr, 1) := by decide +kernel
theorem d7_111 : decode prog_56_method_5_code 111 = .ok (.lor, 1) := by decide +kernel
theorem d7_112 : decode prog_56_method_5_code 112 = .ok (.lastore, 1) := by decide +kernel
theorem d7_113 : decode prog_56_method_5_code 113 = .ok (.return_, 1) := by decide +kernel
theorem pn_sts : plainName "com/example/seenset/seenset/util/Cells" = true := by first | (simp [plainName, overriddenIn]; done) | decide +kernel
theorem ef_sts (m : MethodId) (o0 : Addr) (q1 : Int64) (p2 : Int32) : entryFrame m #[(.ref o0), (.long q1), (.int p2)] 9 = mkF m 0 #[.val (.ref o0), .val (.long q1), .second, .val (.int p2), .unset, .unset, .unset, .unset, .unset] [] := by first | (simp [entryFrame, mkF, argsToLocals, Value.category]; done) | rfl
set_option maxRecDepth 65536 in
set_option maxHeartbeats 40000000 in
theorem sts (l : Launch) (Z : State) (a0 : Array Value) (hw : ∀ d ∈ tables_1, d.before a0 Z = true) (o0 : Addr) (q1 : Int64) (p2 : Int32) (bb : Int32) (mm : Int64) (wa : Addr) (kw : ClassId) (nw : Int32) (ws : List Int64) (P : Nat) (h0 : Heap) (n0 : Nat) (Z0 : n0 ≤ h0.size) (g_wa : n0 ≤ wa) (P0 : Exa Z h0 o0 "com/example/seenset/seenset/util/Cells") (P1 : Fld Z h0 o0 "com/example/seenset/seenset/util/Cells" "bits" "I" (.int bb)) (P2 : Fld Z h0 o0 "com/example/seenset/seenset/util/Cells" "mask" "J" (.long mm)) (P3 : Fld Z h0 o0 "com/example/seenset/seenset/util/Cells" "words" "[J" (.ref wa)) (P4 : Arv Z h0 wa kw .long nw (ws.map Value.long) (.long (0 : Int64))) (hb1 : 1 ≤ bb.toInt ∧ bb.toInt ≤ 63) (hP : (((P : Nat) : Int) : Int) = q1.toInt * bb.toInt) (hl : P + bb.toInt.toNat ≤ 64 * ws.length ∧ ws.length ≤ 65) (hn : nw.toInt = (ws.length : Int)) (hne : o0 ≠ wa) :
    own_Met l Z (⟨"com/example/seenset/seenset/util/Cells", "set", "(JI)V"⟩ : MethodName) prog_56_method_5_code 9 none [] ({ frames := 0, cells := 0, slots := 0, locals := 0 } : Room) #[(.ref o0), (.long q1), (.int p2)] h0 0 0 (fun v h L => v = none ∧ Fr n0 L ∧ Keep h0 h [wa] ∧ Arv Z h wa kw .long nw ((own_setP ws mm bb.toInt.toNat P p2).map Value.long) (.long (0 : Int64))) := by
  refine own_met (plainFor_of_name pn_sts) ?_
  intro p e s m below meth c s₁ Bd hml0 hZ X0 e0
  have hx := Bd.exec
  have hby := Bd.bytes
  have hml : c.maxLocals = 9 := hml0
  have hown : s.vm.findClass "com/example/seenset/seenset/util/Cells" = some m.cls := findClass_of_methodNamed Bd.named
  have hnm := (name_of_methodNamed Bd.named Bd.method).1
  refine own_cast (ef_sts m o0 q1 p2) ?_
  generalize hQQ : (fun (v : Option Value) (h : Heap) (L : List Loc) => v = none ∧ Fr n0 L ∧ Keep h0 h [wa] ∧ Arv Z h wa kw .long nw ((own_setP ws mm bb.toInt.toNat P p2).map Value.long) (.long (0 : Int64))) = QQ
  have N0 := Fr.nil n0
  have K0 := Keep.refl h0 [wa]
  have hP5 : P < 5000 := by omega
  have hbt := own_bt hb1 hP hP5
  have hk64 : P % 64 < 64 := Nat.mod_lt _ (by omega)
  have hj : P / 64 < 100 := by omega
  refine own_go (g' := (mkF m 1 #[.val (.ref o0), .val (.long q1), .second, .val (.int p2), .unset, .unset, .unset, .unset, .unset] [(.long q1)])) (fun _ kgo => XS.lloadN X0.here hx rfl (hb hby d7_0) rfl kgo) ?_
  refine own_go (g' := (mkF m 2 #[.val (.ref o0), .val (.long q1), .second, .val (.int p2), .unset, .unset, .unset, .unset, .unset] [(.ref o0), (.long q1)])) (fun _ kgo => XS.aloadN X0.here hx rfl (hb hby d7_1) rfl rfl kgo) ?_
  obtain ⟨T1, X1, e1, st1⟩ := getF X0 hx hZ hown (host := "") (Or.inl (hw _ (List.mem_of_getElem? (i := 19) rfl))) Via.refl e0 P1 (g := (mkF m 2 #[.val (.ref o0), .val (.long q1), .second, .val (.int p2), .unset, .unset, .unset, .unset, .unset] [(.ref o0), (.long q1)])) rfl rfl (hb hby d7_2)
  refine own_go (g' := (mkF m 5 #[.val (.ref o0), .val (.long q1), .second, .val (.int p2), .unset, .unset, .unset, .unset, .unset] [(.int bb), (.long q1)])) (st1) ?_
  refine own_go (g' := (mkF m 6 #[.val (.ref o0), .val (.long q1), .second, .val (.int p2), .unset, .unset, .unset, .unset, .unset] [(.long (bb.toInt64)), (.long q1)])) (fun _ kgo => XS.i2l X1.here hx rfl (hb hby d7_5) rfl kgo) ?_
  refine own_go (g' := (mkF m 7 #[.val (.ref o0), .val (.long q1), .second, .val (.int p2), .unset, .unset, .unset, .unset, .unset] [(.long (q1 * (bb.toInt64)))])) (fun _ kgo => XS.lmul X1.here hx rfl (hb hby d7_6) rfl kgo) ?_
  refine own_go (g' := (mkF m 9 #[.val (.ref o0), .val (.long q1), .second, .val (.int p2), .val (.long (q1 * (bb.toInt64))), .second, .unset, .unset, .unset] [])) (fun _ kgo => XS.lstore X1.here hx rfl (hb hby d7_7) rfl (l' := #[.val (.ref o0), .val (.long q1), .second, .val (.int p2), .val (.long (q1 * (bb.toInt64))), .second, .unset, .unset, .unset]) rfl kgo) ?_
  refine own_go (g' := (mkF m 11 #[.val (.ref o0), .val (.long q1), .second, .val (.int p2), .val (.long (q1 * (bb.toInt64))), .second, .unset, .unset, .unset] [(.long (q1 * (bb.toInt64)))])) (fun _ kgo => XS.lload X1.here hx rfl (hb hby d7_9) rfl kgo) ?_
  refine own_go (g' := (mkF m 13 #[.val (.ref o0), .val (.long q1), .second, .val (.int p2), .val (.long (q1 * (bb.toInt64))), .second, .unset, .unset, .unset] [(.int (6 : Int32)), (.long (q1 * (bb.toInt64)))])) (fun _ kgo => XS.bipush X1.here hx rfl (hb hby d7_11) kgo) ?_
  refine own_go (g' := (mkF m 14 #[.val (.ref o0), .val (.long q1), .second, .val (.int p2), .val (.long (q1 * (bb.toInt64))), .second, .unset, .unset, .unset] [(.long (((q1 * (bb.toInt64)).toUInt64 >>> ((6 : Int32) &&& 0x3f).toInt64.toUInt64).toInt64))])) (fun _ kgo => XS.lushr X1.here hx rfl (hb hby d7_13) rfl kgo) ?_
  refine own_go (g' := (mkF m 15 #[.val (.ref o0), .val (.long q1), .second, .val (.int p2), .val (.long (q1 * (bb.toInt64))), .second, .unset, .unset, .unset] [(.int ((((q1 * (bb.toInt64)).toUInt64 >>> ((6 : Int32) &&& 0x3f).toInt64.toUInt64).toInt64).toInt32))])) (fun _ kgo => XS.l2i X1.here hx rfl (hb hby d7_14) rfl kgo) ?_
  refine own_cast (g' := (mkF m 15 #[.val (.ref o0), .val (.long q1), .second, .val (.int p2), .val (.long (q1 * (bb.toInt64))), .second, .unset, .unset, .unset] [(.int (Int32.ofNat (P / 64)))])) (by rw [show ((((q1 * (bb.toInt64)).toUInt64 >>> ((6 : Int32) &&& 0x3f).toInt64.toUInt64).toInt64).toInt32) = (Int32.ofNat (P / 64)) from own_wdE hbt hP5]) ?_
  refine own_go (g' := (mkF m 17 #[.val (.ref o0), .val (.long q1), .second, .val (.int p2), .val (.long (q1 * (bb.toInt64))), .second, .val (.int (Int32.ofNat (P / 64))), .unset, .unset] [])) (fun _ kgo => XS.istore X1.here hx rfl (hb hby d7_15) rfl (l' := #[.val (.ref o0), .val (.long q1), .second, .val (.int p2), .val (.long (q1 * (bb.toInt64))), .second, .val (.int (Int32.ofNat (P / 64))), .unset, .unset]) rfl kgo) ?_
  refine own_go (g' := (mkF m 19 #[.val (.ref o0), .val (.long q1), .second, .val (.int p2), .val (.long (q1 * (bb.toInt64))), .second, .val (.int (Int32.ofNat (P / 64))), .unset, .unset] [(.long (q1 * (bb.toInt64)))])) (fun _ kgo => XS.lload X1.here hx rfl (hb hby d7_17) rfl kgo) ?_
  refine own_go (g' := (mkF m 22 #[.val (.ref o0), .val (.long q1), .second, .val (.int p2), .val (.long (q1 * (bb.toInt64))), .second, .val (.int (Int32.ofNat (P / 64))), .unset, .unset] [(.long (63 : Int64)), (.long (q1 * (bb.toInt64)))])) (X1.ldc2Long hx hown (mvT hZ (hw _ (List.mem_of_getElem? (i := 62) rfl))) (g := (mkF m 19 #[.val (.ref o0), .val (.long q1), .second, .val (.int p2), .val (.long (q1 * (bb.toInt64))), .second, .val (.int (Int32.ofNat (P / 64))), .unset, .unset] [(.long (q1 * (bb.toInt64)))])) rfl (hb hby d7_19)) ?_
  refine own_go (g' := (mkF m 23 #[.val (.ref o0), .val (.long q1), .second, .val (.int p2), .val (.long (q1 * (bb.toInt64))), .second, .val (.int (Int32.ofNat (P / 64))), .unset, .unset] [(.long ((q1 * (bb.toInt64)) &&& (63 : Int64)))])) (fun _ kgo => XS.land X1.here hx rfl (hb hby d7_22) rfl kgo) ?_
  refine own_go (g' := (mkF m 24 #[.val (.ref o0), .val (.long q1), .second, .val (.int p2), .val (.long (q1 * (bb.toInt64))), .second, .val (.int (Int32.ofNat (P / 64))), .unset, .unset] [(.int (((q1 * (bb.toInt64)) &&& (63 : Int64)).toInt32))])) (fun _ kgo => XS.l2i X1.here hx rfl (hb hby d7_23) rfl kgo) ?_
  refine own_cast (g' := (mkF m 24 #[.val (.ref o0), .val (.long q1), .second, .val (.int p2), .val (.long (q1 * (bb.toInt64))), .second, .val (.int (Int32.ofNat (P / 64))), .unset, .unset] [(.int (Int32.ofNat (P % 64)))])) (by rw [show (((q1 * (bb.toInt64)) &&& (63 : Int64)).toInt32) = (Int32.ofNat (P % 64)) from own_shE hbt hP5]) ?_
  refine own_go (g' := (mkF m 26 #[.val (.ref o0), .val (.long q1), .second, .val (.int p2), .val (.long (q1 * (bb.toInt64))), .second, .val (.int (Int32.ofNat (P / 64))), .val (.int (Int32.ofNat (P % 64))), .unset] [])) (fun _ kgo => XS.istore X1.here hx rfl (hb hby d7_24) rfl (l' := #[.val (.ref o0), .val (.long q1), .second, .val (.int p2), .val (.long (q1 * (bb.toInt64))), .second, .val (.int (Int32.ofNat (P / 64))), .val (.int (Int32.ofNat (P % 64))), .unset]) rfl kgo) ?_
  refine own_go (g' := (mkF m 27 #[.val (.ref o0), .val (.long q1), .second, .val (.int p2), .val (.long (q1 * (bb.toInt64))), .second, .val (.int (Int32.ofNat (P / 64))), .val (.int (Int32.ofNat (P % 64))), .unset] [(.ref o0)])) (fun _ kgo => XS.aloadN X1.here hx rfl (hb hby d7_26) rfl rfl kgo) ?_
  obtain ⟨T2, X2, e2, st2⟩ := getF X1 hx hZ hown (host := "") (Or.inl (hw _ (List.mem_of_getElem? (i := 29) rfl))) Via.refl e1 P3 (g := (mkF m 27 #[.val (.ref o0), .val (.long q1), .second, .val (.int p2), .val (.long (q1 * (bb.toInt64))), .second, .val (.int (Int32.ofNat (P / 64))), .val (.int (Int32.ofNat (P % 64))), .unset] [(.ref o0)])) rfl rfl (hb hby d7_27)
  refine own_go (g' := (mkF m 30 #[.val (.ref o0), .val (.long q1), .second, .val (.int p2), .val (.long (q1 * (bb.toInt64))), .second, .val (.int (Int32.ofNat (P / 64))), .val (.int (Int32.ofNat (P % 64))), .unset] [(.ref wa)])) (st2) ?_
  refine own_go (g' := (mkF m 32 #[.val (.ref o0), .val (.long q1), .second, .val (.int p2), .val (.long (q1 * (bb.toInt64))), .second, .val (.int (Int32.ofNat (P / 64))), .val (.int (Int32.ofNat (P % 64))), .unset] [(.int (Int32.ofNat (P / 64))), (.ref wa)])) (fun _ kgo => XS.iload X2.here hx rfl (hb hby d7_30) rfl kgo) ?_
  refine own_go (g' := (mkF m 33 #[.val (.ref o0), .val (.long q1), .second, .val (.int p2), .val (.long (q1 * (bb.toInt64))), .second, .val (.int (Int32.ofNat (P / 64))), .val (.int (Int32.ofNat (P % 64))), .unset] [(.ref o0), (.int (Int32.ofNat (P / 64))), (.ref wa)])) (fun _ kgo => XS.aloadN X2.here hx rfl (hb hby d7_32) rfl rfl kgo) ?_
  obtain ⟨T3, X3, e3, st3⟩ := getF X2 hx hZ hown (host := "") (Or.inl (hw _ (List.mem_of_getElem? (i := 29) rfl))) Via.refl e2 P3 (g := (mkF m 33 #[.val (.ref o0), .val (.long q1), .second, .val (.int p2), .val (.long (q1 * (bb.toInt64))), .second, .val (.int (Int32.ofNat (P / 64))), .val (.int (Int32.ofNat (P % 64))), .unset] [(.ref o0), (.int (Int32.ofNat (P / 64))), (.ref wa)])) rfl rfl (hb hby d7_33)
  refine own_go (g' := (mkF m 36 #[.val (.ref o0), .val (.long q1), .second, .val (.int p2), .val (.long (q1 * (bb.toInt64))), .second, .val (.int (Int32.ofNat (P / 64))), .val (.int (Int32.ofNat (P % 64))), .unset] [(.ref wa), (.int (Int32.ofNat (P / 64))), (.ref wa)])) (st3) ?_
  refine own_go (g' := (mkF m 38 #[.val (.ref o0), .val (.long q1), .second, .val (.int p2), .val (.long (q1 * (bb.toInt64))), .second, .val (.int (Int32.ofNat (P / 64))), .val (.int (Int32.ofNat (P % 64))), .unset] [(.int (Int32.ofNat (P / 64))), (.ref wa), (.int (Int32.ofNat (P / 64))), (.ref wa)])) (fun _ kgo => XS.iload X3.here hx rfl (hb hby d7_36) rfl kgo) ?_
  obtain ⟨cl4, Ar4, qk4, sz4, nn4, Hs4, Gs4⟩ := id P4
  have hin4 : ¬ ((Int32.ofNat (P / 64)) < 0 ∨ cl4.slots.size ≤ ((Int32.ofNat (P / 64))).toNatClampNeg) := inb_of sz4 (own_jin hj (by omega))
  have hat4 : cl4.slots[((Int32.ofNat (P / 64))).toNatClampNeg]? = some (.long (ws.getD (P / 64) 0)) := Has.at Hs4 hin4 (own_mapD ws hj)
  refine own_go (g' := (mkF m 39 #[.val (.ref o0), .val (.long q1), .second, .val (.int p2), .val (.long (q1 * (bb.toInt64))), .second, .val (.int (Int32.ofNat (P / 64))), .val (.int (Int32.ofNat (P % 64))), .unset] [(.long (ws.getD (P / 64) 0)), (.int (Int32.ofNat (P / 64))), (.ref wa)])) (X3.laload hx (j := (Int32.ofNat (P / 64))) (v := (.long (ws.getD (P / 64) 0))) (by rw [e3]; exact Ar4.1) (State.isArrayOf_alike hZ.alike Ar4.2.1) Ar4.2.2 hin4 hat4 (g := (mkF m 38 #[.val (.ref o0), .val (.long q1), .second, .val (.int p2), .val (.long (q1 * (bb.toInt64))), .second, .val (.int (Int32.ofNat (P / 64))), .val (.int (Int32.ofNat (P % 64))), .unset] [(.int (Int32.ofNat (P / 64))), (.ref wa), (.int (Int32.ofNat (P / 64))), (.ref wa)])) rfl rfl (hb hby d7_38)) ?_
  refine own_go (g' := (mkF m 40 #[.val (.ref o0), .val (.long q1), .second, .val (.int p2), .val (.long (q1 * (bb.toInt64))), .second, .val (.int (Int32.ofNat (P / 64))), .val (.int (Int32.ofNat (P % 64))), .unset] [(.ref o0), (.long (ws.getD (P / 64) 0)), (.int (Int32.ofNat (P / 64))), (.ref wa)])) (fun _ kgo => XS.aloadN X3.here hx rfl (hb hby d7_39) rfl rfl kgo) ?_
  obtain ⟨T5, X5, e5, st5⟩ := getF X3 hx hZ hown (host := "") (Or.inl (hw _ (List.mem_of_getElem? (i := 21) rfl))) Via.refl e3 P2 (g := (mkF m 40 #[.val (.ref o0), .val (.long q1), .second, .val (.int p2), .val (.long (q1 * (bb.toInt64))), .second, .val (.int (Int32.ofNat (P / 64))), .val (.int (Int32.ofNat (P % 64))), .unset] [(.ref o0), (.long (ws.getD (P / 64) 0)), (.int (Int32.ofNat (P / 64))), (.ref wa)])) rfl rfl (hb hby d7_40)
  refine own_go (g' := (mkF m 43 #[.val (.ref o0), .val (.long q1), .second, .val (.int p2), .val (.long (q1 * (bb.toInt64))), .second, .val (.int (Int32.ofNat (P / 64))), .val (.int (Int32.ofNat (P % 64))), .unset] [(.long mm), (.long (ws.getD (P / 64) 0)), (.int (Int32.ofNat (P / 64))), (.ref wa)])) (st5) ?_
  refine own_go (g' := (mkF m 45 #[.val (.ref o0), .val (.long q1), .second, .val (.int p2), .val (.long (q1 * (bb.toInt64))), .second, .val (.int (Int32.ofNat (P / 64))), .val (.int (Int32.ofNat (P % 64))), .unset] [(.int (Int32.ofNat (P % 64))), (.long mm), (.long (ws.getD (P / 64) 0)), (.int (Int32.ofNat (P / 64))), (.ref wa)])) (fun _ kgo => XS.iload X5.here hx rfl (hb hby d7_43) rfl kgo) ?_
  refine own_go (g' := (mkF m 46 #[.val (.ref o0), .val (.long q1), .second, .val (.int p2), .val (.long (q1 * (bb.toInt64))), .second, .val (.int (Int32.ofNat (P / 64))), .val (.int (Int32.ofNat (P % 64))), .unset] [(.long (mm <<< ((Int32.ofNat (P % 64)) &&& 0x3f).toInt64)), (.long (ws.getD (P / 64) 0)), (.int (Int32.ofNat (P / 64))), (.ref wa)])) (fun _ kgo => XS.lshl X5.here hx rfl (hb hby d7_45) rfl kgo) ?_
  refine own_go (g' := (mkF m 49 #[.val (.ref o0), .val (.long q1), .second, .val (.int p2), .val (.long (q1 * (bb.toInt64))), .second, .val (.int (Int32.ofNat (P / 64))), .val (.int (Int32.ofNat (P % 64))), .unset] [(.long (-1 : Int64)), (.long (mm <<< ((Int32.ofNat (P % 64)) &&& 0x3f).toInt64)), (.long (ws.getD (P / 64) 0)), (.int (Int32.ofNat (P / 64))), (.ref wa)])) (X5.ldc2Long hx hown (mvT hZ (hw _ (List.mem_of_getElem? (i := 63) rfl))) (g := (mkF m 46 #[.val (.ref o0), .val (.long q1), .second, .val (.int p2), .val (.long (q1 * (bb.toInt64))), .second, .val (.int (Int32.ofNat (P / 64))), .val (.int (Int32.ofNat (P % 64))), .unset] [(.long (mm <<< ((Int32.ofNat (P % 64)) &&& 0x3f).toInt64)), (.long (ws.getD (P / 64) 0)), (.int (Int32.ofNat (P / 64))), (.ref wa)])) rfl (hb hby d7_46)) ?_
  refine own_go (g' := (mkF m 50 #[.val (.ref o0), .val (.long q1), .second, .val (.int p2), .val (.long (q1 * (bb.toInt64))), .second, .val (.int (Int32.ofNat (P / 64))), .val (.int (Int32.ofNat (P % 64))), .unset] [(.long ((mm <<< ((Int32.ofNat (P % 64)) &&& 0x3f).toInt64) ^^^ (-1 : Int64))), (.long (ws.getD (P / 64) 0)), (.int (Int32.ofNat (P / 64))), (.ref wa)])) (fun _ kgo => XS.lxor X5.here hx rfl (hb hby d7_49) rfl kgo) ?_
  refine own_go (g' := (mkF m 51 #[.val (.ref o0), .val (.long q1), .second, .val (.int p2), .val (.long (q1 * (bb.toInt64))), .second, .val (.int (Int32.ofNat (P / 64))), .val (.int (Int32.ofNat (P % 64))), .unset] [(.long ((ws.getD (P / 64) 0) &&& ((mm <<< ((Int32.ofNat (P % 64)) &&& 0x3f).toInt64) ^^^ (-1 : Int64)))), (.int (Int32.ofNat (P / 64))), (.ref wa)])) (fun _ kgo => XS.land X5.here hx rfl (hb hby d7_50) rfl kgo) ?_
  refine own_go (g' := (mkF m 52 #[.val (.ref o0), .val (.long q1), .second, .val (.int p2), .val (.long (q1 * (bb.toInt64))), .second, .val (.int (Int32.ofNat (P / 64))), .val (.int (Int32.ofNat (P % 64))), .unset] [(.int p2), (.long ((ws.getD (P / 64) 0) &&& ((mm <<< ((Int32.ofNat (P % 64)) &&& 0x3f).toInt64) ^^^ (-1 : Int64)))), (.int (Int32.ofNat (P / 64))), (.ref wa)])) (fun _ kgo => XS.iloadN X5.here hx rfl (hb hby d7_51) rfl kgo) ?_
  refine own_go (g' := (mkF m 53 #[.val (.ref o0), .val (.long q1), .second, .val (.int p2), .val (.long (q1 * (bb.toInt64))), .second, .val (.int (Int32.ofNat (P / 64))), .val (.int (Int32.ofNat (P % 64))), .unset] [(.long (p2.toInt64)), (.long ((ws.getD (P / 64) 0) &&& ((mm <<< ((Int32.ofNat (P % 64)) &&& 0x3f).toInt64) ^^^ (-1 : Int64)))), (.int (Int32.ofNat (P / 64))), (.ref wa)])) (fun _ kgo => XS.i2l X5.here hx rfl (hb hby d7_52) rfl kgo) ?_
  refine own_go (g' := (mkF m 55 #[.val (.ref o0), .val (.long q1), .second, .val (.int p2), .val (.long (q1 * (bb.toInt64))), .second, .val (.int (Int32.ofNat (P / 64))), .val (.int (Int32.ofNat (P % 64))), .unset] [(.int (Int32.ofNat (P % 64))), (.long (p2.toInt64)), (.long ((ws.getD (P / 64) 0) &&& ((mm <<< ((Int32.ofNat (P % 64)) &&& 0x3f).toInt64) ^^^ (-1 : Int64)))), (.int (Int32.ofNat (P / 64))), (.ref wa)])) (fun _ kgo => XS.iload X5.here hx rfl (hb hby d7_53) rfl kgo) ?_
  refine own_go (g' := (mkF m 56 #[.val (.ref o0), .val (.long q1), .second, .val (.int p2), .val (.long (q1 * (bb.toInt64))), .second, .val (.int (Int32.ofNat (P / 64))), .val (.int (Int32.ofNat (P % 64))), .unset] [(.long ((p2.toInt64) <<< ((Int32.ofNat (P % 64)) &&& 0x3f).toInt64)), (.long ((ws.getD (P / 64) 0) &&& ((mm <<< ((Int32.ofNat (P % 64)) &&& 0x3f).toInt64) ^^^ (-1 : Int64)))), (.int (Int32.ofNat (P / 64))), (.ref wa)])) (fun _ kgo => XS.lshl X5.here hx rfl (hb hby d7_55) rfl kgo) ?_
  refine own_go (g' := (mkF m 57 #[.val (.ref o0), .val (.long q1), .second, .val (.int p2), .val (.long (q1 * (bb.toInt64))), .second, .val (.int (Int32.ofNat (P / 64))), .val (.int (Int32.ofNat (P % 64))), .unset] [(.long (((ws.getD (P / 64) 0) &&& ((mm <<< ((Int32.ofNat (P % 64)) &&& 0x3f).toInt64) ^^^ (-1 : Int64))) ||| ((p2.toInt64) <<< ((Int32.ofNat (P % 64)) &&& 0x3f).toInt64))), (.int (Int32.ofNat (P / 64))), (.ref wa)])) (fun _ kgo => XS.lor X5.here hx rfl (hb hby d7_56) rfl kgo) ?_
  refine own_cast (g' := (mkF m 57 #[.val (.ref o0), .val (.long q1), .second, .val (.int p2), .val (.long (q1 * (bb.toInt64))), .second, .val (.int (Int32.ofNat (P / 64))), .val (.int (Int32.ofNat (P % 64))), .unset] [(.long (own_s1 (ws.getD (P / 64) 0) mm (Int32.ofNat (P % 64)) p2)), (.int (Int32.ofNat (P / 64))), (.ref wa)])) (by rw [show (((ws.getD (P / 64) 0) &&& ((mm <<< ((Int32.ofNat (P % 64)) &&& 0x3f).toInt64) ^^^ (-1 : Int64))) ||| ((p2.toInt64) <<< ((Int32.ofNat (P % 64)) &&& 0x3f).toInt64)) = (own_s1 (ws.getD (P / 64) 0) mm (Int32.ofNat (P % 64)) p2) from rfl]) ?_
  obtain ⟨cl6, Ar6, qk6, sz6, nn6, Hs6, Gs6⟩ := id P4
  have hin6 : ¬ ((Int32.ofNat (P / 64)) < 0 ∨ cl6.slots.size ≤ ((Int32.ofNat (P / 64))).toNatClampNeg) := inb_of sz6 (own_jin hj (by omega))
  obtain ⟨T6, h6, X6, e6, W6, st6⟩ := stJ X5 hx hZ e5 Ar6 (j := (Int32.ofNat (P / 64))) hin6 (g := (mkF m 57 #[.val (.ref o0), .val (.long q1), .second, .val (.int p2), .val (.long (q1 * (bb.toInt64))), .second, .val (.int (Int32.ofNat (P / 64))), .val (.int (Int32.ofNat (P % 64))), .unset] [(.long (own_s1 (ws.getD (P / 64) 0) mm (Int32.ofNat (P % 64)) p2)), (.int (Int32.ofNat (P / 64))), (.ref wa)])) rfl rfl (hb hby d7_57)
  have V6 : Arv Z h6 wa kw .long nw ((ws.set (P / 64) (own_s1 (ws.getD (P / 64) 0) mm (Int32.ofNat (P % 64)) p2)).map Value.long) (.long (0 : Int64)) := by rw [own_map_set]; exact Arv.set Ar6 qk6 sz6 nn6 Hs6 Gs6 rfl W6 (P / 64) (own_cl (by omega)) (by rw [List.length_map]; omega)
  have N6 := Fr.snoc X6 N0 g_wa
  have Z6 : n0 ≤ h6.size := by rw [W6.size]; exact Z0
  have K6 : Keep h0 h6 [wa] := K0.wr W6 (Or.inl (List.mem_of_getElem? (i := 0) rfl))
  refine own_go (g' := (mkF m 58 #[.val (.ref o0), .val (.long q1), .second, .val (.int p2), .val (.long (q1 * (bb.toInt64))), .second, .val (.int (Int32.ofNat (P / 64))), .val (.int (Int32.ofNat (P % 64))), .unset] [])) (st6) ?_
  refine own_go (g' := (mkF m 60 #[.val (.ref o0), .val (.long q1), .second, .val (.int p2), .val (.long (q1 * (bb.toInt64))), .second, .val (.int (Int32.ofNat (P / 64))), .val (.int (Int32.ofNat (P % 64))), .unset] [(.int (Int32.ofNat (P % 64)))])) (fun _ kgo => XS.iload X6.here hx rfl (hb hby d7_58) rfl kgo) ?_
  refine own_go (g' := (mkF m 62 #[.val (.ref o0), .val (.long q1), .second, .val (.int p2), .val (.long (q1 * (bb.toInt64))), .second, .val (.int (Int32.ofNat (P / 64))), .val (.int (Int32.ofNat (P % 64))), .unset] [(.int (64 : Int32)), (.int (Int32.ofNat (P % 64)))])) (fun _ kgo => XS.bipush X6.here hx rfl (hb hby d7_60) kgo) ?_
  refine own_go (g' := (mkF m 63 #[.val (.ref o0), .val (.long q1), .second, .val (.int p2), .val (.long (q1 * (bb.toInt64))), .second, .val (.int (Int32.ofNat (P / 64))), .val (.int (Int32.ofNat (P % 64))), .unset] [(.ref o0), (.int (64 : Int32)), (.int (Int32.ofNat (P % 64)))])) (fun _ kgo => XS.aloadN X6.here hx rfl (hb hby d7_62) rfl rfl kgo) ?_
  have fx7 : Fld Z h6 o0 "com/example/seenset/seenset/util/Cells" "bits" "I" (.int bb) := (Fld.other W6 P1 (Or.inl hne))
  obtain ⟨T8, X8, e8, st8⟩ := getF X6 hx hZ hown (host := "") (Or.inl (hw _ (List.mem_of_getElem? (i := 19) rfl))) Via.refl e6 fx7 (g := (mkF m 63 #[.val (.ref o0), .val (.long q1), .second, .val (.int p2), .val (.long (q1 * (bb.toInt64))), .second, .val (.int (Int32.ofNat (P / 64))), .val (.int (Int32.ofNat (P % 64))), .unset] [(.ref o0), (.int (64 : Int32)), (.int (Int32.ofNat (P % 64)))])) rfl rfl (hb hby d7_63)
  refine own_go (g' := (mkF m 66 #[.val (.ref o0), .val (.long q1), .second, .val (.int p2), .val (.long (q1 * (bb.toInt64))), .second, .val (.int (Int32.ofNat (P / 64))), .val (.int (Int32.ofNat (P % 64))), .unset] [(.int bb), (.int (64 : Int32)), (.int (Int32.ofNat (P % 64)))])) (st8) ?_
  refine own_go (g' := (mkF m 67 #[.val (.ref o0), .val (.long q1), .second, .val (.int p2), .val (.long (q1 * (bb.toInt64))), .second, .val (.int (Int32.ofNat (P / 64))), .val (.int (Int32.ofNat (P % 64))), .unset] [(.int ((64 : Int32) - bb)), (.int (Int32.ofNat (P % 64)))])) (fun _ kgo => XS.isub X8.here hx rfl (hb hby d7_66) rfl kgo) ?_
  by_cases hc9 : ((64 : Int32) - bb) < (Int32.ofNat (P % 64))
  ·
    refine own_go (g' := (mkF m 70 #[.val (.ref o0), .val (.long q1), .second, .val (.int p2), .val (.long (q1 * (bb.toInt64))), .second, .val (.int (Int32.ofNat (P / 64))), .val (.int (Int32.ofNat (P % 64))), .unset] [])) (fun _ kgo => XS.icmpNo X8.here hx rfl (hb hby d7_67) rfl (tlt hc9).2.2.2 kgo) ?_
    refine own_go (g' := (mkF m 72 #[.val (.ref o0), .val (.long q1), .second, .val (.int p2), .val (.long (q1 * (bb.toInt64))), .second, .val (.int (Int32.ofNat (P / 64))), .val (.int (Int32.ofNat (P % 64))), .unset] [(.int (64 : Int32))])) (fun _ kgo => XS.bipush X8.here hx rfl (hb hby d7_70) kgo) ?_
    refine own_go (g' := (mkF m 74 #[.val (.ref o0), .val (.long q1), .second, .val (.int p2), .val (.long (q1 * (bb.toInt64))), .second, .val (.int (Int32.ofNat (P / 64))), .val (.int (Int32.ofNat (P % 64))), .unset] [(.int (Int32.ofNat (P % 64))), (.int (64 : Int32))])) (fun _ kgo => XS.iload X8.here hx rfl (hb hby d7_72) rfl kgo) ?_
    refine own_go (g' := (mkF m 75 #[.val (.ref o0), .val (.long q1), .second, .val (.int p2), .val (.long (q1 * (bb.toInt64))), .second, .val (.int (Int32.ofNat (P / 64))), .val (.int (Int32.ofNat (P % 64))), .unset] [(.int ((64 : Int32) - (Int32.ofNat (P % 64))))])) (fun _ kgo => XS.isub X8.here hx rfl (hb hby d7_74) rfl kgo) ?_
    refine own_cast (g' := (mkF m 75 #[.val (.ref o0), .val (.long q1), .second, .val (.int p2), .val (.long (q1 * (bb.toInt64))), .second, .val (.int (Int32.ofNat (P / 64))), .val (.int (Int32.ofNat (P % 64))), .unset] [(.int (Int32.ofNat (64 - P % 64)))])) (by rw [show ((64 : Int32) - (Int32.ofNat (P % 64))) = (Int32.ofNat (64 - P % 64)) from own_caE hk64]) ?_
    refine own_go (g' := (mkF m 77 #[.val (.ref o0), .val (.long q1), .second, .val (.int p2), .val (.long (q1 * (bb.toInt64))), .second, .val (.int (Int32.ofNat (P / 64))), .val (.int (Int32.ofNat (P % 64))), .val (.int (Int32.ofNat (64 - P % 64)))] [])) (fun _ kgo => XS.istore X8.here hx rfl (hb hby d7_75) rfl (l' := #[.val (.ref o0), .val (.long q1), .second, .val (.int p2), .val (.long (q1 * (bb.toInt64))), .second, .val (.int (Int32.ofNat (P / 64))), .val (.int (Int32.ofNat (P % 64))), .val (.int (Int32.ofNat (64 - P % 64)))]) rfl kgo) ?_
    refine own_go (g' := (mkF m 78 #[.val (.ref o0), .val (.long q1), .second, .val (.int p2), .val (.long (q1 * (bb.toInt64))), .second, .val (.int (Int32.ofNat (P / 64))), .val (.int (Int32.ofNat (P % 64))), .val (.int (Int32.ofNat (64 - P % 64)))] [(.ref o0)])) (fun _ kgo => XS.aloadN X8.here hx rfl (hb hby d7_77) rfl rfl kgo) ?_
    have fx10 : Fld Z h6 o0 "com/example/seenset/seenset/util/Cells" "words" "[J" (.ref wa) := (Fld.other W6 P3 (Or.inl hne))
    obtain ⟨T11, X11, e11, st11⟩ := getF X8 hx hZ hown (host := "") (Or.inl (hw _ (List.mem_of_getElem? (i := 29) rfl))) Via.refl e8 fx10 (g := (mkF m 78 #[.val (.ref o0), .val (.long q1), .second, .val (.int p2), .val (.long (q1 * (bb.toInt64))), .second, .val (.int (Int32.ofNat (P / 64))), .val (.int (Int32.ofNat (P % 64))), .val (.int (Int32.ofNat (64 - P % 64)))] [(.ref o0)])) rfl rfl (hb hby d7_78)
    refine own_go (g' := (mkF m 81 #[.val (.ref o0), .val (.long q1), .second, .val (.int p2), .val (.long (q1 * (bb.toInt64))), .second, .val (.int (Int32.ofNat (P / 64))), .val (.int (Int32.ofNat (P % 64))), .val (.int (Int32.ofNat (64 - P % 64)))] [(.ref wa)])) (st11) ?_
    refine own_go (g' := (mkF m 83 #[.val (.ref o0), .val (.long q1), .second, .val (.int p2), .val (.long (q1 * (bb.toInt64))), .second, .val (.int (Int32.ofNat (P / 64))), .val (.int (Int32.ofNat (P % 64))), .val (.int (Int32.ofNat (64 - P % 64)))] [(.int (Int32.ofNat (P / 64))), (.ref wa)])) (fun _ kgo => XS.iload X11.here hx rfl (hb hby d7_81) rfl kgo) ?_
    refine own_go (g' := (mkF m 84 #[.val (.ref o0), .val (.long q1), .second, .val (.int p2), .val (.long (q1 * (bb.toInt64))), .second, .val (.int (Int32.ofNat (P / 64))), .val (.int (Int32.ofNat (P % 64))), .val (.int (Int32.ofNat (64 - P % 64)))] [(.int (1 : Int32)), (.int (Int32.ofNat (P / 64))), (.ref wa)])) (fun _ kgo => XS.iconst X11.here hx rfl (hb hby d7_83) kgo) ?_
    refine own_go (g' := (mkF m 85 #[.val (.ref o0), .val (.long q1), .second, .val (.int p2), .val (.long (q1 * (bb.toInt64))), .second, .val (.int (Int32.ofNat (P / 64))), .val (.int (Int32.ofNat (P % 64))), .val (.int (Int32.ofNat (64 - P % 64)))] [(.int ((Int32.ofNat (P / 64)) + (1 : Int32))), (.ref wa)])) (fun _ kgo => XS.iadd X11.here hx rfl (hb hby d7_84) rfl kgo) ?_
    refine own_cast (g' := (mkF m 85 #[.val (.ref o0), .val (.long q1), .second, .val (.int p2), .val (.long (q1 * (bb.toInt64))), .second, .val (.int (Int32.ofNat (P / 64))), .val (.int (Int32.ofNat (P % 64))), .val (.int (Int32.ofNat (64 - P % 64)))] [(.int (Int32.ofNat (P / 64 + 1))), (.ref wa)])) (by rw [show ((Int32.ofNat (P / 64)) + (1 : Int32)) = (Int32.ofNat (P / 64 + 1)) from own_j1E hj]) ?_
    refine own_go (g' := (mkF m 86 #[.val (.ref o0), .val (.long q1), .second, .val (.int p2), .val (.long (q1 * (bb.toInt64))), .second, .val (.int (Int32.ofNat (P / 64))), .val (.int (Int32.ofNat (P % 64))), .val (.int (Int32.ofNat (64 - P % 64)))] [(.ref o0), (.int (Int32.ofNat (P / 64 + 1))), (.ref wa)])) (fun _ kgo => XS.aloadN X11.here hx rfl (hb hby d7_85) rfl rfl kgo) ?_
    obtain ⟨T12, X12, e12, st12⟩ := getF X11 hx hZ hown (host := "") (Or.inl (hw _ (List.mem_of_getElem? (i := 29) rfl))) Via.refl e11 fx10 (g := (mkF m 86 #[.val (.ref o0), .val (.long q1), .second, .val (.int p2), .val (.long (q1 * (bb.toInt64))), .second, .val (.int (Int32.ofNat (P / 64))), .val (.int (Int32.ofNat (P % 64))), .val (.int (Int32.ofNat (64 - P % 64)))] [(.ref o0), (.int (Int32.ofNat (P / 64 + 1))), (.ref wa)])) rfl rfl (hb hby d7_86)
    refine own_go (g' := (mkF m 89 #[.val (.ref o0), .val (.long q1), .second, .val (.int p2), .val (.long (q1 * (bb.toInt64))), .second, .val (.int (Int32.ofNat (P / 64))), .val (.int (Int32.ofNat (P % 64))), .val (.int (Int32.ofNat (64 - P % 64)))] [(.ref wa), (.int (Int32.ofNat (P / 64 + 1))), (.ref wa)])) (st12) ?_
    refine own_go (g' := (mkF m 91 #[.val (.ref o0), .val (.long q1), .second, .val (.int p2), .val (.long (q1 * (bb.toInt64))), .second, .val (.int (Int32.ofNat (P / 64))), .val (.int (Int32.ofNat (P % 64))), .val (.int (Int32.ofNat (64 - P % 64)))] [(.int (Int32.ofNat (P / 64))), (.ref wa), (.int (Int32.ofNat (P / 64 + 1))), (.ref wa)])) (fun _ kgo => XS.iload X12.here hx rfl (hb hby d7_89) rfl kgo) ?_
    refine own_go (g' := (mkF m 92 #[.val (.ref o0), .val (.long q1), .second, .val (.int p2), .val (.long (q1 * (bb.toInt64))), .second, .val (.int (Int32.ofNat (P / 64))), .val (.int (Int32.ofNat (P % 64))), .val (.int (Int32.ofNat (64 - P % 64)))] [(.int (1 : Int32)), (.int (Int32.ofNat (P / 64))), (.ref wa), (.int (Int32.ofNat (P / 64 + 1))), (.ref wa)])) (fun _ kgo => XS.iconst X12.here hx rfl (hb hby d7_91) kgo) ?_
    refine own_go (g' := (mkF m 93 #[.val (.ref o0), .val (.long q1), .second, .val (.int p2), .val (.long (q1 * (bb.toInt64))), .second, .val (.int (Int32.ofNat (P / 64))), .val (.int (Int32.ofNat (P % 64))), .val (.int (Int32.ofNat (64 - P % 64)))] [(.int ((Int32.ofNat (P / 64)) + (1 : Int32))), (.ref wa), (.int (Int32.ofNat (P / 64 + 1))), (.ref wa)])) (fun _ kgo => XS.iadd X12.here hx rfl (hb hby d7_92) rfl kgo) ?_
    refine own_cast (g' := (mkF m 93 #[.val (.ref o0), .val (.long q1), .second, .val (.int p2), .val (.long (q1 * (bb.toInt64))), .second, .val (.int (Int32.ofNat (P / 64))), .val (.int (Int32.ofNat (P % 64))), .val (.int (Int32.ofNat (64 - P % 64)))] [(.int (Int32.ofNat (P / 64 + 1))), (.ref wa), (.int (Int32.ofNat (P / 64 + 1))), (.ref wa)])) (by rw [show ((Int32.ofNat (P / 64)) + (1 : Int32)) = (Int32.ofNat (P / 64 + 1)) from own_j1E hj]) ?_
    obtain ⟨cl13, Ar13, qk13, sz13, nn13, Hs13, Gs13⟩ := id V6
    have hin13 : ¬ ((Int32.ofNat (P / 64 + 1)) < 0 ∨ cl13.slots.size ≤ ((Int32.ofNat (P / 64 + 1))).toNatClampNeg) := inb_of sz13 (own_jin (j := P / 64 + 1) (by omega) (by have := (own_strad hb1 hk64).mp hc9; omega))
    have hat13 : cl13.slots[((Int32.ofNat (P / 64 + 1))).toNatClampNeg]? = some (.long ((ws.set (P / 64) (own_s1 (ws.getD (P / 64) 0) mm (Int32.ofNat (P % 64)) p2)).getD (P / 64 + 1) 0)) := Has.at Hs13 hin13 (own_mapD (ws.set (P / 64) (own_s1 (ws.getD (P / 64) 0) mm (Int32.ofNat (P % 64)) p2)) (by omega))
    refine own_go (g' := (mkF m 94 #[.val (.ref o0), .val (.long q1), .second, .val (.int p2), .val (.long (q1 * (bb.toInt64))), .second, .val (.int (Int32.ofNat (P / 64))), .val (.int (Int32.ofNat (P % 64))), .val (.int (Int32.ofNat (64 - P % 64)))] [(.long ((ws.set (P / 64) (own_s1 (ws.getD (P / 64) 0) mm (Int32.ofNat (P % 64)) p2)).getD (P / 64 + 1) 0)), (.int (Int32.ofNat (P / 64 + 1))), (.ref wa)])) (X12.laload hx (j := (Int32.ofNat (P / 64 + 1))) (v := (.long ((ws.set (P / 64) (own_s1 (ws.getD (P / 64) 0) mm (Int32.ofNat (P % 64)) p2)).getD (P / 64 + 1) 0))) (by rw [e12]; exact Ar13.1) (State.isArrayOf_alike hZ.alike Ar13.2.1) Ar13.2.2 hin13 hat13 (g := (mkF m 93 #[.val (.ref o0), .val (.long q1), .second, .val (.int p2), .val (.long (q1 * (bb.toInt64))), .second, .val (.int (Int32.ofNat (P / 64))), .val (.int (Int32.ofNat (P % 64))), .val (.int (Int32.ofNat (64 - P % 64)))] [(.int (Int32.ofNat (P / 64 + 1))), (.ref wa), (.int (Int32.ofNat (P / 64 + 1))), (.ref wa)])) rfl rfl (hb hby d7_93)) ?_
    refine own_go (g' := (mkF m 95 #[.val (.ref o0), .val (.long q1), .second, .val (.int p2), .val (.long (q1 * (bb.toInt64))), .second, .val (.int (Int32.ofNat (P / 64))), .val (.int (Int32.ofNat (P % 64))), .val (.int (Int32.ofNat (64 - P % 64)))] [(.ref o0), (.long ((ws.set (P / 64) (own_s1 (ws.getD (P / 64) 0) mm (Int32.ofNat (P % 64)) p2)).getD (P / 64 + 1) 0)), (.int (Int32.ofNat (P / 64 + 1))), (.ref wa)])) (fun _ kgo => XS.aloadN X12.here hx rfl (hb hby d7_94) rfl rfl kgo) ?_
    have fx14 : Fld Z h6 o0 "com/example/seenset/seenset/util/Cells" "mask" "J" (.long mm) := (Fld.other W6 P2 (Or.inl hne))
    obtain ⟨T15, X15, e15, st15⟩ := getF X12 hx hZ hown (host := "") (Or.inl (hw _ (List.mem_of_getElem? (i := 21) rfl))) Via.refl e12 fx14 (g := (mkF m 95 #[.val (.ref o0), .val (.long q1), .second, .val (.int p2), .val (.long (q1 * (bb.toInt64))), .second, .val (.int (Int32.ofNat (P / 64))), .val (.int (Int32.ofNat (P % 64))), .val (.int (Int32.ofNat (64 - P % 64)))] [(.ref o0), (.long ((ws.set (P / 64) (own_s1 (ws.getD (P / 64) 0) mm (Int32.ofNat (P % 64)) p2)).getD (P / 64 + 1) 0)), (.int (Int32.ofNat (P / 64 + 1))), (.ref wa)])) rfl rfl (hb hby d7_95)
    refine own_go (g' := (mkF m 98 #[.val (.ref o0), .val (.long q1), .second, .val (.int p2), .val (.long (q1 * (bb.toInt64))), .second, .val (.int (Int32.ofNat (P / 64))), .val (.int (Int32.ofNat (P % 64))), .val (.int (Int32.ofNat (64 - P % 64)))] [(.long mm), (.long ((ws.set (P / 64) (own_s1 (ws.getD (P / 64) 0) mm (Int32.ofNat (P % 64)) p2)).getD (P / 64 + 1) 0)), (.int (Int32.ofNat (P / 64 + 1))), (.ref wa)])) (st15) ?_
    refine own_go (g' := (mkF m 100 #[.val (.ref o0), .val (.long q1), .second, .val (.int p2), .val (.long (q1 * (bb.toInt64))), .second, .val (.int (Int32.ofNat (P / 64))), .val (.int (Int32.ofNat (P % 64))), .val (.int (Int32.ofNat (64 - P % 64)))] [(.int (Int32.ofNat (64 - P % 64))), (.long mm), (.long ((ws.set (P / 64) (own_s1 (ws.getD (P / 64) 0) mm (Int32.ofNat (P % 64)) p2)).getD (P / 64 + 1) 0)), (.int (Int32.ofNat (P / 64 + 1))), (.ref wa)])) (fun _ kgo => XS.iload X15.here hx rfl (hb hby d7_98) rfl kgo) ?_
    refine own_go (g' := (mkF m 101 #[.val (.ref o0), .val (.long q1), .second, .val (.int p2), .val (.long (q1 * (bb.toInt64))), .second, .val (.int (Int32.ofNat (P / 64))), .val (.int (Int32.ofNat (P % 64))), .val (.int (Int32.ofNat (64 - P % 64)))] [(.long ((mm.toUInt64 >>> ((Int32.ofNat (64 - P % 64)) &&& 0x3f).toInt64.toUInt64).toInt64)), (.long ((ws.set (P / 64) (own_s1 (ws.getD (P / 64) 0) mm (Int32.ofNat (P % 64)) p2)).getD (P / 64 + 1) 0)), (.int (Int32.ofNat (P / 64 + 1))), (.ref wa)])) (fun _ kgo => XS.lushr X15.here hx rfl (hb hby d7_100) rfl kgo) ?_
    refine own_go (g' := (mkF m 104 #[.val (.ref o0), .val (.long q1), .second, .val (.int p2), .val (.long (q1 * (bb.toInt64))), .second, .val (.int (Int32.ofNat (P / 64))), .val (.int (Int32.ofNat (P % 64))), .val (.int (Int32.ofNat (64 - P % 64)))] [(.long (-1 : Int64)), (.long ((mm.toUInt64 >>> ((Int32.ofNat (64 - P % 64)) &&& 0x3f).toInt64.toUInt64).toInt64)), (.long ((ws.set (P / 64) (own_s1 (ws.getD (P / 64) 0) mm (Int32.ofNat (P % 64)) p2)).getD (P / 64 + 1) 0)), (.int (Int32.ofNat (P / 64 + 1))), (.ref wa)])) (X15.ldc2Long hx hown (mvT hZ (hw _ (List.mem_of_getElem? (i := 63) rfl))) (g := (mkF m 101 #[.val (.ref o0), .val (.long q1), .second, .val (.int p2), .val (.long (q1 * (bb.toInt64))), .second, .val (.int (Int32.ofNat (P / 64))), .val (.int (Int32.ofNat (P % 64))), .val (.int (Int32.ofNat (64 - P % 64)))] [(.long ((mm.toUInt64 >>> ((Int32.ofNat (64 - P % 64)) &&& 0x3f).toInt64.toUInt64).toInt64)), (.long ((ws.set (P / 64) (own_s1 (ws.getD (P / 64) 0) mm (Int32.ofNat (P % 64)) p2)).getD (P / 64 + 1) 0)), (.int (Int32.ofNat (P / 64 + 1))), (.ref wa)])) rfl (hb hby d7_101)) ?_
    refine own_go (g' := (mkF m 105 #[.val (.ref o0), .val (.long q1), .second, .val (.int p2), .val (.long (q1 * (bb.toInt64))), .second, .val (.int (Int32.ofNat (P / 64))), .val (.int (Int32.ofNat (P % 64))), .val (.int (Int32.ofNat (64 - P % 64)))] [(.long (((mm.toUInt64 >>> ((Int32.ofNat (64 - P % 64)) &&& 0x3f).toInt64.toUInt64).toInt64) ^^^ (-1 : Int64))), (.long ((ws.set (P / 64) (own_s1 (ws.getD (P / 64) 0) mm (Int32.ofNat (P % 64)) p2)).getD (P / 64 + 1) 0)), (.int (Int32.ofNat (P / 64 + 1))), (.ref wa)])) (fun _ kgo => XS.lxor X15.here hx rfl (hb hby d7_104) rfl kgo) ?_
    refine own_go (g' := (mkF m 106 #[.val (.ref o0), .val (.long q1), .second, .val (.int p2), .val (.long (q1 * (bb.toInt64))), .second, .val (.int (Int32.ofNat (P / 64))), .val (.int (Int32.ofNat (P % 64))), .val (.int (Int32.ofNat (64 - P % 64)))] [(.long (((ws.set (P / 64) (own_s1 (ws.getD (P / 64) 0) mm (Int32.ofNat (P % 64)) p2)).getD (P / 64 + 1) 0) &&& (((mm.toUInt64 >>> ((Int32.ofNat (64 - P % 64)) &&& 0x3f).toInt64.toUInt64).toInt64) ^^^ (-1 : Int64)))), (.int (Int32.ofNat (P / 64 + 1))), (.ref wa)])) (fun _ kgo => XS.land X15.here hx rfl (hb hby d7_105) rfl kgo) ?_
    refine own_go (g' := (mkF m 107 #[.val (.ref o0), .val (.long q1), .second, .val (.int p2), .val (.long (q1 * (bb.toInt64))), .second, .val (.int (Int32.ofNat (P / 64))), .val (.int (Int32.ofNat (P % 64))), .val (.int (Int32.ofNat (64 - P % 64)))] [(.int p2), (.long (((ws.set (P / 64) (own_s1 (ws.getD (P / 64) 0) mm (Int32.ofNat (P % 64)) p2)).getD (P / 64 + 1) 0) &&& (((mm.toUInt64 >>> ((Int32.ofNat (64 - P % 64)) &&& 0x3f).toInt64.toUInt64).toInt64) ^^^ (-1 : Int64)))), (.int (Int32.ofNat (P / 64 + 1))), (.ref wa)])) (fun _ kgo => XS.iloadN X15.here hx rfl (hb hby d7_106) rfl kgo) ?_
    refine own_go (g' := (mkF m 108 #[.val (.ref o0), .val (.long q1), .second, .val (.int p2), .val (.long (q1 * (bb.toInt64))), .second, .val (.int (Int32.ofNat (P / 64))), .val (.int (Int32.ofNat (P % 64))), .val (.int (Int32.ofNat (64 - P % 64)))] [(.long (p2.toInt64)), (.long (((ws.set (P / 64) (own_s1 (ws.getD (P / 64) 0) mm (Int32.ofNat (P % 64)) p2)).getD (P / 64 + 1) 0) &&& (((mm.toUInt64 >>> ((Int32.ofNat (64 - P % 64)) &&& 0x3f).toInt64.toUInt64).toInt64) ^^^ (-1 : Int64)))), (.int (Int32.ofNat (P / 64 + 1))), (.ref wa)])) (fun _ kgo => XS.i2l X15.here hx rfl (hb hby d7_107) rfl kgo) ?_
    refine own_go (g' := (mkF m 110 #[.val (.ref o0), .val (.long q1), .second, .val (.int p2), .val (.long (q1 * (bb.toInt64))), .second, .val (.int (Int32.ofNat (P / 64))), .val (.int (Int32.ofNat (P % 64))), .val (.int (Int32.ofNat (64 - P % 64)))] [(.int (Int32.ofNat (64 - P % 64))), (.long (p2.toInt64)), (.long (((ws.set (P / 64) (own_s1 (ws.getD (P / 64) 0) mm (Int32.ofNat (P % 64)) p2)).getD (P / 64 + 1) 0) &&& (((mm.toUInt64 >>> ((Int32.ofNat (64 - P % 64)) &&& 0x3f).toInt64.toUInt64).toInt64) ^^^ (-1 : Int64)))), (.int (Int32.ofNat (P / 64 + 1))), (.ref wa)])) (fun _ kgo => XS.iload X15.here hx rfl (hb hby d7_108) rfl kgo) ?_
    refine own_go (g' := (mkF m 111 #[.val (.ref o0), .val (.long q1), .second, .val (.int p2), .val (.long (q1 * (bb.toInt64))), .second, .val (.int (Int32.ofNat (P / 64))), .val (.int (Int32.ofNat (P % 64))), .val (.int (Int32.ofNat (64 - P % 64)))] [(.long (((p2.toInt64).toUInt64 >>> ((Int32.ofNat (64 - P % 64)) &&& 0x3f).toInt64.toUInt64).toInt64)), (.long (((ws.set (P / 64) (own_s1 (ws.getD (P / 64) 0) mm (Int32.ofNat (P % 64)) p2)).getD (P / 64 + 1) 0) &&& (((mm.toUInt64 >>> ((Int32.ofNat (64 - P % 64)) &&& 0x3f).toInt64.toUInt64).toInt64) ^^^ (-1 : Int64)))), (.int (Int32.ofNat (P / 64 + 1))), (.ref wa)])) (fun _ kgo => XS.lushr X15.here hx rfl (hb hby d7_110) rfl kgo) ?_
    refine own_go (g' := (mkF m 112 #[.val (.ref o0), .val (.long q1), .second, .val (.int p2), .val (.long (q1 * (bb.toInt64))), .second, .val (.int (Int32.ofNat (P / 64))), .val (.int (Int32.ofNat (P % 64))), .val (.int (Int32.ofNat (64 - P % 64)))] [(.long ((((ws.set (P / 64) (own_s1 (ws.getD (P / 64) 0) mm (Int32.ofNat (P % 64)) p2)).getD (P / 64 + 1) 0) &&& (((mm.toUInt64 >>> ((Int32.ofNat (64 - P % 64)) &&& 0x3f).toInt64.toUInt64).toInt64) ^^^ (-1 : Int64))) ||| (((p2.toInt64).toUInt64 >>> ((Int32.ofNat (64 - P % 64)) &&& 0x3f).toInt64.toUInt64).toInt64))), (.int (Int32.ofNat (P / 64 + 1))), (.ref wa)])) (fun _ kgo => XS.lor X15.here hx rfl (hb hby d7_111) rfl kgo) ?_
    refine own_cast (g' := (mkF m 112 #[.val (.ref o0), .val (.long q1), .second, .val (.int p2), .val (.long (q1 * (bb.toInt64))), .second, .val (.int (Int32.ofNat (P / 64))), .val (.int (Int32.ofNat (P % 64))), .val (.int (Int32.ofNat (64 - P % 64)))] [(.long (own_s2 ((ws.set (P / 64) (own_s1 (ws.getD (P / 64) 0) mm (Int32.ofNat (P % 64)) p2)).getD (P / 64 + 1) 0) mm (Int32.ofNat (64 - P % 64)) p2)), (.int (Int32.ofNat (P / 64 + 1))), (.ref wa)])) (by rw [show ((((ws.set (P / 64) (own_s1 (ws.getD (P / 64) 0) mm (Int32.ofNat (P % 64)) p2)).getD (P / 64 + 1) 0) &&& (((mm.toUInt64 >>> ((Int32.ofNat (64 - P % 64)) &&& 0x3f).toInt64.toUInt64).toInt64) ^^^ (-1 : Int64))) ||| (((p2.toInt64).toUInt64 >>> ((Int32.ofNat (64 - P % 64)) &&& 0x3f).toInt64.toUInt64).toInt64)) = (own_s2 ((ws.set (P / 64) (own_s1 (ws.getD (P / 64) 0) mm (Int32.ofNat (P % 64)) p2)).getD (P / 64 + 1) 0) mm (Int32.ofNat (64 - P % 64)) p2) from rfl]) ?_
    obtain ⟨cl16, Ar16, qk16, sz16, nn16, Hs16, Gs16⟩ := id V6
    have hin16 : ¬ ((Int32.ofNat (P / 64 + 1)) < 0 ∨ cl16.slots.size ≤ ((Int32.ofNat (P / 64 + 1))).toNatClampNeg) := inb_of sz16 (own_jin (j := P / 64 + 1) (by omega) (by have := (own_strad hb1 hk64).mp hc9; omega))
    obtain ⟨T16, h16, X16, e16, W16, st16⟩ := stJ X15 hx hZ e15 Ar16 (j := (Int32.ofNat (P / 64 + 1))) hin16 (g := (mkF m 112 #[.val (.ref o0), .val (.long q1), .second, .val (.int p2), .val (.long (q1 * (bb.toInt64))), .second, .val (.int (Int32.ofNat (P / 64))), .val (.int (Int32.ofNat (P % 64))), .val (.int (Int32.ofNat (64 - P % 64)))] [(.long (own_s2 ((ws.set (P / 64) (own_s1 (ws.getD (P / 64) 0) mm (Int32.ofNat (P % 64)) p2)).getD (P / 64 + 1) 0) mm (Int32.ofNat (64 - P % 64)) p2)), (.int (Int32.ofNat (P / 64 + 1))), (.ref wa)])) rfl rfl (hb hby d7_112)
    have V16 : Arv Z h16 wa kw .long nw (((ws.set (P / 64) (own_s1 (ws.getD (P / 64) 0) mm (Int32.ofNat (P % 64)) p2)).set (P / 64 + 1) (own_s2 ((ws.set (P / 64) (own_s1 (ws.getD (P / 64) 0) mm (Int32.ofNat (P % 64)) p2)).getD (P / 64 + 1) 0) mm (Int32.ofNat (64 - P % 64)) p2)).map Value.long) (.long (0 : Int64)) := by rw [own_map_set]; exact Arv.set Ar16 qk16 sz16 nn16 Hs16 Gs16 rfl W16 (P / 64 + 1) (own_cl (by omega)) (by rw [List.length_map, List.length_set]; have := (own_strad hb1 hk64).mp hc9; omega)
    have N16 := Fr.snoc X16 N6 g_wa
    have Z16 : n0 ≤ h16.size := by rw [W16.size]; exact Z6
    have K16 : Keep h0 h16 [wa] := K6.wr W16 (Or.inl (List.mem_of_getElem? (i := 0) rfl))
    refine own_go (g' := (mkF m 113 #[.val (.ref o0), .val (.long q1), .second, .val (.int p2), .val (.long (q1 * (bb.toInt64))), .second, .val (.int (Int32.ofNat (P / 64))), .val (.int (Int32.ofNat (P % 64))), .val (.int (Int32.ofNat (64 - P % 64)))] [])) (st16) ?_
    refine own_retV X16 hx Bd.returns Bd.notSynchronized (hb hby d7_113) (by decide) (by decide) ?_
    show QQ _ T16.heap _
    rw [e16]
    have cfin : Arv Z h16 wa kw .long nw ((own_setP ws mm bb.toInt.toNat P p2).map Value.long) (.long (0 : Int64)) := by
      unfold own_setP own_set; rw [if_pos ((own_strad hb1 hk64).mp hc9)]; exact V16
    rw [← hQQ]
    exact ⟨rfl, N16, K16, cfin⟩
  ·
    refine own_go (g' := (mkF m 113 #[.val (.ref o0), .val (.long q1), .second, .val (.int p2), .val (.long (q1 * (bb.toInt64))), .second, .val (.int (Int32.ofNat (P / 64))), .val (.int (Int32.ofNat (P % 64))), .unset] [])) (fun _ kgo => XS.icmpYes X8.here hx rfl (pc0 := 67) (pc' := 113) rfl (hb hby d7_67) rfl (flt hc9).2.2.2 (by decide) (by decide) kgo) ?_
    refine own_retV X8 hx Bd.returns Bd.notSynchronized (hb hby d7_113) (by decide) (by decide) ?_
    show QQ _ T8.heap _
    rw [e8]
    have cfin : Arv Z h6 wa kw .long nw ((own_setP ws mm bb.toInt.toNat P p2).map Value.long) (.long (0 : Int64)) := by
      unfold own_setP own_set; rw [if_neg (mt (own_strad hb1 hk64).mpr hc9)]; exact V6
    rw [← hQQ]
    exact ⟨rfl, N6, K6, cfin⟩
theorem d8_0 : decode prog_56_method_4_code 0 = .ok (.lload_n 1, 1) := by decide +kernel
theorem d8_1 : decode prog_56_method_4_code 1 = .ok (.aload_n 0, 1) := by decide +kernel
theorem d8_2 : decode prog_56_method_4_code 2 = .ok (.getfield 24, 3) := by decide +kernel
theorem d8_5 : decode prog_56_method_4_code 5 = .ok (.i2l, 1) := by decide +kernel
theorem d8_6 : decode prog_56_method_4_code 6 = .ok (.lmul, 1) := by decide +kernel
theorem d8_7 : decode prog_56_method_4_code 7 = .ok (.lstore_n 3, 1) := by decide +kernel
theorem d8_8 : decode prog_56_method_4_code 8 = .ok (.lload_n 3, 1) := by decide +kernel
theorem d8_9 : decode prog_56_method_4_code 9 = .ok (.bipush 6, 2) := by decide +kernel
theorem d8_11 : decode prog_56_method_4_code 11 = .ok (.lushr, 1) := by decide +kernel
theorem d8_12 : decode prog_56_method_4_code 12 = .ok (.l2i, 1) := by decide +kernel
theorem d8_13 : decode prog_56_method_4_code 13 = .ok (.istore 5, 2) := by decide +kernel
theorem d8_15 : decode prog_56_method_4_code 15 = .ok (.lload_n 3, 1) := by decide +kernel
theorem d8_16 : decode prog_56_method_4_code 16 = .ok (.ldc2_w 64, 3) := by decide +kernel
theorem d8_19 : decode prog_56_method_4_code 19 = .ok (.land, 1) := by decide +kernel
theorem d8_20 : decode prog_56_method_4_code 20 = .ok (.l2i, 1) := by decide +kernel
theorem d8_21 : decode prog_56_method_4_code 21 = .ok (.istore 6, 2) := by decide +kernel
theorem d8_23 : decode prog_56_method_4_code 23 = .ok (.aload_n 0, 1) := by decide +kernel
theorem d8_24 : decode prog_56_method_4_code 24 = .ok (.getfield 40, 3) := by decide +kernel
theorem d8_27 : decode prog_56_method_4_code 27 = .ok (.iload 5, 2) := by decide +kernel
theorem d8_29 : decode prog_56_method_4_code 29 = .ok (.laload, 1) := by decide +kernel
theorem d8_30 : decode prog_56_method_4_code 30 = .ok (.iload 6, 2) := by decide +kernel
theorem d8_32 : decode prog_56_method_4_code 32 = .ok (.lushr, 1) := by decide +kernel
theorem d8_33 : decode prog_56_method_4_code 33 = .ok (.lstore 7, 2) := by decide +kernel
theorem d8_35 : decode prog_56_method_4_code 35 = .ok (.iload 6, 2) := by decide +kernel
theorem d8_37 : decode prog_56_method_4_code 37 = .ok (.bipush 64, 2) := by decide +kernel
theorem d8_39 : decode prog_56_method_4_code 39 = .ok (.aload_n 0, 1) := by decide +kernel
theorem d8_40 : decode prog_56_method_4_code 40 = .ok (.getfield 24, 3) := by decide +kernel
theorem d8_43 : decode prog_56_method_4_code 43 = .ok (.isub, 1) := by decide +kernel
theorem d8_44 : decode prog_56_method_4_code 44 = .ok (.if_icmp .le 23, 3) := by decide +kernel
theorem d8_47 : decode prog_56_method_4_code 47 = .ok (.lload 7, 2) := by decide +kernel
theorem d8_49 : decode prog_56_method_4_code 49 = .ok (.aload_n 0, 1) := by decide +kernel
theorem d8_50 : decode prog_56_method_4_code 50 = .ok (.getfield 40, 3) := by decide +kernel
theorem d8_53 : decode prog_56_method_4_code 53 = .ok (.iload 5, 2) := by decide +kernel
theorem d8_55 : decode prog_56_method_4_code 55 = .ok (.iconst 1, 1) := by decide +kernel
theorem d8_56 : decode prog_56_method_4_code 56 = .ok (.iadd, 1) := by decide +kernel
theorem d8_57 : decode prog_56_method_4_code 57 = .ok (.laload, 1) := by decide +kernel
theorem d8_58 : decode prog_56_method_4_code 58 = .ok (.bipush 64, 2) := by decide +kernel
theorem d8_60 : decode prog_56_method_4_code 60 = .ok (.iload 6, 2) := by decide +kernel
theorem d8_62 : decode prog_56_method_4_code 62 = .ok (.isub, 1) := by decide +kernel
theorem d8_63 : decode prog_56_method_4_code 63 = .ok (.lshl, 1) := by decide +kernel
theorem d8_64 : decode prog_56_method_4_code 64 = .ok (.lor, 1) := by decide +kernel
theorem d8_65 : decode prog_56_method_4_code 65 = .ok (.lstore 7, 2) := by decide +kernel
theorem d8_67 : decode prog_56_method_4_code 67 = .ok (.lload 7, 2) := by decide +kernel
theorem d8_69 : decode prog_56_method_4_code 69 = .ok (.aload_n 0, 1) := by decide +kernel
theorem d8_70 : decode prog_56_method_4_code 70 = .ok (.getfield 28, 3) := by decide +kernel
theorem d8_73 : decode prog_56_method_4_code 73 = .ok (.land, 1) := by decide +kernel
theorem d8_74 : decode prog_56_method_4_code 74 = .ok (.l2i, 1) := by decide +kernel
theorem d8_75 : decode prog_56_method_4_code 75 = .ok (.ireturn, 1) := by decide +kernel
theorem pn_gts : plainName "com/example/seenset/seenset/util/Cells" = true := by first | (simp [plainName, overriddenIn]; done) | decide +kernel
theorem ef_gts (m : MethodId) (o0 : Addr) (q1 : Int64) : entryFrame m #[(.ref o0), (.long q1)] 9 = mkF m 0 #[.val (.ref o0), .val (.long q1), .second, .unset, .unset, .unset, .unset, .unset, .unset] [] := by first | (simp [entryFrame, mkF, argsToLocals, Value.category]; done) | rfl
set_option maxRecDepth 65536 in
set_option maxHeartbeats 40000000 in
theorem gts (l : Launch) (Z : State) (a0 : Array Value) (hw : ∀ d ∈ tables_1, d.before a0 Z = true) (o0 : Addr) (q1 : Int64) (bb : Int32) (mm : Int64) (wa : Addr) (kw : ClassId) (nw : Int32) (ws : List Int64) (P : Nat) (h0 : Heap) (P0 : Exa Z h0 o0 "com/example/seenset/seenset/util/Cells") (P1 : Fld Z h0 o0 "com/example/seenset/seenset/util/Cells" "bits" "I" (.int bb)) (P2 : Fld Z h0 o0 "com/example/seenset/seenset/util/Cells" "mask" "J" (.long mm)) (P3 : Fld Z h0 o0 "com/example/seenset/seenset/util/Cells" "words" "[J" (.ref wa)) (P4 : Arv Z h0 wa kw .long nw (ws.map Value.long) (.long (0 : Int64))) (hb1 : 1 ≤ bb.toInt ∧ bb.toInt ≤ 63) (hP : (((P : Nat) : Int) : Int) = q1.toInt * bb.toInt) (hl : P + bb.toInt.toNat ≤ 64 * ws.length ∧ ws.length ≤ 65) (hn : nw.toInt = (ws.length : Int)) :
    own_Met l Z (⟨"com/example/seenset/seenset/util/Cells", "get", "(J)I"⟩ : MethodName) prog_56_method_4_code 9 (some .int) [] ({ frames := 0, cells := 0, slots := 0, locals := 0 } : Room) #[(.ref o0), (.long q1)] h0 0 0 (fun v h L => v = some (.int (own_getP ws mm bb.toInt.toNat P)) ∧ h = h0 ∧ L = []) := by
  refine own_met (plainFor_of_name pn_gts) ?_
  intro p e s m below meth c s₁ Bd hml0 hZ X0 e0
  have hx := Bd.exec
  have hby := Bd.bytes
  have hml : c.maxLocals = 9 := hml0
  have hown : s.vm.findClass "com/example/seenset/seenset/util/Cells" = some m.cls := findClass_of_methodNamed Bd.named
  have hnm := (name_of_methodNamed Bd.named Bd.method).1
  refine own_cast (ef_gts m o0 q1) ?_
  generalize hQQ : (fun (v : Option Value) (h : Heap) (L : List Loc) => v = some (.int (own_getP ws mm bb.toInt.toNat P)) ∧ h = h0 ∧ L = []) = QQ
  have hP5 : P < 5000 := by omega
  have hbt := own_bt hb1 hP hP5
  have hk64 : P % 64 < 64 := Nat.mod_lt _ (by omega)
  have hj : P / 64 < 100 := by omega
  refine own_go (g' := (mkF m 1 #[.val (.ref o0), .val (.long q1), .second, .unset, .unset, .unset, .unset, .unset, .unset] [(.long q1)])) (fun _ kgo => XS.lloadN X0.here hx rfl (hb hby d8_0) rfl kgo) ?_
  refine own_go (g' := (mkF m 2 #[.val (.ref o0), .val (.long q1), .second, .unset, .unset, .unset, .unset, .unset, .unset] [(.ref o0), (.long q1)])) (fun _ kgo => XS.aloadN X0.here hx rfl (hb hby d8_1) rfl rfl kgo) ?_
  obtain ⟨T1, X1, e1, st1⟩ := getF X0 hx hZ hown (host := "") (Or.inl (hw _ (List.mem_of_getElem? (i := 19) rfl))) Via.refl e0 P1 (g := (mkF m 2 #[.val (.ref o0), .val (.long q1), .second, .unset, .unset, .unset, .unset, .unset, .unset] [(.ref o0), (.long q1)])) rfl rfl (hb hby d8_2)
  refine own_go (g' := (mkF m 5 #[.val (.ref o0), .val (.long q1), .second, .unset, .unset, .unset, .unset, .unset, .unset] [(.int bb), (.long q1)])) (st1) ?_
  refine own_go (g' := (mkF m 6 #[.val (.ref o0), .val (.long q1), .second, .unset, .unset, .unset, .unset, .unset, .unset] [(.long (bb.toInt64)), (.long q1)])) (fun _ kgo => XS.i2l X1.here hx rfl (hb hby d8_5) rfl kgo) ?_
  refine own_go (g' := (mkF m 7 #[.val (.ref o0), .val (.long q1), .second, .unset, .unset, .unset, .unset, .unset, .unset] [(.long (q1 * (bb.toInt64)))])) (fun _ kgo => XS.lmul X1.here hx rfl (hb hby d8_6) rfl kgo) ?_
  refine own_go (g' := (mkF m 8 #[.val (.ref o0), .val (.long q1), .second, .val (.long (q1 * (bb.toInt64))), .second, .unset, .unset, .unset, .unset] [])) (fun _ kgo => XS.lstoreN X1.here hx rfl (hb hby d8_7) rfl (l' := #[.val (.ref o0), .val (.long q1), .second, .val (.long (q1 * (bb.toInt64))), .second, .unset, .unset, .unset, .unset]) rfl kgo) ?_
  refine own_go (g' := (mkF m 9 #[.val (.ref o0), .val (.long q1), .second, .val (.long (q1 * (bb.toInt64))), .second, .unset, .unset, .unset, .unset] [(.long (q1 * (bb.toInt64)))])) (fun _ kgo => XS.lloadN X1.here hx rfl (hb hby d8_8) rfl kgo) ?_
  refine own_go (g' := (mkF m 11 #[.val (.ref o0), .val (.long q1), .second, .val (.long (q1 * (bb.toInt64))), .second, .unset, .unset, .unset, .unset] [(.int (6 : Int32)), (.long (q1 * (bb.toInt64)))])) (fun _ kgo => XS.bipush X1.here hx rfl (hb hby d8_9) kgo) ?_
  refine own_go (g' := (mkF m 12 #[.val (.ref o0), .val (.long q1), .second, .val (.long (q1 * (bb.toInt64))), .second, .unset, .unset, .unset, .unset] [(.long (((q1 * (bb.toInt64)).toUInt64 >>> ((6 : Int32) &&& 0x3f).toInt64.toUInt64).toInt64))])) (fun _ kgo => XS.lushr X1.here hx rfl (hb hby d8_11) rfl kgo) ?_
  refine own_go (g' := (mkF m 13 #[.val (.ref o0), .val (.long q1), .second, .val (.long (q1 * (bb.toInt64))), .second, .unset, .unset, .unset, .unset] [(.int ((((q1 * (bb.toInt64)).toUInt64 >>> ((6 : Int32) &&& 0x3f).toInt64.toUInt64).toInt64).toInt32))])) (fun _ kgo => XS.l2i X1.here hx rfl (hb hby d8_12) rfl kgo) ?_
  refine own_cast (g' := (mkF m 13 #[.val (.ref o0), .val (.long q1), .second, .val (.long (q1 * (bb.toInt64))), .second, .unset, .unset, .unset, .unset] [(.int (Int32.ofNat (P / 64)))])) (by rw [show ((((q1 * (bb.toInt64)).toUInt64 >>> ((6 : Int32) &&& 0x3f).toInt64.toUInt64).toInt64).toInt32) = (Int32.ofNat (P / 64)) from own_wdE hbt hP5]) ?_
  refine own_go (g' := (mkF m 15 #[.val (.ref o0), .val (.long q1), .second, .val (.long (q1 * (bb.toInt64))), .second, .val (.int (Int32.ofNat (P / 64))), .unset, .unset, .unset] [])) (fun _ kgo => XS.istore X1.here hx rfl (hb hby d8_13) rfl (l' := #[.val (.ref o0), .val (.long q1), .second, .val (.long (q1 * (bb.toInt64))), .second, .val (.int (Int32.ofNat (P / 64))), .unset, .unset, .unset]) rfl kgo) ?_
  refine own_go (g' := (mkF m 16 #[.val (.ref o0), .val (.long q1), .second, .val (.long (q1 * (bb.toInt64))), .second, .val (.int (Int32.ofNat (P / 64))), .unset, .unset, .unset] [(.long (q1 * (bb.toInt64)))])) (fun _ kgo => XS.lloadN X1.here hx rfl (hb hby d8_15) rfl kgo) ?_
  refine own_go (g' := (mkF m 19 #[.val (.ref o0), .val (.long q1), .second, .val (.long (q1 * (bb.toInt64))), .second, .val (.int (Int32.ofNat (P / 64))), .unset, .unset, .unset] [(.long (63 : Int64)), (.long (q1 * (bb.toInt64)))])) (X1.ldc2Long hx hown (mvT hZ (hw _ (List.mem_of_getElem? (i := 62) rfl))) (g := (mkF m 16 #[.val (.ref o0), .val (.long q1), .second, .val (.long (q1 * (bb.toInt64))), .second, .val (.int (Int32.ofNat (P / 64))), .unset, .unset, .unset] [(.long (q1 * (bb.toInt64)))])) rfl (hb hby d8_16)) ?_
  refine own_go (g' := (mkF m 20 #[.val (.ref o0), .val (.long q1), .second, .val (.long (q1 * (bb.toInt64))), .second, .val (.int (Int32.ofNat (P / 64))), .unset, .unset, .unset] [(.long ((q1 * (bb.toInt64)) &&& (63 : Int64)))])) (fun _ kgo => XS.land X1.here hx rfl (hb hby d8_19) rfl kgo) ?_
  refine own_go (g' := (mkF m 21 #[.val (.ref o0), .val (.long q1), .second, .val (.long (q1 * (bb.toInt64))), .second, .val (.int (Int32.ofNat (P / 64))), .unset, .unset, .unset] [(.int (((q1 * (bb.toInt64)) &&& (63 : Int64)).toInt32))])) (fun _ kgo => XS.l2i X1.here hx rfl (hb hby d8_20) rfl kgo) ?_
  refine own_cast (g' := (mkF m 21 #[.val (.ref o0), .val (.long q1), .second, .val (.long (q1 * (bb.toInt64))), .second, .val (.int (Int32.ofNat (P / 64))), .unset, .unset, .unset] [(.int (Int32.ofNat (P % 64)))])) (by rw [show (((q1 * (bb.toInt64)) &&& (63 : Int64)).toInt32) = (Int32.ofNat (P % 64)) from own_shE hbt hP5]) ?_
  refine own_go (g' := (mkF m 23 #[.val (.ref o0), .val (.long q1), .second, .val (.long (q1 * (bb.toInt64))), .second, .val (.int (Int32.ofNat (P / 64))), .val (.int (Int32.ofNat (P % 64))), .unset, .unset] [])) (fun _ kgo => XS.istore X1.here hx rfl (hb hby d8_21) rfl (l' := #[.val (.ref o0), .val (.long q1), .second, .val (.long (q1 * (bb.toInt64))), .second, .val (.int (Int32.ofNat (P / 64))), .val (.int (Int32.ofNat (P % 64))), .unset, .unset]) rfl kgo) ?_
  refine own_go (g' := (mkF m 24 #[.val (.ref o0), .val (.long q1), .second, .val (.long (q1 * (bb.toInt64))), .second, .val (.int (Int32.ofNat (P / 64))), .val (.int (Int32.ofNat (P % 64))), .unset, .unset] [(.ref o0)])) (fun _ kgo => XS.aloadN X1.here hx rfl (hb hby d8_23) rfl rfl kgo) ?_
  obtain ⟨T2, X2, e2, st2⟩ := getF X1 hx hZ hown (host := "") (Or.inl (hw _ (List.mem_of_getElem? (i := 29) rfl))) Via.refl e1 P3 (g := (mkF m 24 #[.val (.ref o0), .val (.long q1), .second, .val (.long (q1 * (bb.toInt64))), .second, .val (.int (Int32.ofNat (P / 64))), .val (.int (Int32.ofNat (P % 64))), .unset, .unset] [(.ref o0)])) rfl rfl (hb hby d8_24)
  refine own_go (g' := (mkF m 27 #[.val (.ref o0), .val (.long q1), .second, .val (.long (q1 * (bb.toInt64))), .second, .val (.int (Int32.ofNat (P / 64))), .val (.int (Int32.ofNat (P % 64))), .unset, .unset] [(.ref wa)])) (st2) ?_
  refine own_go (g' := (mkF m 29 #[.val (.ref o0), .val (.long q1), .second, .val (.long (q1 * (bb.toInt64))), .second, .val (.int (Int32.ofNat (P / 64))), .val (.int (Int32.ofNat (P % 64))), .unset, .unset] [(.int (Int32.ofNat (P / 64))), (.ref wa)])) (fun _ kgo => XS.iload X2.here hx rfl (hb hby d8_27) rfl kgo) ?_
  obtain ⟨cl3, Ar3, qk3, sz3, nn3, Hs3, Gs3⟩ := id P4
  have hin3 : ¬ ((Int32.ofNat (P / 64)) < 0 ∨ cl3.slots.size ≤ ((Int32.ofNat (P / 64))).toNatClampNeg) := inb_of sz3 (own_jin hj (by omega))
  have hat3 : cl3.slots[((Int32.ofNat (P / 64))).toNatClampNeg]? = some (.long (ws.getD (P / 64) 0)) := Has.at Hs3 hin3 (own_mapD ws hj)
  refine own_go (g' := (mkF m 30 #[.val (.ref o0), .val (.long q1), .second, .val (.long (q1 * (bb.toInt64))), .second, .val (.int (Int32.ofNat (P / 64))), .val (.int (Int32.ofNat (P % 64))), .unset, .unset] [(.long (ws.getD (P / 64) 0))])) (X2.laload hx (j := (Int32.ofNat (P / 64))) (v := (.long (ws.getD (P / 64) 0))) (by rw [e2]; exact Ar3.1) (State.isArrayOf_alike hZ.alike Ar3.2.1) Ar3.2.2 hin3 hat3 (g := (mkF m 29 #[.val (.ref o0), .val (.long q1), .second, .val (.long (q1 * (bb.toInt64))), .second, .val (.int (Int32.ofNat (P / 64))), .val (.int (Int32.ofNat (P % 64))), .unset, .unset] [(.int (Int32.ofNat (P / 64))), (.ref wa)])) rfl rfl (hb hby d8_29)) ?_
  refine own_go (g' := (mkF m 32 #[.val (.ref o0), .val (.long q1), .second, .val (.long (q1 * (bb.toInt64))), .second, .val (.int (Int32.ofNat (P / 64))), .val (.int (Int32.ofNat (P % 64))), .unset, .unset] [(.int (Int32.ofNat (P % 64))), (.long (ws.getD (P / 64) 0))])) (fun _ kgo => XS.iload X2.here hx rfl (hb hby d8_30) rfl kgo) ?_
  refine own_go (g' := (mkF m 33 #[.val (.ref o0), .val (.long q1), .second, .val (.long (q1 * (bb.toInt64))), .second, .val (.int (Int32.ofNat (P / 64))), .val (.int (Int32.ofNat (P % 64))), .unset, .unset] [(.long (((ws.getD (P / 64) 0).toUInt64 >>> ((Int32.ofNat (P % 64)) &&& 0x3f).toInt64.toUInt64).toInt64))])) (fun _ kgo => XS.lushr X2.here hx rfl (hb hby d8_32) rfl kgo) ?_
  refine own_go (g' := (mkF m 35 #[.val (.ref o0), .val (.long q1), .second, .val (.long (q1 * (bb.toInt64))), .second, .val (.int (Int32.ofNat (P / 64))), .val (.int (Int32.ofNat (P % 64))), .val (.long (((ws.getD (P / 64) 0).toUInt64 >>> ((Int32.ofNat (P % 64)) &&& 0x3f).toInt64.toUInt64).toInt64)), .second] [])) (fun _ kgo => XS.lstore X2.here hx rfl (hb hby d8_33) rfl (l' := #[.val (.ref o0), .val (.long q1), .second, .val (.long (q1 * (bb.toInt64))), .second, .val (.int (Int32.ofNat (P / 64))), .val (.int (Int32.ofNat (P % 64))), .val (.long (((ws.getD (P / 64) 0).toUInt64 >>> ((Int32.ofNat (P % 64)) &&& 0x3f).toInt64.toUInt64).toInt64)), .second]) rfl kgo) ?_
  refine own_go (g' := (mkF m 37 #[.val (.ref o0), .val (.long q1), .second, .val (.long (q1 * (bb.toInt64))), .second, .val (.int (Int32.ofNat (P / 64))), .val (.int (Int32.ofNat (P % 64))), .val (.long (((ws.getD (P / 64) 0).toUInt64 >>> ((Int32.ofNat (P % 64)) &&& 0x3f).toInt64.toUInt64).toInt64)), .second] [(.int (Int32.ofNat (P % 64)))])) (fun _ kgo => XS.iload X2.here hx rfl (hb hby d8_35) rfl kgo) ?_
  refine own_go (g' := (mkF m 39 #[.val (.ref o0), .val (.long q1), .second, .val (.long (q1 * (bb.toInt64))), .second, .val (.int (Int32.ofNat (P / 64))), .val (.int (Int32.ofNat (P % 64))), .val (.long (((ws.getD (P / 64) 0).toUInt64 >>> ((Int32.ofNat (P % 64)) &&& 0x3f).toInt64.toUInt64).toInt64)), .second] [(.int (64 : Int32)), (.int (Int32.ofNat (P % 64)))])) (fun _ kgo => XS.bipush X2.here hx rfl (hb hby d8_37) kgo) ?_
  refine own_go (g' := (mkF m 40 #[.val (.ref o0), .val (.long q1), .second, .val (.long (q1 * (bb.toInt64))), .second, .val (.int (Int32.ofNat (P / 64))), .val (.int (Int32.ofNat (P % 64))), .val (.long (((ws.getD (P / 64) 0).toUInt64 >>> ((Int32.ofNat (P % 64)) &&& 0x3f).toInt64.toUInt64).toInt64)), .second] [(.ref o0), (.int (64 : Int32)), (.int (Int32.ofNat (P % 64)))])) (fun _ kgo => XS.aloadN X2.here hx rfl (hb hby d8_39) rfl rfl kgo) ?_
  obtain ⟨T4, X4, e4, st4⟩ := getF X2 hx hZ hown (host := "") (Or.inl (hw _ (List.mem_of_getElem? (i := 19) rfl))) Via.refl e2 P1 (g := (mkF m 40 #[.val (.ref o0), .val (.long q1), .second, .val (.long (q1 * (bb.toInt64))), .second, .val (.int (Int32.ofNat (P / 64))), .val (.int (Int32.ofNat (P % 64))), .val (.long (((ws.getD (P / 64) 0).toUInt64 >>> ((Int32.ofNat (P % 64)) &&& 0x3f).toInt64.toUInt64).toInt64)), .second] [(.ref o0), (.int (64 : Int32)), (.int (Int32.ofNat (P % 64)))])) rfl rfl (hb hby d8_40)
  refine own_go (g' := (mkF m 43 #[.val (.ref o0), .val (.long q1), .second, .val (.long (q1 * (bb.toInt64))), .second, .val (.int (Int32.ofNat (P / 64))), .val (.int (Int32.ofNat (P % 64))), .val (.long (((ws.getD (P / 64) 0).toUInt64 >>> ((Int32.ofNat (P % 64)) &&& 0x3f).toInt64.toUInt64).toInt64)), .second] [(.int bb), (.int (64 : Int32)), (.int (Int32.ofNat (P % 64)))])) (st4) ?_
  refine own_go (g' := (mkF m 44 #[.val (.ref o0), .val (.long q1), .second, .val (.long (q1 * (bb.toInt64))), .second, .val (.int (Int32.ofNat (P / 64))), .val (.int (Int32.ofNat (P % 64))), .val (.long (((ws.getD (P / 64) 0).toUInt64 >>> ((Int32.ofNat (P % 64)) &&& 0x3f).toInt64.toUInt64).toInt64)), .second] [(.int ((64 : Int32) - bb)), (.int (Int32.ofNat (P % 64)))])) (fun _ kgo => XS.isub X4.here hx rfl (hb hby d8_43) rfl kgo) ?_
  by_cases hc5 : ((64 : Int32) - bb) < (Int32.ofNat (P % 64))
  ·
    refine own_go (g' := (mkF m 47 #[.val (.ref o0), .val (.long q1), .second, .val (.long (q1 * (bb.toInt64))), .second, .val (.int (Int32.ofNat (P / 64))), .val (.int (Int32.ofNat (P % 64))), .val (.long (((ws.getD (P / 64) 0).toUInt64 >>> ((Int32.ofNat (P % 64)) &&& 0x3f).toInt64.toUInt64).toInt64)), .second] [])) (fun _ kgo => XS.icmpNo X4.here hx rfl (hb hby d8_44) rfl (tlt hc5).2.2.2 kgo) ?_
    refine own_go (g' := (mkF m 49 #[.val (.ref o0), .val (.long q1), .second, .val (.long (q1 * (bb.toInt64))), .second, .val (.int (Int32.ofNat (P / 64))), .val (.int (Int32.ofNat (P % 64))), .val (.long (((ws.getD (P / 64) 0).toUInt64 >>> ((Int32.ofNat (P % 64)) &&& 0x3f).toInt64.toUInt64).toInt64)), .second] [(.long (((ws.getD (P / 64) 0).toUInt64 >>> ((Int32.ofNat (P % 64)) &&& 0x3f).toInt64.toUInt64).toInt64))])) (fun _ kgo => XS.lload X4.here hx rfl (hb hby d8_47) rfl kgo) ?_
    refine own_go (g' := (mkF m 50 #[.val (.ref o0), .val (.long q1), .second, .val (.long (q1 * (bb.toInt64))), .second, .val (.int (Int32.ofNat (P / 64))), .val (.int (Int32.ofNat (P % 64))), .val (.long (((ws.getD (P / 64) 0).toUInt64 >>> ((Int32.ofNat (P % 64)) &&& 0x3f).toInt64.toUInt64).toInt64)), .second] [(.ref o0), (.long (((ws.getD (P / 64) 0).toUInt64 >>> ((Int32.ofNat (P % 64)) &&& 0x3f).toInt64.toUInt64).toInt64))])) (fun _ kgo => XS.aloadN X4.here hx rfl (hb hby d8_49) rfl rfl kgo) ?_
    obtain ⟨T6, X6, e6, st6⟩ := getF X4 hx hZ hown (host := "") (Or.inl (hw _ (List.mem_of_getElem? (i := 29) rfl))) Via.refl e4 P3 (g := (mkF m 50 #[.val (.ref o0), .val (.long q1), .second, .val (.long (q1 * (bb.toInt64))), .second, .val (.int (Int32.ofNat (P / 64))), .val (.int (Int32.ofNat (P % 64))), .val (.long (((ws.getD (P / 64) 0).toUInt64 >>> ((Int32.ofNat (P % 64)) &&& 0x3f).toInt64.toUInt64).toInt64)), .second] [(.ref o0), (.long (((ws.getD (P / 64) 0).toUInt64 >>> ((Int32.ofNat (P % 64)) &&& 0x3f).toInt64.toUInt64).toInt64))])) rfl rfl (hb hby d8_50)
    refine own_go (g' := (mkF m 53 #[.val (.ref o0), .val (.long q1), .second, .val (.long (q1 * (bb.toInt64))), .second, .val (.int (Int32.ofNat (P / 64))), .val (.int (Int32.ofNat (P % 64))), .val (.long (((ws.getD (P / 64) 0).toUInt64 >>> ((Int32.ofNat (P % 64)) &&& 0x3f).toInt64.toUInt64).toInt64)), .second] [(.ref wa), (.long (((ws.getD (P / 64) 0).toUInt64 >>> ((Int32.ofNat (P % 64)) &&& 0x3f).toInt64.toUInt64).toInt64))])) (st6) ?_
    refine own_go (g' := (mkF m 55 #[.val (.ref o0), .val (.long q1), .second, .val (.long (q1 * (bb.toInt64))), .second, .val (.int (Int32.ofNat (P / 64))), .val (.int (Int32.ofNat (P % 64))), .val (.long (((ws.getD (P / 64) 0).toUInt64 >>> ((Int32.ofNat (P % 64)) &&& 0x3f).toInt64.toUInt64).toInt64)), .second] [(.int (Int32.ofNat (P / 64))), (.ref wa), (.long (((ws.getD (P / 64) 0).toUInt64 >>> ((Int32.ofNat (P % 64)) &&& 0x3f).toInt64.toUInt64).toInt64))])) (fun _ kgo => XS.iload X6.here hx rfl (hb hby d8_53) rfl kgo) ?_
    refine own_go (g' := (mkF m 56 #[.val (.ref o0), .val (.long q1), .second, .val (.long (q1 * (bb.toInt64))), .second, .val (.int (Int32.ofNat (P / 64))), .val (.int (Int32.ofNat (P % 64))), .val (.long (((ws.getD (P / 64) 0).toUInt64 >>> ((Int32.ofNat (P % 64)) &&& 0x3f).toInt64.toUInt64).toInt64)), .second] [(.int (1 : Int32)), (.int (Int32.ofNat (P / 64))), (.ref wa), (.long (((ws.getD (P / 64) 0).toUInt64 >>> ((Int32.ofNat (P % 64)) &&& 0x3f).toInt64.toUInt64).toInt64))])) (fun _ kgo => XS.iconst X6.here hx rfl (hb hby d8_55) kgo) ?_
    refine own_go (g' := (mkF m 57 #[.val (.ref o0), .val (.long q1), .second, .val (.long (q1 * (bb.toInt64))), .second, .val (.int (Int32.ofNat (P / 64))), .val (.int (Int32.ofNat (P % 64))), .val (.long (((ws.getD (P / 64) 0).toUInt64 >>> ((Int32.ofNat (P % 64)) &&& 0x3f).toInt64.toUInt64).toInt64)), .second] [(.int ((Int32.ofNat (P / 64)) + (1 : Int32))), (.ref wa), (.long (((ws.getD (P / 64) 0).toUInt64 >>> ((Int32.ofNat (P % 64)) &&& 0x3f).toInt64.toUInt64).toInt64))])) (fun _ kgo => XS.iadd X6.here hx rfl (hb hby d8_56) rfl kgo) ?_
    refine own_cast (g' := (mkF m 57 #[.val (.ref o0), .val (.long q1), .second, .val (.long (q1 * (bb.toInt64))), .second, .val (.int (Int32.ofNat (P / 64))), .val (.int (Int32.ofNat (P % 64))), .val (.long (((ws.getD (P / 64) 0).toUInt64 >>> ((Int32.ofNat (P % 64)) &&& 0x3f).toInt64.toUInt64).toInt64)), .second] [(.int (Int32.ofNat (P / 64 + 1))), (.ref wa), (.long (((ws.getD (P / 64) 0).toUInt64 >>> ((Int32.ofNat (P % 64)) &&& 0x3f).toInt64.toUInt64).toInt64))])) (by rw [show ((Int32.ofNat (P / 64)) + (1 : Int32)) = (Int32.ofNat (P / 64 + 1)) from own_j1E hj]) ?_
    obtain ⟨cl7, Ar7, qk7, sz7, nn7, Hs7, Gs7⟩ := id P4
    have hin7 : ¬ ((Int32.ofNat (P / 64 + 1)) < 0 ∨ cl7.slots.size ≤ ((Int32.ofNat (P / 64 + 1))).toNatClampNeg) := inb_of sz7 (own_jin (j := P / 64 + 1) (by omega) (by have := (own_strad hb1 hk64).mp hc5; omega))
    have hat7 : cl7.slots[((Int32.ofNat (P / 64 + 1))).toNatClampNeg]? = some (.long (ws.getD (P / 64 + 1) 0)) := Has.at Hs7 hin7 (own_mapD ws (by omega))
    refine own_go (g' := (mkF m 58 #[.val (.ref o0), .val (.long q1), .second, .val (.long (q1 * (bb.toInt64))), .second, .val (.int (Int32.ofNat (P / 64))), .val (.int (Int32.ofNat (P % 64))), .val (.long (((ws.getD (P / 64) 0).toUInt64 >>> ((Int32.ofNat (P % 64)) &&& 0x3f).toInt64.toUInt64).toInt64)), .second] [(.long (ws.getD (P / 64 + 1) 0)), (.long (((ws.getD (P / 64) 0).toUInt64 >>> ((Int32.ofNat (P % 64)) &&& 0x3f).toInt64.toUInt64).toInt64))])) (X6.laload hx (j := (Int32.ofNat (P / 64 + 1))) (v := (.long (ws.getD (P / 64 + 1) 0))) (by rw [e6]; exact Ar7.1) (State.isArrayOf_alike hZ.alike Ar7.2.1) Ar7.2.2 hin7 hat7 (g := (mkF m 57 #[.val (.ref o0), .val (.long q1), .second, .val (.long (q1 * (bb.toInt64))), .second, .val (.int (Int32.ofNat (P / 64))), .val (.int (Int32.ofNat (P % 64))), .val (.long (((ws.getD (P / 64) 0).toUInt64 >>> ((Int32.ofNat (P % 64)) &&& 0x3f).toInt64.toUInt64).toInt64)), .second] [(.int (Int32.ofNat (P / 64 + 1))), (.ref wa), (.long (((ws.getD (P / 64) 0).toUInt64 >>> ((Int32.ofNat (P % 64)) &&& 0x3f).toInt64.toUInt64).toInt64))])) rfl rfl (hb hby d8_57)) ?_
    refine own_go (g' := (mkF m 60 #[.val (.ref o0), .val (.long q1), .second, .val (.long (q1 * (bb.toInt64))), .second, .val (.int (Int32.ofNat (P / 64))), .val (.int (Int32.ofNat (P % 64))), .val (.long (((ws.getD (P / 64) 0).toUInt64 >>> ((Int32.ofNat (P % 64)) &&& 0x3f).toInt64.toUInt64).toInt64)), .second] [(.int (64 : Int32)), (.long (ws.getD (P / 64 + 1) 0)), (.long (((ws.getD (P / 64) 0).toUInt64 >>> ((Int32.ofNat (P % 64)) &&& 0x3f).toInt64.toUInt64).toInt64))])) (fun _ kgo => XS.bipush X6.here hx rfl (hb hby d8_58) kgo) ?_
    refine own_go (g' := (mkF m 62 #[.val (.ref o0), .val (.long q1), .second, .val (.long (q1 * (bb.toInt64))), .second, .val (.int (Int32.ofNat (P / 64))), .val (.int (Int32.ofNat (P % 64))), .val (.long (((ws.getD (P / 64) 0).toUInt64 >>> ((Int32.ofNat (P % 64)) &&& 0x3f).toInt64.toUInt64).toInt64)), .second] [(.int (Int32.ofNat (P % 64))), (.int (64 : Int32)), (.long (ws.getD (P / 64 + 1) 0)), (.long (((ws.getD (P / 64) 0).toUInt64 >>> ((Int32.ofNat (P % 64)) &&& 0x3f).toInt64.toUInt64).toInt64))])) (fun _ kgo => XS.iload X6.here hx rfl (hb hby d8_60) rfl kgo) ?_
    refine own_go (g' := (mkF m 63 #[.val (.ref o0), .val (.long q1), .second, .val (.long (q1 * (bb.toInt64))), .second, .val (.int (Int32.ofNat (P / 64))), .val (.int (Int32.ofNat (P % 64))), .val (.long (((ws.getD (P / 64) 0).toUInt64 >>> ((Int32.ofNat (P % 64)) &&& 0x3f).toInt64.toUInt64).toInt64)), .second] [(.int ((64 : Int32) - (Int32.ofNat (P % 64)))), (.long (ws.getD (P / 64 + 1) 0)), (.long (((ws.getD (P / 64) 0).toUInt64 >>> ((Int32.ofNat (P % 64)) &&& 0x3f).toInt64.toUInt64).toInt64))])) (fun _ kgo => XS.isub X6.here hx rfl (hb hby d8_62) rfl kgo) ?_
    refine own_cast (g' := (mkF m 63 #[.val (.ref o0), .val (.long q1), .second, .val (.long (q1 * (bb.toInt64))), .second, .val (.int (Int32.ofNat (P / 64))), .val (.int (Int32.ofNat (P % 64))), .val (.long (((ws.getD (P / 64) 0).toUInt64 >>> ((Int32.ofNat (P % 64)) &&& 0x3f).toInt64.toUInt64).toInt64)), .second] [(.int (Int32.ofNat (64 - P % 64))), (.long (ws.getD (P / 64 + 1) 0)), (.long (((ws.getD (P / 64) 0).toUInt64 >>> ((Int32.ofNat (P % 64)) &&& 0x3f).toInt64.toUInt64).toInt64))])) (by rw [show ((64 : Int32) - (Int32.ofNat (P % 64))) = (Int32.ofNat (64 - P % 64)) from own_caE hk64]) ?_
    refine own_go (g' := (mkF m 64 #[.val (.ref o0), .val (.long q1), .second, .val (.long (q1 * (bb.toInt64))), .second, .val (.int (Int32.ofNat (P / 64))), .val (.int (Int32.ofNat (P % 64))), .val (.long (((ws.getD (P / 64) 0).toUInt64 >>> ((Int32.ofNat (P % 64)) &&& 0x3f).toInt64.toUInt64).toInt64)), .second] [(.long ((ws.getD (P / 64 + 1) 0) <<< ((Int32.ofNat (64 - P % 64)) &&& 0x3f).toInt64)), (.long (((ws.getD (P / 64) 0).toUInt64 >>> ((Int32.ofNat (P % 64)) &&& 0x3f).toInt64.toUInt64).toInt64))])) (fun _ kgo => XS.lshl X6.here hx rfl (hb hby d8_63) rfl kgo) ?_
    refine own_go (g' := (mkF m 65 #[.val (.ref o0), .val (.long q1), .second, .val (.long (q1 * (bb.toInt64))), .second, .val (.int (Int32.ofNat (P / 64))), .val (.int (Int32.ofNat (P % 64))), .val (.long (((ws.getD (P / 64) 0).toUInt64 >>> ((Int32.ofNat (P % 64)) &&& 0x3f).toInt64.toUInt64).toInt64)), .second] [(.long ((((ws.getD (P / 64) 0).toUInt64 >>> ((Int32.ofNat (P % 64)) &&& 0x3f).toInt64.toUInt64).toInt64) ||| ((ws.getD (P / 64 + 1) 0) <<< ((Int32.ofNat (64 - P % 64)) &&& 0x3f).toInt64)))])) (fun _ kgo => XS.lor X6.here hx rfl (hb hby d8_64) rfl kgo) ?_
    refine own_go (g' := (mkF m 67 #[.val (.ref o0), .val (.long q1), .second, .val (.long (q1 * (bb.toInt64))), .second, .val (.int (Int32.ofNat (P / 64))), .val (.int (Int32.ofNat (P % 64))), .val (.long ((((ws.getD (P / 64) 0).toUInt64 >>> ((Int32.ofNat (P % 64)) &&& 0x3f).toInt64.toUInt64).toInt64) ||| ((ws.getD (P / 64 + 1) 0) <<< ((Int32.ofNat (64 - P % 64)) &&& 0x3f).toInt64))), .second] [])) (fun _ kgo => XS.lstore X6.here hx rfl (hb hby d8_65) rfl (l' := #[.val (.ref o0), .val (.long q1), .second, .val (.long (q1 * (bb.toInt64))), .second, .val (.int (Int32.ofNat (P / 64))), .val (.int (Int32.ofNat (P % 64))), .val (.long ((((ws.getD (P / 64) 0).toUInt64 >>> ((Int32.ofNat (P % 64)) &&& 0x3f).toInt64.toUInt64).toInt64) ||| ((ws.getD (P / 64 + 1) 0) <<< ((Int32.ofNat (64 - P % 64)) &&& 0x3f).toInt64))), .second]) rfl kgo) ?_
    refine own_go (g' := (mkF m 69 #[.val (.ref o0), .val (.long q1), .second, .val (.long (q1 * (bb.toInt64))), .second, .val (.int (Int32.ofNat (P / 64))), .val (.int (Int32.ofNat (P % 64))), .val (.long ((((ws.getD (P / 64) 0).toUInt64 >>> ((Int32.ofNat (P % 64)) &&& 0x3f).toInt64.toUInt64).toInt64) ||| ((ws.getD (P / 64 + 1) 0) <<< ((Int32.ofNat (64 - P % 64)) &&& 0x3f).toInt64))), .second] [(.long ((((ws.getD (P / 64) 0).toUInt64 >>> ((Int32.ofNat (P % 64)) &&& 0x3f).toInt64.toUInt64).toInt64) ||| ((ws.getD (P / 64 + 1) 0) <<< ((Int32.ofNat (64 - P % 64)) &&& 0x3f).toInt64)))])) (fun _ kgo => XS.lload X6.here hx rfl (hb hby d8_67) rfl kgo) ?_
    refine own_go (g' := (mkF m 70 #[.val (.ref o0), .val (.long q1), .second, .val (.long (q1 * (bb.toInt64))), .second, .val (.int (Int32.ofNat (P / 64))), .val (.int (Int32.ofNat (P % 64))), .val (.long ((((ws.getD (P / 64) 0).toUInt64 >>> ((Int32.ofNat (P % 64)) &&& 0x3f).toInt64.toUInt64).toInt64) ||| ((ws.getD (P / 64 + 1) 0) <<< ((Int32.ofNat (64 - P % 64)) &&& 0x3f).toInt64))), .second] [(.ref o0), (.long ((((ws.getD (P / 64) 0).toUInt64 >>> ((Int32.ofNat (P % 64)) &&& 0x3f).toInt64.toUInt64).toInt64) ||| ((ws.getD (P / 64 + 1) 0) <<< ((Int32.ofNat (64 - P % 64)) &&& 0x3f).toInt64)))])) (fun _ kgo => XS.aloadN X6.here hx rfl (hb hby d8_69) rfl rfl kgo) ?_
    obtain ⟨T8, X8, e8, st8⟩ := getF X6 hx hZ hown (host := "") (Or.inl (hw _ (List.mem_of_getElem? (i := 21) rfl))) Via.refl e6 P2 (g := (mkF m 70 #[.val (.ref o0), .val (.long q1), .second, .val (.long (q1 * (bb.toInt64))), .second, .val (.int (Int32.ofNat (P / 64))), .val (.int (Int32.ofNat (P % 64))), .val (.long ((((ws.getD (P / 64) 0).toUInt64 >>> ((Int32.ofNat (P % 64)) &&& 0x3f).toInt64.toUInt64).toInt64) ||| ((ws.getD (P / 64 + 1) 0) <<< ((Int32.ofNat (64 - P % 64)) &&& 0x3f).toInt64))), .second] [(.ref o0), (.long ((((ws.getD (P / 64) 0).toUInt64 >>> ((Int32.ofNat (P % 64)) &&& 0x3f).toInt64.toUInt64).toInt64) ||| ((ws.getD (P / 64 + 1) 0) <<< ((Int32.ofNat (64 - P % 64)) &&& 0x3f).toInt64)))])) rfl rfl (hb hby d8_70)
    refine own_go (g' := (mkF m 73 #[.val (.ref o0), .val (.long q1), .second, .val (.long (q1 * (bb.toInt64))), .second, .val (.int (Int32.ofNat (P / 64))), .val (.int (Int32.ofNat (P % 64))), .val (.long ((((ws.getD (P / 64) 0).toUInt64 >>> ((Int32.ofNat (P % 64)) &&& 0x3f).toInt64.toUInt64).toInt64) ||| ((ws.getD (P / 64 + 1) 0) <<< ((Int32.ofNat (64 - P % 64)) &&& 0x3f).toInt64))), .second] [(.long mm), (.long ((((ws.getD (P / 64) 0).toUInt64 >>> ((Int32.ofNat (P % 64)) &&& 0x3f).toInt64.toUInt64).toInt64) ||| ((ws.getD (P / 64 + 1) 0) <<< ((Int32.ofNat (64 - P % 64)) &&& 0x3f).toInt64)))])) (st8) ?_
    refine own_go (g' := (mkF m 74 #[.val (.ref o0), .val (.long q1), .second, .val (.long (q1 * (bb.toInt64))), .second, .val (.int (Int32.ofNat (P / 64))), .val (.int (Int32.ofNat (P % 64))), .val (.long ((((ws.getD (P / 64) 0).toUInt64 >>> ((Int32.ofNat (P % 64)) &&& 0x3f).toInt64.toUInt64).toInt64) ||| ((ws.getD (P / 64 + 1) 0) <<< ((Int32.ofNat (64 - P % 64)) &&& 0x3f).toInt64))), .second] [(.long (((((ws.getD (P / 64) 0).toUInt64 >>> ((Int32.ofNat (P % 64)) &&& 0x3f).toInt64.toUInt64).toInt64) ||| ((ws.getD (P / 64 + 1) 0) <<< ((Int32.ofNat (64 - P % 64)) &&& 0x3f).toInt64)) &&& mm))])) (fun _ kgo => XS.land X8.here hx rfl (hb hby d8_73) rfl kgo) ?_
    refine own_go (g' := (mkF m 75 #[.val (.ref o0), .val (.long q1), .second, .val (.long (q1 * (bb.toInt64))), .second, .val (.int (Int32.ofNat (P / 64))), .val (.int (Int32.ofNat (P % 64))), .val (.long ((((ws.getD (P / 64) 0).toUInt64 >>> ((Int32.ofNat (P % 64)) &&& 0x3f).toInt64.toUInt64).toInt64) ||| ((ws.getD (P / 64 + 1) 0) <<< ((Int32.ofNat (64 - P % 64)) &&& 0x3f).toInt64))), .second] [(.int ((((((ws.getD (P / 64) 0).toUInt64 >>> ((Int32.ofNat (P % 64)) &&& 0x3f).toInt64.toUInt64).toInt64) ||| ((ws.getD (P / 64 + 1) 0) <<< ((Int32.ofNat (64 - P % 64)) &&& 0x3f).toInt64)) &&& mm).toInt32))])) (fun _ kgo => XS.l2i X8.here hx rfl (hb hby d8_74) rfl kgo) ?_
    refine own_retI X8 hx Bd.returns Bd.notSynchronized (hb hby d8_75) (by decide) (by decide) ?_
    show QQ _ T8.heap _
    rw [e8]
    rw [← hQQ]
    exact ⟨(by unfold own_getP own_get; rw [if_pos ((own_strad hb1 hk64).mp hc5)]), rfl, rfl⟩
  ·
    refine own_go (g' := (mkF m 67 #[.val (.ref o0), .val (.long q1), .second, .val (.long (q1 * (bb.toInt64))), .second, .val (.int (Int32.ofNat (P / 64))), .val (.int (Int32.ofNat (P % 64))), .val (.long (((ws.getD (P / 64) 0).toUInt64 >>> ((Int32.ofNat (P % 64)) &&& 0x3f).toInt64.toUInt64).toInt64)), .second] [])) (fun _ kgo => XS.icmpYes X4.here hx rfl (pc0 := 44) (pc' := 67) rfl (hb hby d8_44) rfl (flt hc5).2.2.2 (by decide) (by decide) kgo) ?_
    refine own_go (g' := (mkF m 69 #[.val (.ref o0), .val (.long q1), .second, .val (.long (q1 * (bb.toInt64))), .second, .val (.int (Int32.ofNat (P / 64))), .val (.int (Int32.ofNat (P % 64))), .val (.long (((ws.getD (P / 64) 0).toUInt64 >>> ((Int32.ofNat (P % 64)) &&& 0x3f).toInt64.toUInt64).toInt64)), .second] [(.long (((ws.getD (P / 64) 0).toUInt64 >>> ((Int32.ofNat (P % 64)) &&& 0x3f).toInt64.toUInt64).toInt64))])) (fun _ kgo => XS.lload X4.here hx rfl (hb hby d8_67) rfl kgo) ?_
    refine own_go (g' := (mkF m 70 #[.val (.ref o0), .val (.long q1), .second, .val (.long (q1 * (bb.toInt64))), .second, .val (.int (Int32.ofNat (P / 64))), .val (.int (Int32.ofNat (P % 64))), .val (.long (((ws.getD (P / 64) 0).toUInt64 >>> ((Int32.ofNat (P % 64)) &&& 0x3f).toInt64.toUInt64).toInt64)), .second] [(.ref o0), (.long (((ws.getD (P / 64) 0).toUInt64 >>> ((Int32.ofNat (P % 64)) &&& 0x3f).toInt64.toUInt64).toInt64))])) (fun _ kgo => XS.aloadN X4.here hx rfl (hb hby d8_69) rfl rfl kgo) ?_
    obtain ⟨T9, X9, e9, st9⟩ := getF X4 hx hZ hown (host := "") (Or.inl (hw _ (List.mem_of_getElem? (i := 21) rfl))) Via.refl e4 P2 (g := (mkF m 70 #[.val (.ref o0), .val (.long q1), .second, .val (.long (q1 * (bb.toInt64))), .second, .val (.int (Int32.ofNat (P / 64))), .val (.int (Int32.ofNat (P % 64))), .val (.long (((ws.getD (P / 64) 0).toUInt64 >>> ((Int32.ofNat (P % 64)) &&& 0x3f).toInt64.toUInt64).toInt64)), .second] [(.ref o0), (.long (((ws.getD (P / 64) 0).toUInt64 >>> ((Int32.ofNat (P % 64)) &&& 0x3f).toInt64.toUInt64).toInt64))])) rfl rfl (hb hby d8_70)
    refine own_go (g' := (mkF m 73 #[.val (.ref o0), .val (.long q1), .second, .val (.long (q1 * (bb.toInt64))), .second, .val (.int (Int32.ofNat (P / 64))), .val (.int (Int32.ofNat (P % 64))), .val (.long (((ws.getD (P / 64) 0).toUInt64 >>> ((Int32.ofNat (P % 64)) &&& 0x3f).toInt64.toUInt64).toInt64)), .second] [(.long mm), (.long (((ws.getD (P / 64) 0).toUInt64 >>> ((Int32.ofNat (P % 64)) &&& 0x3f).toInt64.toUInt64).toInt64))])) (st9) ?_
    refine own_go (g' := (mkF m 74 #[.val (.ref o0), .val (.long q1), .second, .val (.long (q1 * (bb.toInt64))), .second, .val (.int (Int32.ofNat (P / 64))), .val (.int (Int32.ofNat (P % 64))), .val (.long (((ws.getD (P / 64) 0).toUInt64 >>> ((Int32.ofNat (P % 64)) &&& 0x3f).toInt64.toUInt64).toInt64)), .second] [(.long ((((ws.getD (P / 64) 0).toUInt64 >>> ((Int32.ofNat (P % 64)) &&& 0x3f).toInt64.toUInt64).toInt64) &&& mm))])) (fun _ kgo => XS.land X9.here hx rfl (hb hby d8_73) rfl kgo) ?_
    refine own_go (g' := (mkF m 75 #[.val (.ref o0), .val (.long q1), .second, .val (.long (q1 * (bb.toInt64))), .second, .val (.int (Int32.ofNat (P / 64))), .val (.int (Int32.ofNat (P % 64))), .val (.long (((ws.getD (P / 64) 0).toUInt64 >>> ((Int32.ofNat (P % 64)) &&& 0x3f).toInt64.toUInt64).toInt64)), .second] [(.int (((((ws.getD (P / 64) 0).toUInt64 >>> ((Int32.ofNat (P % 64)) &&& 0x3f).toInt64.toUInt64).toInt64) &&& mm).toInt32))])) (fun _ kgo => XS.l2i X9.here hx rfl (hb hby d8_74) rfl kgo) ?_
    refine own_retI X9 hx Bd.returns Bd.notSynchronized (hb hby d8_75) (by decide) (by decide) ?_
    show QQ _ T9.heap _
    rw [e9]
    rw [← hQQ]
    exact ⟨(by unfold own_getP own_get; rw [if_neg (mt (own_strad hb1 hk64).mpr hc5)]), rfl, rfl⟩
theorem own_modr (x n : Int32) (hx : 0 ≤ x.toInt) (hn : 1 ≤ n.toInt ∧ n.toInt ≤ 100) : 1 ≤ ((1 : Int32) + (x % n)).toInt ∧ ((1 : Int32) + (x % n)).toInt ≤ n.toInt := by
  have h1 : (x % n).toInt = x.toInt % n.toInt := by rw [Int32.toInt_mod, Int.tmod_eq_emod_of_nonneg hx]
  have h2 := Int.emod_lt_of_pos x.toInt (show 0 < n.toInt by omega)
  have h3 := Int.emod_nonneg x.toInt (show n.toInt ≠ 0 by omega)
  have h4 := c_iadd (1 : Int32) (x % n)
  have h5 := rng32 ((1 : Int32) + (x % n))
  rw [h1] at h4
  simp only [Int32.reduceToInt] at h4
  omega
theorem own_pos (x : Int32) : 0 ≤ (x &&& (2147483647 : Int32)).toInt := by
  have h1 := c_mask x (2147483647 : Int32) 31 (by decide) (by decide)
  simp only [Nat.reducePow, Int.cast_ofNat_Int] at h1
  omega
theorem own_bits (x : Int32) : 1 ≤ ((1 : Int32) + ((x &&& (2147483647 : Int32)) % (63 : Int32))).toInt ∧ ((1 : Int32) + ((x &&& (2147483647 : Int32)) % (63 : Int32))).toInt ≤ 63 := own_modr _ _ (own_pos x) (by decide)
theorem own_ct (x : Int64) : 3 ≤ ((3 : Int32) + (x &&& (63 : Int64)).toInt32).toInt ∧ ((3 : Int32) + (x &&& (63 : Int64)).toInt32).toInt ≤ 66 := by
  have h1 := c_maskL x (63 : Int64) 6 (by decide) (by decide)
  have h2 := c_l2i (x &&& (63 : Int64))
  have h3 := rng32 (x &&& (63 : Int64)).toInt32
  have h4 := c_iadd (3 : Int32) (x &&& (63 : Int64)).toInt32
  have h5 := rng32 ((3 : Int32) + (x &&& (63 : Int64)).toInt32)
  simp only [Nat.reducePow, Int.cast_ofNat_Int, Int32.reduceToInt] at h1 h4
  omega
theorem own_ct2 {c : Int32} (h : 3 ≤ c.toInt ∧ c.toInt ≤ 66) : (c - (2 : Int32)).toInt = c.toInt - 2 := by
  have h4 := c_isub c (2 : Int32)
  have h5 := rng32 (c - (2 : Int32))
  simp only [Int32.reduceToInt] at h4
  omega
theorem own_ctz {c : Int32} (h : 3 ≤ c.toInt ∧ c.toInt ≤ 66) : ¬ (c - (2 : Int32)) = (0 : Int32) := fun q => by
  have := own_ct2 h
  rw [q] at this; simp only [Int32.reduceToInt] at this; omega
theorem own_iir {c : Int32} (x : Int32) (h : 3 ≤ c.toInt ∧ c.toInt ≤ 66) : 1 ≤ ((1 : Int32) + ((x &&& (2147483647 : Int32)) % (c - (2 : Int32)))).toInt ∧ ((1 : Int32) + ((x &&& (2147483647 : Int32)) % (c - (2 : Int32)))).toInt ≤ c.toInt - 2 := by
  have h1 := own_ct2 h
  have h2 := own_modr (x &&& (2147483647 : Int32)) (c - (2 : Int32)) (own_pos x) (by omega)
  omega
theorem own_PP {b c i : Int32} (hb : 1 ≤ b.toInt ∧ b.toInt ≤ 63) (hq : 3 ≤ c.toInt64.toInt ∧ c.toInt64.toInt ≤ 66) (hi : 1 ≤ i.toInt ∧ i.toInt ≤ c.toInt - 2) :
    ∃ P : Nat, (P : Int) = i.toInt64.toInt * b.toInt ∧ (((P - b.toInt.toNat) : Nat) : Int) = (i - (1 : Int32)).toInt64.toInt * b.toInt ∧ (((P + b.toInt.toNat) : Nat) : Int) = (i + (1 : Int32)).toInt64.toInt * b.toInt ∧ b.toInt.toNat ≤ P ∧
      P + b.toInt.toNat + b.toInt.toNat ≤ 64 * ((own_by c.toInt64 b / (8 : Int64)).toInt32).toInt.toNat ∧ ((own_by c.toInt64 b / (8 : Int64)).toInt32).toInt.toNat ≤ 65 ∧ 0 ≤ ((own_by c.toInt64 b / (8 : Int64)).toInt32).toInt := by
  have hn := own_nw hb hq
  generalize ((own_by c.toInt64 b / (8 : Int64)).toInt32).toInt = N at *
  simp only [c_i2l] at *
  have e1 : (i - (1 : Int32)).toInt = i.toInt - 1 := by
    have h4 := c_isub i (1 : Int32)
    have h5 := rng32 (i - (1 : Int32))
    simp only [Int32.reduceToInt] at h4
    omega
  have e2 : (i + (1 : Int32)).toInt = i.toInt + 1 := by
    have h4 := c_iadd i (1 : Int32)
    have h5 := rng32 (i + (1 : Int32))
    simp only [Int32.reduceToInt] at h4
    omega
  rw [e1, e2, Int.sub_mul, Int.add_mul, Int.one_mul]
  have h1 : 1 * b.toInt ≤ i.toInt * b.toInt := Int.mul_le_mul_of_nonneg_right hi.1 (by omega)
  have h2 : (i.toInt + 2) * b.toInt ≤ c.toInt * b.toInt := Int.mul_le_mul_of_nonneg_right (by omega) (by omega)
  rw [Int.add_mul] at h2
  generalize i.toInt * b.toInt = Q at *
  generalize c.toInt * b.toInt = M at *
  refine ⟨Q.toNat, ?_, ?_, ?_, ?_, ?_, ?_, ?_⟩ <;> omega
theorem pn_rm0 : plainName "com/example/seenset/seenset/util/CellsSetPinLaw" = true := by first | (simp [plainName, overriddenIn]; done) | decide +kernel
theorem pd0_0 : parseMethodDescriptor "(I)I" = some ⟨[.int], some .int⟩ := by decide +kernel
theorem pd0_1 : parseMethodDescriptor "(JI)V" = some ⟨[.long, .int], none⟩ := by decide +kernel
theorem pd0_2 : parseMethodDescriptor "(J)I" = some ⟨[.long], some .int⟩ := by decide +kernel
theorem ef_rm0 (m : MethodId) (p0 : Int32) (q1 : Int64) (p2 : Int32) (p3 : Int32) (p4 : Int32) (p5 : Int32) : entryFrame m #[(.int p0), (.long q1), (.int p2), (.int p3), (.int p4), (.int p5)] maxLocals = mkF m 0 #[.val (.int p0), .val (.long q1), .second, .val (.int p2), .val (.int p3), .val (.int p4), .val (.int p5), .unset, .unset, .unset, .unset, .unset, .unset, .unset, .unset, .unset, .unset, .unset, .unset] [] := by first | (simp [entryFrame, mkF, argsToLocals, Value.category, maxLocals]; done) | rfl
set_option maxRecDepth 65536 in
set_option maxHeartbeats 40000000 in
theorem rm0 (l : Launch) (Z : State) (a0 : Array Value) (hw : ∀ d ∈ tables_1, d.before a0 Z = true) (p0 : Int32) (q1 : Int64) (p2 : Int32) (p3 : Int32) (p4 : Int32) (p5 : Int32)  (h0 : Heap) (n0 : Nat) (Z0 : n0 ≤ h0.size) :
    own_Met l Z x code maxLocals ret tables_1 room_1 #[(.int p0), (.long q1), (.int p2), (.int p3), (.int p4), (.int p5)] h0 144 1088 (fun v h L => v = some (.int 1) ∧ Fr n0 L) := by
  refine own_met (plainFor_of_name pn_rm0) ?_
  intro p e s m below meth c s₁ Bd hml0 hZ X0 e0
  have hx := Bd.exec
  have hby := Bd.bytes
  have hml : c.maxLocals = 19 := hml0
  have hown : s.vm.findClass "com/example/seenset/seenset/util/CellsSetPinLaw" = some m.cls := findClass_of_methodNamed Bd.named
  have hnm := (name_of_methodNamed Bd.named Bd.method).1
  refine own_cast (ef_rm0 m p0 q1 p2 p3 p4 p5) ?_
  generalize hQQ : (fun (v : Option Value) (h : Heap) (L : List Loc) => v = some (.int 1) ∧ Fr n0 L) = QQ
  have N0 := Fr.nil n0
  refine own_go (g' := (mkF m 1 #[.val (.int p0), .val (.long q1), .second, .val (.int p2), .val (.int p3), .val (.int p4), .val (.int p5), .unset, .unset, .unset, .unset, .unset, .unset, .unset, .unset, .unset, .unset, .unset, .unset] [(.int (1 : Int32))])) (fun _ kgo => XS.iconst X0.here hx rfl (hb hby at_0) kgo) ?_
  refine own_go (g' := (mkF m 2 #[.val (.int p0), .val (.long q1), .second, .val (.int p2), .val (.int p3), .val (.int p4), .val (.int p5), .unset, .unset, .unset, .unset, .unset, .unset, .unset, .unset, .unset, .unset, .unset, .unset] [(.int p0), (.int (1 : Int32))])) (fun _ kgo => XS.iloadN X0.here hx rfl (hb hby at_1) rfl kgo) ?_
  refine own_go (g' := (mkF m 4 #[.val (.int p0), .val (.long q1), .second, .val (.int p2), .val (.int p3), .val (.int p4), .val (.int p5), .unset, .unset, .unset, .unset, .unset, .unset, .unset, .unset, .unset, .unset, .unset, .unset] [(.int (2147483647 : Int32)), (.int p0), (.int (1 : Int32))])) (X0.ldcInt hx hown (mvT hZ (hw _ (List.mem_of_getElem? (i := 0) rfl))) (g := (mkF m 2 #[.val (.int p0), .val (.long q1), .second, .val (.int p2), .val (.int p3), .val (.int p4), .val (.int p5), .unset, .unset, .unset, .unset, .unset, .unset, .unset, .unset, .unset, .unset, .unset, .unset] [(.int p0), (.int (1 : Int32))])) rfl (hb hby at_2)) ?_
  refine own_go (g' := (mkF m 5 #[.val (.int p0), .val (.long q1), .second, .val (.int p2), .val (.int p3), .val (.int p4), .val (.int p5), .unset, .unset, .unset, .unset, .unset, .unset, .unset, .unset, .unset, .unset, .unset, .unset] [(.int (p0 &&& (2147483647 : Int32))), (.int (1 : Int32))])) (fun _ kgo => XS.iand X0.here hx rfl (hb hby at_4) rfl kgo) ?_
  refine own_go (g' := (mkF m 7 #[.val (.int p0), .val (.long q1), .second, .val (.int p2), .val (.int p3), .val (.int p4), .val (.int p5), .unset, .unset, .unset, .unset, .unset, .unset, .unset, .unset, .unset, .unset, .unset, .unset] [(.int (63 : Int32)), (.int (p0 &&& (2147483647 : Int32))), (.int (1 : Int32))])) (fun _ kgo => XS.bipush X0.here hx rfl (hb hby at_5) kgo) ?_
  refine own_go (g' := (mkF m 8 #[.val (.int p0), .val (.long q1), .second, .val (.int p2), .val (.int p3), .val (.int p4), .val (.int p5), .unset, .unset, .unset, .unset, .unset, .unset, .unset, .unset, .unset, .unset, .unset, .unset] [(.int ((p0 &&& (2147483647 : Int32)) % (63 : Int32))), (.int (1 : Int32))])) (fun _ kgo => own_irem X0 hx rfl (hb hby at_7) rfl (by decide) kgo) ?_
  refine own_go (g' := (mkF m 9 #[.val (.int p0), .val (.long q1), .second, .val (.int p2), .val (.int p3), .val (.int p4), .val (.int p5), .unset, .unset, .unset, .unset, .unset, .unset, .unset, .unset, .unset, .unset, .unset, .unset] [(.int ((1 : Int32) + ((p0 &&& (2147483647 : Int32)) % (63 : Int32))))])) (fun _ kgo => XS.iadd X0.here hx rfl (hb hby at_8) rfl kgo) ?_
  have hb1 := own_bits p0
  suffices JNe_bb : ∀ bb : Int32, bb = ((1 : Int32) + ((p0 &&& (2147483647 : Int32)) % (63 : Int32))) → own_Go p e below (own_Post s QQ 144 1088) s₁ (mkF m 9 #[.val (.int p0), .val (.long q1), .second, .val (.int p2), .val (.int p3), .val (.int p4), .val (.int p5), .unset, .unset, .unset, .unset, .unset, .unset, .unset, .unset, .unset, .unset, .unset, .unset] [(.int bb)]) from JNe_bb _ (rfl)
  intro bb e_bb
  rw [← e_bb] at hb1
  clear e_bb
  refine own_go (g' := (mkF m 11 #[.val (.int p0), .val (.long q1), .second, .val (.int p2), .val (.int p3), .val (.int p4), .val (.int p5), .val (.int bb), .unset, .unset, .unset, .unset, .unset, .unset, .unset, .unset, .unset, .unset, .unset] [])) (fun _ kgo => XS.istore X0.here hx rfl (hb hby at_9) rfl (l' := #[.val (.int p0), .val (.long q1), .second, .val (.int p2), .val (.int p3), .val (.int p4), .val (.int p5), .val (.int bb), .unset, .unset, .unset, .unset, .unset, .unset, .unset, .unset, .unset, .unset, .unset]) rfl kgo) ?_
  refine own_go (g' := (mkF m 12 #[.val (.int p0), .val (.long q1), .second, .val (.int p2), .val (.int p3), .val (.int p4), .val (.int p5), .val (.int bb), .unset, .unset, .unset, .unset, .unset, .unset, .unset, .unset, .unset, .unset, .unset] [(.int (3 : Int32))])) (fun _ kgo => XS.iconst X0.here hx rfl (hb hby at_11) kgo) ?_
  refine own_go (g' := (mkF m 13 #[.val (.int p0), .val (.long q1), .second, .val (.int p2), .val (.int p3), .val (.int p4), .val (.int p5), .val (.int bb), .unset, .unset, .unset, .unset, .unset, .unset, .unset, .unset, .unset, .unset, .unset] [(.long q1), (.int (3 : Int32))])) (fun _ kgo => XS.lloadN X0.here hx rfl (hb hby at_12) rfl kgo) ?_
  refine own_go (g' := (mkF m 16 #[.val (.int p0), .val (.long q1), .second, .val (.int p2), .val (.int p3), .val (.int p4), .val (.int p5), .val (.int bb), .unset, .unset, .unset, .unset, .unset, .unset, .unset, .unset, .unset, .unset, .unset] [(.long (63 : Int64)), (.long q1), (.int (3 : Int32))])) (X0.ldc2Long hx hown (mvT hZ (hw _ (List.mem_of_getElem? (i := 1) rfl))) (g := (mkF m 13 #[.val (.int p0), .val (.long q1), .second, .val (.int p2), .val (.int p3), .val (.int p4), .val (.int p5), .val (.int bb), .unset, .unset, .unset, .unset, .unset, .unset, .unset, .unset, .unset, .unset, .unset] [(.long q1), (.int (3 : Int32))])) rfl (hb hby at_13)) ?_
  refine own_go (g' := (mkF m 17 #[.val (.int p0), .val (.long q1), .second, .val (.int p2), .val (.int p3), .val (.int p4), .val (.int p5), .val (.int bb), .unset, .unset, .unset, .unset, .unset, .unset, .unset, .unset, .unset, .unset, .unset] [(.long (q1 &&& (63 : Int64))), (.int (3 : Int32))])) (fun _ kgo => XS.land X0.here hx rfl (hb hby at_16) rfl kgo) ?_
  refine own_go (g' := (mkF m 18 #[.val (.int p0), .val (.long q1), .second, .val (.int p2), .val (.int p3), .val (.int p4), .val (.int p5), .val (.int bb), .unset, .unset, .unset, .unset, .unset, .unset, .unset, .unset, .unset, .unset, .unset] [(.int ((q1 &&& (63 : Int64)).toInt32)), (.int (3 : Int32))])) (fun _ kgo => XS.l2i X0.here hx rfl (hb hby at_17) rfl kgo) ?_
  refine own_go (g' := (mkF m 19 #[.val (.int p0), .val (.long q1), .second, .val (.int p2), .val (.int p3), .val (.int p4), .val (.int p5), .val (.int bb), .unset, .unset, .unset, .unset, .unset, .unset, .unset, .unset, .unset, .unset, .unset] [(.int ((3 : Int32) + ((q1 &&& (63 : Int64)).toInt32)))])) (fun _ kgo => XS.iadd X0.here hx rfl (hb hby at_18) rfl kgo) ?_
  have hct := own_ct q1
  suffices JNe_ct : ∀ ct : Int32, ct = ((3 : Int32) + ((q1 &&& (63 : Int64)).toInt32)) → own_Go p e below (own_Post s QQ 144 1088) s₁ (mkF m 19 #[.val (.int p0), .val (.long q1), .second, .val (.int p2), .val (.int p3), .val (.int p4), .val (.int p5), .val (.int bb), .unset, .unset, .unset, .unset, .unset, .unset, .unset, .unset, .unset, .unset, .unset] [(.int ct)]) from JNe_ct _ (rfl)
  intro ct e_ct
  rw [← e_ct] at hct
  clear e_ct
  have hq1 : 3 ≤ ct.toInt64.toInt ∧ ct.toInt64.toInt ≤ 66 := by rw [c_i2l]; exact hct
  refine own_go (g' := (mkF m 21 #[.val (.int p0), .val (.long q1), .second, .val (.int p2), .val (.int p3), .val (.int p4), .val (.int p5), .val (.int bb), .val (.int ct), .unset, .unset, .unset, .unset, .unset, .unset, .unset, .unset, .unset, .unset] [])) (fun _ kgo => XS.istore X0.here hx rfl (hb hby at_19) rfl (l' := #[.val (.int p0), .val (.long q1), .second, .val (.int p2), .val (.int p3), .val (.int p4), .val (.int p5), .val (.int bb), .val (.int ct), .unset, .unset, .unset, .unset, .unset, .unset, .unset, .unset, .unset, .unset]) rfl kgo) ?_
  refine own_go (g' := (mkF m 22 #[.val (.int p0), .val (.long q1), .second, .val (.int p2), .val (.int p3), .val (.int p4), .val (.int p5), .val (.int bb), .val (.int ct), .unset, .unset, .unset, .unset, .unset, .unset, .unset, .unset, .unset, .unset] [(.int (1 : Int32))])) (fun _ kgo => XS.iconst X0.here hx rfl (hb hby at_21) kgo) ?_
  refine own_go (g' := (mkF m 23 #[.val (.int p0), .val (.long q1), .second, .val (.int p2), .val (.int p3), .val (.int p4), .val (.int p5), .val (.int bb), .val (.int ct), .unset, .unset, .unset, .unset, .unset, .unset, .unset, .unset, .unset, .unset] [(.long q1), (.int (1 : Int32))])) (fun _ kgo => XS.lloadN X0.here hx rfl (hb hby at_22) rfl kgo) ?_
  refine own_go (g' := (mkF m 25 #[.val (.int p0), .val (.long q1), .second, .val (.int p2), .val (.int p3), .val (.int p4), .val (.int p5), .val (.int bb), .val (.int ct), .unset, .unset, .unset, .unset, .unset, .unset, .unset, .unset, .unset, .unset] [(.int (32 : Int32)), (.long q1), (.int (1 : Int32))])) (fun _ kgo => XS.bipush X0.here hx rfl (hb hby at_23) kgo) ?_
  refine own_go (g' := (mkF m 26 #[.val (.int p0), .val (.long q1), .second, .val (.int p2), .val (.int p3), .val (.int p4), .val (.int p5), .val (.int bb), .val (.int ct), .unset, .unset, .unset, .unset, .unset, .unset, .unset, .unset, .unset, .unset] [(.long ((q1.toUInt64 >>> ((32 : Int32) &&& 0x3f).toInt64.toUInt64).toInt64)), (.int (1 : Int32))])) (fun _ kgo => XS.lushr X0.here hx rfl (hb hby at_25) rfl kgo) ?_
  refine own_go (g' := (mkF m 27 #[.val (.int p0), .val (.long q1), .second, .val (.int p2), .val (.int p3), .val (.int p4), .val (.int p5), .val (.int bb), .val (.int ct), .unset, .unset, .unset, .unset, .unset, .unset, .unset, .unset, .unset, .unset] [(.int (((q1.toUInt64 >>> ((32 : Int32) &&& 0x3f).toInt64.toUInt64).toInt64).toInt32)), (.int (1 : Int32))])) (fun _ kgo => XS.l2i X0.here hx rfl (hb hby at_26) rfl kgo) ?_
  refine own_go (g' := (mkF m 29 #[.val (.int p0), .val (.long q1), .second, .val (.int p2), .val (.int p3), .val (.int p4), .val (.int p5), .val (.int bb), .val (.int ct), .unset, .unset, .unset, .unset, .unset, .unset, .unset, .unset, .unset, .unset] [(.int (2147483647 : Int32)), (.int (((q1.toUInt64 >>> ((32 : Int32) &&& 0x3f).toInt64.toUInt64).toInt64).toInt32)), (.int (1 : Int32))])) (X0.ldcInt hx hown (mvT hZ (hw _ (List.mem_of_getElem? (i := 0) rfl))) (g := (mkF m 27 #[.val (.int p0), .val (.long q1), .second, .val (.int p2), .val (.int p3), .val (.int p4), .val (.int p5), .val (.int bb), .val (.int ct), .unset, .unset, .unset, .unset, .unset, .unset, .unset, .unset, .unset, .unset] [(.int (((q1.toUInt64 >>> ((32 : Int32) &&& 0x3f).toInt64.toUInt64).toInt64).toInt32)), (.int (1 : Int32))])) rfl (hb hby at_27)) ?_
  refine own_go (g' := (mkF m 30 #[.val (.int p0), .val (.long q1), .second, .val (.int p2), .val (.int p3), .val (.int p4), .val (.int p5), .val (.int bb), .val (.int ct), .unset, .unset, .unset, .unset, .unset, .unset, .unset, .unset, .unset, .unset] [(.int ((((q1.toUInt64 >>> ((32 : Int32) &&& 0x3f).toInt64.toUInt64).toInt64).toInt32) &&& (2147483647 : Int32))), (.int (1 : Int32))])) (fun _ kgo => XS.iand X0.here hx rfl (hb hby at_29) rfl kgo) ?_
  refine own_go (g' := (mkF m 32 #[.val (.int p0), .val (.long q1), .second, .val (.int p2), .val (.int p3), .val (.int p4), .val (.int p5), .val (.int bb), .val (.int ct), .unset, .unset, .unset, .unset, .unset, .unset, .unset, .unset, .unset, .unset] [(.int ct), (.int ((((q1.toUInt64 >>> ((32 : Int32) &&& 0x3f).toInt64.toUInt64).toInt64).toInt32) &&& (2147483647 : Int32))), (.int (1 : Int32))])) (fun _ kgo => XS.iload X0.here hx rfl (hb hby at_30) rfl kgo) ?_
  refine own_go (g' := (mkF m 33 #[.val (.int p0), .val (.long q1), .second, .val (.int p2), .val (.int p3), .val (.int p4), .val (.int p5), .val (.int bb), .val (.int ct), .unset, .unset, .unset, .unset, .unset, .unset, .unset, .unset, .unset, .unset] [(.int (2 : Int32)), (.int ct), (.int ((((q1.toUInt64 >>> ((32 : Int32) &&& 0x3f).toInt64.toUInt64).toInt64).toInt32) &&& (2147483647 : Int32))), (.int (1 : Int32))])) (fun _ kgo => XS.iconst X0.here hx rfl (hb hby at_32) kgo) ?_
  refine own_go (g' := (mkF m 34 #[.val (.int p0), .val (.long q1), .second, .val (.int p2), .val (.int p3), .val (.int p4), .val (.int p5), .val (.int bb), .val (.int ct), .unset, .unset, .unset, .unset, .unset, .unset, .unset, .unset, .unset, .unset] [(.int (ct - (2 : Int32))), (.int ((((q1.toUInt64 >>> ((32 : Int32) &&& 0x3f).toInt64.toUInt64).toInt64).toInt32) &&& (2147483647 : Int32))), (.int (1 : Int32))])) (fun _ kgo => XS.isub X0.here hx rfl (hb hby at_33) rfl kgo) ?_
  refine own_go (g' := (mkF m 35 #[.val (.int p0), .val (.long q1), .second, .val (.int p2), .val (.int p3), .val (.int p4), .val (.int p5), .val (.int bb), .val (.int ct), .unset, .unset, .unset, .unset, .unset, .unset, .unset, .unset, .unset, .unset] [(.int (((((q1.toUInt64 >>> ((32 : Int32) &&& 0x3f).toInt64.toUInt64).toInt64).toInt32) &&& (2147483647 : Int32)) % (ct - (2 : Int32)))), (.int (1 : Int32))])) (fun _ kgo => own_irem X0 hx rfl (hb hby at_34) rfl (own_ctz hct) kgo) ?_
  refine own_go (g' := (mkF m 36 #[.val (.int p0), .val (.long q1), .second, .val (.int p2), .val (.int p3), .val (.int p4), .val (.int p5), .val (.int bb), .val (.int ct), .unset, .unset, .unset, .unset, .unset, .unset, .unset, .unset, .unset, .unset] [(.int ((1 : Int32) + (((((q1.toUInt64 >>> ((32 : Int32) &&& 0x3f).toInt64.toUInt64).toInt64).toInt32) &&& (2147483647 : Int32)) % (ct - (2 : Int32)))))])) (fun _ kgo => XS.iadd X0.here hx rfl (hb hby at_35) rfl kgo) ?_
  have hii := own_iir (((q1.toUInt64 >>> ((32 : Int32) &&& 0x3f).toInt64.toUInt64).toInt64).toInt32) hct
  suffices JNe_ii : ∀ ii : Int32, ii = ((1 : Int32) + (((((q1.toUInt64 >>> ((32 : Int32) &&& 0x3f).toInt64.toUInt64).toInt64).toInt32) &&& (2147483647 : Int32)) % (ct - (2 : Int32)))) → own_Go p e below (own_Post s QQ 144 1088) s₁ (mkF m 36 #[.val (.int p0), .val (.long q1), .second, .val (.int p2), .val (.int p3), .val (.int p4), .val (.int p5), .val (.int bb), .val (.int ct), .unset, .unset, .unset, .unset, .unset, .unset, .unset, .unset, .unset, .unset] [(.int ii)]) from JNe_ii _ (rfl)
  intro ii e_ii
  rw [← e_ii] at hii
  clear e_ii
  refine own_go (g' := (mkF m 38 #[.val (.int p0), .val (.long q1), .second, .val (.int p2), .val (.int p3), .val (.int p4), .val (.int p5), .val (.int bb), .val (.int ct), .val (.int ii), .unset, .unset, .unset, .unset, .unset, .unset, .unset, .unset, .unset] [])) (fun _ kgo => XS.istore X0.here hx rfl (hb hby at_36) rfl (l' := #[.val (.int p0), .val (.long q1), .second, .val (.int p2), .val (.int p3), .val (.int p4), .val (.int p5), .val (.int bb), .val (.int ct), .val (.int ii), .unset, .unset, .unset, .unset, .unset, .unset, .unset, .unset, .unset]) rfl kgo) ?_
  refine own_go (g' := (mkF m 40 #[.val (.int p0), .val (.long q1), .second, .val (.int p2), .val (.int p3), .val (.int p4), .val (.int p5), .val (.int bb), .val (.int ct), .val (.int ii), .unset, .unset, .unset, .unset, .unset, .unset, .unset, .unset, .unset] [(.int bb)])) (fun _ kgo => XS.iload X0.here hx rfl (hb hby at_38) rfl kgo) ?_
  obtain ⟨v1, T1, L1, hQ1, X1, st1⟩ := own_callS X0 hx hZ (y := (⟨"com/example/seenset/seenset/util/CellsSetPinLaw", "maskFor", "(I)I"⟩ : MethodName)) hown (hw _ (List.mem_of_getElem? (i := 2) rfl)) (hw _ (List.mem_of_getElem? (i := 3) rfl)) (hw _ (List.mem_of_getElem? (i := 4) rfl)) (hw _ (List.mem_of_getElem? (i := 5) rfl)) ⟨by decide, by decide⟩ (argsL := [(.int bb)]) (rm1 l Z a0 hw bb h0) e0 (g := (mkF m 40 #[.val (.int p0), .val (.long q1), .second, .val (.int p2), .val (.int p3), .val (.int p4), .val (.int p5), .val (.int bb), .val (.int ct), .val (.int ii), .unset, .unset, .unset, .unset, .unset, .unset, .unset, .unset, .unset] [(.int bb)])) rfl (by rw [hml]; rfl) (rest := []) (lenOf pd0_0 rfl) rfl (hb hby at_40) (W := 0) (by show 2 * 0 + _ ≤ _; exact Nat.le_of_eq rfl) (by decide) (by decide) (by decide) (by decide)
  obtain ⟨rfl, e1, rfl⟩ := hQ1
  have N1 := Fr.app N0 (Fr.nil n0)
  refine own_go (g' := (mkF m 43 #[.val (.int p0), .val (.long q1), .second, .val (.int p2), .val (.int p3), .val (.int p4), .val (.int p5), .val (.int bb), .val (.int ct), .val (.int ii), .unset, .unset, .unset, .unset, .unset, .unset, .unset, .unset, .unset] [(.int (own_mf bb))])) (st1) ?_
  refine own_go (g' := (mkF m 45 #[.val (.int p0), .val (.long q1), .second, .val (.int p2), .val (.int p3), .val (.int p4), .val (.int p5), .val (.int bb), .val (.int ct), .val (.int ii), .val (.int (own_mf bb)), .unset, .unset, .unset, .unset, .unset, .unset, .unset, .unset] [])) (fun _ kgo => XS.istore X1.here hx rfl (hb hby at_43) rfl (l' := #[.val (.int p0), .val (.long q1), .second, .val (.int p2), .val (.int p3), .val (.int p4), .val (.int p5), .val (.int bb), .val (.int ct), .val (.int ii), .val (.int (own_mf bb)), .unset, .unset, .unset, .unset, .unset, .unset, .unset, .unset]) rfl kgo) ?_
  refine own_go (g' := (mkF m 46 #[.val (.int p0), .val (.long q1), .second, .val (.int p2), .val (.int p3), .val (.int p4), .val (.int p5), .val (.int bb), .val (.int ct), .val (.int ii), .val (.int (own_mf bb)), .unset, .unset, .unset, .unset, .unset, .unset, .unset, .unset] [(.int p2)])) (fun _ kgo => XS.iloadN X1.here hx rfl (hb hby at_45) rfl kgo) ?_
  refine own_go (g' := (mkF m 48 #[.val (.int p0), .val (.long q1), .second, .val (.int p2), .val (.int p3), .val (.int p4), .val (.int p5), .val (.int bb), .val (.int ct), .val (.int ii), .val (.int (own_mf bb)), .unset, .unset, .unset, .unset, .unset, .unset, .unset, .unset] [(.int (own_mf bb)), (.int p2)])) (fun _ kgo => XS.iload X1.here hx rfl (hb hby at_46) rfl kgo) ?_
  refine own_go (g' := (mkF m 49 #[.val (.int p0), .val (.long q1), .second, .val (.int p2), .val (.int p3), .val (.int p4), .val (.int p5), .val (.int bb), .val (.int ct), .val (.int ii), .val (.int (own_mf bb)), .unset, .unset, .unset, .unset, .unset, .unset, .unset, .unset] [(.int (p2 &&& (own_mf bb)))])) (fun _ kgo => XS.iand X1.here hx rfl (hb hby at_48) rfl kgo) ?_
  have hva := own_mfv hb1 p2
  suffices JNe_va : ∀ va : Int32, va = (p2 &&& (own_mf bb)) → own_Go p e below (own_Post s QQ 144 1088) T1 (mkF m 49 #[.val (.int p0), .val (.long q1), .second, .val (.int p2), .val (.int p3), .val (.int p4), .val (.int p5), .val (.int bb), .val (.int ct), .val (.int ii), .val (.int (own_mf bb)), .unset, .unset, .unset, .unset, .unset, .unset, .unset, .unset] [(.int va)]) from JNe_va _ (rfl)
  intro va e_va
  rw [← e_va] at hva
  clear e_va
  refine own_go (g' := (mkF m 51 #[.val (.int p0), .val (.long q1), .second, .val (.int p2), .val (.int p3), .val (.int p4), .val (.int p5), .val (.int bb), .val (.int ct), .val (.int ii), .val (.int (own_mf bb)), .val (.int va), .unset, .unset, .unset, .unset, .unset, .unset, .unset] [])) (fun _ kgo => XS.istore X1.here hx rfl (hb hby at_49) rfl (l' := #[.val (.int p0), .val (.long q1), .second, .val (.int p2), .val (.int p3), .val (.int p4), .val (.int p5), .val (.int bb), .val (.int ct), .val (.int ii), .val (.int (own_mf bb)), .val (.int va), .unset, .unset, .unset, .unset, .unset, .unset, .unset]) rfl kgo) ?_
  refine own_go (g' := (mkF m 53 #[.val (.int p0), .val (.long q1), .second, .val (.int p2), .val (.int p3), .val (.int p4), .val (.int p5), .val (.int bb), .val (.int ct), .val (.int ii), .val (.int (own_mf bb)), .val (.int va), .unset, .unset, .unset, .unset, .unset, .unset, .unset] [(.int p3)])) (fun _ kgo => XS.iload X1.here hx rfl (hb hby at_51) rfl kgo) ?_
  refine own_go (g' := (mkF m 55 #[.val (.int p0), .val (.long q1), .second, .val (.int p2), .val (.int p3), .val (.int p4), .val (.int p5), .val (.int bb), .val (.int ct), .val (.int ii), .val (.int (own_mf bb)), .val (.int va), .unset, .unset, .unset, .unset, .unset, .unset, .unset] [(.int (own_mf bb)), (.int p3)])) (fun _ kgo => XS.iload X1.here hx rfl (hb hby at_53) rfl kgo) ?_
  refine own_go (g' := (mkF m 56 #[.val (.int p0), .val (.long q1), .second, .val (.int p2), .val (.int p3), .val (.int p4), .val (.int p5), .val (.int bb), .val (.int ct), .val (.int ii), .val (.int (own_mf bb)), .val (.int va), .unset, .unset, .unset, .unset, .unset, .unset, .unset] [(.int (p3 &&& (own_mf bb)))])) (fun _ kgo => XS.iand X1.here hx rfl (hb hby at_55) rfl kgo) ?_
  have hvc := own_mfv hb1 p3
  suffices JNe_vc : ∀ vc : Int32, vc = (p3 &&& (own_mf bb)) → own_Go p e below (own_Post s QQ 144 1088) T1 (mkF m 56 #[.val (.int p0), .val (.long q1), .second, .val (.int p2), .val (.int p3), .val (.int p4), .val (.int p5), .val (.int bb), .val (.int ct), .val (.int ii), .val (.int (own_mf bb)), .val (.int va), .unset, .unset, .unset, .unset, .unset, .unset, .unset] [(.int vc)]) from JNe_vc _ (rfl)
  intro vc e_vc
  rw [← e_vc] at hvc
  clear e_vc
  refine own_go (g' := (mkF m 58 #[.val (.int p0), .val (.long q1), .second, .val (.int p2), .val (.int p3), .val (.int p4), .val (.int p5), .val (.int bb), .val (.int ct), .val (.int ii), .val (.int (own_mf bb)), .val (.int va), .val (.int vc), .unset, .unset, .unset, .unset, .unset, .unset] [])) (fun _ kgo => XS.istore X1.here hx rfl (hb hby at_56) rfl (l' := #[.val (.int p0), .val (.long q1), .second, .val (.int p2), .val (.int p3), .val (.int p4), .val (.int p5), .val (.int bb), .val (.int ct), .val (.int ii), .val (.int (own_mf bb)), .val (.int va), .val (.int vc), .unset, .unset, .unset, .unset, .unset, .unset]) rfl kgo) ?_
  refine own_go (g' := (mkF m 60 #[.val (.int p0), .val (.long q1), .second, .val (.int p2), .val (.int p3), .val (.int p4), .val (.int p5), .val (.int bb), .val (.int ct), .val (.int ii), .val (.int (own_mf bb)), .val (.int va), .val (.int vc), .unset, .unset, .unset, .unset, .unset, .unset] [(.int p4)])) (fun _ kgo => XS.iload X1.here hx rfl (hb hby at_58) rfl kgo) ?_
  refine own_go (g' := (mkF m 62 #[.val (.int p0), .val (.long q1), .second, .val (.int p2), .val (.int p3), .val (.int p4), .val (.int p5), .val (.int bb), .val (.int ct), .val (.int ii), .val (.int (own_mf bb)), .val (.int va), .val (.int vc), .unset, .unset, .unset, .unset, .unset, .unset] [(.int (own_mf bb)), (.int p4)])) (fun _ kgo => XS.iload X1.here hx rfl (hb hby at_60) rfl kgo) ?_
  refine own_go (g' := (mkF m 63 #[.val (.int p0), .val (.long q1), .second, .val (.int p2), .val (.int p3), .val (.int p4), .val (.int p5), .val (.int bb), .val (.int ct), .val (.int ii), .val (.int (own_mf bb)), .val (.int va), .val (.int vc), .unset, .unset, .unset, .unset, .unset, .unset] [(.int (p4 &&& (own_mf bb)))])) (fun _ kgo => XS.iand X1.here hx rfl (hb hby at_62) rfl kgo) ?_
  have hw0 := own_mfv hb1 p4
  suffices JNe_w0 : ∀ w0 : Int32, w0 = (p4 &&& (own_mf bb)) → own_Go p e below (own_Post s QQ 144 1088) T1 (mkF m 63 #[.val (.int p0), .val (.long q1), .second, .val (.int p2), .val (.int p3), .val (.int p4), .val (.int p5), .val (.int bb), .val (.int ct), .val (.int ii), .val (.int (own_mf bb)), .val (.int va), .val (.int vc), .unset, .unset, .unset, .unset, .unset, .unset] [(.int w0)]) from JNe_w0 _ (rfl)
  intro w0 e_w0
  rw [← e_w0] at hw0
  clear e_w0
  refine own_go (g' := (mkF m 65 #[.val (.int p0), .val (.long q1), .second, .val (.int p2), .val (.int p3), .val (.int p4), .val (.int p5), .val (.int bb), .val (.int ct), .val (.int ii), .val (.int (own_mf bb)), .val (.int va), .val (.int vc), .val (.int w0), .unset, .unset, .unset, .unset, .unset] [])) (fun _ kgo => XS.istore X1.here hx rfl (hb hby at_63) rfl (l' := #[.val (.int p0), .val (.long q1), .second, .val (.int p2), .val (.int p3), .val (.int p4), .val (.int p5), .val (.int bb), .val (.int ct), .val (.int ii), .val (.int (own_mf bb)), .val (.int va), .val (.int vc), .val (.int w0), .unset, .unset, .unset, .unset, .unset]) rfl kgo) ?_
  refine own_go (g' := (mkF m 67 #[.val (.int p0), .val (.long q1), .second, .val (.int p2), .val (.int p3), .val (.int p4), .val (.int p5), .val (.int bb), .val (.int ct), .val (.int ii), .val (.int (own_mf bb)), .val (.int va), .val (.int vc), .val (.int w0), .unset, .unset, .unset, .unset, .unset] [(.int p5)])) (fun _ kgo => XS.iload X1.here hx rfl (hb hby at_65) rfl kgo) ?_
  refine own_go (g' := (mkF m 69 #[.val (.int p0), .val (.long q1), .second, .val (.int p2), .val (.int p3), .val (.int p4), .val (.int p5), .val (.int bb), .val (.int ct), .val (.int ii), .val (.int (own_mf bb)), .val (.int va), .val (.int vc), .val (.int w0), .unset, .unset, .unset, .unset, .unset] [(.int (own_mf bb)), (.int p5)])) (fun _ kgo => XS.iload X1.here hx rfl (hb hby at_67) rfl kgo) ?_
  refine own_go (g' := (mkF m 70 #[.val (.int p0), .val (.long q1), .second, .val (.int p2), .val (.int p3), .val (.int p4), .val (.int p5), .val (.int bb), .val (.int ct), .val (.int ii), .val (.int (own_mf bb)), .val (.int va), .val (.int vc), .val (.int w0), .unset, .unset, .unset, .unset, .unset] [(.int (p5 &&& (own_mf bb)))])) (fun _ kgo => XS.iand X1.here hx rfl (hb hby at_69) rfl kgo) ?_
  have hww := own_mfv hb1 p5
  suffices JNe_ww : ∀ ww : Int32, ww = (p5 &&& (own_mf bb)) → own_Go p e below (own_Post s QQ 144 1088) T1 (mkF m 70 #[.val (.int p0), .val (.long q1), .second, .val (.int p2), .val (.int p3), .val (.int p4), .val (.int p5), .val (.int bb), .val (.int ct), .val (.int ii), .val (.int (own_mf bb)), .val (.int va), .val (.int vc), .val (.int w0), .unset, .unset, .unset, .unset, .unset] [(.int ww)]) from JNe_ww _ (rfl)
  intro ww e_ww
  rw [← e_ww] at hww
  clear e_ww
  refine own_go (g' := (mkF m 72 #[.val (.int p0), .val (.long q1), .second, .val (.int p2), .val (.int p3), .val (.int p4), .val (.int p5), .val (.int bb), .val (.int ct), .val (.int ii), .val (.int (own_mf bb)), .val (.int va), .val (.int vc), .val (.int w0), .val (.int ww), .unset, .unset, .unset, .unset] [])) (fun _ kgo => XS.istore X1.here hx rfl (hb hby at_70) rfl (l' := #[.val (.int p0), .val (.long q1), .second, .val (.int p2), .val (.int p3), .val (.int p4), .val (.int p5), .val (.int bb), .val (.int ct), .val (.int ii), .val (.int (own_mf bb)), .val (.int va), .val (.int vc), .val (.int w0), .val (.int ww), .unset, .unset, .unset, .unset]) rfl kgo) ?_
  obtain ⟨T2, h2, X2, e2, E2, A2, D2, -, st2⟩ := newO X1 hx hZ hown (hw _ (List.mem_of_getElem? (i := 6) rfl)) (hw _ (List.mem_of_getElem? (i := 7) rfl)) (hw _ (List.mem_of_getElem? (i := 8) rfl)) e1 (g := (mkF m 72 #[.val (.int p0), .val (.long q1), .second, .val (.int p2), .val (.int p3), .val (.int p4), .val (.int p5), .val (.int bb), .val (.int ct), .val (.int ii), .val (.int (own_mf bb)), .val (.int va), .val (.int vc), .val (.int w0), .val (.int ww), .unset, .unset, .unset, .unset] [])) rfl (hb hby at_72) (by decide) (by decide)
  obtain ⟨b2, ad2⟩ : ∃ z, z = h0.size := ⟨_, rfl⟩
  rw [← ad2] at A2 D2 st2
  have ge_b2 : n0 ≤ b2 := by rw [ad2]; exact Z0
  have Z2 : n0 ≤ h2.size := Nat.le_trans Z0 E2.1
  have F2_bits : Fld Z h2 b2 "com/example/seenset/seenset/util/Cells" "bits" "I" (.int (0 : Int32)) := D2 (Or.inr (hw _ (List.mem_of_getElem? (i := 20) rfl))) (ty := .int) (by decide)
  have F2_mask : Fld Z h2 b2 "com/example/seenset/seenset/util/Cells" "mask" "J" (.long (0 : Int64)) := D2 (Or.inr (hw _ (List.mem_of_getElem? (i := 22) rfl))) (ty := .long) (by decide)
  have F2_words : Fld Z h2 b2 "com/example/seenset/seenset/util/Cells" "words" "[J" .null := D2 (Or.inr (hw _ (List.mem_of_getElem? (i := 30) rfl))) (ty := (.array .long)) (by decide)
  have F2_phases : Fld Z h2 b2 "com/example/seenset/seenset/util/Cells" "phases" "[Lcom/example/seenset/seenset/util/Cells$Phase;" .null := D2 (Or.inr (hw _ (List.mem_of_getElem? (i := 34) rfl))) (ty := (.array (.object "com/example/seenset/seenset/util/Cells$Phase"))) (by decide)
  have F2_phaseAfter : Fld Z h2 b2 "com/example/seenset/seenset/util/Cells" "phaseAfter" "[I" .null := D2 (Or.inr (hw _ (List.mem_of_getElem? (i := 54) rfl))) (ty := (.array .int)) (by decide)
  have F2_step : Fld Z h2 b2 "com/example/seenset/seenset/util/Cells" "step" "I" (.int (0 : Int32)) := D2 (Or.inr (hw _ (List.mem_of_getElem? (i := 56) rfl))) (ty := .int) (by decide)
  refine own_go (g' := (mkF m 75 #[.val (.int p0), .val (.long q1), .second, .val (.int p2), .val (.int p3), .val (.int p4), .val (.int p5), .val (.int bb), .val (.int ct), .val (.int ii), .val (.int (own_mf bb)), .val (.int va), .val (.int vc), .val (.int w0), .val (.int ww), .unset, .unset, .unset, .unset] [(.ref b2)])) (st2) ?_
  refine own_go (g' := (mkF m 76 #[.val (.int p0), .val (.long q1), .second, .val (.int p2), .val (.int p3), .val (.int p4), .val (.int p5), .val (.int bb), .val (.int ct), .val (.int ii), .val (.int (own_mf bb)), .val (.int va), .val (.int vc), .val (.int w0), .val (.int ww), .unset, .unset, .unset, .unset] [(.ref b2), (.ref b2)])) (fun _ kgo => XS.dup X2.here hx rfl (hb hby at_75) rfl rfl kgo) ?_
  refine own_go (g' := (mkF m 78 #[.val (.int p0), .val (.long q1), .second, .val (.int p2), .val (.int p3), .val (.int p4), .val (.int p5), .val (.int bb), .val (.int ct), .val (.int ii), .val (.int (own_mf bb)), .val (.int va), .val (.int vc), .val (.int w0), .val (.int ww), .unset, .unset, .unset, .unset] [(.int ct), (.ref b2), (.ref b2)])) (fun _ kgo => XS.iload X2.here hx rfl (hb hby at_76) rfl kgo) ?_
  refine own_go (g' := (mkF m 79 #[.val (.int p0), .val (.long q1), .second, .val (.int p2), .val (.int p3), .val (.int p4), .val (.int p5), .val (.int bb), .val (.int ct), .val (.int ii), .val (.int (own_mf bb)), .val (.int va), .val (.int vc), .val (.int w0), .val (.int ww), .unset, .unset, .unset, .unset] [(.long (ct.toInt64)), (.ref b2), (.ref b2)])) (fun _ kgo => XS.i2l X2.here hx rfl (hb hby at_78) rfl kgo) ?_
  refine own_go (g' := (mkF m 81 #[.val (.int p0), .val (.long q1), .second, .val (.int p2), .val (.int p3), .val (.int p4), .val (.int p5), .val (.int bb), .val (.int ct), .val (.int ii), .val (.int (own_mf bb)), .val (.int va), .val (.int vc), .val (.int w0), .val (.int ww), .unset, .unset, .unset, .unset] [(.int bb), (.long (ct.toInt64)), (.ref b2), (.ref b2)])) (fun _ kgo => XS.iload X2.here hx rfl (hb hby at_79) rfl kgo) ?_
  obtain ⟨v3, T3, L3, hQ3, X3, st3⟩ := own_callI X2 hx hZ (y := (⟨"com/example/seenset/seenset/util/Cells", "<init>", "(JI)V"⟩ : MethodName)) rfl hown (hw _ (List.mem_of_getElem? (i := 9) rfl)) (hw _ (List.mem_of_getElem? (i := 10) rfl)) (hw _ (List.mem_of_getElem? (i := 8) rfl)) (hw _ (List.mem_of_getElem? (i := 11) rfl)) ⟨by decide, by decide⟩ (a := b2) (argsL := [(.long (ct.toInt64)), (.int bb)]) (cti l Z a0 hw b2 (ct.toInt64) bb h2 n0 Z2 ge_b2 A2 F2_bits F2_mask F2_words F2_phases F2_phaseAfter F2_step hq1 hb1) e2 (g := (mkF m 81 #[.val (.int p0), .val (.long q1), .second, .val (.int p2), .val (.int p3), .val (.int p4), .val (.int p5), .val (.int bb), .val (.int ct), .val (.int ii), .val (.int (own_mf bb)), .val (.int va), .val (.int vc), .val (.int w0), .val (.int ww), .unset, .unset, .unset, .unset] [(.int bb), (.long (ct.toInt64)), (.ref b2), (.ref b2)])) rfl (by rw [hml]; rfl) (rest := [(.ref b2)]) (lenOf pd0_1 rfl) rfl (hb hby at_81) (W := 1) (by show 2 * 0 + _ ≤ _; exact Nat.le_of_eq rfl) (by decide) (by decide) (by decide) (by decide)
  obtain ⟨wa3, kw3, rfl, Nq3, Kq3, pr3_0, q3_0, q3_1, q3_2, q3_3, q3_4⟩ := hQ3
  have ne_b2_wa3 : b2 ≠ wa3 := Nat.ne_of_lt (Nat.lt_of_lt_of_le A2.lt pr3_0)
  have ge_wa3 : n0 ≤ wa3 := Nat.le_trans Z2 pr3_0
  have N3 := Fr.app N1 Nq3
  have Z3 : n0 ≤ T3.heap.size := Nat.le_trans Z2 Kq3.1
  refine own_go (g' := (mkF m 84 #[.val (.int p0), .val (.long q1), .second, .val (.int p2), .val (.int p3), .val (.int p4), .val (.int p5), .val (.int bb), .val (.int ct), .val (.int ii), .val (.int (own_mf bb)), .val (.int va), .val (.int vc), .val (.int w0), .val (.int ww), .unset, .unset, .unset, .unset] [(.ref b2)])) (st3) ?_
  obtain ⟨P, hPB, hPA, hPC, hPb, hPl, hP65, hPn⟩ := own_PP hb1 hq1 hii
  have hlaw := own_laws (ws := (List.replicate ((own_by ct.toInt64 bb / (8 : Int64)).toInt32).toInt.toNat (0 : Int64))) (P := P) (own_mkM hb1) (by omega) hva hvc hw0 hww (by rw [List.length_replicate]; omega) hPb
  refine own_go (g' := (mkF m 86 #[.val (.int p0), .val (.long q1), .second, .val (.int p2), .val (.int p3), .val (.int p4), .val (.int p5), .val (.int bb), .val (.int ct), .val (.int ii), .val (.int (own_mf bb)), .val (.int va), .val (.int vc), .val (.int w0), .val (.int ww), .val (.ref b2), .unset, .unset, .unset] [])) (fun _ kgo => XS.astore X3.here hx rfl (hb hby at_84) rfl rfl (l' := #[.val (.int p0), .val (.long q1), .second, .val (.int p2), .val (.int p3), .val (.int p4), .val (.int p5), .val (.int bb), .val (.int ct), .val (.int ii), .val (.int (own_mf bb)), .val (.int va), .val (.int vc), .val (.int w0), .val (.int ww), .val (.ref b2), .unset, .unset, .unset]) rfl kgo) ?_
  refine own_go (g' := (mkF m 88 #[.val (.int p0), .val (.long q1), .second, .val (.int p2), .val (.int p3), .val (.int p4), .val (.int p5), .val (.int bb), .val (.int ct), .val (.int ii), .val (.int (own_mf bb)), .val (.int va), .val (.int vc), .val (.int w0), .val (.int ww), .val (.ref b2), .unset, .unset, .unset] [(.ref b2)])) (fun _ kgo => XS.aload X3.here hx rfl (hb hby at_86) rfl rfl kgo) ?_
  refine own_go (g' := (mkF m 90 #[.val (.int p0), .val (.long q1), .second, .val (.int p2), .val (.int p3), .val (.int p4), .val (.int p5), .val (.int bb), .val (.int ct), .val (.int ii), .val (.int (own_mf bb)), .val (.int va), .val (.int vc), .val (.int w0), .val (.int ww), .val (.ref b2), .unset, .unset, .unset] [(.int ii), (.ref b2)])) (fun _ kgo => XS.iload X3.here hx rfl (hb hby at_88) rfl kgo) ?_
  refine own_go (g' := (mkF m 91 #[.val (.int p0), .val (.long q1), .second, .val (.int p2), .val (.int p3), .val (.int p4), .val (.int p5), .val (.int bb), .val (.int ct), .val (.int ii), .val (.int (own_mf bb)), .val (.int va), .val (.int vc), .val (.int w0), .val (.int ww), .val (.ref b2), .unset, .unset, .unset] [(.int (1 : Int32)), (.int ii), (.ref b2)])) (fun _ kgo => XS.iconst X3.here hx rfl (hb hby at_90) kgo) ?_
  refine own_go (g' := (mkF m 92 #[.val (.int p0), .val (.long q1), .second, .val (.int p2), .val (.int p3), .val (.int p4), .val (.int p5), .val (.int bb), .val (.int ct), .val (.int ii), .val (.int (own_mf bb)), .val (.int va), .val (.int vc), .val (.int w0), .val (.int ww), .val (.ref b2), .unset, .unset, .unset] [(.int (ii - (1 : Int32))), (.ref b2)])) (fun _ kgo => XS.isub X3.here hx rfl (hb hby at_91) rfl kgo) ?_
  refine own_go (g' := (mkF m 93 #[.val (.int p0), .val (.long q1), .second, .val (.int p2), .val (.int p3), .val (.int p4), .val (.int p5), .val (.int bb), .val (.int ct), .val (.int ii), .val (.int (own_mf bb)), .val (.int va), .val (.int vc), .val (.int w0), .val (.int ww), .val (.ref b2), .unset, .unset, .unset] [(.long ((ii - (1 : Int32)).toInt64)), (.ref b2)])) (fun _ kgo => XS.i2l X3.here hx rfl (hb hby at_92) rfl kgo) ?_
  refine own_go (g' := (mkF m 95 #[.val (.int p0), .val (.long q1), .second, .val (.int p2), .val (.int p3), .val (.int p4), .val (.int p5), .val (.int bb), .val (.int ct), .val (.int ii), .val (.int (own_mf bb)), .val (.int va), .val (.int vc), .val (.int w0), .val (.int ww), .val (.ref b2), .unset, .unset, .unset] [(.int va), (.long ((ii - (1 : Int32)).toInt64)), (.ref b2)])) (fun _ kgo => XS.iload X3.here hx rfl (hb hby at_93) rfl kgo) ?_
  obtain ⟨v4, T4, L4, hQ4, X4, st4⟩ := own_callV X3 hx hZ (y := (⟨"com/example/seenset/seenset/util/Cells", "set", "(JI)V"⟩ : MethodName)) (z := (⟨"com/example/seenset/seenset/util/Cells", "set", "(JI)V"⟩ : MethodName)) hown (hw _ (List.mem_of_getElem? (i := 57) rfl)) (hw _ (List.mem_of_getElem? (i := 58) rfl)) (notFace_of_selects (args := #[]) (mvT hZ (hw _ (List.mem_of_getElem? (i := 60) rfl)))) (hw _ (List.mem_of_getElem? (i := 60) rfl)) (hw _ (List.mem_of_getElem? (i := 59) rfl)) (hw _ (List.mem_of_getElem? (i := 8) rfl)) (hw _ (List.mem_of_getElem? (i := 61) rfl)) ⟨by decide, by decide⟩ (a := b2) (argsL := [(.long ((ii - (1 : Int32)).toInt64)), (.int va)]) (sts l Z a0 hw b2 ((ii - (1 : Int32)).toInt64) va bb (((1 : Int64) <<< (bb &&& 0x3f).toInt64) - (1 : Int64)) wa3 kw3 ((own_by (ct.toInt64) bb / (8 : Int64)).toInt32) (List.replicate ((own_by (ct.toInt64) bb / (8 : Int64)).toInt32).toInt.toNat (0 : Int64)) (P - bb.toInt.toNat) T3.heap n0 Z3 ge_wa3 q3_0 q3_1 q3_2 q3_3 q3_4 hb1 hPA (by simp only [own_setL, List.length_replicate]; omega) (by simp only [own_setL, List.length_replicate]; omega) ne_b2_wa3) rfl q3_0 (g := (mkF m 95 #[.val (.int p0), .val (.long q1), .second, .val (.int p2), .val (.int p3), .val (.int p4), .val (.int p5), .val (.int bb), .val (.int ct), .val (.int ii), .val (.int (own_mf bb)), .val (.int va), .val (.int vc), .val (.int w0), .val (.int ww), .val (.ref b2), .unset, .unset, .unset] [(.int va), (.long ((ii - (1 : Int32)).toInt64)), (.ref b2)])) rfl (by rw [hml]; rfl) (rest := []) (lenOf pd0_1 rfl) rfl (hb hby at_95) (W := 0) (by show 2 * 0 + _ ≤ _; exact Nat.le_of_eq rfl) (by decide) (by decide) (by decide) (by decide)
  obtain ⟨rfl, Nq4, Kq4, q4_0⟩ := hQ4
  have N4 := Fr.app N3 Nq4
  have Z4 : n0 ≤ T4.heap.size := Nat.le_trans Z3 Kq4.1
  refine own_go (g' := (mkF m 98 #[.val (.int p0), .val (.long q1), .second, .val (.int p2), .val (.int p3), .val (.int p4), .val (.int p5), .val (.int bb), .val (.int ct), .val (.int ii), .val (.int (own_mf bb)), .val (.int va), .val (.int vc), .val (.int w0), .val (.int ww), .val (.ref b2), .unset, .unset, .unset] [])) (st4) ?_
  refine own_go (g' := (mkF m 100 #[.val (.int p0), .val (.long q1), .second, .val (.int p2), .val (.int p3), .val (.int p4), .val (.int p5), .val (.int bb), .val (.int ct), .val (.int ii), .val (.int (own_mf bb)), .val (.int va), .val (.int vc), .val (.int w0), .val (.int ww), .val (.ref b2), .unset, .unset, .unset] [(.ref b2)])) (fun _ kgo => XS.aload X4.here hx rfl (hb hby at_98) rfl rfl kgo) ?_
  refine own_go (g' := (mkF m 102 #[.val (.int p0), .val (.long q1), .second, .val (.int p2), .val (.int p3), .val (.int p4), .val (.int p5), .val (.int bb), .val (.int ct), .val (.int ii), .val (.int (own_mf bb)), .val (.int va), .val (.int vc), .val (.int w0), .val (.int ww), .val (.ref b2), .unset, .unset, .unset] [(.int ii), (.ref b2)])) (fun _ kgo => XS.iload X4.here hx rfl (hb hby at_100) rfl kgo) ?_
  refine own_go (g' := (mkF m 103 #[.val (.int p0), .val (.long q1), .second, .val (.int p2), .val (.int p3), .val (.int p4), .val (.int p5), .val (.int bb), .val (.int ct), .val (.int ii), .val (.int (own_mf bb)), .val (.int va), .val (.int vc), .val (.int w0), .val (.int ww), .val (.ref b2), .unset, .unset, .unset] [(.int (1 : Int32)), (.int ii), (.ref b2)])) (fun _ kgo => XS.iconst X4.here hx rfl (hb hby at_102) kgo) ?_
  refine own_go (g' := (mkF m 104 #[.val (.int p0), .val (.long q1), .second, .val (.int p2), .val (.int p3), .val (.int p4), .val (.int p5), .val (.int bb), .val (.int ct), .val (.int ii), .val (.int (own_mf bb)), .val (.int va), .val (.int vc), .val (.int w0), .val (.int ww), .val (.ref b2), .unset, .unset, .unset] [(.int (ii + (1 : Int32))), (.ref b2)])) (fun _ kgo => XS.iadd X4.here hx rfl (hb hby at_103) rfl kgo) ?_
  refine own_go (g' := (mkF m 105 #[.val (.int p0), .val (.long q1), .second, .val (.int p2), .val (.int p3), .val (.int p4), .val (.int p5), .val (.int bb), .val (.int ct), .val (.int ii), .val (.int (own_mf bb)), .val (.int va), .val (.int vc), .val (.int w0), .val (.int ww), .val (.ref b2), .unset, .unset, .unset] [(.long ((ii + (1 : Int32)).toInt64)), (.ref b2)])) (fun _ kgo => XS.i2l X4.here hx rfl (hb hby at_104) rfl kgo) ?_
  refine own_go (g' := (mkF m 107 #[.val (.int p0), .val (.long q1), .second, .val (.int p2), .val (.int p3), .val (.int p4), .val (.int p5), .val (.int bb), .val (.int ct), .val (.int ii), .val (.int (own_mf bb)), .val (.int va), .val (.int vc), .val (.int w0), .val (.int ww), .val (.ref b2), .unset, .unset, .unset] [(.int vc), (.long ((ii + (1 : Int32)).toInt64)), (.ref b2)])) (fun _ kgo => XS.iload X4.here hx rfl (hb hby at_105) rfl kgo) ?_
  have fx6 : Exa Z T4.heap b2 "com/example/seenset/seenset/util/Cells" := (Exa.keep q3_0 Kq4)
  have fx7 : Fld Z T4.heap b2 "com/example/seenset/seenset/util/Cells" "bits" "I" (.int bb) := (Fld.keep q3_1 Kq4 (ninS ne_b2_wa3 nin0))
  have fx8 : Fld Z T4.heap b2 "com/example/seenset/seenset/util/Cells" "mask" "J" (.long (((1 : Int64) <<< (bb &&& 0x3f).toInt64) - (1 : Int64))) := (Fld.keep q3_2 Kq4 (ninS ne_b2_wa3 nin0))
  have fx9 : Fld Z T4.heap b2 "com/example/seenset/seenset/util/Cells" "words" "[J" (.ref wa3) := (Fld.keep q3_3 Kq4 (ninS ne_b2_wa3 nin0))
  obtain ⟨v5, T5, L5, hQ5, X5, st5⟩ := own_callV X4 hx hZ (y := (⟨"com/example/seenset/seenset/util/Cells", "set", "(JI)V"⟩ : MethodName)) (z := (⟨"com/example/seenset/seenset/util/Cells", "set", "(JI)V"⟩ : MethodName)) hown (hw _ (List.mem_of_getElem? (i := 57) rfl)) (hw _ (List.mem_of_getElem? (i := 58) rfl)) (notFace_of_selects (args := #[]) (mvT hZ (hw _ (List.mem_of_getElem? (i := 60) rfl)))) (hw _ (List.mem_of_getElem? (i := 60) rfl)) (hw _ (List.mem_of_getElem? (i := 59) rfl)) (hw _ (List.mem_of_getElem? (i := 8) rfl)) (hw _ (List.mem_of_getElem? (i := 61) rfl)) ⟨by decide, by decide⟩ (a := b2) (argsL := [(.long ((ii + (1 : Int32)).toInt64)), (.int vc)]) (sts l Z a0 hw b2 ((ii + (1 : Int32)).toInt64) vc bb (((1 : Int64) <<< (bb &&& 0x3f).toInt64) - (1 : Int64)) wa3 kw3 ((own_by (ct.toInt64) bb / (8 : Int64)).toInt32) (own_setP (List.replicate ((own_by (ct.toInt64) bb / (8 : Int64)).toInt32).toInt.toNat (0 : Int64)) (((1 : Int64) <<< (bb &&& 0x3f).toInt64) - (1 : Int64)) bb.toInt.toNat (P - bb.toInt.toNat) va) (P + bb.toInt.toNat) T4.heap n0 Z4 ge_wa3 fx6 fx7 fx8 fx9 q4_0 hb1 hPC (by simp only [own_setL, List.length_replicate]; omega) (by simp only [own_setL, List.length_replicate]; omega) ne_b2_wa3) rfl fx6 (g := (mkF m 107 #[.val (.int p0), .val (.long q1), .second, .val (.int p2), .val (.int p3), .val (.int p4), .val (.int p5), .val (.int bb), .val (.int ct), .val (.int ii), .val (.int (own_mf bb)), .val (.int va), .val (.int vc), .val (.int w0), .val (.int ww), .val (.ref b2), .unset, .unset, .unset] [(.int vc), (.long ((ii + (1 : Int32)).toInt64)), (.ref b2)])) rfl (by rw [hml]; rfl) (rest := []) (lenOf pd0_1 rfl) rfl (hb hby at_107) (W := 0) (by show 2 * 0 + _ ≤ _; exact Nat.le_of_eq rfl) (by decide) (by decide) (by decide) (by decide)
  obtain ⟨rfl, Nq5, Kq5, q5_0⟩ := hQ5
  have N5 := Fr.app N4 Nq5
  have Z5 : n0 ≤ T5.heap.size := Nat.le_trans Z4 Kq5.1
  refine own_go (g' := (mkF m 110 #[.val (.int p0), .val (.long q1), .second, .val (.int p2), .val (.int p3), .val (.int p4), .val (.int p5), .val (.int bb), .val (.int ct), .val (.int ii), .val (.int (own_mf bb)), .val (.int va), .val (.int vc), .val (.int w0), .val (.int ww), .val (.ref b2), .unset, .unset, .unset] [])) (st5) ?_
  refine own_go (g' := (mkF m 112 #[.val (.int p0), .val (.long q1), .second, .val (.int p2), .val (.int p3), .val (.int p4), .val (.int p5), .val (.int bb), .val (.int ct), .val (.int ii), .val (.int (own_mf bb)), .val (.int va), .val (.int vc), .val (.int w0), .val (.int ww), .val (.ref b2), .unset, .unset, .unset] [(.ref b2)])) (fun _ kgo => XS.aload X5.here hx rfl (hb hby at_110) rfl rfl kgo) ?_
  refine own_go (g' := (mkF m 114 #[.val (.int p0), .val (.long q1), .second, .val (.int p2), .val (.int p3), .val (.int p4), .val (.int p5), .val (.int bb), .val (.int ct), .val (.int ii), .val (.int (own_mf bb)), .val (.int va), .val (.int vc), .val (.int w0), .val (.int ww), .val (.ref b2), .unset, .unset, .unset] [(.int ii), (.ref b2)])) (fun _ kgo => XS.iload X5.here hx rfl (hb hby at_112) rfl kgo) ?_
  refine own_go (g' := (mkF m 115 #[.val (.int p0), .val (.long q1), .second, .val (.int p2), .val (.int p3), .val (.int p4), .val (.int p5), .val (.int bb), .val (.int ct), .val (.int ii), .val (.int (own_mf bb)), .val (.int va), .val (.int vc), .val (.int w0), .val (.int ww), .val (.ref b2), .unset, .unset, .unset] [(.long (ii.toInt64)), (.ref b2)])) (fun _ kgo => XS.i2l X5.here hx rfl (hb hby at_114) rfl kgo) ?_
  refine own_go (g' := (mkF m 117 #[.val (.int p0), .val (.long q1), .second, .val (.int p2), .val (.int p3), .val (.int p4), .val (.int p5), .val (.int bb), .val (.int ct), .val (.int ii), .val (.int (own_mf bb)), .val (.int va), .val (.int vc), .val (.int w0), .val (.int ww), .val (.ref b2), .unset, .unset, .unset] [(.int w0), (.long (ii.toInt64)), (.ref b2)])) (fun _ kgo => XS.iload X5.here hx rfl (hb hby at_115) rfl kgo) ?_
  have fx11 : Exa Z T5.heap b2 "com/example/seenset/seenset/util/Cells" := (Exa.keep fx6 Kq5)
  have fx12 : Fld Z T5.heap b2 "com/example/seenset/seenset/util/Cells" "bits" "I" (.int bb) := (Fld.keep fx7 Kq5 (ninS ne_b2_wa3 nin0))
  have fx13 : Fld Z T5.heap b2 "com/example/seenset/seenset/util/Cells" "mask" "J" (.long (((1 : Int64) <<< (bb &&& 0x3f).toInt64) - (1 : Int64))) := (Fld.keep fx8 Kq5 (ninS ne_b2_wa3 nin0))
  have fx14 : Fld Z T5.heap b2 "com/example/seenset/seenset/util/Cells" "words" "[J" (.ref wa3) := (Fld.keep fx9 Kq5 (ninS ne_b2_wa3 nin0))
  obtain ⟨v10, T10, L10, hQ10, X10, st10⟩ := own_callV X5 hx hZ (y := (⟨"com/example/seenset/seenset/util/Cells", "set", "(JI)V"⟩ : MethodName)) (z := (⟨"com/example/seenset/seenset/util/Cells", "set", "(JI)V"⟩ : MethodName)) hown (hw _ (List.mem_of_getElem? (i := 57) rfl)) (hw _ (List.mem_of_getElem? (i := 58) rfl)) (notFace_of_selects (args := #[]) (mvT hZ (hw _ (List.mem_of_getElem? (i := 60) rfl)))) (hw _ (List.mem_of_getElem? (i := 60) rfl)) (hw _ (List.mem_of_getElem? (i := 59) rfl)) (hw _ (List.mem_of_getElem? (i := 8) rfl)) (hw _ (List.mem_of_getElem? (i := 61) rfl)) ⟨by decide, by decide⟩ (a := b2) (argsL := [(.long (ii.toInt64)), (.int w0)]) (sts l Z a0 hw b2 (ii.toInt64) w0 bb (((1 : Int64) <<< (bb &&& 0x3f).toInt64) - (1 : Int64)) wa3 kw3 ((own_by (ct.toInt64) bb / (8 : Int64)).toInt32) (own_setP (own_setP (List.replicate ((own_by (ct.toInt64) bb / (8 : Int64)).toInt32).toInt.toNat (0 : Int64)) (((1 : Int64) <<< (bb &&& 0x3f).toInt64) - (1 : Int64)) bb.toInt.toNat (P - bb.toInt.toNat) va) (((1 : Int64) <<< (bb &&& 0x3f).toInt64) - (1 : Int64)) bb.toInt.toNat (P + bb.toInt.toNat) vc) P T5.heap n0 Z5 ge_wa3 fx11 fx12 fx13 fx14 q5_0 hb1 hPB (by simp only [own_setL, List.length_replicate]; omega) (by simp only [own_setL, List.length_replicate]; omega) ne_b2_wa3) rfl fx11 (g := (mkF m 117 #[.val (.int p0), .val (.long q1), .second, .val (.int p2), .val (.int p3), .val (.int p4), .val (.int p5), .val (.int bb), .val (.int ct), .val (.int ii), .val (.int (own_mf bb)), .val (.int va), .val (.int vc), .val (.int w0), .val (.int ww), .val (.ref b2), .unset, .unset, .unset] [(.int w0), (.long (ii.toInt64)), (.ref b2)])) rfl (by rw [hml]; rfl) (rest := []) (lenOf pd0_1 rfl) rfl (hb hby at_117) (W := 0) (by show 2 * 0 + _ ≤ _; exact Nat.le_of_eq rfl) (by decide) (by decide) (by decide) (by decide)
  obtain ⟨rfl, Nq10, Kq10, q10_0⟩ := hQ10
  have N10 := Fr.app N5 Nq10
  have Z10 : n0 ≤ T10.heap.size := Nat.le_trans Z5 Kq10.1
  refine own_go (g' := (mkF m 120 #[.val (.int p0), .val (.long q1), .second, .val (.int p2), .val (.int p3), .val (.int p4), .val (.int p5), .val (.int bb), .val (.int ct), .val (.int ii), .val (.int (own_mf bb)), .val (.int va), .val (.int vc), .val (.int w0), .val (.int ww), .val (.ref b2), .unset, .unset, .unset] [])) (st10) ?_
  refine own_go (g' := (mkF m 122 #[.val (.int p0), .val (.long q1), .second, .val (.int p2), .val (.int p3), .val (.int p4), .val (.int p5), .val (.int bb), .val (.int ct), .val (.int ii), .val (.int (own_mf bb)), .val (.int va), .val (.int vc), .val (.int w0), .val (.int ww), .val (.ref b2), .unset, .unset, .unset] [(.ref b2)])) (fun _ kgo => XS.aload X10.here hx rfl (hb hby at_120) rfl rfl kgo) ?_
  refine own_go (g' := (mkF m 124 #[.val (.int p0), .val (.long q1), .second, .val (.int p2), .val (.int p3), .val (.int p4), .val (.int p5), .val (.int bb), .val (.int ct), .val (.int ii), .val (.int (own_mf bb)), .val (.int va), .val (.int vc), .val (.int w0), .val (.int ww), .val (.ref b2), .unset, .unset, .unset] [(.int ii), (.ref b2)])) (fun _ kgo => XS.iload X10.here hx rfl (hb hby at_122) rfl kgo) ?_
  refine own_go (g' := (mkF m 125 #[.val (.int p0), .val (.long q1), .second, .val (.int p2), .val (.int p3), .val (.int p4), .val (.int p5), .val (.int bb), .val (.int ct), .val (.int ii), .val (.int (own_mf bb)), .val (.int va), .val (.int vc), .val (.int w0), .val (.int ww), .val (.ref b2), .unset, .unset, .unset] [(.long (ii.toInt64)), (.ref b2)])) (fun _ kgo => XS.i2l X10.here hx rfl (hb hby at_124) rfl kgo) ?_
  refine own_go (g' := (mkF m 127 #[.val (.int p0), .val (.long q1), .second, .val (.int p2), .val (.int p3), .val (.int p4), .val (.int p5), .val (.int bb), .val (.int ct), .val (.int ii), .val (.int (own_mf bb)), .val (.int va), .val (.int vc), .val (.int w0), .val (.int ww), .val (.ref b2), .unset, .unset, .unset] [(.int ww), (.long (ii.toInt64)), (.ref b2)])) (fun _ kgo => XS.iload X10.here hx rfl (hb hby at_125) rfl kgo) ?_
  have fx16 : Exa Z T10.heap b2 "com/example/seenset/seenset/util/Cells" := (Exa.keep fx11 Kq10)
  have fx17 : Fld Z T10.heap b2 "com/example/seenset/seenset/util/Cells" "bits" "I" (.int bb) := (Fld.keep fx12 Kq10 (ninS ne_b2_wa3 nin0))
  have fx18 : Fld Z T10.heap b2 "com/example/seenset/seenset/util/Cells" "mask" "J" (.long (((1 : Int64) <<< (bb &&& 0x3f).toInt64) - (1 : Int64))) := (Fld.keep fx13 Kq10 (ninS ne_b2_wa3 nin0))
  have fx19 : Fld Z T10.heap b2 "com/example/seenset/seenset/util/Cells" "words" "[J" (.ref wa3) := (Fld.keep fx14 Kq10 (ninS ne_b2_wa3 nin0))
  obtain ⟨v15, T15, L15, hQ15, X15, st15⟩ := own_callV X10 hx hZ (y := (⟨"com/example/seenset/seenset/util/Cells", "set", "(JI)V"⟩ : MethodName)) (z := (⟨"com/example/seenset/seenset/util/Cells", "set", "(JI)V"⟩ : MethodName)) hown (hw _ (List.mem_of_getElem? (i := 57) rfl)) (hw _ (List.mem_of_getElem? (i := 58) rfl)) (notFace_of_selects (args := #[]) (mvT hZ (hw _ (List.mem_of_getElem? (i := 60) rfl)))) (hw _ (List.mem_of_getElem? (i := 60) rfl)) (hw _ (List.mem_of_getElem? (i := 59) rfl)) (hw _ (List.mem_of_getElem? (i := 8) rfl)) (hw _ (List.mem_of_getElem? (i := 61) rfl)) ⟨by decide, by decide⟩ (a := b2) (argsL := [(.long (ii.toInt64)), (.int ww)]) (sts l Z a0 hw b2 (ii.toInt64) ww bb (((1 : Int64) <<< (bb &&& 0x3f).toInt64) - (1 : Int64)) wa3 kw3 ((own_by (ct.toInt64) bb / (8 : Int64)).toInt32) (own_setP (own_setP (own_setP (List.replicate ((own_by (ct.toInt64) bb / (8 : Int64)).toInt32).toInt.toNat (0 : Int64)) (((1 : Int64) <<< (bb &&& 0x3f).toInt64) - (1 : Int64)) bb.toInt.toNat (P - bb.toInt.toNat) va) (((1 : Int64) <<< (bb &&& 0x3f).toInt64) - (1 : Int64)) bb.toInt.toNat (P + bb.toInt.toNat) vc) (((1 : Int64) <<< (bb &&& 0x3f).toInt64) - (1 : Int64)) bb.toInt.toNat P w0) P T10.heap n0 Z10 ge_wa3 fx16 fx17 fx18 fx19 q10_0 hb1 hPB (by simp only [own_setL, List.length_replicate]; omega) (by simp only [own_setL, List.length_replicate]; omega) ne_b2_wa3) rfl fx16 (g := (mkF m 127 #[.val (.int p0), .val (.long q1), .second, .val (.int p2), .val (.int p3), .val (.int p4), .val (.int p5), .val (.int bb), .val (.int ct), .val (.int ii), .val (.int (own_mf bb)), .val (.int va), .val (.int vc), .val (.int w0), .val (.int ww), .val (.ref b2), .unset, .unset, .unset] [(.int ww), (.long (ii.toInt64)), (.ref b2)])) rfl (by rw [hml]; rfl) (rest := []) (lenOf pd0_1 rfl) rfl (hb hby at_127) (W := 0) (by show 2 * 0 + _ ≤ _; exact Nat.le_of_eq rfl) (by decide) (by decide) (by decide) (by decide)
  obtain ⟨rfl, Nq15, Kq15, q15_0⟩ := hQ15
  have N15 := Fr.app N10 Nq15
  have Z15 : n0 ≤ T15.heap.size := Nat.le_trans Z10 Kq15.1
  refine own_go (g' := (mkF m 130 #[.val (.int p0), .val (.long q1), .second, .val (.int p2), .val (.int p3), .val (.int p4), .val (.int p5), .val (.int bb), .val (.int ct), .val (.int ii), .val (.int (own_mf bb)), .val (.int va), .val (.int vc), .val (.int w0), .val (.int ww), .val (.ref b2), .unset, .unset, .unset] [])) (st15) ?_
  refine own_go (g' := (mkF m 132 #[.val (.int p0), .val (.long q1), .second, .val (.int p2), .val (.int p3), .val (.int p4), .val (.int p5), .val (.int bb), .val (.int ct), .val (.int ii), .val (.int (own_mf bb)), .val (.int va), .val (.int vc), .val (.int w0), .val (.int ww), .val (.ref b2), .unset, .unset, .unset] [(.ref b2)])) (fun _ kgo => XS.aload X15.here hx rfl (hb hby at_130) rfl rfl kgo) ?_
  refine own_go (g' := (mkF m 134 #[.val (.int p0), .val (.long q1), .second, .val (.int p2), .val (.int p3), .val (.int p4), .val (.int p5), .val (.int bb), .val (.int ct), .val (.int ii), .val (.int (own_mf bb)), .val (.int va), .val (.int vc), .val (.int w0), .val (.int ww), .val (.ref b2), .unset, .unset, .unset] [(.int ii), (.ref b2)])) (fun _ kgo => XS.iload X15.here hx rfl (hb hby at_132) rfl kgo) ?_
  refine own_go (g' := (mkF m 135 #[.val (.int p0), .val (.long q1), .second, .val (.int p2), .val (.int p3), .val (.int p4), .val (.int p5), .val (.int bb), .val (.int ct), .val (.int ii), .val (.int (own_mf bb)), .val (.int va), .val (.int vc), .val (.int w0), .val (.int ww), .val (.ref b2), .unset, .unset, .unset] [(.int (1 : Int32)), (.int ii), (.ref b2)])) (fun _ kgo => XS.iconst X15.here hx rfl (hb hby at_134) kgo) ?_
  refine own_go (g' := (mkF m 136 #[.val (.int p0), .val (.long q1), .second, .val (.int p2), .val (.int p3), .val (.int p4), .val (.int p5), .val (.int bb), .val (.int ct), .val (.int ii), .val (.int (own_mf bb)), .val (.int va), .val (.int vc), .val (.int w0), .val (.int ww), .val (.ref b2), .unset, .unset, .unset] [(.int (ii - (1 : Int32))), (.ref b2)])) (fun _ kgo => XS.isub X15.here hx rfl (hb hby at_135) rfl kgo) ?_
  refine own_go (g' := (mkF m 137 #[.val (.int p0), .val (.long q1), .second, .val (.int p2), .val (.int p3), .val (.int p4), .val (.int p5), .val (.int bb), .val (.int ct), .val (.int ii), .val (.int (own_mf bb)), .val (.int va), .val (.int vc), .val (.int w0), .val (.int ww), .val (.ref b2), .unset, .unset, .unset] [(.long ((ii - (1 : Int32)).toInt64)), (.ref b2)])) (fun _ kgo => XS.i2l X15.here hx rfl (hb hby at_136) rfl kgo) ?_
  have fx21 : Exa Z T15.heap b2 "com/example/seenset/seenset/util/Cells" := (Exa.keep fx16 Kq15)
  have fx22 : Fld Z T15.heap b2 "com/example/seenset/seenset/util/Cells" "bits" "I" (.int bb) := (Fld.keep fx17 Kq15 (ninS ne_b2_wa3 nin0))
  have fx23 : Fld Z T15.heap b2 "com/example/seenset/seenset/util/Cells" "mask" "J" (.long (((1 : Int64) <<< (bb &&& 0x3f).toInt64) - (1 : Int64))) := (Fld.keep fx18 Kq15 (ninS ne_b2_wa3 nin0))
  have fx24 : Fld Z T15.heap b2 "com/example/seenset/seenset/util/Cells" "words" "[J" (.ref wa3) := (Fld.keep fx19 Kq15 (ninS ne_b2_wa3 nin0))
  obtain ⟨v20, T20, L20, hQ20, X20, st20⟩ := own_callV X15 hx hZ (y := (⟨"com/example/seenset/seenset/util/Cells", "get", "(J)I"⟩ : MethodName)) (z := (⟨"com/example/seenset/seenset/util/Cells", "get", "(J)I"⟩ : MethodName)) hown (hw _ (List.mem_of_getElem? (i := 64) rfl)) (hw _ (List.mem_of_getElem? (i := 65) rfl)) (notFace_of_selects (args := #[]) (mvT hZ (hw _ (List.mem_of_getElem? (i := 67) rfl)))) (hw _ (List.mem_of_getElem? (i := 67) rfl)) (hw _ (List.mem_of_getElem? (i := 66) rfl)) (hw _ (List.mem_of_getElem? (i := 8) rfl)) (hw _ (List.mem_of_getElem? (i := 68) rfl)) ⟨by decide, by decide⟩ (a := b2) (argsL := [(.long ((ii - (1 : Int32)).toInt64))]) (gts l Z a0 hw b2 ((ii - (1 : Int32)).toInt64) bb (((1 : Int64) <<< (bb &&& 0x3f).toInt64) - (1 : Int64)) wa3 kw3 ((own_by (ct.toInt64) bb / (8 : Int64)).toInt32) (own_setP (own_setP (own_setP (own_setP (List.replicate ((own_by (ct.toInt64) bb / (8 : Int64)).toInt32).toInt.toNat (0 : Int64)) (((1 : Int64) <<< (bb &&& 0x3f).toInt64) - (1 : Int64)) bb.toInt.toNat (P - bb.toInt.toNat) va) (((1 : Int64) <<< (bb &&& 0x3f).toInt64) - (1 : Int64)) bb.toInt.toNat (P + bb.toInt.toNat) vc) (((1 : Int64) <<< (bb &&& 0x3f).toInt64) - (1 : Int64)) bb.toInt.toNat P w0) (((1 : Int64) <<< (bb &&& 0x3f).toInt64) - (1 : Int64)) bb.toInt.toNat P ww) (P - bb.toInt.toNat) T15.heap fx21 fx22 fx23 fx24 q15_0 hb1 hPA (by simp only [own_setL, List.length_replicate]; omega) (by simp only [own_setL, List.length_replicate]; omega)) rfl fx21 (g := (mkF m 137 #[.val (.int p0), .val (.long q1), .second, .val (.int p2), .val (.int p3), .val (.int p4), .val (.int p5), .val (.int bb), .val (.int ct), .val (.int ii), .val (.int (own_mf bb)), .val (.int va), .val (.int vc), .val (.int w0), .val (.int ww), .val (.ref b2), .unset, .unset, .unset] [(.long ((ii - (1 : Int32)).toInt64)), (.ref b2)])) rfl (by rw [hml]; rfl) (rest := []) (lenOf pd0_2 rfl) rfl (hb hby at_137) (W := 0) (by show 2 * 0 + _ ≤ _; exact Nat.le_of_eq rfl) (by decide) (by decide) (by decide) (by decide)
  obtain ⟨rfl, e20, rfl⟩ := hQ20
  have N20 := Fr.app N15 (Fr.nil n0)
  refine own_go (g' := (mkF m 140 #[.val (.int p0), .val (.long q1), .second, .val (.int p2), .val (.int p3), .val (.int p4), .val (.int p5), .val (.int bb), .val (.int ct), .val (.int ii), .val (.int (own_mf bb)), .val (.int va), .val (.int vc), .val (.int w0), .val (.int ww), .val (.ref b2), .unset, .unset, .unset] [(.int (own_getP (own_setP (own_setP (own_setP (own_setP (List.replicate ((own_by (ct.toInt64) bb / (8 : Int64)).toInt32).toInt.toNat (0 : Int64)) (((1 : Int64) <<< (bb &&& 0x3f).toInt64) - (1 : Int64)) bb.toInt.toNat (P - bb.toInt.toNat) va) (((1 : Int64) <<< (bb &&& 0x3f).toInt64) - (1 : Int64)) bb.toInt.toNat (P + bb.toInt.toNat) vc) (((1 : Int64) <<< (bb &&& 0x3f).toInt64) - (1 : Int64)) bb.toInt.toNat P w0) (((1 : Int64) <<< (bb &&& 0x3f).toInt64) - (1 : Int64)) bb.toInt.toNat P ww) (((1 : Int64) <<< (bb &&& 0x3f).toInt64) - (1 : Int64)) bb.toInt.toNat (P - bb.toInt.toNat)))])) (st20) ?_
  refine own_go (g' := (mkF m 142 #[.val (.int p0), .val (.long q1), .second, .val (.int p2), .val (.int p3), .val (.int p4), .val (.int p5), .val (.int bb), .val (.int ct), .val (.int ii), .val (.int (own_mf bb)), .val (.int va), .val (.int vc), .val (.int w0), .val (.int ww), .val (.ref b2), .unset, .unset, .unset] [(.int va), (.int (own_getP (own_setP (own_setP (own_setP (own_setP (List.replicate ((own_by (ct.toInt64) bb / (8 : Int64)).toInt32).toInt.toNat (0 : Int64)) (((1 : Int64) <<< (bb &&& 0x3f).toInt64) - (1 : Int64)) bb.toInt.toNat (P - bb.toInt.toNat) va) (((1 : Int64) <<< (bb &&& 0x3f).toInt64) - (1 : Int64)) bb.toInt.toNat (P + bb.toInt.toNat) vc) (((1 : Int64) <<< (bb &&& 0x3f).toInt64) - (1 : Int64)) bb.toInt.toNat P w0) (((1 : Int64) <<< (bb &&& 0x3f).toInt64) - (1 : Int64)) bb.toInt.toNat P ww) (((1 : Int64) <<< (bb &&& 0x3f).toInt64) - (1 : Int64)) bb.toInt.toNat (P - bb.toInt.toNat)))])) (fun _ kgo => XS.iload X20.here hx rfl (hb hby at_140) rfl kgo) ?_
  refine own_go (g' := (mkF m 145 #[.val (.int p0), .val (.long q1), .second, .val (.int p2), .val (.int p3), .val (.int p4), .val (.int p5), .val (.int bb), .val (.int ct), .val (.int ii), .val (.int (own_mf bb)), .val (.int va), .val (.int vc), .val (.int w0), .val (.int ww), .val (.ref b2), .unset, .unset, .unset] [])) (fun _ kgo => XS.icmpNo X20.here hx rfl (hb hby at_142) rfl (teq hlaw.1).2 kgo) ?_
  refine own_go (g' := (mkF m 146 #[.val (.int p0), .val (.long q1), .second, .val (.int p2), .val (.int p3), .val (.int p4), .val (.int p5), .val (.int bb), .val (.int ct), .val (.int ii), .val (.int (own_mf bb)), .val (.int va), .val (.int vc), .val (.int w0), .val (.int ww), .val (.ref b2), .unset, .unset, .unset] [(.int (1 : Int32))])) (fun _ kgo => XS.iconst X20.here hx rfl (hb hby at_145) kgo) ?_
  refine own_go (g' := (mkF m 150 #[.val (.int p0), .val (.long q1), .second, .val (.int p2), .val (.int p3), .val (.int p4), .val (.int p5), .val (.int bb), .val (.int ct), .val (.int ii), .val (.int (own_mf bb)), .val (.int va), .val (.int vc), .val (.int w0), .val (.int ww), .val (.ref b2), .unset, .unset, .unset] [(.int (1 : Int32))])) (fun _ kgo => XS.goto X20.here hx rfl (pc0 := 146) (pc' := 150) rfl (hb hby at_146) (by decide) (by decide) kgo) ?_
  refine own_go (g' := (mkF m 152 #[.val (.int p0), .val (.long q1), .second, .val (.int p2), .val (.int p3), .val (.int p4), .val (.int p5), .val (.int bb), .val (.int ct), .val (.int ii), .val (.int (own_mf bb)), .val (.int va), .val (.int vc), .val (.int w0), .val (.int ww), .val (.ref b2), .val (.int (1 : Int32)), .unset, .unset] [])) (fun _ kgo => XS.istore X20.here hx rfl (hb hby at_150) rfl (l' := #[.val (.int p0), .val (.long q1), .second, .val (.int p2), .val (.int p3), .val (.int p4), .val (.int p5), .val (.int bb), .val (.int ct), .val (.int ii), .val (.int (own_mf bb)), .val (.int va), .val (.int vc), .val (.int w0), .val (.int ww), .val (.ref b2), .val (.int (1 : Int32)), .unset, .unset]) rfl kgo) ?_
  refine own_go (g' := (mkF m 154 #[.val (.int p0), .val (.long q1), .second, .val (.int p2), .val (.int p3), .val (.int p4), .val (.int p5), .val (.int bb), .val (.int ct), .val (.int ii), .val (.int (own_mf bb)), .val (.int va), .val (.int vc), .val (.int w0), .val (.int ww), .val (.ref b2), .val (.int (1 : Int32)), .unset, .unset] [(.ref b2)])) (fun _ kgo => XS.aload X20.here hx rfl (hb hby at_152) rfl rfl kgo) ?_
  refine own_go (g' := (mkF m 156 #[.val (.int p0), .val (.long q1), .second, .val (.int p2), .val (.int p3), .val (.int p4), .val (.int p5), .val (.int bb), .val (.int ct), .val (.int ii), .val (.int (own_mf bb)), .val (.int va), .val (.int vc), .val (.int w0), .val (.int ww), .val (.ref b2), .val (.int (1 : Int32)), .unset, .unset] [(.int ii), (.ref b2)])) (fun _ kgo => XS.iload X20.here hx rfl (hb hby at_154) rfl kgo) ?_
  refine own_go (g' := (mkF m 157 #[.val (.int p0), .val (.long q1), .second, .val (.int p2), .val (.int p3), .val (.int p4), .val (.int p5), .val (.int bb), .val (.int ct), .val (.int ii), .val (.int (own_mf bb)), .val (.int va), .val (.int vc), .val (.int w0), .val (.int ww), .val (.ref b2), .val (.int (1 : Int32)), .unset, .unset] [(.long (ii.toInt64)), (.ref b2)])) (fun _ kgo => XS.i2l X20.here hx rfl (hb hby at_156) rfl kgo) ?_
  obtain ⟨v25, T25, L25, hQ25, X25, st25⟩ := own_callV X20 hx hZ (y := (⟨"com/example/seenset/seenset/util/Cells", "get", "(J)I"⟩ : MethodName)) (z := (⟨"com/example/seenset/seenset/util/Cells", "get", "(J)I"⟩ : MethodName)) hown (hw _ (List.mem_of_getElem? (i := 64) rfl)) (hw _ (List.mem_of_getElem? (i := 65) rfl)) (notFace_of_selects (args := #[]) (mvT hZ (hw _ (List.mem_of_getElem? (i := 67) rfl)))) (hw _ (List.mem_of_getElem? (i := 67) rfl)) (hw _ (List.mem_of_getElem? (i := 66) rfl)) (hw _ (List.mem_of_getElem? (i := 8) rfl)) (hw _ (List.mem_of_getElem? (i := 68) rfl)) ⟨by decide, by decide⟩ (a := b2) (argsL := [(.long (ii.toInt64))]) (gts l Z a0 hw b2 (ii.toInt64) bb (((1 : Int64) <<< (bb &&& 0x3f).toInt64) - (1 : Int64)) wa3 kw3 ((own_by (ct.toInt64) bb / (8 : Int64)).toInt32) (own_setP (own_setP (own_setP (own_setP (List.replicate ((own_by (ct.toInt64) bb / (8 : Int64)).toInt32).toInt.toNat (0 : Int64)) (((1 : Int64) <<< (bb &&& 0x3f).toInt64) - (1 : Int64)) bb.toInt.toNat (P - bb.toInt.toNat) va) (((1 : Int64) <<< (bb &&& 0x3f).toInt64) - (1 : Int64)) bb.toInt.toNat (P + bb.toInt.toNat) vc) (((1 : Int64) <<< (bb &&& 0x3f).toInt64) - (1 : Int64)) bb.toInt.toNat P w0) (((1 : Int64) <<< (bb &&& 0x3f).toInt64) - (1 : Int64)) bb.toInt.toNat P ww) P T15.heap fx21 fx22 fx23 fx24 q15_0 hb1 hPB (by simp only [own_setL, List.length_replicate]; omega) (by simp only [own_setL, List.length_replicate]; omega)) e20 fx21 (g := (mkF m 157 #[.val (.int p0), .val (.long q1), .second, .val (.int p2), .val (.int p3), .val (.int p4), .val (.int p5), .val (.int bb), .val (.int ct), .val (.int ii), .val (.int (own_mf bb)), .val (.int va), .val (.int vc), .val (.int w0), .val (.int ww), .val (.ref b2), .val (.int (1 : Int32)), .unset, .unset] [(.long (ii.toInt64)), (.ref b2)])) rfl (by rw [hml]; rfl) (rest := []) (lenOf pd0_2 rfl) rfl (hb hby at_157) (W := 0) (by show 2 * 0 + _ ≤ _; exact Nat.le_of_eq rfl) (by decide) (by decide) (by decide) (by decide)
  obtain ⟨rfl, e25, rfl⟩ := hQ25
  have N25 := Fr.app N20 (Fr.nil n0)
  refine own_go (g' := (mkF m 160 #[.val (.int p0), .val (.long q1), .second, .val (.int p2), .val (.int p3), .val (.int p4), .val (.int p5), .val (.int bb), .val (.int ct), .val (.int ii), .val (.int (own_mf bb)), .val (.int va), .val (.int vc), .val (.int w0), .val (.int ww), .val (.ref b2), .val (.int (1 : Int32)), .unset, .unset] [(.int (own_getP (own_setP (own_setP (own_setP (own_setP (List.replicate ((own_by (ct.toInt64) bb / (8 : Int64)).toInt32).toInt.toNat (0 : Int64)) (((1 : Int64) <<< (bb &&& 0x3f).toInt64) - (1 : Int64)) bb.toInt.toNat (P - bb.toInt.toNat) va) (((1 : Int64) <<< (bb &&& 0x3f).toInt64) - (1 : Int64)) bb.toInt.toNat (P + bb.toInt.toNat) vc) (((1 : Int64) <<< (bb &&& 0x3f).toInt64) - (1 : Int64)) bb.toInt.toNat P w0) (((1 : Int64) <<< (bb &&& 0x3f).toInt64) - (1 : Int64)) bb.toInt.toNat P ww) (((1 : Int64) <<< (bb &&& 0x3f).toInt64) - (1 : Int64)) bb.toInt.toNat P))])) (st25) ?_
  refine own_go (g' := (mkF m 162 #[.val (.int p0), .val (.long q1), .second, .val (.int p2), .val (.int p3), .val (.int p4), .val (.int p5), .val (.int bb), .val (.int ct), .val (.int ii), .val (.int (own_mf bb)), .val (.int va), .val (.int vc), .val (.int w0), .val (.int ww), .val (.ref b2), .val (.int (1 : Int32)), .unset, .unset] [(.int ww), (.int (own_getP (own_setP (own_setP (own_setP (own_setP (List.replicate ((own_by (ct.toInt64) bb / (8 : Int64)).toInt32).toInt.toNat (0 : Int64)) (((1 : Int64) <<< (bb &&& 0x3f).toInt64) - (1 : Int64)) bb.toInt.toNat (P - bb.toInt.toNat) va) (((1 : Int64) <<< (bb &&& 0x3f).toInt64) - (1 : Int64)) bb.toInt.toNat (P + bb.toInt.toNat) vc) (((1 : Int64) <<< (bb &&& 0x3f).toInt64) - (1 : Int64)) bb.toInt.toNat P w0) (((1 : Int64) <<< (bb &&& 0x3f).toInt64) - (1 : Int64)) bb.toInt.toNat P ww) (((1 : Int64) <<< (bb &&& 0x3f).toInt64) - (1 : Int64)) bb.toInt.toNat P))])) (fun _ kgo => XS.iload X25.here hx rfl (hb hby at_160) rfl kgo) ?_
  refine own_go (g' := (mkF m 165 #[.val (.int p0), .val (.long q1), .second, .val (.int p2), .val (.int p3), .val (.int p4), .val (.int p5), .val (.int bb), .val (.int ct), .val (.int ii), .val (.int (own_mf bb)), .val (.int va), .val (.int vc), .val (.int w0), .val (.int ww), .val (.ref b2), .val (.int (1 : Int32)), .unset, .unset] [])) (fun _ kgo => XS.icmpNo X25.here hx rfl (hb hby at_162) rfl (teq hlaw.2.1).2 kgo) ?_
  refine own_go (g' := (mkF m 166 #[.val (.int p0), .val (.long q1), .second, .val (.int p2), .val (.int p3), .val (.int p4), .val (.int p5), .val (.int bb), .val (.int ct), .val (.int ii), .val (.int (own_mf bb)), .val (.int va), .val (.int vc), .val (.int w0), .val (.int ww), .val (.ref b2), .val (.int (1 : Int32)), .unset, .unset] [(.int (1 : Int32))])) (fun _ kgo => XS.iconst X25.here hx rfl (hb hby at_165) kgo) ?_
  refine own_go (g' := (mkF m 170 #[.val (.int p0), .val (.long q1), .second, .val (.int p2), .val (.int p3), .val (.int p4), .val (.int p5), .val (.int bb), .val (.int ct), .val (.int ii), .val (.int (own_mf bb)), .val (.int va), .val (.int vc), .val (.int w0), .val (.int ww), .val (.ref b2), .val (.int (1 : Int32)), .unset, .unset] [(.int (1 : Int32))])) (fun _ kgo => XS.goto X25.here hx rfl (pc0 := 166) (pc' := 170) rfl (hb hby at_166) (by decide) (by decide) kgo) ?_
  refine own_go (g' := (mkF m 172 #[.val (.int p0), .val (.long q1), .second, .val (.int p2), .val (.int p3), .val (.int p4), .val (.int p5), .val (.int bb), .val (.int ct), .val (.int ii), .val (.int (own_mf bb)), .val (.int va), .val (.int vc), .val (.int w0), .val (.int ww), .val (.ref b2), .val (.int (1 : Int32)), .val (.int (1 : Int32)), .unset] [])) (fun _ kgo => XS.istore X25.here hx rfl (hb hby at_170) rfl (l' := #[.val (.int p0), .val (.long q1), .second, .val (.int p2), .val (.int p3), .val (.int p4), .val (.int p5), .val (.int bb), .val (.int ct), .val (.int ii), .val (.int (own_mf bb)), .val (.int va), .val (.int vc), .val (.int w0), .val (.int ww), .val (.ref b2), .val (.int (1 : Int32)), .val (.int (1 : Int32)), .unset]) rfl kgo) ?_
  refine own_go (g' := (mkF m 174 #[.val (.int p0), .val (.long q1), .second, .val (.int p2), .val (.int p3), .val (.int p4), .val (.int p5), .val (.int bb), .val (.int ct), .val (.int ii), .val (.int (own_mf bb)), .val (.int va), .val (.int vc), .val (.int w0), .val (.int ww), .val (.ref b2), .val (.int (1 : Int32)), .val (.int (1 : Int32)), .unset] [(.ref b2)])) (fun _ kgo => XS.aload X25.here hx rfl (hb hby at_172) rfl rfl kgo) ?_
  refine own_go (g' := (mkF m 176 #[.val (.int p0), .val (.long q1), .second, .val (.int p2), .val (.int p3), .val (.int p4), .val (.int p5), .val (.int bb), .val (.int ct), .val (.int ii), .val (.int (own_mf bb)), .val (.int va), .val (.int vc), .val (.int w0), .val (.int ww), .val (.ref b2), .val (.int (1 : Int32)), .val (.int (1 : Int32)), .unset] [(.int ii), (.ref b2)])) (fun _ kgo => XS.iload X25.here hx rfl (hb hby at_174) rfl kgo) ?_
  refine own_go (g' := (mkF m 177 #[.val (.int p0), .val (.long q1), .second, .val (.int p2), .val (.int p3), .val (.int p4), .val (.int p5), .val (.int bb), .val (.int ct), .val (.int ii), .val (.int (own_mf bb)), .val (.int va), .val (.int vc), .val (.int w0), .val (.int ww), .val (.ref b2), .val (.int (1 : Int32)), .val (.int (1 : Int32)), .unset] [(.int (1 : Int32)), (.int ii), (.ref b2)])) (fun _ kgo => XS.iconst X25.here hx rfl (hb hby at_176) kgo) ?_
  refine own_go (g' := (mkF m 178 #[.val (.int p0), .val (.long q1), .second, .val (.int p2), .val (.int p3), .val (.int p4), .val (.int p5), .val (.int bb), .val (.int ct), .val (.int ii), .val (.int (own_mf bb)), .val (.int va), .val (.int vc), .val (.int w0), .val (.int ww), .val (.ref b2), .val (.int (1 : Int32)), .val (.int (1 : Int32)), .unset] [(.int (ii + (1 : Int32))), (.ref b2)])) (fun _ kgo => XS.iadd X25.here hx rfl (hb hby at_177) rfl kgo) ?_
  refine own_go (g' := (mkF m 179 #[.val (.int p0), .val (.long q1), .second, .val (.int p2), .val (.int p3), .val (.int p4), .val (.int p5), .val (.int bb), .val (.int ct), .val (.int ii), .val (.int (own_mf bb)), .val (.int va), .val (.int vc), .val (.int w0), .val (.int ww), .val (.ref b2), .val (.int (1 : Int32)), .val (.int (1 : Int32)), .unset] [(.long ((ii + (1 : Int32)).toInt64)), (.ref b2)])) (fun _ kgo => XS.i2l X25.here hx rfl (hb hby at_178) rfl kgo) ?_
  obtain ⟨v26, T26, L26, hQ26, X26, st26⟩ := own_callV X25 hx hZ (y := (⟨"com/example/seenset/seenset/util/Cells", "get", "(J)I"⟩ : MethodName)) (z := (⟨"com/example/seenset/seenset/util/Cells", "get", "(J)I"⟩ : MethodName)) hown (hw _ (List.mem_of_getElem? (i := 64) rfl)) (hw _ (List.mem_of_getElem? (i := 65) rfl)) (notFace_of_selects (args := #[]) (mvT hZ (hw _ (List.mem_of_getElem? (i := 67) rfl)))) (hw _ (List.mem_of_getElem? (i := 67) rfl)) (hw _ (List.mem_of_getElem? (i := 66) rfl)) (hw _ (List.mem_of_getElem? (i := 8) rfl)) (hw _ (List.mem_of_getElem? (i := 68) rfl)) ⟨by decide, by decide⟩ (a := b2) (argsL := [(.long ((ii + (1 : Int32)).toInt64))]) (gts l Z a0 hw b2 ((ii + (1 : Int32)).toInt64) bb (((1 : Int64) <<< (bb &&& 0x3f).toInt64) - (1 : Int64)) wa3 kw3 ((own_by (ct.toInt64) bb / (8 : Int64)).toInt32) (own_setP (own_setP (own_setP (own_setP (List.replicate ((own_by (ct.toInt64) bb / (8 : Int64)).toInt32).toInt.toNat (0 : Int64)) (((1 : Int64) <<< (bb &&& 0x3f).toInt64) - (1 : Int64)) bb.toInt.toNat (P - bb.toInt.toNat) va) (((1 : Int64) <<< (bb &&& 0x3f).toInt64) - (1 : Int64)) bb.toInt.toNat (P + bb.toInt.toNat) vc) (((1 : Int64) <<< (bb &&& 0x3f).toInt64) - (1 : Int64)) bb.toInt.toNat P w0) (((1 : Int64) <<< (bb &&& 0x3f).toInt64) - (1 : Int64)) bb.toInt.toNat P ww) (P + bb.toInt.toNat) T15.heap fx21 fx22 fx23 fx24 q15_0 hb1 hPC (by simp only [own_setL, List.length_replicate]; omega) (by simp only [own_setL, List.length_replicate]; omega)) e25 fx21 (g := (mkF m 179 #[.val (.int p0), .val (.long q1), .second, .val (.int p2), .val (.int p3), .val (.int p4), .val (.int p5), .val (.int bb), .val (.int ct), .val (.int ii), .val (.int (own_mf bb)), .val (.int va), .val (.int vc), .val (.int w0), .val (.int ww), .val (.ref b2), .val (.int (1 : Int32)), .val (.int (1 : Int32)), .unset] [(.long ((ii + (1 : Int32)).toInt64)), (.ref b2)])) rfl (by rw [hml]; rfl) (rest := []) (lenOf pd0_2 rfl) rfl (hb hby at_179) (W := 0) (by show 2 * 0 + _ ≤ _; exact Nat.le_of_eq rfl) (by decide) (by decide) (by decide) (by decide)
  obtain ⟨rfl, e26, rfl⟩ := hQ26
  have N26 := Fr.app N25 (Fr.nil n0)
  refine own_go (g' := (mkF m 182 #[.val (.int p0), .val (.long q1), .second, .val (.int p2), .val (.int p3), .val (.int p4), .val (.int p5), .val (.int bb), .val (.int ct), .val (.int ii), .val (.int (own_mf bb)), .val (.int va), .val (.int vc), .val (.int w0), .val (.int ww), .val (.ref b2), .val (.int (1 : Int32)), .val (.int (1 : Int32)), .unset] [(.int (own_getP (own_setP (own_setP (own_setP (own_setP (List.replicate ((own_by (ct.toInt64) bb / (8 : Int64)).toInt32).toInt.toNat (0 : Int64)) (((1 : Int64) <<< (bb &&& 0x3f).toInt64) - (1 : Int64)) bb.toInt.toNat (P - bb.toInt.toNat) va) (((1 : Int64) <<< (bb &&& 0x3f).toInt64) - (1 : Int64)) bb.toInt.toNat (P + bb.toInt.toNat) vc) (((1 : Int64) <<< (bb &&& 0x3f).toInt64) - (1 : Int64)) bb.toInt.toNat P w0) (((1 : Int64) <<< (bb &&& 0x3f).toInt64) - (1 : Int64)) bb.toInt.toNat P ww) (((1 : Int64) <<< (bb &&& 0x3f).toInt64) - (1 : Int64)) bb.toInt.toNat (P + bb.toInt.toNat)))])) (st26) ?_
  refine own_go (g' := (mkF m 184 #[.val (.int p0), .val (.long q1), .second, .val (.int p2), .val (.int p3), .val (.int p4), .val (.int p5), .val (.int bb), .val (.int ct), .val (.int ii), .val (.int (own_mf bb)), .val (.int va), .val (.int vc), .val (.int w0), .val (.int ww), .val (.ref b2), .val (.int (1 : Int32)), .val (.int (1 : Int32)), .unset] [(.int vc), (.int (own_getP (own_setP (own_setP (own_setP (own_setP (List.replicate ((own_by (ct.toInt64) bb / (8 : Int64)).toInt32).toInt.toNat (0 : Int64)) (((1 : Int64) <<< (bb &&& 0x3f).toInt64) - (1 : Int64)) bb.toInt.toNat (P - bb.toInt.toNat) va) (((1 : Int64) <<< (bb &&& 0x3f).toInt64) - (1 : Int64)) bb.toInt.toNat (P + bb.toInt.toNat) vc) (((1 : Int64) <<< (bb &&& 0x3f).toInt64) - (1 : Int64)) bb.toInt.toNat P w0) (((1 : Int64) <<< (bb &&& 0x3f).toInt64) - (1 : Int64)) bb.toInt.toNat P ww) (((1 : Int64) <<< (bb &&& 0x3f).toInt64) - (1 : Int64)) bb.toInt.toNat (P + bb.toInt.toNat)))])) (fun _ kgo => XS.iload X26.here hx rfl (hb hby at_182) rfl kgo) ?_
  refine own_go (g' := (mkF m 187 #[.val (.int p0), .val (.long q1), .second, .val (.int p2), .val (.int p3), .val (.int p4), .val (.int p5), .val (.int bb), .val (.int ct), .val (.int ii), .val (.int (own_mf bb)), .val (.int va), .val (.int vc), .val (.int w0), .val (.int ww), .val (.ref b2), .val (.int (1 : Int32)), .val (.int (1 : Int32)), .unset] [])) (fun _ kgo => XS.icmpNo X26.here hx rfl (hb hby at_184) rfl (teq hlaw.2.2).2 kgo) ?_
  refine own_go (g' := (mkF m 188 #[.val (.int p0), .val (.long q1), .second, .val (.int p2), .val (.int p3), .val (.int p4), .val (.int p5), .val (.int bb), .val (.int ct), .val (.int ii), .val (.int (own_mf bb)), .val (.int va), .val (.int vc), .val (.int w0), .val (.int ww), .val (.ref b2), .val (.int (1 : Int32)), .val (.int (1 : Int32)), .unset] [(.int (1 : Int32))])) (fun _ kgo => XS.iconst X26.here hx rfl (hb hby at_187) kgo) ?_
  refine own_go (g' := (mkF m 192 #[.val (.int p0), .val (.long q1), .second, .val (.int p2), .val (.int p3), .val (.int p4), .val (.int p5), .val (.int bb), .val (.int ct), .val (.int ii), .val (.int (own_mf bb)), .val (.int va), .val (.int vc), .val (.int w0), .val (.int ww), .val (.ref b2), .val (.int (1 : Int32)), .val (.int (1 : Int32)), .unset] [(.int (1 : Int32))])) (fun _ kgo => XS.goto X26.here hx rfl (pc0 := 188) (pc' := 192) rfl (hb hby at_188) (by decide) (by decide) kgo) ?_
  refine own_go (g' := (mkF m 194 #[.val (.int p0), .val (.long q1), .second, .val (.int p2), .val (.int p3), .val (.int p4), .val (.int p5), .val (.int bb), .val (.int ct), .val (.int ii), .val (.int (own_mf bb)), .val (.int va), .val (.int vc), .val (.int w0), .val (.int ww), .val (.ref b2), .val (.int (1 : Int32)), .val (.int (1 : Int32)), .val (.int (1 : Int32))] [])) (fun _ kgo => XS.istore X26.here hx rfl (hb hby at_192) rfl (l' := #[.val (.int p0), .val (.long q1), .second, .val (.int p2), .val (.int p3), .val (.int p4), .val (.int p5), .val (.int bb), .val (.int ct), .val (.int ii), .val (.int (own_mf bb)), .val (.int va), .val (.int vc), .val (.int w0), .val (.int ww), .val (.ref b2), .val (.int (1 : Int32)), .val (.int (1 : Int32)), .val (.int (1 : Int32))]) rfl kgo) ?_
  refine own_go (g' := (mkF m 196 #[.val (.int p0), .val (.long q1), .second, .val (.int p2), .val (.int p3), .val (.int p4), .val (.int p5), .val (.int bb), .val (.int ct), .val (.int ii), .val (.int (own_mf bb)), .val (.int va), .val (.int vc), .val (.int w0), .val (.int ww), .val (.ref b2), .val (.int (1 : Int32)), .val (.int (1 : Int32)), .val (.int (1 : Int32))] [(.int (1 : Int32))])) (fun _ kgo => XS.iload X26.here hx rfl (hb hby at_194) rfl kgo) ?_
  refine own_go (g' := (mkF m 199 #[.val (.int p0), .val (.long q1), .second, .val (.int p2), .val (.int p3), .val (.int p4), .val (.int p5), .val (.int bb), .val (.int ct), .val (.int ii), .val (.int (own_mf bb)), .val (.int va), .val (.int vc), .val (.int w0), .val (.int ww), .val (.ref b2), .val (.int (1 : Int32)), .val (.int (1 : Int32)), .val (.int (1 : Int32))] [])) (fun _ kgo => XS.ifNo X26.here hx rfl (hb hby at_196) rfl ((if0 _ _).trans (feq (by decide)).1) kgo) ?_
  refine own_go (g' := (mkF m 201 #[.val (.int p0), .val (.long q1), .second, .val (.int p2), .val (.int p3), .val (.int p4), .val (.int p5), .val (.int bb), .val (.int ct), .val (.int ii), .val (.int (own_mf bb)), .val (.int va), .val (.int vc), .val (.int w0), .val (.int ww), .val (.ref b2), .val (.int (1 : Int32)), .val (.int (1 : Int32)), .val (.int (1 : Int32))] [(.int (1 : Int32))])) (fun _ kgo => XS.iload X26.here hx rfl (hb hby at_199) rfl kgo) ?_
  refine own_go (g' := (mkF m 204 #[.val (.int p0), .val (.long q1), .second, .val (.int p2), .val (.int p3), .val (.int p4), .val (.int p5), .val (.int bb), .val (.int ct), .val (.int ii), .val (.int (own_mf bb)), .val (.int va), .val (.int vc), .val (.int w0), .val (.int ww), .val (.ref b2), .val (.int (1 : Int32)), .val (.int (1 : Int32)), .val (.int (1 : Int32))] [])) (fun _ kgo => XS.ifNo X26.here hx rfl (hb hby at_201) rfl ((if0 _ _).trans (feq (by decide)).1) kgo) ?_
  refine own_go (g' := (mkF m 206 #[.val (.int p0), .val (.long q1), .second, .val (.int p2), .val (.int p3), .val (.int p4), .val (.int p5), .val (.int bb), .val (.int ct), .val (.int ii), .val (.int (own_mf bb)), .val (.int va), .val (.int vc), .val (.int w0), .val (.int ww), .val (.ref b2), .val (.int (1 : Int32)), .val (.int (1 : Int32)), .val (.int (1 : Int32))] [(.int (1 : Int32))])) (fun _ kgo => XS.iload X26.here hx rfl (hb hby at_204) rfl kgo) ?_
  refine own_go (g' := (mkF m 209 #[.val (.int p0), .val (.long q1), .second, .val (.int p2), .val (.int p3), .val (.int p4), .val (.int p5), .val (.int bb), .val (.int ct), .val (.int ii), .val (.int (own_mf bb)), .val (.int va), .val (.int vc), .val (.int w0), .val (.int ww), .val (.ref b2), .val (.int (1 : Int32)), .val (.int (1 : Int32)), .val (.int (1 : Int32))] [])) (fun _ kgo => XS.ifNo X26.here hx rfl (hb hby at_206) rfl ((if0 _ _).trans (feq (by decide)).1) kgo) ?_
  refine own_go (g' := (mkF m 210 #[.val (.int p0), .val (.long q1), .second, .val (.int p2), .val (.int p3), .val (.int p4), .val (.int p5), .val (.int bb), .val (.int ct), .val (.int ii), .val (.int (own_mf bb)), .val (.int va), .val (.int vc), .val (.int w0), .val (.int ww), .val (.ref b2), .val (.int (1 : Int32)), .val (.int (1 : Int32)), .val (.int (1 : Int32))] [(.int (1 : Int32))])) (fun _ kgo => XS.iconst X26.here hx rfl (hb hby at_209) kgo) ?_
  refine own_go (g' := (mkF m 214 #[.val (.int p0), .val (.long q1), .second, .val (.int p2), .val (.int p3), .val (.int p4), .val (.int p5), .val (.int bb), .val (.int ct), .val (.int ii), .val (.int (own_mf bb)), .val (.int va), .val (.int vc), .val (.int w0), .val (.int ww), .val (.ref b2), .val (.int (1 : Int32)), .val (.int (1 : Int32)), .val (.int (1 : Int32))] [(.int (1 : Int32))])) (fun _ kgo => XS.goto X26.here hx rfl (pc0 := 210) (pc' := 214) rfl (hb hby at_210) (by decide) (by decide) kgo) ?_
  refine own_retN X26 hx .boolean Bd.returns Bd.notSynchronized (by simp) (hb hby at_214) (by decide) (by decide) ?_
  show QQ _ T26.heap _
  rw [e26]
  rw [← hQQ]
  exact ⟨rfl, N26⟩
set_option maxRecDepth 65536 in
set_option maxHeartbeats 40000000 in
theorem comes_1 {Post : Tables → Env → Array Value → State → Outcome → State → Prop} (hpost : ∀ tb e args s v u, (limb_1_1.after args s (.returned v) u = true ∧ limb_1_2.after args s (.returned v) u = true ∧ True) → FrameEnd s (.returned v) u (Jvm.fieldLocs frame_1_writes args s ++ Jvm.arrayLocs frame_1_arrays args s ++ Jvm.staticLocs frame_1_statics s) 144 1088 → Post tb e args s (.returned v) u) :
    ArmFor flags0 classFile x code maxLocals ret World_1 tables_1 room_1 Calls_1 rest_1 Pre_1 Post := by
  intro l hfl _ _ p e ha hc hk s m args below hf hA hF happ hP
  obtain ⟨hcalls, hrest, hpre⟩ := hP
  obtain ⟨-, -, -, hnamed, -, -, -, hat⟩ := (Spec.applies_iff hf).mp happ
  obtain ⟨hg, hn⟩ := and_e (Cond.before_iff.mp (show (Jvm.Cond.and given_1 narrow_1).before args s = true from hpre))
  obtain ⟨g1, g2⟩ := and_e hg
  obtain ⟨g3, g4⟩ := and_e g2
  obtain ⟨g5, g6⟩ := and_e g4
  obtain ⟨g7, g8⟩ := and_e g6
  obtain ⟨g9, g10⟩ := and_e g8
  obtain ⟨g11, g12⟩ := and_e g10
  obtain ⟨w0, w1, w2, w3, w4, w5, rfl⟩ : ∃ w0 w1 w2 w3 w4 w5 : Value, args = #[w0, w1, w2, w3, w4, w5] := by
    have hs : args.size = 6 := by simpa [Cond.value, given_1] using g1
    obtain ⟨L⟩ := args
    match L, hs with
    | [w0, w1, w2, w3, w4, w5], _ => exact ⟨w0, w1, w2, w3, w4, w5, rfl⟩
  have hw := fun d (hd : d ∈ tables_1) => atoms_spec (ws := Jvm.Cond.code x code maxLocals ret :: tables_1) hat d (List.mem_cons_of_mem _ hd)
  obtain ⟨i0, ei0⟩ := is_v g3
  obtain rfl : w0 = (.int i0) := Option.some.inj ei0
  obtain ⟨i1, ei1⟩ := isL_v g5
  obtain rfl : w1 = (.long i1) := Option.some.inj ei1
  obtain ⟨i2, ei2⟩ := is_v g7
  obtain rfl : w2 = (.int i2) := Option.some.inj ei2
  obtain ⟨i3, ei3⟩ := is_v g9
  obtain rfl : w3 = (.int i3) := Option.some.inj ei3
  obtain ⟨i4, ei4⟩ := is_v g11
  obtain rfl : w4 = (.int i4) := Option.some.inj ei4
  obtain ⟨i5, ei5⟩ := is_v g12
  obtain rfl : w5 = (.int i5) := Option.some.inj ei5
  obtain ⟨n, o, h1, h2, h3, _, L, rfl, ⟨rfl, N⟩, hq⟩ := rm0 l s _ hw i0 i1 i2 i3 i4 i5 s.heap s.heap.size (Nat.le_refl _) p e ha hc hk s m _ below hf ((Spec.applies_iff_loose hf).mp happ).1 ⟨rfl, State.Warmed39.refl s, rfl⟩ trivial
  refine ⟨n, _, h1, h2, h3, hpost _ _ _ _ _ _ ⟨Cond.after_iff.mpr rfl, Cond.after_iff.mpr (eq_i res_at (Term.int_eval (1)) rfl), trivial⟩ ⟨hq.1, hq.2.1, (hq.2.2.sift fun y hy => Or.inr (N y hy)).mono (by decide) (by decide)⟩⟩
theorem main_1_1 : Claimed_1_1 := comes_1 fun _ _ _ _ _ _ h hF => ⟨h.1, hF⟩
theorem main_1_2 : Claimed_1_2 := comes_1 fun _ _ _ _ _ _ h hF => ⟨h.2.1, hF⟩
end Jvm.Pilot.@@N@@
namespace Jvm.Pilot.@@N@@
open Jvm Jvm.ClassFile Sem Op Lib Jvm.Free Jvm.Stand Jvm.Pilot.@@N@@.Jvm.D
/-! MADE BY PROGRAM (witnessworld.py) out of the Statement's table words and the real class files: 13 classes; the members and pool entries that the words name. The judged class is class 1, her method 2. -/
namespace start1
open Jvm.ClassFile
def u (s : String) : CpInfo := .utf8 (stringToUtf16 s)
/-- a pool by its gaps: so many unusable entries, then the entry; so many at the end -/
def gap : Nat → List CpInfo → List CpInfo
  | 0, r => r
  | n + 1, r => .unusable :: gap n r
def poolList (es : List (Nat × CpInfo)) (last : Nat) : List CpInfo := es.foldr (fun e r => gap e.1 (e.2 :: r)) (gap last [])
def pool (es : List (Nat × CpInfo)) (last : Nat) : Array CpInfo := ⟨poolList es last⟩
def fileOf (pool : Array CpInfo) (this : Nat) (attrs : Array Attribute := #[]) (ms : Array MethodInfo := #[]) (fl : Nat := 33) (sup : Nat := 0) (ifs : Array Nat := #[]) (fds : Array FieldInfo := #[]) : ClassFile where
  minorVersion := 0
  majorVersion := 65
  constantPool := pool
  accessFlags := fl
  thisClass := this
  superClass := sup
  interfaces := ifs
  fields := fds
  methods := ms
  attributes := attrs
def plain (name : String) (sup : Option ClassId) : Class where
  name := name
  kind := .ordinary
  loader := none
  accessFlags := 33
  super := sup
  interfaces := #[]
  cf := none
  fields := #[]
  methods := #[]
  instanceTypes := #[]
  staticTypes := #[]
  resolved := #[]
  callSites := []
  init := .initialized
  statics := none
  mirror := none

def pool0 : Array CpInfo := pool [(5, u "<init>"), (0, u "()V"), (1, .class_ 10), (1, u "java/lang/Object")] 113

def k0c0 : Code := { maxStack := 0, maxLocals := 1, code := object_method_1_code, exceptionTable := #[], attributes := #[] }
def k0m0 : Method := { name := "<init>", desc := "()V", sig := { parameters := [], returnType := none }, accessFlags := 1, code := some k0c0 }
/-- java/lang/Object -/
def k0 : Class := { plain "java/lang/Object" none with
  accessFlags := 33
  interfaces := #[]
  cf := some (fileOf pool0 8 #[] #[{ accessFlags := 1, nameIndex := 5, descriptorIndex := 6, attributes := #[] }] 33 0 #[] #[])
  fields := #[]
  methods := #[k0m0]
  instanceTypes := #[]
  staticTypes := #[]
  resolved := Array.replicate 124 none
  statics := none }

def pool1 : Array CpInfo := pool [(2, .class_ 4), (1, u "java/lang/Object"), (0, u "<init>"), (0, u "()V"), (2, .integer 2147483647), (0, .long 63), (1, .methodref 13 14), (0, .class_ 15), (0, .nameAndType 16 17), (0, u "com/example/seenset/seenset/util/CellsSetPinLaw"), (0, u "maskFor"), (0, u "(I)I"), (0, .class_ 19), (0, u "com/example/seenset/seenset/util/Cells"), (0, .methodref 18 21), (0, .nameAndType 5 22), (0, u "(JI)V"), (0, .methodref 18 24), (0, .nameAndType 25 22), (0, u "set"), (0, .methodref 18 27), (0, .nameAndType 28 29), (0, u "get"), (0, u "(J)I"), (3, u "law"), (0, u "(IJIIII)Z")] 2

def k1m0 : Method := { name := "<init>", desc := "()V", sig := { parameters := [], returnType := none }, accessFlags := 1, code := none }
def k1c1 : Code := { maxStack := 2, maxLocals := 1, code := method_2_code, exceptionTable := #[], attributes := #[] }
def k1m1 : Method := { name := "maskFor", desc := "(I)I", sig := { parameters := [.int], returnType := some .int }, accessFlags := 10, code := some k1c1 }
def k1c2 : Code := { maxStack := 5, maxLocals := 19, code := code, exceptionTable := #[], attributes := #[] }
def k1m2 : Method := { name := "law", desc := "(IJIIII)Z", sig := { parameters := [.int, .long, .int, .int, .int, .int], returnType := some .boolean }, accessFlags := 9, code := some k1c2 }
/-- com/example/seenset/seenset/util/CellsSetPinLaw -/
def k1 : Class := { plain "com/example/seenset/seenset/util/CellsSetPinLaw" (some 0) with
  accessFlags := 49
  interfaces := #[]
  cf := some (fileOf pool1 13 #[] #[{ accessFlags := 1, nameIndex := 5, descriptorIndex := 6, attributes := #[] }, { accessFlags := 10, nameIndex := 16, descriptorIndex := 17, attributes := #[] }, { accessFlags := 9, nameIndex := 33, descriptorIndex := 34, attributes := #[] }] 49 2 #[] #[])
  fields := #[]
  methods := #[k1m0, k1m1, k1m2]
  instanceTypes := #[]
  staticTypes := #[]
  resolved := Array.replicate 37 none
  statics := none }

def pool2 : Array CpInfo := pool [(3, .methodref 4 5), (0, .class_ 6), (0, .nameAndType 7 8), (0, u "java/lang/Object"), (0, u "<init>"), (0, u "()V"), (0, .methodref 10 11), (0, .class_ 12), (0, .nameAndType 13 14), (0, u "com/example/seenset/seenset/util/Cells"), (0, u "maxCount"), (0, u "(I)J"), (9, .fieldref 10 25), (0, .nameAndType 26 27), (0, u "bits"), (0, u "I"), (0, .fieldref 10 29), (0, .nameAndType 30 31), (0, u "mask"), (0, u "J"), (0, .methodref 10 33), (0, .nameAndType 34 35), (0, u "bytes"), (0, u "(JI)J"), (2, .long 8), (1, .fieldref 10 41), (0, .nameAndType 42 43), (0, u "words"), (0, u "[J"), (0, .class_ 45), (0, u "com/example/seenset/seenset/util/Cells$Phase"), (0, .fieldref 10 47), (0, .nameAndType 48 49), (0, u "phases"), (0, u "[Lcom/example/seenset/seenset/util/Cells$Phase;"), (0, .methodref 44 51), (0, .nameAndType 7 52), (0, u "(II)V"), (0, .fieldref 10 54), (0, .nameAndType 55 56), (0, u "phaseAfter"), (0, u "[I"), (0, .fieldref 10 58), (0, .nameAndType 59 27), (0, u "step"), (0, .long 137438952896), (1, .long 64), (1, .long 63), (1, .long 18446744073709551615), (29, u "(J)I"), (0, u "MAX_WORDS"), (3, u "(JI)V"), (3, u "get"), (0, u "set")] 28

def k2c0 : Code := { maxStack := 6, maxLocals := 5, code := prog_56_method_1_code, exceptionTable := #[], attributes := #[] }
def k2m0 : Method := { name := "<init>", desc := "(JI)V", sig := { parameters := [.long, .int], returnType := none }, accessFlags := 1, code := some k2c0 }
def k2c1 : Code := { maxStack := 4, maxLocals := 1, code := prog_56_method_2_code, exceptionTable := #[], attributes := #[] }
def k2m1 : Method := { name := "maxCount", desc := "(I)J", sig := { parameters := [.int], returnType := some .long }, accessFlags := 9, code := some k2c1 }
def k2c2 : Code := { maxStack := 4, maxLocals := 3, code := prog_56_method_3_code, exceptionTable := #[], attributes := #[] }
def k2m2 : Method := { name := "bytes", desc := "(JI)J", sig := { parameters := [.long, .int], returnType := some .long }, accessFlags := 9, code := some k2c2 }
def k2c3 : Code := { maxStack := 6, maxLocals := 9, code := prog_56_method_4_code, exceptionTable := #[], attributes := #[] }
def k2m3 : Method := { name := "get", desc := "(J)I", sig := { parameters := [.long], returnType := some .int }, accessFlags := 1, code := some k2c3 }
def k2c4 : Code := { maxStack := 8, maxLocals := 9, code := prog_56_method_5_code, exceptionTable := #[], attributes := #[] }
def k2m4 : Method := { name := "set", desc := "(JI)V", sig := { parameters := [.long, .int], returnType := none }, accessFlags := 1, code := some k2c4 }
/-- com/example/seenset/seenset/util/Cells -/
def k2 : Class := { plain "com/example/seenset/seenset/util/Cells" (some 0) with
  accessFlags := 49
  interfaces := #[]
  cf := some (fileOf pool2 10 #[.nestMembers #[44]] #[{ accessFlags := 1, nameIndex := 7, descriptorIndex := 101, attributes := #[] }, { accessFlags := 9, nameIndex := 13, descriptorIndex := 14, attributes := #[] }, { accessFlags := 9, nameIndex := 34, descriptorIndex := 35, attributes := #[] }, { accessFlags := 1, nameIndex := 105, descriptorIndex := 96, attributes := #[] }, { accessFlags := 1, nameIndex := 106, descriptorIndex := 101, attributes := #[] }] 49 4 #[] #[{ accessFlags := 26, nameIndex := 97, descriptorIndex := 31, attributes := #[] }, { accessFlags := 18, nameIndex := 26, descriptorIndex := 27, attributes := #[] }, { accessFlags := 18, nameIndex := 30, descriptorIndex := 31, attributes := #[] }, { accessFlags := 18, nameIndex := 42, descriptorIndex := 43, attributes := #[] }, { accessFlags := 18, nameIndex := 48, descriptorIndex := 49, attributes := #[] }, { accessFlags := 18, nameIndex := 55, descriptorIndex := 56, attributes := #[] }, { accessFlags := 18, nameIndex := 59, descriptorIndex := 27, attributes := #[] }])
  fields := #[{ name := "MAX_WORDS", type := .long, accessFlags := 26, slot := 0, constantValue := 0 }, { name := "bits", type := .int, accessFlags := 18, slot := 0, constantValue := 0 }, { name := "mask", type := .long, accessFlags := 18, slot := 1, constantValue := 0 }, { name := "words", type := (.array .long), accessFlags := 18, slot := 2, constantValue := 0 }, { name := "phases", type := (.array (.object "com/example/seenset/seenset/util/Cells$Phase")), accessFlags := 18, slot := 3, constantValue := 0 }, { name := "phaseAfter", type := (.array .int), accessFlags := 18, slot := 4, constantValue := 0 }, { name := "step", type := .int, accessFlags := 18, slot := 5, constantValue := 0 }]
  methods := #[k2m0, k2m1, k2m2, k2m3, k2m4]
  instanceTypes := #[.int, .long, (.array .long), (.array (.object "com/example/seenset/seenset/util/Cells$Phase")), (.array .int), .int]
  staticTypes := #[.long]
  resolved := Array.replicate 135 none
  statics := none }

def pool3 : Array CpInfo := pool [(1, .methodref 2 3), (0, .class_ 4), (0, .nameAndType 5 6), (0, u "java/lang/Object"), (0, u "<init>"), (0, u "()V"), (2, .fieldref 10 11), (0, .class_ 12), (0, .nameAndType 13 14), (0, u "com/example/seenset/seenset/util/Cells$Phase"), (0, u "lower"), (0, u "J"), (0, .fieldref 10 16), (0, .nameAndType 17 14), (0, u "top"), (0, .long 18446744073709551615), (1, .fieldref 10 21), (0, .nameAndType 22 14), (0, u "straddleLow"), (0, .fieldref 10 24), (0, .nameAndType 25 14), (0, u "straddleFirst"), (0, .fieldref 10 27), (0, .nameAndType 28 14), (0, u "straddleHigh"), (0, u "(II)V"), (6, .class_ 37), (0, u "com/example/seenset/seenset/util/Cells")] 2

def k3c0 : Code := { maxStack := 6, maxLocals := 11, code := prog_57_method_1_code, exceptionTable := #[], attributes := #[] }
def k3m0 : Method := { name := "<init>", desc := "(II)V", sig := { parameters := [.int, .int], returnType := none }, accessFlags := 0, code := some k3c0 }
/-- com/example/seenset/seenset/util/Cells$Phase -/
def k3 : Class := { plain "com/example/seenset/seenset/util/Cells$Phase" (some 0) with
  accessFlags := 48
  interfaces := #[]
  cf := some (fileOf pool3 10 #[.nestHost 36] #[{ accessFlags := 0, nameIndex := 5, descriptorIndex := 29, attributes := #[] }] 48 2 #[] #[{ accessFlags := 18, nameIndex := 13, descriptorIndex := 14, attributes := #[] }, { accessFlags := 18, nameIndex := 17, descriptorIndex := 14, attributes := #[] }, { accessFlags := 18, nameIndex := 22, descriptorIndex := 14, attributes := #[] }, { accessFlags := 18, nameIndex := 25, descriptorIndex := 14, attributes := #[] }, { accessFlags := 18, nameIndex := 28, descriptorIndex := 14, attributes := #[] }])
  fields := #[{ name := "lower", type := .long, accessFlags := 18, slot := 0, constantValue := 0 }, { name := "top", type := .long, accessFlags := 18, slot := 1, constantValue := 0 }, { name := "straddleLow", type := .long, accessFlags := 18, slot := 2, constantValue := 0 }, { name := "straddleFirst", type := .long, accessFlags := 18, slot := 3, constantValue := 0 }, { name := "straddleHigh", type := .long, accessFlags := 18, slot := 4, constantValue := 0 }]
  methods := #[k3m0]
  instanceTypes := #[.long, .long, .long, .long, .long]
  staticTypes := #[]
  resolved := Array.replicate 40 none
  statics := none }

def pool4 : Array CpInfo := pool [(1, u "java/lang/Cloneable"), (0, .class_ 1), (0, u "java/lang/Object"), (0, .class_ 3)] 3

/-- java/lang/Cloneable -/
def k4 : Class := { plain "java/lang/Cloneable" (some 0) with
  accessFlags := 1537
  interfaces := #[]
  cf := some (fileOf pool4 2 #[] #[] 1537 4 #[] #[])
  fields := #[]
  methods := #[]
  instanceTypes := #[]
  staticTypes := #[]
  resolved := Array.replicate 8 none
  statics := none }

def pool5 : Array CpInfo := pool [(1, u "java/io/Serializable"), (0, .class_ 1), (0, u "java/lang/Object"), (0, .class_ 3)] 3

/-- java/io/Serializable -/
def k5 : Class := { plain "java/io/Serializable" (some 0) with
  accessFlags := 1537
  interfaces := #[]
  cf := some (fileOf pool5 2 #[] #[] 1537 4 #[] #[])
  fields := #[]
  methods := #[]
  instanceTypes := #[]
  staticTypes := #[]
  resolved := Array.replicate 8 none
  statics := none }

/-- the primitive byte -/
def k6 : Class := { plain "byte" none with kind := .primitive 'B', accessFlags := 0x411 }
/-- [B -/
def k7 : Class := { plain "[B" (some 0) with kind := .array 6 .byte, interfaces := #[4, 5], accessFlags := 1041 }

/-- the primitive int -/
def k8 : Class := { plain "int" none with kind := .primitive 'I', accessFlags := 0x411 }
/-- [I -/
def k9 : Class := { plain "[I" (some 0) with kind := .array 8 .int, interfaces := #[4, 5], accessFlags := 1041 }

/-- the primitive long -/
def k10 : Class := { plain "long" none with kind := .primitive 'J', accessFlags := 0x411 }
/-- [J -/
def k11 : Class := { plain "[J" (some 0) with kind := .array 10 .long, interfaces := #[4, 5], accessFlags := 1041 }

/-- [Lcom/example/seenset/seenset/util/Cells$Phase; -/
def k12 : Class := { plain "[Lcom/example/seenset/seenset/util/Cells$Phase;" (some 0) with kind := .array 3 (.object "com/example/seenset/seenset/util/Cells$Phase"), interfaces := #[4, 5], accessFlags := 1041 }

def heap : Heap := #[]
def classes : Array Class := #[k0, k1, k2, k3, k4, k5, k6, k7, k8, k9, k10, k11, k12]
def interned : List (Array UInt16 × Addr) := []
def slotsUsed : Nat := 0
def theMethod : MethodId := ⟨1, 2⟩
def args0 : Array Value := #[.int 5, .long 77, .int 200, .int 9, .int 10, .int 11]
def aboutOver (below : List Frame) : State where
  vm := { classes := classes, interned := interned.toArray }
  heap := heap
  slotsUsed := slotsUsed
  threads := #[{ frames := .invoking theMethod args0 :: below }]
def below0 : List Frame := [.native { method := ⟨0, 0⟩, args := #[] }]
def about1 : State := aboutOver below0
def p0 : Program := .bare "" "" ""
def e0 : Env := launch0.env 0 0 0
theorem w_frames : about1.frames = Frame.invoking theMethod args0 :: below0 := rfl
set_option maxRecDepth 65536 in
theorem w_args : argsFit about1.vm theMethod args0 = true := by decide +kernel
set_option maxRecDepth 65536 in
theorem w_heap : heapFits about1 = true := by decide +kernel
set_option maxRecDepth 65536 in
theorem w_runnable : about1.curStatus? = some .runnable := by decide +kernel
set_option maxRecDepth 65536 in
theorem w_alone : about1.alone = true := by decide +kernel
set_option maxRecDepth 65536 in
theorem w_named : about1.methodNamed? x = some theMethod := by decide +kernel
set_option maxRecDepth 65536 in
theorem w_hears : about1.hears theMethod below0 = true := by decide +kernel
set_option maxRecDepth 65536 in
theorem w_ripe : about1.ripe theMethod args0 below0 = true := by decide +kernel
theorem w_running : about1.status = .running := rfl
set_option maxRecDepth 65536 in
theorem w_room : about1.hasRoom e0.platform room_1 = true :=
  launch0.hasRoom_least _ room_1 (by decide +kernel) (by decide +kernel) (by decide +kernel) (by decide +kernel) (by decide +kernel) (by decide +kernel)
theorem allAtoms_all (ts : List Jvm.Cond) (a : Array Jvm.Value) (st : Jvm.State) : (allAtoms ts).before a st = ts.all (fun c => c.before a st) := by
  induction ts with
  | nil => rfl
  | cons c t ih =>
    show (Jvm.Cond.and c (allAtoms t)).before a st = _
    rw [Jvm.Cond.before_and, ih, List.all_cons]
def words1 : List Jvm.Cond := Jvm.Cond.code x code maxLocals ret :: tables_1
/-- a 'code' word, met by the world's own term for the bytes: nothing is compared byte by byte -/
theorem code_word {y : MethodName} {bytes : ByteArray} {mx : Nat} {rt : Option FieldType} {a : Array Value} {s : State} {m : MethodId} {meth : Method} {c : Code} (h1 : s.methodNamed? y = some m) (h2 : s.vm.method? m = some meth) (h3 : meth.code = some c) (h4 : c.code = bytes)
    (h5 : (c.maxLocals == mx && c.exceptionTable.isEmpty && decide (c.maxStack ≤ mostOperands) && decide (meth.sig.returnType = rt) && !meth.locks && decide (parseMethodDescriptor y.desc = some meth.sig)) = true) : (Jvm.Cond.code y bytes mx rt).before a s = true := by
  simp only [Bool.and_eq_true, beq_iff_eq, Bool.not_eq_true', decide_eq_true_eq] at h5
  obtain ⟨⟨⟨⟨⟨g1, g2⟩, g3⟩, g4⟩, g5⟩, g6⟩ := h5
  simp [Cond.before, Cond.holds, Cond.value, h1, h2, h3, h4, g1, g2, g3, g4, g5, g6]
def isCode : Jvm.Cond → Bool
  | .code _ _ _ _ => true
  | _ => false
theorem all_split {L : List Jvm.Cond} {P : Jvm.Cond → Bool} (h1 : L.all (fun c => isCode c || P c) = true) (h2 : ∀ c ∈ L.filter isCode, P c = true) : L.all P = true := by
  refine List.all_eq_true.mpr fun c hc => ?_
  have h := List.all_eq_true.mp h1 c hc
  rcases Bool.eq_false_or_eq_true (isCode c) with hi | hi
  · exact h2 c (List.mem_filter.mpr ⟨hc, hi⟩)
  · simpa [hi] using h
set_option maxRecDepth 65536 in
theorem w_c0 : (Jvm.Cond.code x code maxLocals ret).before args0 about1 = true := code_word (m := ⟨1, 2⟩) (meth := k1m2) (c := k1c2) (by decide +kernel) rfl rfl rfl (by decide +kernel)
set_option maxRecDepth 65536 in
theorem w_c1 : (Jvm.Cond.code ({ cls := "com/example/seenset/seenset/util/CellsSetPinLaw", name := "maskFor", desc := "(I)I" } : Jvm.MethodName) method_2_code (1 : Nat) (Option.some Jvm.ClassFile.FieldType.int)).before args0 about1 = true := code_word (m := ⟨1, 1⟩) (meth := k1m1) (c := k1c1) (by decide +kernel) rfl rfl rfl (by decide +kernel)
set_option maxRecDepth 65536 in
theorem w_c2 : (Jvm.Cond.code ({ cls := "com/example/seenset/seenset/util/Cells", name := "<init>", desc := "(JI)V" } : Jvm.MethodName) prog_56_method_1_code (5 : Nat) (Option.none : Option Jvm.ClassFile.FieldType)).before args0 about1 = true := code_word (m := ⟨2, 0⟩) (meth := k2m0) (c := k2c0) (by decide +kernel) rfl rfl rfl (by decide +kernel)
set_option maxRecDepth 65536 in
theorem w_c3 : (Jvm.Cond.code ({ cls := "java/lang/Object", name := "<init>", desc := "()V" } : Jvm.MethodName) object_method_1_code (1 : Nat) (Option.none : Option Jvm.ClassFile.FieldType)).before args0 about1 = true := code_word (m := ⟨0, 0⟩) (meth := k0m0) (c := k0c0) (by decide +kernel) rfl rfl rfl (by decide +kernel)
set_option maxRecDepth 65536 in
theorem w_c4 : (Jvm.Cond.code ({ cls := "com/example/seenset/seenset/util/Cells", name := "maxCount", desc := "(I)J" } : Jvm.MethodName) prog_56_method_2_code (1 : Nat) (Option.some Jvm.ClassFile.FieldType.long)).before args0 about1 = true := code_word (m := ⟨2, 1⟩) (meth := k2m1) (c := k2c1) (by decide +kernel) rfl rfl rfl (by decide +kernel)
set_option maxRecDepth 65536 in
theorem w_c5 : (Jvm.Cond.code ({ cls := "com/example/seenset/seenset/util/Cells", name := "bytes", desc := "(JI)J" } : Jvm.MethodName) prog_56_method_3_code (3 : Nat) (Option.some Jvm.ClassFile.FieldType.long)).before args0 about1 = true := code_word (m := ⟨2, 2⟩) (meth := k2m2) (c := k2c2) (by decide +kernel) rfl rfl rfl (by decide +kernel)
set_option maxRecDepth 65536 in
theorem w_c6 : (Jvm.Cond.code ({ cls := "com/example/seenset/seenset/util/Cells$Phase", name := "<init>", desc := "(II)V" } : Jvm.MethodName) prog_57_method_1_code (11 : Nat) (Option.none : Option Jvm.ClassFile.FieldType)).before args0 about1 = true := code_word (m := ⟨3, 0⟩) (meth := k3m0) (c := k3c0) (by decide +kernel) rfl rfl rfl (by decide +kernel)
set_option maxRecDepth 65536 in
theorem w_c7 : (Jvm.Cond.code ({ cls := "com/example/seenset/seenset/util/Cells", name := "set", desc := "(JI)V" } : Jvm.MethodName) prog_56_method_5_code (9 : Nat) (Option.none : Option Jvm.ClassFile.FieldType)).before args0 about1 = true := code_word (m := ⟨2, 4⟩) (meth := k2m4) (c := k2c4) (by decide +kernel) rfl rfl rfl (by decide +kernel)
set_option maxRecDepth 65536 in
theorem w_c8 : (Jvm.Cond.code ({ cls := "com/example/seenset/seenset/util/Cells", name := "get", desc := "(J)I" } : Jvm.MethodName) prog_56_method_4_code (9 : Nat) (Option.some Jvm.ClassFile.FieldType.int)).before args0 about1 = true := code_word (m := ⟨2, 3⟩) (meth := k2m3) (c := k2c3) (by decide +kernel) rfl rfl rfl (by decide +kernel)
def codes1 : List Jvm.Cond := [Jvm.Cond.code x code maxLocals ret, Jvm.Cond.code ({ cls := "com/example/seenset/seenset/util/CellsSetPinLaw", name := "maskFor", desc := "(I)I" } : Jvm.MethodName) method_2_code (1 : Nat) (Option.some Jvm.ClassFile.FieldType.int), Jvm.Cond.code ({ cls := "com/example/seenset/seenset/util/Cells", name := "<init>", desc := "(JI)V" } : Jvm.MethodName) prog_56_method_1_code (5 : Nat) (Option.none : Option Jvm.ClassFile.FieldType), Jvm.Cond.code ({ cls := "java/lang/Object", name := "<init>", desc := "()V" } : Jvm.MethodName) object_method_1_code (1 : Nat) (Option.none : Option Jvm.ClassFile.FieldType), Jvm.Cond.code ({ cls := "com/example/seenset/seenset/util/Cells", name := "maxCount", desc := "(I)J" } : Jvm.MethodName) prog_56_method_2_code (1 : Nat) (Option.some Jvm.ClassFile.FieldType.long), Jvm.Cond.code ({ cls := "com/example/seenset/seenset/util/Cells", name := "bytes", desc := "(JI)J" } : Jvm.MethodName) prog_56_method_3_code (3 : Nat) (Option.some Jvm.ClassFile.FieldType.long), Jvm.Cond.code ({ cls := "com/example/seenset/seenset/util/Cells$Phase", name := "<init>", desc := "(II)V" } : Jvm.MethodName) prog_57_method_1_code (11 : Nat) (Option.none : Option Jvm.ClassFile.FieldType), Jvm.Cond.code ({ cls := "com/example/seenset/seenset/util/Cells", name := "set", desc := "(JI)V" } : Jvm.MethodName) prog_56_method_5_code (9 : Nat) (Option.none : Option Jvm.ClassFile.FieldType), Jvm.Cond.code ({ cls := "com/example/seenset/seenset/util/Cells", name := "get", desc := "(J)I" } : Jvm.MethodName) prog_56_method_4_code (9 : Nat) (Option.some Jvm.ClassFile.FieldType.int)]
set_option maxRecDepth 65536 in
theorem codes_eq : words1.filter isCode = codes1 := rfl
theorem w_codes : ∀ c ∈ words1.filter isCode, c.before args0 about1 = true := by
  rw [codes_eq]
  intro c hc
  simp only [codes1, List.mem_cons, List.not_mem_nil, or_false] at hc
  rcases hc with rfl | rfl | rfl | rfl | rfl | rfl | rfl | rfl | rfl
  · exact w_c0
  · exact w_c1
  · exact w_c2
  · exact w_c3
  · exact w_c4
  · exact w_c5
  · exact w_c6
  · exact w_c7
  · exact w_c8
set_option maxRecDepth 65536 in
theorem w_t1 : (words1.take 24).all (fun c => isCode c || c.before args0 about1) = true := by decide +kernel
set_option maxRecDepth 65536 in
theorem w_t2 : ((words1.drop 24).take 24).all (fun c => isCode c || c.before args0 about1) = true := by decide +kernel
set_option maxRecDepth 65536 in
theorem w_t3 : ((words1.drop 24).drop 24).all (fun c => isCode c || c.before args0 about1) = true := by decide +kernel
theorem w_tables : (allAtoms (Jvm.Cond.code x code maxLocals ret :: tables_1)).before args0 about1 = true := by
  rw [allAtoms_all]
  show words1.all (fun c => c.before args0 about1) = true
  refine all_split ?_ w_codes
  rw [← List.take_append_drop 24 words1, List.all_append, w_t1, ← List.take_append_drop 24 (words1.drop 24), List.all_append, w_t2, w_t3]
  rfl
set_option maxRecDepth 65536 in
theorem w_case : (Jvm.Cond.and given_1 narrow_1).before args0 about1 = true := by decide +kernel
theorem w_applies : (headSpec (Jvm.Cond.code x code maxLocals ret :: tables_1) room_1).applies x e0.platform about1 = true :=
  (Spec.applies_iff w_frames).mpr ⟨w_running, w_runnable, w_alone, w_named, w_hears, w_ripe, w_room, w_tables⟩
theorem atStart : AtStart classFile x code maxLocals ret World_1 tables_1 room_1 Calls_1 rest_1 Pre_1 launch0 p0 e0 about1 theMethod args0 below0 :=
  ⟨lists_1, trivial, launch0.admits_env _ _ _, launch0.least_env, fairChoices_fair.cas, fairChoices_fair.clock, w_frames, w_args, w_heap, w_applies, trivial, trivial, w_case⟩
end start1
theorem witness_1 : WitnessClaimed_1 := ⟨start1.p0, start1.e0, start1.about1, start1.theMethod, start1.args0, start1.below0, start1.atStart⟩
end Jvm.Pilot.@@N@@
