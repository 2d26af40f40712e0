import JvmDerived
import JvmDerived.Pilot.@@N@@Statement
import JvmDerived.Pilot.@@N@@Code
set_option linter.unusedVariables false
set_option linter.unusedSimpArgs false
namespace Jvm.Pilot.@@N@@
open Jvm Jvm.ClassFile Sem Op Lib Jvm.Free Jvm.Stand Jvm.LawKit Jvm.RoadKit Bundle Jvm.Pilot.@@N@@.Jvm.D
/-! own_..: the walk in goal form: own_Go says that from a frame on the run comes to its end as the contract says; every step turns the goal for one frame into the goal for the next, so a branch is a case split and a join a 'have'. -/
def own_Post (s : State) (Q : Option Value → Heap → List Loc → Prop) (cs ss : Nat) (o : Outcome) (u : State) : Prop := ∃ v L, o = .returned v ∧ Q v u.heap L ∧ FrameEnd s o u L cs ss
def own_Go (p : Program) (e : Env) (below : List Frame) (Qf : Outcome → State → Prop) (T : State) (g : JFrame) : Prop := ∃ s₂ o, Steps p.tables e below (T.setTop g) s₂ ∧ s₂.status = .running ∧ Ended s₂ below o ∧ Qf o s₂
abbrev own_Met (l : Launch) (Z : State) (y : MethodName) (bytes : ByteArray) (maxL : Nat) (ret : Option FieldType) (ws : List Jvm.Cond) (rm : Room) (as' : Array Value) (h0 : Heap) (cs ss : Nat) (Q : Option Value → Heap → List Loc → Prop) : Prop :=
  MetFree l y (head1 (Jvm.Cond.code y bytes maxL ret :: ws) rm) (fun a U => a = as' ∧ Z.Warmed39 U.vm ∧ U.heap = h0) (fun _ _ _ _ _ => True) (fun _ U o U' => ∃ v L, o = .returned v ∧ Q v U'.heap L ∧ FrameEnd U o U' L cs ss)
def own_b (b : Bool) : Int32 := if b then 1 else 0
theorem own_b_t {b : Bool} (h : b = true) : own_b b = 1 := by subst h; rfl
theorem own_b_f {b : Bool} (h : ¬ b = true) : own_b b = 0 := by rw [Bool.eq_false_iff.mpr h]; rfl
theorem own_b_n {b : Bool} (h : b = true) : ¬ own_b b = 0 := by subst h; decide
theorem own_b_nar (b : Bool) : nar .boolean (own_b b) = own_b b := by cases b <;> rfl
theorem own_b_fits (b : Bool) : fits .boolean (.int (own_b b)) = true := by cases b <;> rfl
theorem own_b_inj {a b : Bool} (h : own_b a = own_b b) : a = b := by cases a <;> cases b <;> first | rfl | exact absurd h (by decide)
section Own
variable {p : Program} {l : Launch} {e : Env} {R : Room} {s : State} {m : MethodId} {args : Array Value} {below : List Frame} {meth : Method} {c : Code} {T T' : State} {locs : List Loc} {cells slots : Nat} {Z : State} {a0 : Array Value} {h : Heap}
theorem own_go {Qf : Outcome → State → Prop} {g g' : JFrame} (h : ∀ t, Steps p.tables e below (T'.setTop g') t → Steps p.tables e below (T.setTop g) t) (k : own_Go p e below Qf T' g') : own_Go p e below Qf T g := by
  obtain ⟨s₂, o, h1, h2⟩ := k
  exact ⟨s₂, o, h _ h1, h2⟩
theorem own_cast {Qf : Outcome → State → Prop} {g g' : JFrame} (q : g = g') (k : own_Go p e below Qf T g') : own_Go p e below Qf T g := q ▸ k
theorem own_met {y : MethodName} {bytes : ByteArray} {maxL : Nat} {ret : Option FieldType} {ws : List Jvm.Cond} {rm : Room} {as' : Array Value} {h0 : Heap} {cs ss : Nat} {Q : Option Value → Heap → List Loc → Prop} (hp : plainFor y = true)
    (body : ∀ (p : Program) (e : Env) (s : State) (m : MethodId) (below : List Frame) (meth : Method) (c : Code) (s₁ : State), BodyLoose p l y (head1 (Jvm.Cond.code y bytes maxL ret :: ws) rm) bytes maxL ret e s m as' below meth c s₁ → c.maxLocals = maxL → Z.Warmed39 s.vm →
      Stand p l e rm s m as' below meth c s₁ [] 0 0 → s₁.heap = h0 → own_Go p e below (own_Post s Q cs ss) s₁ (entryFrame m as' maxL)) : own_Met l Z y bytes maxL ret ws rm as' h0 cs ss Q := by
  refine MetFree.of_bodySF hp hisR ?_
  intro p e s m args below meth c s₁ Bd hml0 hP hK
  obtain ⟨rfl, hZ, hh⟩ := hP
  exact body p e s m below meth c s₁ Bd hml0 hZ (Stand.of_body Bd) (by rw [← hh, Bd.state]; rfl)
theorem own_retN (X : Stand p l e R s m args below meth c T locs cells slots) (hx : p.tables.exec = Jvm.exec) (t : FieldType) (hret : meth.sig.returnType = some t) (hlk : meth.locks = false) (ht : t = .boolean ∨ t = .byte ∨ t = .char ∨ t = .short) {pc : Nat} {Ls : Array Slot} {z : Int32} {rest : List Value} (hd : decode c.code pc = .ok (.ireturn, 1))
    {Q : Option Value → Heap → List Loc → Prop} {cs ss : Nat} (hc : cells ≤ cs) (hs : slots ≤ ss) (hQ : Q (some (.int (nar t z))) T.heap locs) : own_Go p e below (own_Post s Q cs ss) T (mkF m pc Ls (.int z :: rest)) := by
  obtain ⟨fs, hr, hrun, hended, hW, hsame⟩ := X.leave (v := some (.int (nar t z))) (fun h => by rw [hret] at h; cases h) hlk
  exact ⟨_, _, retN X hx hret ht hd hr, hrun, hended, _, _, rfl, hQ, ⟨_, rfl⟩, hW, hsame.mono hc hs⟩
theorem own_retI (X : Stand p l e R s m args below meth c T locs cells slots) (hx : p.tables.exec = Jvm.exec) (hret : meth.sig.returnType = some .int) (hlk : meth.locks = false) {pc : Nat} {Ls : Array Slot} {z : Int32} {rest : List Value} (hd : decode c.code pc = .ok (.ireturn, 1))
    {Q : Option Value → Heap → List Loc → Prop} {cs ss : Nat} (hc : cells ≤ cs) (hs : slots ≤ ss) (hQ : Q (some (.int z)) T.heap locs) : own_Go p e below (own_Post s Q cs ss) T (mkF m pc Ls (.int z :: rest)) := by
  obtain ⟨fs, hr, hrun, hended, hW, hsame⟩ := X.leave (v := some (.int z)) (fun h => by rw [hret] at h; cases h) hlk
  exact ⟨_, _, retOut X hx hret rfl (Or.inl ⟨rfl, Or.inl rfl, _, rfl⟩) hd hr, hrun, hended, _, _, rfl, hQ, ⟨_, rfl⟩, hW, hsame.mono hc hs⟩
theorem own_retJ (X : Stand p l e R s m args below meth c T locs cells slots) (hx : p.tables.exec = Jvm.exec) (hret : meth.sig.returnType = some .long) (hlk : meth.locks = false) {pc : Nat} {Ls : Array Slot} {z : Int64} {rest : List Value} (hd : decode c.code pc = .ok (.lreturn, 1))
    {Q : Option Value → Heap → List Loc → Prop} {cs ss : Nat} (hc : cells ≤ cs) (hs : slots ≤ ss) (hQ : Q (some (.long z)) T.heap locs) : own_Go p e below (own_Post s Q cs ss) T (mkF m pc Ls (.long z :: rest)) := by
  obtain ⟨fs, hr, hrun, hended, hW, hsame⟩ := X.leave (v := some (.long z)) (fun h => by rw [hret] at h; cases h) hlk
  exact ⟨_, _, retOut X hx hret rfl (Or.inr (Or.inl ⟨rfl, rfl, _, rfl⟩)) hd hr, hrun, hended, _, _, rfl, hQ, ⟨_, rfl⟩, hW, hsame.mono hc hs⟩
theorem own_retA (X : Stand p l e R s m args below meth c T locs cells slots) (hx : p.tables.exec = Jvm.exec) {t : FieldType} (hret : meth.sig.returnType = some t) (hlk : meth.locks = false) (ht : t.isReference = true) {pc : Nat} {Ls : Array Slot} {w : Value} {rest : List Value} (hw : w.isRef = true) (hd : decode c.code pc = .ok (.areturn, 1))
    {Q : Option Value → Heap → List Loc → Prop} {cs ss : Nat} (hc : cells ≤ cs) (hs : slots ≤ ss) (hQ : Q (some w) T.heap locs) : own_Go p e below (own_Post s Q cs ss) T (mkF m pc Ls (w :: rest)) := by
  obtain ⟨fs, hr, hrun, hended, hW, hsame⟩ := X.leave (v := some w) (fun h => by rw [hret] at h; cases h) hlk
  have hn : narrow t w = w := by rcases ref_cases hw with rfl | ⟨a, rfl⟩ <;> cases t <;> first | rfl | cases ht
  exact ⟨_, _, retOut X hx hret hn (Or.inr (Or.inr (Or.inr (Or.inr ⟨rfl, ht, hw⟩)))) hd hr, hrun, hended, _, _, rfl, hQ, ⟨_, rfl⟩, hW, hsame.mono hc hs⟩
theorem own_retV (X : Stand p l e R s m args below meth c T locs cells slots) (hx : p.tables.exec = Jvm.exec) (hret : meth.sig.returnType = none) (hlk : meth.locks = false) {pc : Nat} {Ls : Array Slot} (hd : decode c.code pc = .ok (.return_, 1))
    {Q : Option Value → Heap → List Loc → Prop} {cs ss : Nat} (hc : cells ≤ cs) (hs : slots ≤ ss) (hQ : Q none T.heap locs) : own_Go p e below (own_Post s Q cs ss) T (mkF m pc Ls []) := by
  obtain ⟨fs, hr, hrun, hended, hW, hsame⟩ := X.leave (v := none) (fun _ => rfl) hlk
  exact ⟨_, _, X.returnOut hx hret hd hr, hrun, hended, _, _, rfl, hQ, ⟨_, rfl⟩, hW, hsame.mono hc hs⟩
theorem own_callS (X : Stand p l e R s m args below meth c T locs cells slots) (hx : p.tables.exec = Jvm.exec) (hZ : Z.Warmed39 s.vm) {own : String} {index : Nat} {y : MethodName} {bytes : ByteArray} {maxL : Nat} {ret : Option FieldType} (hown : s.vm.findClass own = some m.cls)
    (w1 : (Jvm.Cond.methodLink own index y).before a0 Z = true) (w2 : (Jvm.Cond.static y).before a0 Z = true) (w3 : (Jvm.Cond.initialized y.cls).before a0 Z = true) (w4 : (Jvm.Cond.code y bytes maxL ret).before a0 Z = true)
    (hy : y.cls ≠ "java/lang/invoke/MethodHandle" ∧ y.cls ≠ "java/lang/invoke/VarHandle") {rm : Room} {argsL : List Value} {Q : Option Value → Heap → List Loc → Prop} (hM : own_Met l Z y bytes maxL ret [] rm argsL.toArray h rm.cells rm.slots Q) (eT : T.heap = h)
    {g : JFrame} (hg : g.method = m) (hsize : g.locals.size = c.maxLocals) {rest : List Value} (hlen : ∀ sig, parseMethodDescriptor y.desc = some sig → argsL.length = sig.parameters.length) (hstack : g.stack = argsL.reverse ++ rest)
    (hdg : decode c.code g.pc = .ok (.invokestatic index, 3)) {W : Nat} (hW : 2 * g.monitorRoom + (rest.map fun v => v.category).sum ≤ W) (hf : rm.frames + 1 ≤ R.frames) (hl : W + (maxL + 11) + rm.locals ≤ R.locals) (hc : cells + rm.cells ≤ R.cells) (hs : slots + rm.slots ≤ R.slots) :
    ∃ (v : Option Value) (T' : State) (L : List Loc), Q v T'.heap L ∧ Stand p l e R s m args below meth c T' (locs ++ L) (cells + rm.cells) (slots + rm.slots) ∧
      ∀ t, Steps p.tables e below (T'.setTop { g with pc := g.pc + 3, stack := v.toList ++ rest }) t → Steps p.tables e below (T.setTop g) t := by
  obtain ⟨v, _, ⟨T', L', k', n'⟩, -, X', ⟨L, hQ, l1, l2, l3⟩, st⟩ := Jvm.LawKit.callS X hx hown (mvT hZ w1) (mvT hZ w2) (mvT hZ w3) (mvT hZ w4) hy (backOf (W := W) hM hZ w4 w3 hf hl) hg hsize hlen hstack hW hdg (fun _ _ => ⟨rfl, eT, hc, hs⟩)
  dsimp only [Pt.U, Pt.locs, Pt.cells, Pt.slots] at X' l1 l2 l3 st hQ
  subst l1 l2 l3
  exact ⟨v, T', L, hQ, X', st⟩
theorem own_callI (X : Stand p l e R s m args below meth c T locs cells slots) (hx : p.tables.exec = Jvm.exec) (hZ : Z.Warmed39 s.vm) {own : String} {index : Nat} {y : MethodName} {bytes : ByteArray} {maxL : Nat} (hy1 : y.name = "<init>") (hown : s.vm.findClass own = some m.cls)
    (w1 : (Jvm.Cond.methodLink own index y).before a0 Z = true) (w2 : (Jvm.Cond.instanceMethod y).before a0 Z = true) (w3 : (Jvm.Cond.initialized y.cls).before a0 Z = true) (w4 : (Jvm.Cond.code y bytes maxL none).before a0 Z = true)
    (hy : y.cls ≠ "java/lang/invoke/MethodHandle" ∧ y.cls ≠ "java/lang/invoke/VarHandle") {rm : Room} {a : Addr} {argsL : List Value} {Q : Option Value → Heap → List Loc → Prop} (hM : own_Met l Z y bytes maxL none [] rm (.ref a :: argsL).toArray h rm.cells rm.slots Q) (eT : T.heap = h)
    {g : JFrame} (hg : g.method = m) (hsize : g.locals.size = c.maxLocals) {rest : List Value} (hlen : ∀ sig, parseMethodDescriptor y.desc = some sig → argsL.length = sig.parameters.length) (hstack : g.stack = argsL.reverse ++ .ref a :: rest)
    (hdg : decode c.code g.pc = .ok (.invokespecial index, 3)) {W : Nat} (hW : 2 * g.monitorRoom + (rest.map fun v => v.category).sum ≤ W) (hf : rm.frames + 1 ≤ R.frames) (hl : W + (maxL + 11) + rm.locals ≤ R.locals) (hc : cells + rm.cells ≤ R.cells) (hs : slots + rm.slots ≤ R.slots) :
    ∃ (v : Option Value) (T' : State) (L : List Loc), Q v T'.heap L ∧ Stand p l e R s m args below meth c T' (locs ++ L) (cells + rm.cells) (slots + rm.slots) ∧
      ∀ t, Steps p.tables e below (T'.setTop { g with pc := g.pc + 3, stack := v.toList ++ rest }) t → Steps p.tables e below (T.setTop g) t := by
  obtain ⟨v, _, ⟨T', L', k', n'⟩, -, X', ⟨L, hQ, l1, l2, l3⟩, st⟩ := X.specialBack hx hy1 hown (mvT hZ w1) (mvT hZ w2) (mvT hZ w4) hy (backOf (W := W) hM hZ w4 w3 hf hl) hg hsize (Steps.refl _) hlen hstack hW hdg (fun _ _ => ⟨rfl, eT, hc, hs⟩)
  dsimp only [Pt.U, Pt.locs, Pt.cells, Pt.slots] at X' l1 l2 l3 st hQ
  subst l1 l2 l3
  exact ⟨v, T', L, hQ, X', fun _ k => st.trans k⟩
theorem own_callV (X : Stand p l e R s m args below meth c T locs cells slots) (hx : p.tables.exec = Jvm.exec) (hZ : Z.Warmed39 s.vm) {own C : String} {index : Nat} {y z : MethodName} {bytes : ByteArray} {maxL : Nat} {ret : Option FieldType} (hown : s.vm.findClass own = some m.cls)
    (w1 : (Jvm.Cond.methodLink own index y).before a0 Z = true) (w2 : (Jvm.Cond.declares y).before a0 Z = true) (hnf : NotFace s y) (ws : (Jvm.Cond.selects C y z).before a0 Z = true) (wi : (Jvm.Cond.instanceMethod z).before a0 Z = true) (w3 : (Jvm.Cond.initialized z.cls).before a0 Z = true) (w4 : (Jvm.Cond.code z bytes maxL ret).before a0 Z = true)
    (hy : y.cls ≠ "java/lang/invoke/MethodHandle" ∧ y.cls ≠ "java/lang/invoke/VarHandle") {rm : Room} {a : Addr} {argsL : List Value} {Q : Option Value → Heap → List Loc → Prop} (hM : own_Met l Z z bytes maxL ret [] rm (.ref a :: argsL).toArray h rm.cells rm.slots Q) (eT : T.heap = h) (E : Exa Z h a C)
    {g : JFrame} (hg : g.method = m) (hsize : g.locals.size = c.maxLocals) {rest : List Value} (hlen : ∀ sig, parseMethodDescriptor y.desc = some sig → argsL.length = sig.parameters.length) (hstack : g.stack = argsL.reverse ++ .ref a :: rest)
    (hdg : decode c.code g.pc = .ok (.invokevirtual index, 3)) {W : Nat} (hW : 2 * g.monitorRoom + (rest.map fun v => v.category).sum ≤ W) (hf : rm.frames + 1 ≤ R.frames) (hl : W + (maxL + 11) + rm.locals ≤ R.locals) (hc : cells + rm.cells ≤ R.cells) (hs : slots + rm.slots ≤ R.slots) :
    ∃ (v : Option Value) (T' : State) (L : List Loc), Q v T'.heap L ∧ Stand p l e R s m args below meth c T' (locs ++ L) (cells + rm.cells) (slots + rm.slots) ∧
      ∀ t, Steps p.tables e below (T'.setTop { g with pc := g.pc + 3, stack := v.toList ++ rest }) t → Steps p.tables e below (T.setTop g) t := by
  obtain ⟨cq, kq, qa, qb, qc⟩ := isOf hZ eT E
  obtain ⟨v, _, ⟨T', L', k', n'⟩, -, X', ⟨L, hQ, l1, l2, l3⟩, st⟩ := X.virtualBack hx hown (mvT hZ w1) (mvT hZ w2) hnf (mvT hZ ws) (mvT hZ wi) hy (backOf (W := W) hM hZ w4 w3 hf hl) qa qc hg hsize (Steps.refl _) hlen hstack hW hdg (fun _ _ => ⟨rfl, eT, hc, hs⟩)
  dsimp only [Pt.U, Pt.locs, Pt.cells, Pt.slots] at X' l1 l2 l3 st hQ
  subst l1 l2 l3
  exact ⟨v, T', L, hQ, X', fun _ k => st.trans k⟩
theorem own_callF (X : Stand p l e R s m args below meth c T locs cells slots) (hx : p.tables.exec = Jvm.exec) (hZ : Z.Warmed39 s.vm) {own C : String} {index count : Nat} {xi y : MethodName} {bytes : ByteArray} {maxL : Nat} {ret : Option FieldType} (hown : s.vm.findClass own = some m.cls)
    (w1 : (Jvm.Cond.methodLink own index xi).before args s = true) (w2 : (Jvm.Cond.declares xi).before args s = true) (wf : (Jvm.Cond.interfaceMethod xi.cls xi.cls xi.name xi.desc).before args s = true) (ws : (Jvm.Cond.selects C xi y).before args s = true) (wi : (Jvm.Cond.instanceMethod y).before args s = true) (wp : (Jvm.Cond.publicMethod y).before args s = true) (wu : (Jvm.Cond.unhidden C xi.name xi.desc).before args s = true) (wc : (Jvm.Cond.castable C xi.cls).before args s = true) (w3 : (Jvm.Cond.initialized y.cls).before a0 Z = true) (w4 : (Jvm.Cond.code y bytes maxL ret).before a0 Z = true)
    (hy : xi.cls ≠ "java/lang/invoke/MethodHandle" ∧ xi.cls ≠ "java/lang/invoke/VarHandle") {rm : Room} {a : Addr} {argsL : List Value} {Q : Option Value → Heap → List Loc → Prop} (hM : own_Met l Z y bytes maxL ret [] rm (.ref a :: argsL).toArray h rm.cells rm.slots Q) (eT : T.heap = h) (E : Exa Z h a C)
    {g : JFrame} (hg : g.method = m) (hsize : g.locals.size = c.maxLocals) {rest : List Value} (hlen : ∀ sig, parseMethodDescriptor xi.desc = some sig → argsL.length = sig.parameters.length) (hstack : g.stack = argsL.reverse ++ .ref a :: rest)
    (hdg : decode c.code g.pc = .ok (.invokeinterface index count, 5)) {W : Nat} (hW : 2 * g.monitorRoom + (rest.map fun v => v.category).sum ≤ W) (hf : rm.frames + 1 ≤ R.frames) (hl : W + (maxL + 11) + rm.locals ≤ R.locals) (hc : cells + rm.cells ≤ R.cells) (hs : slots + rm.slots ≤ R.slots) :
    ∃ (v : Option Value) (T' : State) (L : List Loc), Q v T'.heap L ∧ Stand p l e R s m args below meth c T' (locs ++ L) (cells + rm.cells) (slots + rm.slots) ∧
      ∀ t, Steps p.tables e below (T'.setTop { g with pc := g.pc + 5, stack := v.toList ++ rest }) t → Steps p.tables e below (T.setTop g) t := by
  obtain ⟨cq, kq, qa, qb, qc⟩ := isOf hZ eT E
  obtain ⟨v, _, ⟨T', L', k', n'⟩, -, X', ⟨L, hQ, l1, l2, l3⟩, st⟩ := X.interfaceBack hx hown w1 w2 wf ws wi wp wu wc hy (backOf (W := W) hM hZ w4 w3 hf hl) qa qb qc hg hsize (Steps.refl _) hlen hstack hW hdg (fun _ _ => ⟨rfl, eT, hc, hs⟩)
  dsimp only [Pt.U, Pt.locs, Pt.cells, Pt.slots] at X' l1 l2 l3 st hQ
  subst l1 l2 l3
  exact ⟨v, T', L, hQ, X', fun _ k => st.trans k⟩
theorem own_irem {g : JFrame} {target : State} (X : Stand p l e R s m args below meth c T locs cells slots) (hx : p.tables.exec = Jvm.exec) (hg : g.method = m) {x y : Int32} {rest : List Value} (hd : decode c.code g.pc = .ok (.irem, 1)) (hs : g.stack = .int y :: .int x :: rest) (hy : y ≠ 0)
    (hr : Steps p.tables e below (T.setTop { g with pc := g.pc + 1, stack := .int (x % y) :: rest }) target) : Steps p.tables e below (T.setTop g) target := iremM X hx hg hd hs hy hr
theorem own_lrem {g : JFrame} {target : State} (X : Stand p l e R s m args below meth c T locs cells slots) (hx : p.tables.exec = Jvm.exec) (hg : g.method = m) {x y : Int64} {rest : List Value} (hd : decode c.code g.pc = .ok (.lrem, 1)) (hs : g.stack = .long y :: .long x :: rest) (hy : y ≠ 0)
    (hr : Steps p.tables e below (T.setTop { g with pc := g.pc + 1, stack := .long (x % y) :: rest }) target) : Steps p.tables e below (T.setTop g) target :=
  XS.lrem X.here hx hg hd hs hy (by rw [lrem_mod]; exact hr)
theorem own_pop2 {g : JFrame} {target : State} (X : Stand p l e R s m args below meth c T locs cells slots) (hx : p.tables.exec = Jvm.exec) (hg : g.method = m) {x : Int64} {rest : List Value} (hd : decode c.code g.pc = .ok (.pop2, 1)) (hs : g.stack = .long x :: rest)
    (hr : Steps p.tables e below (T.setTop { g with pc := g.pc + 1, stack := rest }) target) : Steps p.tables e below (T.setTop g) target := by
  subst hg
  jvm_step X.here [X.here.top, hx, hd, hs, Value.category]
  exact hr
theorem own_fldJ {t : Term} {C n d : String} {a : Addr} {z : Int64} (ht : t.eval args s none [] s = some (.ref a)) (q : (Jvm.Cond.eq (.field t C n d) (.long z)).value args s none s [] = some true) : Fld s s.heap a C n d (.long z) := by
  obtain ⟨x, y, ha, hb, -, k2⟩ := cmp_v (Or.inl q)
  obtain rfl : y = .long z := Option.some.inj (hb.symm.trans (long_at z))
  obtain ⟨w, rfl⟩ := k2
  have e : w = z := gotT (eq_L ha hb) q
  subst e
  exact Fld.start ((fld_at ht).symm.trans ha)
theorem own_staI {C n d : String} {z : Int32} (q : (Jvm.Cond.eq (.static C n d) (.int z)).value args s none s [] = some true) (hi : (Jvm.Cond.initializedFor C n d).before args s = true ∨ ((Jvm.Cond.initialized C).before args s = true ∧ (Jvm.Cond.laysStatic C n d).before args s = true)) : Sta s s.heap C n d (.int z) := by
  obtain ⟨x, y, ha, hb, -, k2⟩ := cmp_v (Or.inl q)
  obtain rfl : y = .int z := Option.some.inj (hb.symm.trans (Term.int_eval z))
  obtain ⟨w, rfl⟩ := k2
  have e : w = z := gotT (Cond.eq_ints ha hb) q
  subst e
  exact Sta.start ha hi
theorem own_ns_exa {a : Addr} {C : String} (E : Exa Z h a C) : ∃ c : Cell, h[a]? = some c ∧ c.vm.isStatics = false := by
  obtain ⟨c, k, h1, -, -, h4, -⟩ := E
  exact ⟨c, h1, h4⟩
theorem own_ns_arv {a : Addr} {k : ClassId} {ty : FieldType} {z : Int32} {vs : List Value} {dv : Value} (F : Arv Z h a k ty z vs dv) : ∃ c : Cell, h[a]? = some c ∧ c.vm.isStatics = false := by
  obtain ⟨c, A, -⟩ := F
  exact ⟨c, A.1, A.plain⟩
theorem own_sta_keep {h' : Heap} {C n d : String} {w : Value} {ws : List Addr} (F : Sta Z h C n d w) (K : Keep h h' ws) (hn : ∀ x ∈ ws, ∃ c : Cell, h[x]? = some c ∧ c.vm.isStatics = false) : Sta Z h' C n d w := by
  obtain ⟨cf, i, k, f, st, cell, h1, h2, h3, h4, h5, h6, h7⟩ := F
  exact ⟨cf, i, k, f, st, cell, h1, h2, h3, h4, K.2.1 st cell h5 (fun q => by obtain ⟨c, e1, e2⟩ := hn st q; cases h5.symm.trans e1; rw [e2] at h6; cases h6), h6, h7⟩
end Own
/-! own_..W: the same walk where String constants may be loaded cold (by the body or by a callee): the Stand is over the start with the tables at hand, 'Since' beside it. -/
def own_PostW (s : State) (Q : Option Value → Heap → List Loc → Prop) (cs ss : Nat) (o : Outcome) (u : State) : Prop := ∃ v L, o = .returned v ∧ Q v u.heap L ∧ ReturnedEndW s o u L cs ss
abbrev own_MetW (l : Launch) (Z : State) (y : MethodName) (bytes : ByteArray) (maxL : Nat) (ret : Option FieldType) (ws : List Jvm.Cond) (rm : Room) (as' : Array Value) (h0 : Heap) (cs ss : Nat) (Q : Option Value → Heap → List Loc → Prop) : Prop :=
  MetFree l y (head1 (Jvm.Cond.code y bytes maxL ret :: ws) rm) (fun a U => a = as' ∧ Z.Warmed39 U.vm ∧ U.heap = h0) (fun _ _ _ _ _ => True) (fun _ U o U' => ∃ v L, o = .returned v ∧ Q v U'.heap L ∧ ReturnedEndW U o U' L cs ss)
section OwnW
variable {p : Program} {l : Launch} {e : Env} {R : Room} {s : State} {m : MethodId} {args : Array Value} {below : List Frame} {meth : Method} {c : Code} {T T' : State} {locs : List Loc} {cells slots : Nat} {Z : State} {a0 : Array Value} {h : Heap} {vm0 : Vm} {k0 : Nat}
theorem own_metW {y : MethodName} {bytes : ByteArray} {maxL : Nat} {ret : Option FieldType} {ws : List Jvm.Cond} {rm : Room} {as' : Array Value} {h0 : Heap} {cs ss : Nat} {Q : Option Value → Heap → List Loc → Prop} (hp : plainFor y = true)
    (body : ∀ (p : Program) (e : Env) (s : State) (m : MethodId) (below : List Frame) (meth : Method) (c : Code) (s₁ : State), BodyLoose p l y (head1 (Jvm.Cond.code y bytes maxL ret :: ws) rm) bytes maxL ret e s m as' below meth c s₁ → c.maxLocals = maxL → Z.Warmed39 (s.setVm s.vm).vm →
      Stand p l e rm (s.setVm s.vm) m as' below meth c s₁ [] 0 0 → s₁.heap = h0 → s.Since s.vm 0 → own_Go p e below (own_PostW s Q cs ss) s₁ (entryFrame m as' maxL)) : own_MetW l Z y bytes maxL ret ws rm as' h0 cs ss Q := by
  refine MetFree.of_bodySF hp hisR ?_
  intro p e s m args below meth c s₁ Bd hml0 hP hK
  obtain ⟨rfl, hZ, hh⟩ := hP
  exact body p e s m below meth c s₁ Bd hml0 hZ (Stand.of_body Bd) (by rw [← hh, Bd.state]; rfl) ((State.WarmedH.refl s).since 0)
theorem own_endW {o : Outcome} {u : State} {L : List Loc} {a b a' b' : Nat} (q : ReturnedEndW s o u L a b) (h1 : a ≤ a') (h2 : b ≤ b') : ReturnedEndW s o u L a' b' := ⟨q.1, q.2.1, q.2.2.1, q.2.2.2.mono h1 h2⟩
theorem own_retNW (X : Stand p l e R (s.setVm vm0) m args below meth c T locs cells slots) (hx : p.tables.exec = Jvm.exec) (hS : s.Since vm0 k0) (eT : T.heap = h) (hk : k0 ≤ h.size) (t : FieldType) (hret : meth.sig.returnType = some t) (hlk : meth.locks = false) (ht : t = .boolean ∨ t = .byte ∨ t = .char ∨ t = .short) {pc : Nat} {Ls : Array Slot} {z : Int32} {rest : List Value} (hd : decode c.code pc = .ok (.ireturn, 1))
    {Q : Option Value → Heap → List Loc → Prop} {cs ss : Nat} (hc : cells ≤ cs) (hs : slots ≤ ss) (hQ : Q (some (.int (nar t z))) T.heap locs) : own_Go p e below (own_PostW s Q cs ss) T (mkF m pc Ls (.int z :: rest)) := by
  obtain ⟨fs, hr, hrun, hended, hW⟩ := X.leaveW hS (eT ▸ hk) (v := some (.int (nar t z))) (fun h => by rw [hret] at h; cases h) hlk
  exact ⟨_, _, retN X hx hret ht hd hr, hrun, hended, _, _, rfl, hQ, own_endW hW hc hs⟩
theorem own_retAW (X : Stand p l e R (s.setVm vm0) m args below meth c T locs cells slots) (hx : p.tables.exec = Jvm.exec) (hS : s.Since vm0 k0) (eT : T.heap = h) (hk : k0 ≤ h.size) {t : FieldType} (hret : meth.sig.returnType = some t) (hlk : meth.locks = false) (ht : t.isReference = true) {pc : Nat} {Ls : Array Slot} {w : Value} {rest : List Value} (hw : w.isRef = true) (hd : decode c.code pc = .ok (.areturn, 1))
    {Q : Option Value → Heap → List Loc → Prop} {cs ss : Nat} (hc : cells ≤ cs) (hs : slots ≤ ss) (hQ : Q (some w) T.heap locs) : own_Go p e below (own_PostW s Q cs ss) T (mkF m pc Ls (w :: rest)) := by
  obtain ⟨fs, hr, hrun, hended, hW⟩ := X.leaveW hS (eT ▸ hk) (v := some w) (fun h => by rw [hret] at h; cases h) hlk
  have hn : narrow t w = w := by rcases ref_cases hw with rfl | ⟨a, rfl⟩ <;> cases t <;> first | rfl | cases ht
  exact ⟨_, _, retOut X hx hret hn (Or.inr (Or.inr (Or.inr (Or.inr ⟨rfl, ht, hw⟩)))) hd hr, hrun, hended, _, _, rfl, hQ, own_endW hW hc hs⟩
theorem own_retVW (X : Stand p l e R (s.setVm vm0) m args below meth c T locs cells slots) (hx : p.tables.exec = Jvm.exec) (hS : s.Since vm0 k0) (eT : T.heap = h) (hk : k0 ≤ h.size) (hret : meth.sig.returnType = none) (hlk : meth.locks = false) {pc : Nat} {Ls : Array Slot} (hd : decode c.code pc = .ok (.return_, 1))
    {Q : Option Value → Heap → List Loc → Prop} {cs ss : Nat} (hc : cells ≤ cs) (hs : slots ≤ ss) (hQ : Q none T.heap locs) : own_Go p e below (own_PostW s Q cs ss) T (mkF m pc Ls []) := by
  obtain ⟨fs, hr, hrun, hended, hW⟩ := X.leaveW hS (eT ▸ hk) (v := none) (fun _ => rfl) hlk
  exact ⟨_, _, X.returnOut hx hret hd hr, hrun, hended, _, _, rfl, hQ, own_endW hW hc hs⟩
theorem own_callIW (X : Stand p l e R (s.setVm vm0) m args below meth c T locs cells slots) (hx : p.tables.exec = Jvm.exec) (hZ : Z.Warmed39 (s.setVm vm0).vm) (hS : s.Since vm0 k0) (hk : k0 ≤ h.size) {own : String} {index : Nat} {y : MethodName} {bytes : ByteArray} {maxL : Nat} (hy1 : y.name = "<init>") (hown : (s.setVm vm0).vm.findClass own = some m.cls)
    (w1 : (Jvm.Cond.methodLink own index y).before a0 Z = true) (w2 : (Jvm.Cond.instanceMethod y).before a0 Z = true) (w3 : (Jvm.Cond.initialized y.cls).before a0 Z = true) (w4 : (Jvm.Cond.code y bytes maxL none).before a0 Z = true)
    (hy : y.cls ≠ "java/lang/invoke/MethodHandle" ∧ y.cls ≠ "java/lang/invoke/VarHandle") {rm : Room} {a : Addr} {argsL : List Value} {Q : Option Value → Heap → List Loc → Prop} (hM : own_MetW l Z y bytes maxL none [] rm (.ref a :: argsL).toArray h rm.cells rm.slots Q) (eT : T.heap = h)
    {g : JFrame} (hg : g.method = m) (hsize : g.locals.size = c.maxLocals) {rest : List Value} (hlen : ∀ sig, parseMethodDescriptor y.desc = some sig → argsL.length = sig.parameters.length) (hstack : g.stack = argsL.reverse ++ .ref a :: rest)
    (hdg : decode c.code g.pc = .ok (.invokespecial index, 3)) {W : Nat} (hW : 2 * g.monitorRoom + (rest.map fun v => v.category).sum ≤ W) (hf : rm.frames + 1 ≤ R.frames) (hl : W + (maxL + 11) + rm.locals ≤ R.locals) (hc : cells + rm.cells ≤ R.cells) (hs : slots + rm.slots ≤ R.slots) :
    ∃ (v : Option Value) (T' : State) (L : List Loc), Q v T'.heap L ∧ Stand p l e R (s.setVm T'.vm) m args below meth c T' (locs ++ L) (cells + rm.cells) (slots + rm.slots) ∧ s.Since T'.vm T'.heap.size ∧ Z.Warmed39 (s.setVm T'.vm).vm ∧ (s.setVm T'.vm).vm.findClass own = some m.cls ∧
      ∀ t, Steps p.tables e below (T'.setTop { g with pc := g.pc + 3, stack := v.toList ++ rest }) t → Steps p.tables e below (T.setTop g) t := by
  obtain ⟨v, _, ⟨T', L', k', n'⟩, -, X', hS', hgr, ⟨L, hQ, l1, l2, l3⟩, st⟩ := X.specialBackS hx hy1 hown (mvT hZ w1) (mvT hZ w2) (mvT hZ w4) hy (backOfS (W := W) hM hZ w4 w3 hf hl) hg hsize (Steps.refl _) hlen hstack hW hdg (fun _ _ => ⟨rfl, eT, hc, hs⟩)
  dsimp only [Pt.U, Pt.locs, Pt.cells, Pt.slots] at X' hS' hgr l1 l2 l3 st hQ
  subst l1 l2 l3
  obtain ⟨q1, q2, q3, q4⟩ := rebS hS hk X' hS' (by rw [← eT]; exact hgr) hZ hown
  exact ⟨v, T', L, hQ, q1, q2, q3, q4, fun _ k => st.trans k⟩
end OwnW
theorem own_strw : ∀ d ∈ Bundle.stringAtoms, d ∈ tables_1 := by
  intro d hd
  simp only [Bundle.stringAtoms, List.mem_cons, List.not_mem_nil, or_false] at hd
  rcases hd with rfl | rfl | rfl | rfl | rfl | rfl | rfl
  · exact List.mem_of_getElem? (i := 4) rfl
  · exact List.mem_of_getElem? (i := 5) rfl
  · exact List.mem_of_getElem? (i := 6) rfl
  · exact List.mem_of_getElem? (i := 7) rfl
  · exact List.mem_of_getElem? (i := 8) rfl
  · exact List.mem_of_getElem? (i := 9) rfl
  · exact List.mem_of_getElem? (i := 10) rfl
theorem own_k4 (x : Int32) : (x &&& (3 : Int32)) = (0 : Int32) ∨ (x &&& (3 : Int32)) = (1 : Int32) ∨ (x &&& (3 : Int32)) = (2 : Int32) ∨ (x &&& (3 : Int32)) = (3 : Int32) := by
  have h1 := c_mask x (3 : Int32) 2 (by decide) (by decide)
  simp only [Nat.reducePow, Int.cast_ofNat_Int] at h1
  simp only [← Int32.toInt_inj, Int32.reduceToInt]
  omega
theorem d3_0 : decode jdk_30_method_1_code 0 = .ok (.aload_n 0, 1) := by decide +kernel
theorem d3_1 : decode jdk_30_method_1_code 1 = .ok (.invokespecial 1, 3) := by decide +kernel
theorem d3_4 : decode jdk_30_method_1_code 4 = .ok (.return_, 1) := by decide +kernel
theorem pn_rm3 : plainName "java/lang/Record" = true := by first | (simp [plainName, overriddenIn]; done) | decide +kernel
theorem ef_rm3 (m : MethodId) (o0 : Addr) : entryFrame m #[(.ref o0)] 1 = mkF m 0 #[.val (.ref o0)] [] := by first | (simp [entryFrame, mkF, argsToLocals, Value.category]; done) | rfl
set_option maxRecDepth 65536 in
set_option maxHeartbeats 40000000 in
theorem rm3 (l : Launch) (Z : State) (a0 : Array Value) (hw : ∀ d ∈ tables_1, d.before a0 Z = true) (o0 : Addr)  (h0 : Heap) :
    own_Met l Z (⟨"java/lang/Record", "<init>", "()V"⟩ : MethodName) jdk_30_method_1_code 1 none [] ({ frames := 1, cells := 0, slots := 0, locals := 12 } : Room) #[(.ref o0)] h0 0 0 (fun v h L => v = none ∧ h = h0 ∧ L = []) := by
  refine own_met (plainFor_of_name pn_rm3) ?_
  intro p e s m below meth c s₁ Bd hml0 hZ X0 e0
  have hx := Bd.exec
  have hby := Bd.bytes
  have hml : c.maxLocals = 1 := hml0
  have hown : s.vm.findClass "java/lang/Record" = some m.cls := findClass_of_methodNamed Bd.named
  have hnm := (name_of_methodNamed Bd.named Bd.method).1
  refine own_cast (ef_rm3 m o0) ?_
  generalize hQQ : (fun (v : Option Value) (h : Heap) (L : List Loc) => v = none ∧ h = h0 ∧ L = []) = QQ
  refine own_go (g' := (mkF m 1 #[.val (.ref o0)] [(.ref o0)])) (fun _ kgo => XS.aloadN X0.here hx rfl (hb hby d3_0) rfl rfl kgo) ?_
  obtain ⟨T1, X1, e1, st1⟩ := initO X0 hx hZ hown (hw _ (List.mem_of_getElem? (i := 22) rfl)) (hw _ (List.mem_of_getElem? (i := 23) rfl)) (hw _ (List.mem_of_getElem? (i := 24) rfl)) e0 (g := (mkF m 1 #[.val (.ref o0)] [(.ref o0)])) rfl (by rw [hml]; rfl) rfl (hb hby d3_1) (by decide) (W := 0) (by show 2 * 0 + _ ≤ _; exact Nat.le_of_eq rfl) (by decide)
  refine own_go (g' := (mkF m 4 #[.val (.ref o0)] [])) (st1) ?_
  refine own_retV X1 hx Bd.returns Bd.notSynchronized (hb hby d3_4) (by decide) (by decide) ?_
  show QQ _ T1.heap _
  rw [e1]
  rw [← hQQ]
  exact ⟨rfl, rfl, rfl⟩
theorem d8_0 : decode jdk_22_method_1_code 0 = .ok (.aload_n 0, 1) := by decide +kernel
theorem d8_1 : decode jdk_22_method_1_code 1 = .ok (.invokespecial 1, 3) := by decide +kernel
theorem d8_4 : decode jdk_22_method_1_code 4 = .ok (.return_, 1) := by decide +kernel
theorem pn_rm8 : plainName "java/util/AbstractCollection" = true := by first | (simp [plainName, overriddenIn]; done) | decide +kernel
theorem ef_rm8 (m : MethodId) (o0 : Addr) : entryFrame m #[(.ref o0)] 1 = mkF m 0 #[.val (.ref o0)] [] := by first | (simp [entryFrame, mkF, argsToLocals, Value.category]; done) | rfl
set_option maxRecDepth 65536 in
set_option maxHeartbeats 40000000 in
theorem rm8 (l : Launch) (Z : State) (a0 : Array Value) (hw : ∀ d ∈ tables_1, d.before a0 Z = true) (o0 : Addr)  (h0 : Heap) :
    own_Met l Z (⟨"java/util/AbstractCollection", "<init>", "()V"⟩ : MethodName) jdk_22_method_1_code 1 none [] ({ frames := 1, cells := 0, slots := 0, locals := 12 } : Room) #[(.ref o0)] h0 0 0 (fun v h L => v = none ∧ h = h0 ∧ L = []) := by
  refine own_met (plainFor_of_name pn_rm8) ?_
  intro p e s m below meth c s₁ Bd hml0 hZ X0 e0
  have hx := Bd.exec
  have hby := Bd.bytes
  have hml : c.maxLocals = 1 := hml0
  have hown : s.vm.findClass "java/util/AbstractCollection" = some m.cls := findClass_of_methodNamed Bd.named
  have hnm := (name_of_methodNamed Bd.named Bd.method).1
  refine own_cast (ef_rm8 m o0) ?_
  generalize hQQ : (fun (v : Option Value) (h : Heap) (L : List Loc) => v = none ∧ h = h0 ∧ L = []) = QQ
  refine own_go (g' := (mkF m 1 #[.val (.ref o0)] [(.ref o0)])) (fun _ kgo => XS.aloadN X0.here hx rfl (hb hby d8_0) rfl rfl kgo) ?_
  obtain ⟨T1, X1, e1, st1⟩ := initO X0 hx hZ hown (hw _ (List.mem_of_getElem? (i := 58) rfl)) (hw _ (List.mem_of_getElem? (i := 23) rfl)) (hw _ (List.mem_of_getElem? (i := 24) rfl)) e0 (g := (mkF m 1 #[.val (.ref o0)] [(.ref o0)])) rfl (by rw [hml]; rfl) rfl (hb hby d8_1) (by decide) (W := 0) (by show 2 * 0 + _ ≤ _; exact Nat.le_of_eq rfl) (by decide)
  refine own_go (g' := (mkF m 4 #[.val (.ref o0)] [])) (st1) ?_
  refine own_retV X1 hx Bd.returns Bd.notSynchronized (hb hby d8_4) (by decide) (by decide) ?_
  show QQ _ T1.heap _
  rw [e1]
  rw [← hQQ]
  exact ⟨rfl, rfl, rfl⟩
theorem d15_0 : decode jdk_71_method_1_code 0 = .ok (.aload_n 0, 1) := by decide +kernel
theorem d15_1 : decode jdk_71_method_1_code 1 = .ok (.invokespecial 1, 3) := by decide +kernel
theorem d15_4 : decode jdk_71_method_1_code 4 = .ok (.return_, 1) := by decide +kernel
theorem pn_rm15 : plainName "java/util/AbstractMap" = true := by first | (simp [plainName, overriddenIn]; done) | decide +kernel
theorem ef_rm15 (m : MethodId) (o0 : Addr) : entryFrame m #[(.ref o0)] 1 = mkF m 0 #[.val (.ref o0)] [] := by first | (simp [entryFrame, mkF, argsToLocals, Value.category]; done) | rfl
set_option maxRecDepth 65536 in
set_option maxHeartbeats 40000000 in
theorem rm15 (l : Launch) (Z : State) (a0 : Array Value) (hw : ∀ d ∈ tables_1, d.before a0 Z = true) (o0 : Addr)  (h0 : Heap) :
    own_Met l Z (⟨"java/util/AbstractMap", "<init>", "()V"⟩ : MethodName) jdk_71_method_1_code 1 none [] ({ frames := 1, cells := 0, slots := 0, locals := 12 } : Room) #[(.ref o0)] h0 0 0 (fun v h L => v = none ∧ h = h0 ∧ L = []) := by
  refine own_met (plainFor_of_name pn_rm15) ?_
  intro p e s m below meth c s₁ Bd hml0 hZ X0 e0
  have hx := Bd.exec
  have hby := Bd.bytes
  have hml : c.maxLocals = 1 := hml0
  have hown : s.vm.findClass "java/util/AbstractMap" = some m.cls := findClass_of_methodNamed Bd.named
  have hnm := (name_of_methodNamed Bd.named Bd.method).1
  refine own_cast (ef_rm15 m o0) ?_
  generalize hQQ : (fun (v : Option Value) (h : Heap) (L : List Loc) => v = none ∧ h = h0 ∧ L = []) = QQ
  refine own_go (g' := (mkF m 1 #[.val (.ref o0)] [(.ref o0)])) (fun _ kgo => XS.aloadN X0.here hx rfl (hb hby d15_0) rfl rfl kgo) ?_
  obtain ⟨T1, X1, e1, st1⟩ := initO X0 hx hZ hown (hw _ (List.mem_of_getElem? (i := 119) rfl)) (hw _ (List.mem_of_getElem? (i := 23) rfl)) (hw _ (List.mem_of_getElem? (i := 24) rfl)) e0 (g := (mkF m 1 #[.val (.ref o0)] [(.ref o0)])) rfl (by rw [hml]; rfl) rfl (hb hby d15_1) (by decide) (W := 0) (by show 2 * 0 + _ ≤ _; exact Nat.le_of_eq rfl) (by decide)
  refine own_go (g' := (mkF m 4 #[.val (.ref o0)] [])) (st1) ?_
  refine own_retV X1 hx Bd.returns Bd.notSynchronized (hb hby d15_4) (by decide) (by decide) ?_
  show QQ _ T1.heap _
  rw [e1]
  rw [← hQQ]
  exact ⟨rfl, rfl, rfl⟩
theorem d7_0 : decode jdk_39_method_1_code 0 = .ok (.aload_n 0, 1) := by decide +kernel
theorem d7_1 : decode jdk_39_method_1_code 1 = .ok (.invokespecial 1, 3) := by decide +kernel
theorem d7_4 : decode jdk_39_method_1_code 4 = .ok (.aload_n 0, 1) := by decide +kernel
theorem d7_5 : decode jdk_39_method_1_code 5 = .ok (.iconst 0, 1) := by decide +kernel
theorem d7_6 : decode jdk_39_method_1_code 6 = .ok (.putfield 7, 3) := by decide +kernel
theorem d7_9 : decode jdk_39_method_1_code 9 = .ok (.return_, 1) := by decide +kernel
theorem pn_rm7 : plainName "java/util/AbstractList" = true := by first | (simp [plainName, overriddenIn]; done) | decide +kernel
theorem pd7_0 : parseMethodDescriptor "()V" = some ⟨[], none⟩ := by decide +kernel
theorem ef_rm7 (m : MethodId) (o0 : Addr) : entryFrame m #[(.ref o0)] 1 = mkF m 0 #[.val (.ref o0)] [] := by first | (simp [entryFrame, mkF, argsToLocals, Value.category]; done) | rfl
set_option maxRecDepth 65536 in
set_option maxHeartbeats 40000000 in
theorem rm7 (l : Launch) (Z : State) (a0 : Array Value) (hw : ∀ d ∈ tables_1, d.before a0 Z = true) (o0 : Addr)  (h0 : Heap) (n0 : Nat) (Z0 : n0 ≤ h0.size) (g_o0 : n0 ≤ o0) (P0 : Exa Z h0 o0 "java/util/ArrayList") (P1 : Fld Z h0 o0 "java/util/AbstractList" "modCount" "I" (.int (0 : Int32))) (P2 : Fld Z h0 o0 "java/util/ArrayList" "elementData" "[Ljava/lang/Object;" .null) :
    own_Met l Z (⟨"java/util/AbstractList", "<init>", "()V"⟩ : MethodName) jdk_39_method_1_code 1 none [] ({ frames := 2, cells := 0, slots := 0, locals := 24 } : Room) #[(.ref o0)] h0 0 0 (fun v h L => v = none ∧ Fr n0 L ∧ Keep h0 h [o0] ∧ Exa Z h o0 "java/util/ArrayList" ∧ Fld Z h o0 "java/util/ArrayList" "elementData" "[Ljava/lang/Object;" .null) := by
  refine own_met (plainFor_of_name pn_rm7) ?_
  intro p e s m below meth c s₁ Bd hml0 hZ X0 e0
  have hx := Bd.exec
  have hby := Bd.bytes
  have hml : c.maxLocals = 1 := hml0
  have hown : s.vm.findClass "java/util/AbstractList" = some m.cls := findClass_of_methodNamed Bd.named
  have hnm := (name_of_methodNamed Bd.named Bd.method).1
  refine own_cast (ef_rm7 m o0) ?_
  generalize hQQ : (fun (v : Option Value) (h : Heap) (L : List Loc) => v = none ∧ Fr n0 L ∧ Keep h0 h [o0] ∧ Exa Z h o0 "java/util/ArrayList" ∧ Fld Z h o0 "java/util/ArrayList" "elementData" "[Ljava/lang/Object;" .null) = QQ
  have N0 := Fr.nil n0
  have K0 := Keep.refl h0 [o0]
  refine own_go (g' := (mkF m 1 #[.val (.ref o0)] [(.ref o0)])) (fun _ kgo => XS.aloadN X0.here hx rfl (hb hby d7_0) rfl rfl kgo) ?_
  obtain ⟨v1, T1, L1, hQ1, X1, st1⟩ := own_callI X0 hx hZ (y := (⟨"java/util/AbstractCollection", "<init>", "()V"⟩ : MethodName)) rfl hown (hw _ (List.mem_of_getElem? (i := 52) rfl)) (hw _ (List.mem_of_getElem? (i := 53) rfl)) (hw _ (List.mem_of_getElem? (i := 56) rfl)) (hw _ (List.mem_of_getElem? (i := 57) rfl)) ⟨by decide, by decide⟩ (a := o0) (argsL := []) (rm8 l Z a0 hw o0 h0) e0 (g := (mkF m 1 #[.val (.ref o0)] [(.ref o0)])) rfl (by rw [hml]; rfl) (rest := []) (lenOf pd7_0 rfl) rfl (hb hby d7_1) (W := 0) (by show 2 * 0 + _ ≤ _; exact Nat.le_of_eq rfl) (by decide) (by decide) (by decide) (by decide)
  obtain ⟨rfl, e1, rfl⟩ := hQ1
  have N1 := Fr.app N0 (Fr.nil n0)
  refine own_go (g' := (mkF m 4 #[.val (.ref o0)] [])) (st1) ?_
  refine own_go (g' := (mkF m 5 #[.val (.ref o0)] [(.ref o0)])) (fun _ kgo => XS.aloadN X1.here hx rfl (hb hby d7_4) rfl rfl kgo) ?_
  refine own_go (g' := (mkF m 6 #[.val (.ref o0)] [(.int (0 : Int32)), (.ref o0)])) (fun _ kgo => XS.iconst X1.here hx rfl (hb hby d7_5) kgo) ?_
  obtain ⟨T2, h2, X2, e2, W2, st2⟩ := putF X1 hx hZ hown (host := "") (Or.inl (hw _ (List.mem_of_getElem? (i := 59) rfl))) Via.refl e1 P1 P0 (Or.inl (hw _ (List.mem_of_getElem? (i := 60) rfl))) (hw _ (List.mem_of_getElem? (i := 41) rfl)) (ty := .int) (by decide) rfl rfl (g := (mkF m 6 #[.val (.ref o0)] [(.int (0 : Int32)), (.ref o0)])) rfl rfl (hb hby d7_6)
  have fw2 := Fld.same W2 P1
  have N2 := Fr.snoc X2 N1 g_o0
  have Z2 : n0 ≤ h2.size := by rw [W2.size]; exact Z0
  have K2 : Keep h0 h2 [o0] := K0.wr W2 (Or.inl (List.mem_of_getElem? (i := 0) rfl))
  refine own_go (g' := (mkF m 9 #[.val (.ref o0)] [])) (st2) ?_
  refine own_retV X2 hx Bd.returns Bd.notSynchronized (hb hby d7_9) (by decide) (by decide) ?_
  show QQ _ T2.heap _
  rw [e2]
  have fx3 : Exa Z h2 o0 "java/util/ArrayList" := (Exa.wr W2 P0)
  have fx4 : Fld Z h2 o0 "java/util/ArrayList" "elementData" "[Ljava/lang/Object;" .null := (Fld.other W2 P2 (Or.inr (slot_ne (Or.inl (hw _ (List.mem_of_getElem? (i := 63) rfl))) (Or.inl (hw _ (List.mem_of_getElem? (i := 60) rfl))) (by decide) (t := (.array (.object "java/lang/Object"))) (t' := .int) (by decide) (by decide))))
  rw [← hQQ]
  exact ⟨rfl, N2, K2, fx3, fx4⟩
theorem d6_0 : decode jdk_38_method_2_code 0 = .ok (.aload_n 0, 1) := by decide +kernel
theorem d6_1 : decode jdk_38_method_2_code 1 = .ok (.invokespecial 1, 3) := by decide +kernel
theorem d6_4 : decode jdk_38_method_2_code 4 = .ok (.aload_n 0, 1) := by decide +kernel
theorem d6_5 : decode jdk_38_method_2_code 5 = .ok (.getstatic 39, 3) := by decide +kernel
theorem d6_8 : decode jdk_38_method_2_code 8 = .ok (.putfield 9, 3) := by decide +kernel
theorem d6_11 : decode jdk_38_method_2_code 11 = .ok (.return_, 1) := by decide +kernel
theorem pn_rm6 : plainName "java/util/ArrayList" = true := by first | (simp [plainName, overriddenIn]; done) | decide +kernel
theorem pd6_0 : parseMethodDescriptor "()V" = some ⟨[], none⟩ := by decide +kernel
theorem ef_rm6 (m : MethodId) (o0 : Addr) : entryFrame m #[(.ref o0)] 1 = mkF m 0 #[.val (.ref o0)] [] := by first | (simp [entryFrame, mkF, argsToLocals, Value.category]; done) | rfl
set_option maxRecDepth 65536 in
set_option maxHeartbeats 40000000 in
theorem rm6 (l : Launch) (Z : State) (a0 : Array Value) (hw : ∀ d ∈ tables_1, d.before a0 Z = true) (o0 : Addr) (ea : Addr) (h0 : Heap) (n0 : Nat) (Z0 : n0 ≤ h0.size) (g_o0 : n0 ≤ o0) (P0 : Exa Z h0 o0 "java/util/ArrayList") (P1 : Fld Z h0 o0 "java/util/AbstractList" "modCount" "I" (.int (0 : Int32))) (P2 : Fld Z h0 o0 "java/util/ArrayList" "elementData" "[Ljava/lang/Object;" .null) (P3 : Sta Z h0 "java/util/ArrayList" "DEFAULTCAPACITY_EMPTY_ELEMENTDATA" "[Ljava/lang/Object;" (.ref ea)) :
    own_Met l Z (⟨"java/util/ArrayList", "<init>", "()V"⟩ : MethodName) jdk_38_method_2_code 1 none [] ({ frames := 3, cells := 0, slots := 0, locals := 36 } : Room) #[(.ref o0)] h0 0 0 (fun v h L => v = none ∧ Fr n0 L ∧ Keep h0 h [o0] ∧ Exa Z h o0 "java/util/ArrayList") := by
  refine own_met (plainFor_of_name pn_rm6) ?_
  intro p e s m below meth c s₁ Bd hml0 hZ X0 e0
  have hx := Bd.exec
  have hby := Bd.bytes
  have hml : c.maxLocals = 1 := hml0
  have hown : s.vm.findClass "java/util/ArrayList" = some m.cls := findClass_of_methodNamed Bd.named
  have hnm := (name_of_methodNamed Bd.named Bd.method).1
  refine own_cast (ef_rm6 m o0) ?_
  generalize hQQ : (fun (v : Option Value) (h : Heap) (L : List Loc) => v = none ∧ Fr n0 L ∧ Keep h0 h [o0] ∧ Exa Z h o0 "java/util/ArrayList") = QQ
  have N0 := Fr.nil n0
  have K0 := Keep.refl h0 [o0]
  refine own_go (g' := (mkF m 1 #[.val (.ref o0)] [(.ref o0)])) (fun _ kgo => XS.aloadN X0.here hx rfl (hb hby d6_0) rfl rfl kgo) ?_
  obtain ⟨v1, T1, L1, hQ1, X1, st1⟩ := own_callI X0 hx hZ (y := (⟨"java/util/AbstractList", "<init>", "()V"⟩ : MethodName)) rfl hown (hw _ (List.mem_of_getElem? (i := 46) rfl)) (hw _ (List.mem_of_getElem? (i := 47) rfl)) (hw _ (List.mem_of_getElem? (i := 50) rfl)) (hw _ (List.mem_of_getElem? (i := 51) rfl)) ⟨by decide, by decide⟩ (a := o0) (argsL := []) (rm7 l Z a0 hw o0 h0 n0 Z0 g_o0 P0 P1 P2) e0 (g := (mkF m 1 #[.val (.ref o0)] [(.ref o0)])) rfl (by rw [hml]; rfl) (rest := []) (lenOf pd6_0 rfl) rfl (hb hby d6_1) (W := 0) (by show 2 * 0 + _ ≤ _; exact Nat.le_of_eq rfl) (by decide) (by decide) (by decide) (by decide)
  obtain ⟨rfl, Nq1, Kq1, q1_0, q1_1⟩ := hQ1
  have N1 := Fr.app N0 Nq1
  have Z1 : n0 ≤ T1.heap.size := Nat.le_trans Z0 Kq1.1
  have KK1 : Keep h0 T1.heap [o0] := K0.trans Kq1 (allS (Or.inl (List.mem_of_getElem? (i := 0) rfl)) all0)
  refine own_go (g' := (mkF m 4 #[.val (.ref o0)] [])) (st1) ?_
  refine own_go (g' := (mkF m 5 #[.val (.ref o0)] [(.ref o0)])) (fun _ kgo => XS.aloadN X1.here hx rfl (hb hby d6_4) rfl rfl kgo) ?_
  have fx2 : Sta Z T1.heap "java/util/ArrayList" "DEFAULTCAPACITY_EMPTY_ELEMENTDATA" "[Ljava/lang/Object;" (.ref ea) := (own_sta_keep P3 Kq1 (allS (own_ns_exa P0) all0))
  obtain ⟨T3, X3, e3, st3⟩ := getS2 X1 hx hZ hown (host := "") (Or.inl (hw _ (List.mem_of_getElem? (i := 61) rfl))) Via.refl rfl fx2 (g := (mkF m 5 #[.val (.ref o0)] [(.ref o0)])) rfl (hb hby d6_5)
  refine own_go (g' := (mkF m 8 #[.val (.ref o0)] [(.ref ea), (.ref o0)])) (st3) ?_
  obtain ⟨T4, h4, X4, e4, W4, st4⟩ := putF X3 hx hZ hown (host := "") (Or.inl (hw _ (List.mem_of_getElem? (i := 62) rfl))) Via.refl e3 q1_1 q1_0 (Or.inl (hw _ (List.mem_of_getElem? (i := 63) rfl))) (hw _ (List.mem_of_getElem? (i := 41) rfl)) (ty := (.array (.object "java/lang/Object"))) (by decide) rfl rfl (g := (mkF m 8 #[.val (.ref o0)] [(.ref ea), (.ref o0)])) rfl rfl (hb hby d6_8)
  have fw4 := Fld.same W4 q1_1
  have N4 := Fr.snoc X4 N1 g_o0
  have Z4 : n0 ≤ h4.size := by rw [W4.size]; exact Z1
  have K4 : Keep h0 h4 [o0] := KK1.wr W4 (Or.inl (List.mem_of_getElem? (i := 0) rfl))
  refine own_go (g' := (mkF m 11 #[.val (.ref o0)] [])) (st4) ?_
  refine own_retV X4 hx Bd.returns Bd.notSynchronized (hb hby d6_11) (by decide) (by decide) ?_
  show QQ _ T4.heap _
  rw [e4]
  have fx5 : Exa Z h4 o0 "java/util/ArrayList" := (Exa.wr W4 q1_0)
  rw [← hQQ]
  exact ⟨rfl, N4, K4, fx5⟩
theorem d14_0 : decode jdk_69_method_7_code 0 = .ok (.aload_n 0, 1) := by decide +kernel
theorem d14_1 : decode jdk_69_method_7_code 1 = .ok (.invokespecial 43, 3) := by decide +kernel
theorem d14_4 : decode jdk_69_method_7_code 4 = .ok (.aload_n 0, 1) := by decide +kernel
theorem d14_5 : decode jdk_69_method_7_code 5 = .ok (.ldc 92, 2) := by decide +kernel
theorem d14_7 : decode jdk_69_method_7_code 7 = .ok (.putfield 81, 3) := by decide +kernel
theorem d14_10 : decode jdk_69_method_7_code 10 = .ok (.return_, 1) := by decide +kernel
theorem pn_rm14 : plainName "java/util/HashMap" = true := by first | (simp [plainName, overriddenIn]; done) | decide +kernel
theorem pd14_0 : parseMethodDescriptor "()V" = some ⟨[], none⟩ := by decide +kernel
theorem ef_rm14 (m : MethodId) (o0 : Addr) : entryFrame m #[(.ref o0)] 1 = mkF m 0 #[.val (.ref o0)] [] := by first | (simp [entryFrame, mkF, argsToLocals, Value.category]; done) | rfl
set_option maxRecDepth 65536 in
set_option maxHeartbeats 40000000 in
theorem rm14 (l : Launch) (Z : State) (a0 : Array Value) (hw : ∀ d ∈ tables_1, d.before a0 Z = true) (o0 : Addr)  (h0 : Heap) (n0 : Nat) (Z0 : n0 ≤ h0.size) (g_o0 : n0 ≤ o0) (P0 : Exa Z h0 o0 "java/util/HashMap") (P1 : Fld Z h0 o0 "java/util/HashMap" "loadFactor" "F" (.float (0 : UInt32))) :
    own_Met l Z (⟨"java/util/HashMap", "<init>", "()V"⟩ : MethodName) jdk_69_method_7_code 1 none [] ({ frames := 2, cells := 0, slots := 0, locals := 24 } : Room) #[(.ref o0)] h0 0 0 (fun v h L => v = none ∧ Fr n0 L ∧ Keep h0 h [o0] ∧ Exa Z h o0 "java/util/HashMap") := by
  refine own_met (plainFor_of_name pn_rm14) ?_
  intro p e s m below meth c s₁ Bd hml0 hZ X0 e0
  have hx := Bd.exec
  have hby := Bd.bytes
  have hml : c.maxLocals = 1 := hml0
  have hown : s.vm.findClass "java/util/HashMap" = some m.cls := findClass_of_methodNamed Bd.named
  have hnm := (name_of_methodNamed Bd.named Bd.method).1
  refine own_cast (ef_rm14 m o0) ?_
  generalize hQQ : (fun (v : Option Value) (h : Heap) (L : List Loc) => v = none ∧ Fr n0 L ∧ Keep h0 h [o0] ∧ Exa Z h o0 "java/util/HashMap") = QQ
  have N0 := Fr.nil n0
  have K0 := Keep.refl h0 [o0]
  refine own_go (g' := (mkF m 1 #[.val (.ref o0)] [(.ref o0)])) (fun _ kgo => XS.aloadN X0.here hx rfl (hb hby d14_0) rfl rfl kgo) ?_
  obtain ⟨v1, T1, L1, hQ1, X1, st1⟩ := own_callI X0 hx hZ (y := (⟨"java/util/AbstractMap", "<init>", "()V"⟩ : MethodName)) rfl hown (hw _ (List.mem_of_getElem? (i := 113) rfl)) (hw _ (List.mem_of_getElem? (i := 114) rfl)) (hw _ (List.mem_of_getElem? (i := 117) rfl)) (hw _ (List.mem_of_getElem? (i := 118) rfl)) ⟨by decide, by decide⟩ (a := o0) (argsL := []) (rm15 l Z a0 hw o0 h0) e0 (g := (mkF m 1 #[.val (.ref o0)] [(.ref o0)])) rfl (by rw [hml]; rfl) (rest := []) (lenOf pd14_0 rfl) rfl (hb hby d14_1) (W := 0) (by show 2 * 0 + _ ≤ _; exact Nat.le_of_eq rfl) (by decide) (by decide) (by decide) (by decide)
  obtain ⟨rfl, e1, rfl⟩ := hQ1
  have N1 := Fr.app N0 (Fr.nil n0)
  refine own_go (g' := (mkF m 4 #[.val (.ref o0)] [])) (st1) ?_
  refine own_go (g' := (mkF m 5 #[.val (.ref o0)] [(.ref o0)])) (fun _ kgo => XS.aloadN X1.here hx rfl (hb hby d14_4) rfl rfl kgo) ?_
  refine own_go (g' := (mkF m 7 #[.val (.ref o0)] [(.float (1061158912 : UInt32)), (.ref o0)])) (X1.ldcFloatC hx hown (mvT hZ (hw _ (List.mem_of_getElem? (i := 120) rfl))) (g := (mkF m 5 #[.val (.ref o0)] [(.ref o0)])) rfl (hb hby d14_5)) ?_
  obtain ⟨T2, h2, X2, e2, W2, st2⟩ := putF X1 hx hZ hown (host := "") (Or.inl (hw _ (List.mem_of_getElem? (i := 121) rfl))) Via.refl e1 P1 P0 (Or.inr ⟨(hw _ (List.mem_of_getElem? (i := 122) rfl)), rfl, hnm⟩) (hw _ (List.mem_of_getElem? (i := 108) rfl)) (ty := .float) (by decide) rfl rfl (g := (mkF m 7 #[.val (.ref o0)] [(.float (1061158912 : UInt32)), (.ref o0)])) rfl rfl (hb hby d14_7)
  have fw2 := Fld.same W2 P1
  have N2 := Fr.snoc X2 N1 g_o0
  have Z2 : n0 ≤ h2.size := by rw [W2.size]; exact Z0
  have K2 : Keep h0 h2 [o0] := K0.wr W2 (Or.inl (List.mem_of_getElem? (i := 0) rfl))
  refine own_go (g' := (mkF m 10 #[.val (.ref o0)] [])) (st2) ?_
  refine own_retV X2 hx Bd.returns Bd.notSynchronized (hb hby d14_10) (by decide) (by decide) ?_
  show QQ _ T2.heap _
  rw [e2]
  have fx3 : Exa Z h2 o0 "java/util/HashMap" := (Exa.wr W2 P0)
  rw [← hQQ]
  exact ⟨rfl, N2, K2, fx3⟩
theorem d2_0 : decode prog_42_method_2_code 0 = .ok (.aload_n 0, 1) := by decide +kernel
theorem d2_1 : decode prog_42_method_2_code 1 = .ok (.invokespecial 1, 3) := by decide +kernel
theorem d2_4 : decode prog_42_method_2_code 4 = .ok (.aload_n 0, 1) := by decide +kernel
theorem d2_5 : decode prog_42_method_2_code 5 = .ok (.aload_n 1, 1) := by decide +kernel
theorem d2_6 : decode prog_42_method_2_code 6 = .ok (.putfield 7, 3) := by decide +kernel
theorem d2_9 : decode prog_42_method_2_code 9 = .ok (.aload_n 0, 1) := by decide +kernel
theorem d2_10 : decode prog_42_method_2_code 10 = .ok (.iload_n 2, 1) := by decide +kernel
theorem d2_11 : decode prog_42_method_2_code 11 = .ok (.putfield 13, 3) := by decide +kernel
theorem d2_14 : decode prog_42_method_2_code 14 = .ok (.aload_n 0, 1) := by decide +kernel
theorem d2_15 : decode prog_42_method_2_code 15 = .ok (.iload_n 3, 1) := by decide +kernel
theorem d2_16 : decode prog_42_method_2_code 16 = .ok (.putfield 17, 3) := by decide +kernel
theorem d2_19 : decode prog_42_method_2_code 19 = .ok (.aload_n 0, 1) := by decide +kernel
theorem d2_20 : decode prog_42_method_2_code 20 = .ok (.aload 4, 2) := by decide +kernel
theorem d2_22 : decode prog_42_method_2_code 22 = .ok (.putfield 20, 3) := by decide +kernel
theorem d2_25 : decode prog_42_method_2_code 25 = .ok (.return_, 1) := by decide +kernel
theorem pn_lo2 : plainName "com/example/restlint/restlint/document/Location" = true := by first | (simp [plainName, overriddenIn]; done) | decide +kernel
theorem pd2_0 : parseMethodDescriptor "()V" = some ⟨[], none⟩ := by decide +kernel
theorem ef_lo2 (m : MethodId) (o0 : Addr) (o1 : Addr) (p2 : Int32) (p3 : Int32) : entryFrame m #[(.ref o0), (.ref o1), (.int p2), (.int p3), .null] 5 = mkF m 0 #[.val (.ref o0), .val (.ref o1), .val (.int p2), .val (.int p3), .val .null] [] := by first | (simp [entryFrame, mkF, argsToLocals, Value.category]; done) | rfl
set_option maxRecDepth 65536 in
set_option maxHeartbeats 40000000 in
theorem lo2 (l : Launch) (Z : State) (a0 : Array Value) (hw : ∀ d ∈ tables_1, d.before a0 Z = true) (o0 : Addr) (o1 : Addr) (p2 : Int32) (p3 : Int32)  (h0 : Heap) (n0 : Nat) (Z0 : n0 ≤ h0.size) (g_o0 : n0 ≤ o0) (P0 : Exa Z h0 o0 "com/example/restlint/restlint/document/Location") (P1 : Fld Z h0 o0 "com/example/restlint/restlint/document/Location" "file" "Ljava/lang/String;" .null) (P2 : Fld Z h0 o0 "com/example/restlint/restlint/document/Location" "line" "I" (.int (0 : Int32))) (P3 : Fld Z h0 o0 "com/example/restlint/restlint/document/Location" "column" "I" (.int (0 : Int32))) (P4 : Fld Z h0 o0 "com/example/restlint/restlint/document/Location" "pointer" "Lcom/example/restlint/restlint/document/JsonPointer;" .null) :
    own_Met l Z (⟨"com/example/restlint/restlint/document/Location", "<init>", "(Ljava/lang/String;IILcom/example/restlint/restlint/document/JsonPointer;)V"⟩ : MethodName) prog_42_method_2_code 5 none [] ({ frames := 2, cells := 0, slots := 0, locals := 24 } : Room) #[(.ref o0), (.ref o1), (.int p2), (.int p3), .null] h0 0 0 (fun v h L => v = none ∧ Fr n0 L ∧ Keep h0 h [o0] ∧ Exa Z h o0 "com/example/restlint/restlint/document/Location") := by
  refine own_met (plainFor_of_name pn_lo2) ?_
  intro p e s m below meth c s₁ Bd hml0 hZ X0 e0
  have hx := Bd.exec
  have hby := Bd.bytes
  have hml : c.maxLocals = 5 := hml0
  have hown : s.vm.findClass "com/example/restlint/restlint/document/Location" = some m.cls := findClass_of_methodNamed Bd.named
  have hnm := (name_of_methodNamed Bd.named Bd.method).1
  refine own_cast (ef_lo2 m o0 o1 p2 p3) ?_
  generalize hQQ : (fun (v : Option Value) (h : Heap) (L : List Loc) => v = none ∧ Fr n0 L ∧ Keep h0 h [o0] ∧ Exa Z h o0 "com/example/restlint/restlint/document/Location") = QQ
  have N0 := Fr.nil n0
  have K0 := Keep.refl h0 [o0]
  refine own_go (g' := (mkF m 1 #[.val (.ref o0), .val (.ref o1), .val (.int p2), .val (.int p3), .val .null] [(.ref o0)])) (fun _ kgo => XS.aloadN X0.here hx rfl (hb hby d2_0) rfl rfl kgo) ?_
  obtain ⟨v1, T1, L1, hQ1, X1, st1⟩ := own_callI X0 hx hZ (y := (⟨"java/lang/Record", "<init>", "()V"⟩ : MethodName)) rfl hown (hw _ (List.mem_of_getElem? (i := 17) rfl)) (hw _ (List.mem_of_getElem? (i := 18) rfl)) (hw _ (List.mem_of_getElem? (i := 20) rfl)) (hw _ (List.mem_of_getElem? (i := 21) rfl)) ⟨by decide, by decide⟩ (a := o0) (argsL := []) (rm3 l Z a0 hw o0 h0) e0 (g := (mkF m 1 #[.val (.ref o0), .val (.ref o1), .val (.int p2), .val (.int p3), .val .null] [(.ref o0)])) rfl (by rw [hml]; rfl) (rest := []) (lenOf pd2_0 rfl) rfl (hb hby d2_1) (W := 0) (by show 2 * 0 + _ ≤ _; exact Nat.le_of_eq rfl) (by decide) (by decide) (by decide) (by decide)
  obtain ⟨rfl, e1, rfl⟩ := hQ1
  have N1 := Fr.app N0 (Fr.nil n0)
  refine own_go (g' := (mkF m 4 #[.val (.ref o0), .val (.ref o1), .val (.int p2), .val (.int p3), .val .null] [])) (st1) ?_
  refine own_go (g' := (mkF m 5 #[.val (.ref o0), .val (.ref o1), .val (.int p2), .val (.int p3), .val .null] [(.ref o0)])) (fun _ kgo => XS.aloadN X1.here hx rfl (hb hby d2_4) rfl rfl kgo) ?_
  refine own_go (g' := (mkF m 6 #[.val (.ref o0), .val (.ref o1), .val (.int p2), .val (.int p3), .val .null] [(.ref o1), (.ref o0)])) (fun _ kgo => XS.aloadN X1.here hx rfl (hb hby d2_5) rfl rfl kgo) ?_
  obtain ⟨T2, h2, X2, e2, W2, st2⟩ := putF X1 hx hZ hown (host := "") (Or.inl (hw _ (List.mem_of_getElem? (i := 25) rfl))) Via.refl e1 P1 P0 (Or.inr ⟨(hw _ (List.mem_of_getElem? (i := 26) rfl)), rfl, hnm⟩) (hw _ (List.mem_of_getElem? (i := 1) rfl)) (ty := (.object "java/lang/String")) (by decide) rfl rfl (g := (mkF m 6 #[.val (.ref o0), .val (.ref o1), .val (.int p2), .val (.int p3), .val .null] [(.ref o1), (.ref o0)])) rfl rfl (hb hby d2_6)
  have fw2 := Fld.same W2 P1
  have N2 := Fr.snoc X2 N1 g_o0
  have Z2 : n0 ≤ h2.size := by rw [W2.size]; exact Z0
  have K2 : Keep h0 h2 [o0] := K0.wr W2 (Or.inl (List.mem_of_getElem? (i := 0) rfl))
  refine own_go (g' := (mkF m 9 #[.val (.ref o0), .val (.ref o1), .val (.int p2), .val (.int p3), .val .null] [])) (st2) ?_
  refine own_go (g' := (mkF m 10 #[.val (.ref o0), .val (.ref o1), .val (.int p2), .val (.int p3), .val .null] [(.ref o0)])) (fun _ kgo => XS.aloadN X2.here hx rfl (hb hby d2_9) rfl rfl kgo) ?_
  refine own_go (g' := (mkF m 11 #[.val (.ref o0), .val (.ref o1), .val (.int p2), .val (.int p3), .val .null] [(.int p2), (.ref o0)])) (fun _ kgo => XS.iloadN X2.here hx rfl (hb hby d2_10) rfl kgo) ?_
  have fx3 : Fld Z h2 o0 "com/example/restlint/restlint/document/Location" "line" "I" (.int (0 : Int32)) := (Fld.other W2 P2 (Or.inr (slot_ne (Or.inr (hw _ (List.mem_of_getElem? (i := 28) rfl))) (Or.inr (hw _ (List.mem_of_getElem? (i := 26) rfl))) (by decide) (t := .int) (t' := (.object "java/lang/String")) (by decide) (by decide))))
  have fx4 : Exa Z h2 o0 "com/example/restlint/restlint/document/Location" := (Exa.wr W2 P0)
  obtain ⟨T5, h5, X5, e5, W5, st5⟩ := putF X2 hx hZ hown (host := "") (Or.inl (hw _ (List.mem_of_getElem? (i := 27) rfl))) Via.refl e2 fx3 fx4 (Or.inr ⟨(hw _ (List.mem_of_getElem? (i := 28) rfl)), rfl, hnm⟩) (hw _ (List.mem_of_getElem? (i := 1) rfl)) (ty := .int) (by decide) rfl rfl (g := (mkF m 11 #[.val (.ref o0), .val (.ref o1), .val (.int p2), .val (.int p3), .val .null] [(.int p2), (.ref o0)])) rfl rfl (hb hby d2_11)
  have fw5 := Fld.same W5 fx3
  have N5 := Fr.snoc X5 N2 g_o0
  have Z5 : n0 ≤ h5.size := by rw [W5.size]; exact Z2
  have K5 : Keep h0 h5 [o0] := K2.wr W5 (Or.inl (List.mem_of_getElem? (i := 0) rfl))
  refine own_go (g' := (mkF m 14 #[.val (.ref o0), .val (.ref o1), .val (.int p2), .val (.int p3), .val .null] [])) (st5) ?_
  refine own_go (g' := (mkF m 15 #[.val (.ref o0), .val (.ref o1), .val (.int p2), .val (.int p3), .val .null] [(.ref o0)])) (fun _ kgo => XS.aloadN X5.here hx rfl (hb hby d2_14) rfl rfl kgo) ?_
  refine own_go (g' := (mkF m 16 #[.val (.ref o0), .val (.ref o1), .val (.int p2), .val (.int p3), .val .null] [(.int p3), (.ref o0)])) (fun _ kgo => XS.iloadN X5.here hx rfl (hb hby d2_15) rfl kgo) ?_
  have fx6 : Fld Z h5 o0 "com/example/restlint/restlint/document/Location" "column" "I" (.int (0 : Int32)) := (Fld.other W5 (Fld.other W2 P3 (Or.inr (slot_ne (Or.inr (hw _ (List.mem_of_getElem? (i := 30) rfl))) (Or.inr (hw _ (List.mem_of_getElem? (i := 26) rfl))) (by decide) (t := .int) (t' := (.object "java/lang/String")) (by decide) (by decide)))) (Or.inr (slot_ne (Or.inr (hw _ (List.mem_of_getElem? (i := 30) rfl))) (Or.inr (hw _ (List.mem_of_getElem? (i := 28) rfl))) (by decide) (t := .int) (t' := .int) (by decide) (by decide))))
  have fx7 : Exa Z h5 o0 "com/example/restlint/restlint/document/Location" := (Exa.wr W5 fx4)
  obtain ⟨T8, h8, X8, e8, W8, st8⟩ := putF X5 hx hZ hown (host := "") (Or.inl (hw _ (List.mem_of_getElem? (i := 29) rfl))) Via.refl e5 fx6 fx7 (Or.inr ⟨(hw _ (List.mem_of_getElem? (i := 30) rfl)), rfl, hnm⟩) (hw _ (List.mem_of_getElem? (i := 1) rfl)) (ty := .int) (by decide) rfl rfl (g := (mkF m 16 #[.val (.ref o0), .val (.ref o1), .val (.int p2), .val (.int p3), .val .null] [(.int p3), (.ref o0)])) rfl rfl (hb hby d2_16)
  have fw8 := Fld.same W8 fx6
  have N8 := Fr.snoc X8 N5 g_o0
  have Z8 : n0 ≤ h8.size := by rw [W8.size]; exact Z5
  have K8 : Keep h0 h8 [o0] := K5.wr W8 (Or.inl (List.mem_of_getElem? (i := 0) rfl))
  refine own_go (g' := (mkF m 19 #[.val (.ref o0), .val (.ref o1), .val (.int p2), .val (.int p3), .val .null] [])) (st8) ?_
  refine own_go (g' := (mkF m 20 #[.val (.ref o0), .val (.ref o1), .val (.int p2), .val (.int p3), .val .null] [(.ref o0)])) (fun _ kgo => XS.aloadN X8.here hx rfl (hb hby d2_19) rfl rfl kgo) ?_
  refine own_go (g' := (mkF m 22 #[.val (.ref o0), .val (.ref o1), .val (.int p2), .val (.int p3), .val .null] [.null, (.ref o0)])) (fun _ kgo => XS.aload X8.here hx rfl (hb hby d2_20) rfl rfl kgo) ?_
  have fx9 : Fld Z h8 o0 "com/example/restlint/restlint/document/Location" "pointer" "Lcom/example/restlint/restlint/document/JsonPointer;" .null := (Fld.other W8 (Fld.other W5 (Fld.other W2 P4 (Or.inr (slot_ne (Or.inr (hw _ (List.mem_of_getElem? (i := 32) rfl))) (Or.inr (hw _ (List.mem_of_getElem? (i := 26) rfl))) (by decide) (t := (.object "com/example/restlint/restlint/document/JsonPointer")) (t' := (.object "java/lang/String")) (by decide) (by decide)))) (Or.inr (slot_ne (Or.inr (hw _ (List.mem_of_getElem? (i := 32) rfl))) (Or.inr (hw _ (List.mem_of_getElem? (i := 28) rfl))) (by decide) (t := (.object "com/example/restlint/restlint/document/JsonPointer")) (t' := .int) (by decide) (by decide)))) (Or.inr (slot_ne (Or.inr (hw _ (List.mem_of_getElem? (i := 32) rfl))) (Or.inr (hw _ (List.mem_of_getElem? (i := 30) rfl))) (by decide) (t := (.object "com/example/restlint/restlint/document/JsonPointer")) (t' := .int) (by decide) (by decide))))
  have fx10 : Exa Z h8 o0 "com/example/restlint/restlint/document/Location" := (Exa.wr W8 fx7)
  obtain ⟨T11, h11, X11, e11, W11, st11⟩ := putF X8 hx hZ hown (host := "") (Or.inl (hw _ (List.mem_of_getElem? (i := 31) rfl))) Via.refl e8 fx9 fx10 (Or.inr ⟨(hw _ (List.mem_of_getElem? (i := 32) rfl)), rfl, hnm⟩) (hw _ (List.mem_of_getElem? (i := 1) rfl)) (ty := (.object "com/example/restlint/restlint/document/JsonPointer")) (by decide) rfl rfl (g := (mkF m 22 #[.val (.ref o0), .val (.ref o1), .val (.int p2), .val (.int p3), .val .null] [.null, (.ref o0)])) rfl rfl (hb hby d2_22)
  have fw11 := Fld.same W11 fx9
  have N11 := Fr.snoc X11 N8 g_o0
  have Z11 : n0 ≤ h11.size := by rw [W11.size]; exact Z8
  have K11 : Keep h0 h11 [o0] := K8.wr W11 (Or.inl (List.mem_of_getElem? (i := 0) rfl))
  refine own_go (g' := (mkF m 25 #[.val (.ref o0), .val (.ref o1), .val (.int p2), .val (.int p3), .val .null] [])) (st11) ?_
  refine own_retV X11 hx Bd.returns Bd.notSynchronized (hb hby d2_25) (by decide) (by decide) ?_
  show QQ _ T11.heap _
  rw [e11]
  have fx12 : Exa Z h11 o0 "com/example/restlint/restlint/document/Location" := (Exa.wr W11 fx10)
  rw [← hQQ]
  exact ⟨rfl, N11, K11, fx12⟩
theorem d1_0 : decode prog_42_method_1_code 0 = .ok (.aload_n 0, 1) := by decide +kernel
theorem d1_1 : decode prog_42_method_1_code 1 = .ok (.aload_n 1, 1) := by decide +kernel
theorem d1_2 : decode prog_42_method_1_code 2 = .ok (.iload_n 2, 1) := by decide +kernel
theorem d1_3 : decode prog_42_method_1_code 3 = .ok (.iload_n 3, 1) := by decide +kernel
theorem d1_4 : decode prog_42_method_1_code 4 = .ok (.aconst_null, 1) := by decide +kernel
theorem d1_5 : decode prog_42_method_1_code 5 = .ok (.invokespecial 24, 3) := by decide +kernel
theorem d1_8 : decode prog_42_method_1_code 8 = .ok (.return_, 1) := by decide +kernel
theorem pn_lo1 : plainName "com/example/restlint/restlint/document/Location" = true := by first | (simp [plainName, overriddenIn]; done) | decide +kernel
theorem pd1_0 : parseMethodDescriptor "(Ljava/lang/String;IILcom/example/restlint/restlint/document/JsonPointer;)V" = some ⟨[(.object "java/lang/String"), .int, .int, (.object "com/example/restlint/restlint/document/JsonPointer")], none⟩ := by decide +kernel
theorem ef_lo1 (m : MethodId) (o0 : Addr) (o1 : Addr) (p2 : Int32) (p3 : Int32) : entryFrame m #[(.ref o0), (.ref o1), (.int p2), (.int p3)] 4 = mkF m 0 #[.val (.ref o0), .val (.ref o1), .val (.int p2), .val (.int p3)] [] := by first | (simp [entryFrame, mkF, argsToLocals, Value.category]; done) | rfl
set_option maxRecDepth 65536 in
set_option maxHeartbeats 40000000 in
theorem lo1 (l : Launch) (Z : State) (a0 : Array Value) (hw : ∀ d ∈ tables_1, d.before a0 Z = true) (o0 : Addr) (o1 : Addr) (p2 : Int32) (p3 : Int32)  (h0 : Heap) (n0 : Nat) (Z0 : n0 ≤ h0.size) (g_o0 : n0 ≤ o0) (P0 : Exa Z h0 o0 "com/example/restlint/restlint/document/Location") (P1 : Fld Z h0 o0 "com/example/restlint/restlint/document/Location" "file" "Ljava/lang/String;" .null) (P2 : Fld Z h0 o0 "com/example/restlint/restlint/document/Location" "line" "I" (.int (0 : Int32))) (P3 : Fld Z h0 o0 "com/example/restlint/restlint/document/Location" "column" "I" (.int (0 : Int32))) (P4 : Fld Z h0 o0 "com/example/restlint/restlint/document/Location" "pointer" "Lcom/example/restlint/restlint/document/JsonPointer;" .null) :
    own_Met l Z (⟨"com/example/restlint/restlint/document/Location", "<init>", "(Ljava/lang/String;II)V"⟩ : MethodName) prog_42_method_1_code 4 none [] ({ frames := 3, cells := 0, slots := 0, locals := 40 } : Room) #[(.ref o0), (.ref o1), (.int p2), (.int p3)] h0 0 0 (fun v h L => v = none ∧ Fr n0 L ∧ Keep h0 h [o0] ∧ Exa Z h o0 "com/example/restlint/restlint/document/Location") := by
  refine own_met (plainFor_of_name pn_lo1) ?_
  intro p e s m below meth c s₁ Bd hml0 hZ X0 e0
  have hx := Bd.exec
  have hby := Bd.bytes
  have hml : c.maxLocals = 4 := hml0
  have hown : s.vm.findClass "com/example/restlint/restlint/document/Location" = some m.cls := findClass_of_methodNamed Bd.named
  have hnm := (name_of_methodNamed Bd.named Bd.method).1
  refine own_cast (ef_lo1 m o0 o1 p2 p3) ?_
  generalize hQQ : (fun (v : Option Value) (h : Heap) (L : List Loc) => v = none ∧ Fr n0 L ∧ Keep h0 h [o0] ∧ Exa Z h o0 "com/example/restlint/restlint/document/Location") = QQ
  have N0 := Fr.nil n0
  have K0 := Keep.refl h0 [o0]
  refine own_go (g' := (mkF m 1 #[.val (.ref o0), .val (.ref o1), .val (.int p2), .val (.int p3)] [(.ref o0)])) (fun _ kgo => XS.aloadN X0.here hx rfl (hb hby d1_0) rfl rfl kgo) ?_
  refine own_go (g' := (mkF m 2 #[.val (.ref o0), .val (.ref o1), .val (.int p2), .val (.int p3)] [(.ref o1), (.ref o0)])) (fun _ kgo => XS.aloadN X0.here hx rfl (hb hby d1_1) rfl rfl kgo) ?_
  refine own_go (g' := (mkF m 3 #[.val (.ref o0), .val (.ref o1), .val (.int p2), .val (.int p3)] [(.int p2), (.ref o1), (.ref o0)])) (fun _ kgo => XS.iloadN X0.here hx rfl (hb hby d1_2) rfl kgo) ?_
  refine own_go (g' := (mkF m 4 #[.val (.ref o0), .val (.ref o1), .val (.int p2), .val (.int p3)] [(.int p3), (.int p2), (.ref o1), (.ref o0)])) (fun _ kgo => XS.iloadN X0.here hx rfl (hb hby d1_3) rfl kgo) ?_
  refine own_go (g' := (mkF m 5 #[.val (.ref o0), .val (.ref o1), .val (.int p2), .val (.int p3)] [.null, (.int p3), (.int p2), (.ref o1), (.ref o0)])) (fun _ kgo => XS.aconstNull X0.here hx rfl (hb hby d1_4) kgo) ?_
  obtain ⟨v1, T1, L1, hQ1, X1, st1⟩ := own_callI X0 hx hZ (y := (⟨"com/example/restlint/restlint/document/Location", "<init>", "(Ljava/lang/String;IILcom/example/restlint/restlint/document/JsonPointer;)V"⟩ : MethodName)) rfl hown (hw _ (List.mem_of_getElem? (i := 14) rfl)) (hw _ (List.mem_of_getElem? (i := 15) rfl)) (hw _ (List.mem_of_getElem? (i := 2) rfl)) (hw _ (List.mem_of_getElem? (i := 16) rfl)) ⟨by decide, by decide⟩ (a := o0) (argsL := [(.ref o1), (.int p2), (.int p3), .null]) (lo2 l Z a0 hw o0 o1 p2 p3 h0 n0 Z0 g_o0 P0 P1 P2 P3 P4) e0 (g := (mkF m 5 #[.val (.ref o0), .val (.ref o1), .val (.int p2), .val (.int p3)] [.null, (.int p3), (.int p2), (.ref o1), (.ref o0)])) rfl (by rw [hml]; rfl) (rest := []) (lenOf pd1_0 rfl) rfl (hb hby d1_5) (W := 0) (by show 2 * 0 + _ ≤ _; exact Nat.le_of_eq rfl) (by decide) (by decide) (by decide) (by decide)
  obtain ⟨rfl, Nq1, Kq1, q1_0⟩ := hQ1
  have N1 := Fr.app N0 Nq1
  have Z1 : n0 ≤ T1.heap.size := Nat.le_trans Z0 Kq1.1
  have KK1 : Keep h0 T1.heap [o0] := K0.trans Kq1 (allS (Or.inl (List.mem_of_getElem? (i := 0) rfl)) all0)
  refine own_go (g' := (mkF m 8 #[.val (.ref o0), .val (.ref o1), .val (.int p2), .val (.int p3)] [])) (st1) ?_
  refine own_retV X1 hx Bd.returns Bd.notSynchronized (hb hby d1_8) (by decide) (by decide) ?_
  show QQ _ T1.heap _
  rw [← hQQ]
  exact ⟨rfl, N1, KK1, q1_0⟩
theorem d5_0 : decode prog_43_method_1_code 0 = .ok (.aload_n 0, 1) := by decide +kernel
theorem d5_1 : decode prog_43_method_1_code 1 = .ok (.invokespecial 1, 3) := by decide +kernel
theorem d5_4 : decode prog_43_method_1_code 4 = .ok (.aload_n 0, 1) := by decide +kernel
theorem d5_5 : decode prog_43_method_1_code 5 = .ok (.new 7, 3) := by decide +kernel
theorem d5_8 : decode prog_43_method_1_code 8 = .ok (.dup, 1) := by decide +kernel
theorem d5_9 : decode prog_43_method_1_code 9 = .ok (.invokespecial 9, 3) := by decide +kernel
theorem d5_12 : decode prog_43_method_1_code 12 = .ok (.putfield 10, 3) := by decide +kernel
theorem d5_15 : decode prog_43_method_1_code 15 = .ok (.aload_n 0, 1) := by decide +kernel
theorem d5_16 : decode prog_43_method_1_code 16 = .ok (.aload_n 1, 1) := by decide +kernel
theorem d5_17 : decode prog_43_method_1_code 17 = .ok (.putfield 16, 3) := by decide +kernel
theorem d5_20 : decode prog_43_method_1_code 20 = .ok (.aload_n 0, 1) := by decide +kernel
theorem d5_21 : decode prog_43_method_1_code 21 = .ok (.aload_n 2, 1) := by decide +kernel
theorem d5_22 : decode prog_43_method_1_code 22 = .ok (.putfield 20, 3) := by decide +kernel
theorem d5_25 : decode prog_43_method_1_code 25 = .ok (.return_, 1) := by decide +kernel
theorem pn_mni : plainName "com/example/restlint/restlint/document/MappingNode" = true := by first | (simp [plainName, overriddenIn]; done) | decide +kernel
theorem pd5_0 : parseMethodDescriptor "()V" = some ⟨[], none⟩ := by decide +kernel
theorem ef_mni (m : MethodId) (o0 : Addr) (o1 : Addr) (o2 : Addr) : entryFrame m #[(.ref o0), (.ref o1), (.ref o2)] 3 = mkF m 0 #[.val (.ref o0), .val (.ref o1), .val (.ref o2)] [] := by first | (simp [entryFrame, mkF, argsToLocals, Value.category]; done) | rfl
set_option maxRecDepth 65536 in
set_option maxHeartbeats 40000000 in
theorem mni (l : Launch) (Z : State) (a0 : Array Value) (hw : ∀ d ∈ tables_1, d.before a0 Z = true) (o0 : Addr) (o1 : Addr) (o2 : Addr) (ea : Addr) (h0 : Heap) (n0 : Nat) (Z0 : n0 ≤ h0.size) (g_o0 : n0 ≤ o0) (P0 : Exa Z h0 o0 "com/example/restlint/restlint/document/MappingNode") (P1 : Fld Z h0 o0 "com/example/restlint/restlint/document/MappingNode" "entries" "Ljava/util/List;" .null) (P2 : Fld Z h0 o0 "com/example/restlint/restlint/document/MappingNode" "location" "Lcom/example/restlint/restlint/document/Location;" .null) (P3 : Fld Z h0 o0 "com/example/restlint/restlint/document/MappingNode" "writtenAt" "Lcom/example/restlint/restlint/document/Location;" .null) (P4 : Fld Z h0 o0 "com/example/restlint/restlint/document/MappingNode" "applied" "Lcom/example/restlint/restlint/document/MappingNode$Applied;" .null) (P5 : Sta Z h0 "java/util/ArrayList" "DEFAULTCAPACITY_EMPTY_ELEMENTDATA" "[Ljava/lang/Object;" (.ref ea)) :
    own_Met l Z (⟨"com/example/restlint/restlint/document/MappingNode", "<init>", "(Lcom/example/restlint/restlint/document/Location;Lcom/example/restlint/restlint/document/Location;)V"⟩ : MethodName) prog_43_method_1_code 3 none [] ({ frames := 4, cells := 1, slots := 3, locals := 50 } : Room) #[(.ref o0), (.ref o1), (.ref o2)] h0 1 3 (fun v h L => v = none ∧ Fr n0 L ∧ Keep h0 h [o0] ∧ Exa Z h o0 "com/example/restlint/restlint/document/MappingNode" ∧ Fld Z h o0 "com/example/restlint/restlint/document/MappingNode" "applied" "Lcom/example/restlint/restlint/document/MappingNode$Applied;" .null) := by
  refine own_met (plainFor_of_name pn_mni) ?_
  intro p e s m below meth c s₁ Bd hml0 hZ X0 e0
  have hx := Bd.exec
  have hby := Bd.bytes
  have hml : c.maxLocals = 3 := hml0
  have hown : s.vm.findClass "com/example/restlint/restlint/document/MappingNode" = some m.cls := findClass_of_methodNamed Bd.named
  have hnm := (name_of_methodNamed Bd.named Bd.method).1
  refine own_cast (ef_mni m o0 o1 o2) ?_
  generalize hQQ : (fun (v : Option Value) (h : Heap) (L : List Loc) => v = none ∧ Fr n0 L ∧ Keep h0 h [o0] ∧ Exa Z h o0 "com/example/restlint/restlint/document/MappingNode" ∧ Fld Z h o0 "com/example/restlint/restlint/document/MappingNode" "applied" "Lcom/example/restlint/restlint/document/MappingNode$Applied;" .null) = QQ
  have N0 := Fr.nil n0
  have K0 := Keep.refl h0 [o0]
  refine own_go (g' := (mkF m 1 #[.val (.ref o0), .val (.ref o1), .val (.ref o2)] [(.ref o0)])) (fun _ kgo => XS.aloadN X0.here hx rfl (hb hby d5_0) rfl rfl kgo) ?_
  obtain ⟨T1, X1, e1, st1⟩ := initO X0 hx hZ hown (hw _ (List.mem_of_getElem? (i := 39) rfl)) (hw _ (List.mem_of_getElem? (i := 23) rfl)) (hw _ (List.mem_of_getElem? (i := 24) rfl)) e0 (g := (mkF m 1 #[.val (.ref o0), .val (.ref o1), .val (.ref o2)] [(.ref o0)])) rfl (by rw [hml]; rfl) rfl (hb hby d5_1) (by decide) (W := 0) (by show 2 * 0 + _ ≤ _; exact Nat.le_of_eq rfl) (by decide)
  refine own_go (g' := (mkF m 4 #[.val (.ref o0), .val (.ref o1), .val (.ref o2)] [])) (st1) ?_
  refine own_go (g' := (mkF m 5 #[.val (.ref o0), .val (.ref o1), .val (.ref o2)] [(.ref o0)])) (fun _ kgo => XS.aloadN X1.here hx rfl (hb hby d5_4) rfl rfl kgo) ?_
  obtain ⟨T2, h2, X2, e2, E2, A2, D2, -, st2⟩ := newO X1 hx hZ hown (hw _ (List.mem_of_getElem? (i := 40) rfl)) (hw _ (List.mem_of_getElem? (i := 41) rfl)) (hw _ (List.mem_of_getElem? (i := 42) rfl)) e1 (g := (mkF m 5 #[.val (.ref o0), .val (.ref o1), .val (.ref o2)] [(.ref o0)])) rfl (hb hby d5_5) (by decide) (by decide)
  obtain ⟨b2, ad2⟩ : ∃ z, z = h0.size := ⟨_, rfl⟩
  rw [← ad2] at A2 D2 st2
  have ne_o0_b2 : o0 ≠ b2 := Nat.ne_of_lt (by rw [ad2]; exact P0.lt)
  have ge_b2 : n0 ≤ b2 := by rw [ad2]; exact Z0
  have sz_b2 : h0.size ≤ b2 := by rw [ad2]; exact K0.1
  have Z2 : n0 ≤ h2.size := Nat.le_trans Z0 E2.1
  have K2 : Keep h0 h2 [o0] := K0.ext E2
  have F2_modCount : Fld Z h2 b2 "java/util/AbstractList" "modCount" "I" (.int (0 : Int32)) := D2 (Or.inl (hw _ (List.mem_of_getElem? (i := 60) rfl))) (ty := .int) (by decide)
  have F2_elementData : Fld Z h2 b2 "java/util/ArrayList" "elementData" "[Ljava/lang/Object;" .null := D2 (Or.inl (hw _ (List.mem_of_getElem? (i := 63) rfl))) (ty := (.array (.object "java/lang/Object"))) (by decide)
  refine own_go (g' := (mkF m 8 #[.val (.ref o0), .val (.ref o1), .val (.ref o2)] [(.ref b2), (.ref o0)])) (st2) ?_
  refine own_go (g' := (mkF m 9 #[.val (.ref o0), .val (.ref o1), .val (.ref o2)] [(.ref b2), (.ref b2), (.ref o0)])) (fun _ kgo => XS.dup X2.here hx rfl (hb hby d5_8) rfl rfl kgo) ?_
  have fx4 : Sta Z h2 "java/util/ArrayList" "DEFAULTCAPACITY_EMPTY_ELEMENTDATA" "[Ljava/lang/Object;" (.ref ea) := (Sta.ext E2 P5)
  obtain ⟨v3, T3, L3, hQ3, X3, st3⟩ := own_callI X2 hx hZ (y := (⟨"java/util/ArrayList", "<init>", "()V"⟩ : MethodName)) rfl hown (hw _ (List.mem_of_getElem? (i := 43) rfl)) (hw _ (List.mem_of_getElem? (i := 44) rfl)) (hw _ (List.mem_of_getElem? (i := 42) rfl)) (hw _ (List.mem_of_getElem? (i := 45) rfl)) ⟨by decide, by decide⟩ (a := b2) (argsL := []) (rm6 l Z a0 hw b2 ea h2 n0 Z2 ge_b2 A2 F2_modCount F2_elementData fx4) e2 (g := (mkF m 9 #[.val (.ref o0), .val (.ref o1), .val (.ref o2)] [(.ref b2), (.ref b2), (.ref o0)])) rfl (by rw [hml]; rfl) (rest := [(.ref b2), (.ref o0)]) (lenOf pd5_0 rfl) rfl (hb hby d5_9) (W := 2) (by show 2 * 0 + _ ≤ _; exact Nat.le_of_eq rfl) (by decide) (by decide) (by decide) (by decide)
  obtain ⟨rfl, Nq3, Kq3, q3_0⟩ := hQ3
  have N3 := Fr.app N0 Nq3
  have Z3 : n0 ≤ T3.heap.size := Nat.le_trans Z2 Kq3.1
  have KK3 : Keep h0 T3.heap [o0] := K2.trans Kq3 (allS (Or.inr sz_b2) all0)
  refine own_go (g' := (mkF m 12 #[.val (.ref o0), .val (.ref o1), .val (.ref o2)] [(.ref b2), (.ref o0)])) (st3) ?_
  have fx5 : Fld Z T3.heap o0 "com/example/restlint/restlint/document/MappingNode" "entries" "Ljava/util/List;" .null := (Fld.keep (Fld.ext E2 P1) Kq3 (ninS ne_o0_b2 nin0))
  have fx6 : Exa Z T3.heap o0 "com/example/restlint/restlint/document/MappingNode" := (Exa.keep (Exa.ext E2 P0) Kq3)
  obtain ⟨T7, h7, X7, e7, W7, st7⟩ := putF X3 hx hZ hown (host := "") (Or.inl (hw _ (List.mem_of_getElem? (i := 64) rfl))) Via.refl rfl fx5 fx6 (Or.inl (hw _ (List.mem_of_getElem? (i := 65) rfl))) (hw _ (List.mem_of_getElem? (i := 34) rfl)) (ty := (.object "java/util/List")) (by decide) rfl rfl (g := (mkF m 12 #[.val (.ref o0), .val (.ref o1), .val (.ref o2)] [(.ref b2), (.ref o0)])) rfl rfl (hb hby d5_12)
  have fw7 := Fld.same W7 fx5
  have N7 := Fr.snoc X7 N3 g_o0
  have Z7 : n0 ≤ h7.size := by rw [W7.size]; exact Z3
  have K7 : Keep h0 h7 [o0] := KK3.wr W7 (Or.inl (List.mem_of_getElem? (i := 0) rfl))
  refine own_go (g' := (mkF m 15 #[.val (.ref o0), .val (.ref o1), .val (.ref o2)] [])) (st7) ?_
  refine own_go (g' := (mkF m 16 #[.val (.ref o0), .val (.ref o1), .val (.ref o2)] [(.ref o0)])) (fun _ kgo => XS.aloadN X7.here hx rfl (hb hby d5_15) rfl rfl kgo) ?_
  refine own_go (g' := (mkF m 17 #[.val (.ref o0), .val (.ref o1), .val (.ref o2)] [(.ref o1), (.ref o0)])) (fun _ kgo => XS.aloadN X7.here hx rfl (hb hby d5_16) rfl rfl kgo) ?_
  have fx8 : Fld Z h7 o0 "com/example/restlint/restlint/document/MappingNode" "location" "Lcom/example/restlint/restlint/document/Location;" .null := (Fld.other W7 (Fld.keep (Fld.ext E2 P2) Kq3 (ninS ne_o0_b2 nin0)) (Or.inr (slot_ne (Or.inr (hw _ (List.mem_of_getElem? (i := 67) rfl))) (Or.inl (hw _ (List.mem_of_getElem? (i := 65) rfl))) (by decide) (t := (.object "com/example/restlint/restlint/document/Location")) (t' := (.object "java/util/List")) (by decide) (by decide))))
  have fx9 : Exa Z h7 o0 "com/example/restlint/restlint/document/MappingNode" := (Exa.wr W7 fx6)
  obtain ⟨T10, h10, X10, e10, W10, st10⟩ := putF X7 hx hZ hown (host := "") (Or.inl (hw _ (List.mem_of_getElem? (i := 66) rfl))) Via.refl e7 fx8 fx9 (Or.inr ⟨(hw _ (List.mem_of_getElem? (i := 67) rfl)), rfl, hnm⟩) (hw _ (List.mem_of_getElem? (i := 34) rfl)) (ty := (.object "com/example/restlint/restlint/document/Location")) (by decide) rfl rfl (g := (mkF m 17 #[.val (.ref o0), .val (.ref o1), .val (.ref o2)] [(.ref o1), (.ref o0)])) rfl rfl (hb hby d5_17)
  have fw10 := Fld.same W10 fx8
  have N10 := Fr.snoc X10 N7 g_o0
  have Z10 : n0 ≤ h10.size := by rw [W10.size]; exact Z7
  have K10 : Keep h0 h10 [o0] := K7.wr W10 (Or.inl (List.mem_of_getElem? (i := 0) rfl))
  refine own_go (g' := (mkF m 20 #[.val (.ref o0), .val (.ref o1), .val (.ref o2)] [])) (st10) ?_
  refine own_go (g' := (mkF m 21 #[.val (.ref o0), .val (.ref o1), .val (.ref o2)] [(.ref o0)])) (fun _ kgo => XS.aloadN X10.here hx rfl (hb hby d5_20) rfl rfl kgo) ?_
  refine own_go (g' := (mkF m 22 #[.val (.ref o0), .val (.ref o1), .val (.ref o2)] [(.ref o2), (.ref o0)])) (fun _ kgo => XS.aloadN X10.here hx rfl (hb hby d5_21) rfl rfl kgo) ?_
  have fx11 : Fld Z h10 o0 "com/example/restlint/restlint/document/MappingNode" "writtenAt" "Lcom/example/restlint/restlint/document/Location;" .null := (Fld.other W10 (Fld.other W7 (Fld.keep (Fld.ext E2 P3) Kq3 (ninS ne_o0_b2 nin0)) (Or.inr (slot_ne (Or.inr (hw _ (List.mem_of_getElem? (i := 69) rfl))) (Or.inl (hw _ (List.mem_of_getElem? (i := 65) rfl))) (by decide) (t := (.object "com/example/restlint/restlint/document/Location")) (t' := (.object "java/util/List")) (by decide) (by decide)))) (Or.inr (slot_ne (Or.inr (hw _ (List.mem_of_getElem? (i := 69) rfl))) (Or.inr (hw _ (List.mem_of_getElem? (i := 67) rfl))) (by decide) (t := (.object "com/example/restlint/restlint/document/Location")) (t' := (.object "com/example/restlint/restlint/document/Location")) (by decide) (by decide))))
  have fx12 : Exa Z h10 o0 "com/example/restlint/restlint/document/MappingNode" := (Exa.wr W10 fx9)
  obtain ⟨T13, h13, X13, e13, W13, st13⟩ := putF X10 hx hZ hown (host := "") (Or.inl (hw _ (List.mem_of_getElem? (i := 68) rfl))) Via.refl e10 fx11 fx12 (Or.inr ⟨(hw _ (List.mem_of_getElem? (i := 69) rfl)), rfl, hnm⟩) (hw _ (List.mem_of_getElem? (i := 34) rfl)) (ty := (.object "com/example/restlint/restlint/document/Location")) (by decide) rfl rfl (g := (mkF m 22 #[.val (.ref o0), .val (.ref o1), .val (.ref o2)] [(.ref o2), (.ref o0)])) rfl rfl (hb hby d5_22)
  have fw13 := Fld.same W13 fx11
  have N13 := Fr.snoc X13 N10 g_o0
  have Z13 : n0 ≤ h13.size := by rw [W13.size]; exact Z10
  have K13 : Keep h0 h13 [o0] := K10.wr W13 (Or.inl (List.mem_of_getElem? (i := 0) rfl))
  refine own_go (g' := (mkF m 25 #[.val (.ref o0), .val (.ref o1), .val (.ref o2)] [])) (st13) ?_
  refine own_retV X13 hx Bd.returns Bd.notSynchronized (hb hby d5_25) (by decide) (by decide) ?_
  show QQ _ T13.heap _
  rw [e13]
  have fx14 : Exa Z h13 o0 "com/example/restlint/restlint/document/MappingNode" := (Exa.wr W13 fx12)
  have fx15 : Fld Z h13 o0 "com/example/restlint/restlint/document/MappingNode" "applied" "Lcom/example/restlint/restlint/document/MappingNode$Applied;" .null := (Fld.other W13 (Fld.other W10 (Fld.other W7 (Fld.keep (Fld.ext E2 P4) Kq3 (ninS ne_o0_b2 nin0)) (Or.inr (slot_ne (Or.inl (hw _ (List.mem_of_getElem? (i := 90) rfl))) (Or.inl (hw _ (List.mem_of_getElem? (i := 65) rfl))) (by decide) (t := (.object "com/example/restlint/restlint/document/MappingNode$Applied")) (t' := (.object "java/util/List")) (by decide) (by decide)))) (Or.inr (slot_ne (Or.inl (hw _ (List.mem_of_getElem? (i := 90) rfl))) (Or.inr (hw _ (List.mem_of_getElem? (i := 67) rfl))) (by decide) (t := (.object "com/example/restlint/restlint/document/MappingNode$Applied")) (t' := (.object "com/example/restlint/restlint/document/Location")) (by decide) (by decide)))) (Or.inr (slot_ne (Or.inl (hw _ (List.mem_of_getElem? (i := 90) rfl))) (Or.inr (hw _ (List.mem_of_getElem? (i := 69) rfl))) (by decide) (t := (.object "com/example/restlint/restlint/document/MappingNode$Applied")) (t' := (.object "com/example/restlint/restlint/document/Location")) (by decide) (by decide))))
  rw [← hQQ]
  exact ⟨rfl, N13, K13, fx14, fx15⟩
theorem d9_0 : decode prog_48_method_1_code 0 = .ok (.aload_n 0, 1) := by decide +kernel
theorem d9_1 : decode prog_48_method_1_code 1 = .ok (.invokespecial 1, 3) := by decide +kernel
theorem d9_4 : decode prog_48_method_1_code 4 = .ok (.aload_n 0, 1) := by decide +kernel
theorem d9_5 : decode prog_48_method_1_code 5 = .ok (.aload_n 1, 1) := by decide +kernel
theorem d9_6 : decode prog_48_method_1_code 6 = .ok (.putfield 7, 3) := by decide +kernel
theorem d9_9 : decode prog_48_method_1_code 9 = .ok (.aload_n 0, 1) := by decide +kernel
theorem d9_10 : decode prog_48_method_1_code 10 = .ok (.aload_n 2, 1) := by decide +kernel
theorem d9_11 : decode prog_48_method_1_code 11 = .ok (.putfield 13, 3) := by decide +kernel
theorem d9_14 : decode prog_48_method_1_code 14 = .ok (.aload_n 0, 1) := by decide +kernel
theorem d9_15 : decode prog_48_method_1_code 15 = .ok (.iload_n 3, 1) := by decide +kernel
theorem d9_16 : decode prog_48_method_1_code 16 = .ok (.putfield 17, 3) := by decide +kernel
theorem d9_19 : decode prog_48_method_1_code 19 = .ok (.return_, 1) := by decide +kernel
theorem pn_sci : plainName "com/example/restlint/restlint/document/ScalarNode" = true := by first | (simp [plainName, overriddenIn]; done) | decide +kernel
theorem pd9_0 : parseMethodDescriptor "()V" = some ⟨[], none⟩ := by decide +kernel
theorem ef_sci (m : MethodId) (o0 : Addr) (o1 : Addr) (o2 : Addr) (p3 : Int32) : entryFrame m #[(.ref o0), (.ref o1), (.ref o2), (.int p3)] 4 = mkF m 0 #[.val (.ref o0), .val (.ref o1), .val (.ref o2), .val (.int p3)] [] := by first | (simp [entryFrame, mkF, argsToLocals, Value.category]; done) | rfl
set_option maxRecDepth 65536 in
set_option maxHeartbeats 40000000 in
theorem sci (l : Launch) (Z : State) (a0 : Array Value) (hw : ∀ d ∈ tables_1, d.before a0 Z = true) (o0 : Addr) (o1 : Addr) (o2 : Addr) (p3 : Int32)  (h0 : Heap) (n0 : Nat) (Z0 : n0 ≤ h0.size) (g_o0 : n0 ≤ o0) (P0 : Exa Z h0 o0 "com/example/restlint/restlint/document/ScalarNode") (P1 : Fld Z h0 o0 "com/example/restlint/restlint/document/ScalarNode" "text" "Ljava/lang/String;" .null) (P2 : Fld Z h0 o0 "com/example/restlint/restlint/document/ScalarNode" "location" "Lcom/example/restlint/restlint/document/Location;" .null) (P3 : Fld Z h0 o0 "com/example/restlint/restlint/document/ScalarNode" "isNull" "Z" (.int (0 : Int32))) :
    own_Met l Z (⟨"com/example/restlint/restlint/document/ScalarNode", "<init>", "(Ljava/lang/String;Lcom/example/restlint/restlint/document/Location;Z)V"⟩ : MethodName) prog_48_method_1_code 4 none [] ({ frames := 2, cells := 0, slots := 0, locals := 24 } : Room) #[(.ref o0), (.ref o1), (.ref o2), (.int p3)] h0 0 0 (fun v h L => v = none ∧ Fr n0 L ∧ Keep h0 h [o0] ∧ Exa Z h o0 "com/example/restlint/restlint/document/ScalarNode") := by
  refine own_met (plainFor_of_name pn_sci) ?_
  intro p e s m below meth c s₁ Bd hml0 hZ X0 e0
  have hx := Bd.exec
  have hby := Bd.bytes
  have hml : c.maxLocals = 4 := hml0
  have hown : s.vm.findClass "com/example/restlint/restlint/document/ScalarNode" = some m.cls := findClass_of_methodNamed Bd.named
  have hnm := (name_of_methodNamed Bd.named Bd.method).1
  refine own_cast (ef_sci m o0 o1 o2 p3) ?_
  generalize hQQ : (fun (v : Option Value) (h : Heap) (L : List Loc) => v = none ∧ Fr n0 L ∧ Keep h0 h [o0] ∧ Exa Z h o0 "com/example/restlint/restlint/document/ScalarNode") = QQ
  have N0 := Fr.nil n0
  have K0 := Keep.refl h0 [o0]
  refine own_go (g' := (mkF m 1 #[.val (.ref o0), .val (.ref o1), .val (.ref o2), .val (.int p3)] [(.ref o0)])) (fun _ kgo => XS.aloadN X0.here hx rfl (hb hby d9_0) rfl rfl kgo) ?_
  obtain ⟨v1, T1, L1, hQ1, X1, st1⟩ := own_callI X0 hx hZ (y := (⟨"java/lang/Record", "<init>", "()V"⟩ : MethodName)) rfl hown (hw _ (List.mem_of_getElem? (i := 77) rfl)) (hw _ (List.mem_of_getElem? (i := 18) rfl)) (hw _ (List.mem_of_getElem? (i := 20) rfl)) (hw _ (List.mem_of_getElem? (i := 21) rfl)) ⟨by decide, by decide⟩ (a := o0) (argsL := []) (rm3 l Z a0 hw o0 h0) e0 (g := (mkF m 1 #[.val (.ref o0), .val (.ref o1), .val (.ref o2), .val (.int p3)] [(.ref o0)])) rfl (by rw [hml]; rfl) (rest := []) (lenOf pd9_0 rfl) rfl (hb hby d9_1) (W := 0) (by show 2 * 0 + _ ≤ _; exact Nat.le_of_eq rfl) (by decide) (by decide) (by decide) (by decide)
  obtain ⟨rfl, e1, rfl⟩ := hQ1
  have N1 := Fr.app N0 (Fr.nil n0)
  refine own_go (g' := (mkF m 4 #[.val (.ref o0), .val (.ref o1), .val (.ref o2), .val (.int p3)] [])) (st1) ?_
  refine own_go (g' := (mkF m 5 #[.val (.ref o0), .val (.ref o1), .val (.ref o2), .val (.int p3)] [(.ref o0)])) (fun _ kgo => XS.aloadN X1.here hx rfl (hb hby d9_4) rfl rfl kgo) ?_
  refine own_go (g' := (mkF m 6 #[.val (.ref o0), .val (.ref o1), .val (.ref o2), .val (.int p3)] [(.ref o1), (.ref o0)])) (fun _ kgo => XS.aloadN X1.here hx rfl (hb hby d9_5) rfl rfl kgo) ?_
  obtain ⟨T2, h2, X2, e2, W2, st2⟩ := putF X1 hx hZ hown (host := "") (Or.inl (hw _ (List.mem_of_getElem? (i := 78) rfl))) Via.refl e1 P1 P0 (Or.inr ⟨(hw _ (List.mem_of_getElem? (i := 79) rfl)), rfl, hnm⟩) (hw _ (List.mem_of_getElem? (i := 71) rfl)) (ty := (.object "java/lang/String")) (by decide) rfl rfl (g := (mkF m 6 #[.val (.ref o0), .val (.ref o1), .val (.ref o2), .val (.int p3)] [(.ref o1), (.ref o0)])) rfl rfl (hb hby d9_6)
  have fw2 := Fld.same W2 P1
  have N2 := Fr.snoc X2 N1 g_o0
  have Z2 : n0 ≤ h2.size := by rw [W2.size]; exact Z0
  have K2 : Keep h0 h2 [o0] := K0.wr W2 (Or.inl (List.mem_of_getElem? (i := 0) rfl))
  refine own_go (g' := (mkF m 9 #[.val (.ref o0), .val (.ref o1), .val (.ref o2), .val (.int p3)] [])) (st2) ?_
  refine own_go (g' := (mkF m 10 #[.val (.ref o0), .val (.ref o1), .val (.ref o2), .val (.int p3)] [(.ref o0)])) (fun _ kgo => XS.aloadN X2.here hx rfl (hb hby d9_9) rfl rfl kgo) ?_
  refine own_go (g' := (mkF m 11 #[.val (.ref o0), .val (.ref o1), .val (.ref o2), .val (.int p3)] [(.ref o2), (.ref o0)])) (fun _ kgo => XS.aloadN X2.here hx rfl (hb hby d9_10) rfl rfl kgo) ?_
  have fx3 : Fld Z h2 o0 "com/example/restlint/restlint/document/ScalarNode" "location" "Lcom/example/restlint/restlint/document/Location;" .null := (Fld.other W2 P2 (Or.inr (slot_ne (Or.inr (hw _ (List.mem_of_getElem? (i := 81) rfl))) (Or.inr (hw _ (List.mem_of_getElem? (i := 79) rfl))) (by decide) (t := (.object "com/example/restlint/restlint/document/Location")) (t' := (.object "java/lang/String")) (by decide) (by decide))))
  have fx4 : Exa Z h2 o0 "com/example/restlint/restlint/document/ScalarNode" := (Exa.wr W2 P0)
  obtain ⟨T5, h5, X5, e5, W5, st5⟩ := putF X2 hx hZ hown (host := "") (Or.inl (hw _ (List.mem_of_getElem? (i := 80) rfl))) Via.refl e2 fx3 fx4 (Or.inr ⟨(hw _ (List.mem_of_getElem? (i := 81) rfl)), rfl, hnm⟩) (hw _ (List.mem_of_getElem? (i := 71) rfl)) (ty := (.object "com/example/restlint/restlint/document/Location")) (by decide) rfl rfl (g := (mkF m 11 #[.val (.ref o0), .val (.ref o1), .val (.ref o2), .val (.int p3)] [(.ref o2), (.ref o0)])) rfl rfl (hb hby d9_11)
  have fw5 := Fld.same W5 fx3
  have N5 := Fr.snoc X5 N2 g_o0
  have Z5 : n0 ≤ h5.size := by rw [W5.size]; exact Z2
  have K5 : Keep h0 h5 [o0] := K2.wr W5 (Or.inl (List.mem_of_getElem? (i := 0) rfl))
  refine own_go (g' := (mkF m 14 #[.val (.ref o0), .val (.ref o1), .val (.ref o2), .val (.int p3)] [])) (st5) ?_
  refine own_go (g' := (mkF m 15 #[.val (.ref o0), .val (.ref o1), .val (.ref o2), .val (.int p3)] [(.ref o0)])) (fun _ kgo => XS.aloadN X5.here hx rfl (hb hby d9_14) rfl rfl kgo) ?_
  refine own_go (g' := (mkF m 16 #[.val (.ref o0), .val (.ref o1), .val (.ref o2), .val (.int p3)] [(.int p3), (.ref o0)])) (fun _ kgo => XS.iloadN X5.here hx rfl (hb hby d9_15) rfl kgo) ?_
  have fx6 : Fld Z h5 o0 "com/example/restlint/restlint/document/ScalarNode" "isNull" "Z" (.int (0 : Int32)) := (Fld.other W5 (Fld.other W2 P3 (Or.inr (slot_ne (Or.inr (hw _ (List.mem_of_getElem? (i := 83) rfl))) (Or.inr (hw _ (List.mem_of_getElem? (i := 79) rfl))) (by decide) (t := .boolean) (t' := (.object "java/lang/String")) (by decide) (by decide)))) (Or.inr (slot_ne (Or.inr (hw _ (List.mem_of_getElem? (i := 83) rfl))) (Or.inr (hw _ (List.mem_of_getElem? (i := 81) rfl))) (by decide) (t := .boolean) (t' := (.object "com/example/restlint/restlint/document/Location")) (by decide) (by decide))))
  have fx7 : Exa Z h5 o0 "com/example/restlint/restlint/document/ScalarNode" := (Exa.wr W5 fx4)
  obtain ⟨T8, h8, X8, e8, W8, st8⟩ := putFN X5 hx hZ hown (hw _ (List.mem_of_getElem? (i := 82) rfl)) Via.refl e5 fx6 fx7 (Or.inr ⟨(hw _ (List.mem_of_getElem? (i := 83) rfl)), rfl, hnm⟩) (hw _ (List.mem_of_getElem? (i := 71) rfl)) (ty := .boolean) (v := (.int p3)) (v' := (.int (nar .boolean p3))) (by decide) rfl (fits_nar_bool _) (g := (mkF m 16 #[.val (.ref o0), .val (.ref o1), .val (.ref o2), .val (.int p3)] [(.int p3), (.ref o0)])) rfl rfl (hb hby d9_16)
  have fw8 := Fld.same W8 fx6
  have N8 := Fr.snoc X8 N5 g_o0
  have Z8 : n0 ≤ h8.size := by rw [W8.size]; exact Z5
  have K8 : Keep h0 h8 [o0] := K5.wr W8 (Or.inl (List.mem_of_getElem? (i := 0) rfl))
  refine own_go (g' := (mkF m 19 #[.val (.ref o0), .val (.ref o1), .val (.ref o2), .val (.int p3)] [])) (st8) ?_
  refine own_retV X8 hx Bd.returns Bd.notSynchronized (hb hby d9_19) (by decide) (by decide) ?_
  show QQ _ T8.heap _
  rw [e8]
  have fx9 : Exa Z h8 o0 "com/example/restlint/restlint/document/ScalarNode" := (Exa.wr W8 fx7)
  rw [← hQQ]
  exact ⟨rfl, N8, K8, fx9⟩
theorem d10_0 : decode prog_43_method_11_code 0 = .ok (.aload_n 0, 1) := by decide +kernel
theorem d10_1 : decode prog_43_method_11_code 1 = .ok (.getfield 78, 3) := by decide +kernel
theorem d10_4 : decode prog_43_method_11_code 4 = .ok (.ifnonnull 7, 3) := by decide +kernel
theorem d10_7 : decode prog_43_method_11_code 7 = .ok (.aconst_null, 1) := by decide +kernel
theorem d10_8 : decode prog_43_method_11_code 8 = .ok (.goto 10, 3) := by decide +kernel
theorem d10_18 : decode prog_43_method_11_code 18 = .ok (.areturn, 1) := by decide +kernel
theorem pn_app_n : plainName "com/example/restlint/restlint/document/MappingNode" = true := by first | (simp [plainName, overriddenIn]; done) | decide +kernel
theorem ef_app_n (m : MethodId) (o0 : Addr) : entryFrame m #[(.ref o0)] 1 = mkF m 0 #[.val (.ref o0)] [] := by first | (simp [entryFrame, mkF, argsToLocals, Value.category]; done) | rfl
set_option maxRecDepth 65536 in
set_option maxHeartbeats 40000000 in
theorem app_n (l : Launch) (Z : State) (a0 : Array Value) (hw : ∀ d ∈ tables_1, d.before a0 Z = true) (o0 : Addr)  (h0 : Heap) (P0 : Fld Z h0 o0 "com/example/restlint/restlint/document/MappingNode" "applied" "Lcom/example/restlint/restlint/document/MappingNode$Applied;" .null) :
    own_Met l Z (⟨"com/example/restlint/restlint/document/MappingNode", "applied", "()Lcom/example/restlint/restlint/document/Node;"⟩ : MethodName) prog_43_method_11_code 1 (some (.object "com/example/restlint/restlint/document/Node")) [] ({ frames := 0, cells := 0, slots := 0, locals := 0 } : Room) #[(.ref o0)] h0 0 0 (fun v h L => v = some .null ∧ h = h0 ∧ L = []) := by
  refine own_met (plainFor_of_name pn_app_n) ?_
  intro p e s m below meth c s₁ Bd hml0 hZ X0 e0
  have hx := Bd.exec
  have hby := Bd.bytes
  have hml : c.maxLocals = 1 := hml0
  have hown : s.vm.findClass "com/example/restlint/restlint/document/MappingNode" = some m.cls := findClass_of_methodNamed Bd.named
  have hnm := (name_of_methodNamed Bd.named Bd.method).1
  refine own_cast (ef_app_n m o0) ?_
  generalize hQQ : (fun (v : Option Value) (h : Heap) (L : List Loc) => v = some .null ∧ h = h0 ∧ L = []) = QQ
  refine own_go (g' := (mkF m 1 #[.val (.ref o0)] [(.ref o0)])) (fun _ kgo => XS.aloadN X0.here hx rfl (hb hby d10_0) rfl rfl kgo) ?_
  obtain ⟨T1, X1, e1, st1⟩ := getF X0 hx hZ hown (host := "") (Or.inl (hw _ (List.mem_of_getElem? (i := 89) rfl))) Via.refl e0 P0 (g := (mkF m 1 #[.val (.ref o0)] [(.ref o0)])) rfl rfl (hb hby d10_1)
  refine own_go (g' := (mkF m 4 #[.val (.ref o0)] [.null])) (st1) ?_
  refine own_go (g' := (mkF m 7 #[.val (.ref o0)] [])) (fun _ kgo => XS.ifnonnullNo X1.here hx rfl (hb hby d10_4) rfl kgo) ?_
  refine own_go (g' := (mkF m 8 #[.val (.ref o0)] [.null])) (fun _ kgo => XS.aconstNull X1.here hx rfl (hb hby d10_7) kgo) ?_
  refine own_go (g' := (mkF m 18 #[.val (.ref o0)] [.null])) (fun _ kgo => XS.goto X1.here hx rfl (pc0 := 8) (pc' := 18) rfl (hb hby d10_8) (by decide) (by decide) kgo) ?_
  refine own_retA X1 hx Bd.returns Bd.notSynchronized rfl rfl (hb hby d10_18) (by decide) (by decide) ?_
  show QQ _ T1.heap _
  rw [e1]
  rw [← hQQ]
  exact ⟨rfl, rfl, rfl⟩
theorem d10_11 : decode prog_43_method_11_code 11 = .ok (.aload_n 0, 1) := by decide +kernel
theorem d10_12 : decode prog_43_method_11_code 12 = .ok (.getfield 78, 3) := by decide +kernel
theorem d10_15 : decode prog_43_method_11_code 15 = .ok (.getfield 86, 3) := by decide +kernel
theorem pn_app_rn : plainName "com/example/restlint/restlint/document/MappingNode" = true := by first | (simp [plainName, overriddenIn]; done) | decide +kernel
theorem ef_app_rn (m : MethodId) (o0 : Addr) : entryFrame m #[(.ref o0)] 1 = mkF m 0 #[.val (.ref o0)] [] := by first | (simp [entryFrame, mkF, argsToLocals, Value.category]; done) | rfl
set_option maxRecDepth 65536 in
set_option maxHeartbeats 40000000 in
theorem app_rn (l : Launch) (Z : State) (a0 : Array Value) (hw : ∀ d ∈ tables_1, d.before a0 Z = true) (o0 : Addr) (ap : Addr) (h0 : Heap) (P0 : Fld Z h0 o0 "com/example/restlint/restlint/document/MappingNode" "applied" "Lcom/example/restlint/restlint/document/MappingNode$Applied;" (.ref ap)) (P1 : Fld Z h0 ap "com/example/restlint/restlint/document/MappingNode$Applied" "target" "Lcom/example/restlint/restlint/document/Node;" .null) :
    own_Met l Z (⟨"com/example/restlint/restlint/document/MappingNode", "applied", "()Lcom/example/restlint/restlint/document/Node;"⟩ : MethodName) prog_43_method_11_code 1 (some (.object "com/example/restlint/restlint/document/Node")) [] ({ frames := 0, cells := 0, slots := 0, locals := 0 } : Room) #[(.ref o0)] h0 0 0 (fun v h L => v = some .null ∧ h = h0 ∧ L = []) := by
  refine own_met (plainFor_of_name pn_app_rn) ?_
  intro p e s m below meth c s₁ Bd hml0 hZ X0 e0
  have hx := Bd.exec
  have hby := Bd.bytes
  have hml : c.maxLocals = 1 := hml0
  have hown : s.vm.findClass "com/example/restlint/restlint/document/MappingNode" = some m.cls := findClass_of_methodNamed Bd.named
  have hnm := (name_of_methodNamed Bd.named Bd.method).1
  refine own_cast (ef_app_rn m o0) ?_
  generalize hQQ : (fun (v : Option Value) (h : Heap) (L : List Loc) => v = some .null ∧ h = h0 ∧ L = []) = QQ
  refine own_go (g' := (mkF m 1 #[.val (.ref o0)] [(.ref o0)])) (fun _ kgo => XS.aloadN X0.here hx rfl (hb hby d10_0) rfl rfl kgo) ?_
  obtain ⟨T1, X1, e1, st1⟩ := getF X0 hx hZ hown (host := "") (Or.inl (hw _ (List.mem_of_getElem? (i := 89) rfl))) Via.refl e0 P0 (g := (mkF m 1 #[.val (.ref o0)] [(.ref o0)])) rfl rfl (hb hby d10_1)
  refine own_go (g' := (mkF m 4 #[.val (.ref o0)] [(.ref ap)])) (st1) ?_
  refine own_go (g' := (mkF m 11 #[.val (.ref o0)] [])) (fun _ kgo => XS.ifnonnullYes X1.here hx rfl (pc0 := 4) (pc' := 11) rfl (hb hby d10_4) rfl (by decide) (by decide) kgo) ?_
  refine own_go (g' := (mkF m 12 #[.val (.ref o0)] [(.ref o0)])) (fun _ kgo => XS.aloadN X1.here hx rfl (hb hby d10_11) rfl rfl kgo) ?_
  obtain ⟨T2, X2, e2, st2⟩ := getF X1 hx hZ hown (host := "") (Or.inl (hw _ (List.mem_of_getElem? (i := 89) rfl))) Via.refl e1 P0 (g := (mkF m 12 #[.val (.ref o0)] [(.ref o0)])) rfl rfl (hb hby d10_12)
  refine own_go (g' := (mkF m 15 #[.val (.ref o0)] [(.ref ap)])) (st2) ?_
  obtain ⟨T3, X3, e3, st3⟩ := getF X2 hx hZ hown (host := "") (Or.inl (hw _ (List.mem_of_getElem? (i := 127) rfl))) Via.refl e2 P1 (g := (mkF m 15 #[.val (.ref o0)] [(.ref ap)])) rfl rfl (hb hby d10_15)
  refine own_go (g' := (mkF m 18 #[.val (.ref o0)] [.null])) (st3) ?_
  refine own_retA X3 hx Bd.returns Bd.notSynchronized rfl rfl (hb hby d10_18) (by decide) (by decide) ?_
  show QQ _ T3.heap _
  rw [e3]
  rw [← hQQ]
  exact ⟨rfl, rfl, rfl⟩
theorem pn_app_rr : plainName "com/example/restlint/restlint/document/MappingNode" = true := by first | (simp [plainName, overriddenIn]; done) | decide +kernel
theorem ef_app_rr (m : MethodId) (o0 : Addr) : entryFrame m #[(.ref o0)] 1 = mkF m 0 #[.val (.ref o0)] [] := by first | (simp [entryFrame, mkF, argsToLocals, Value.category]; done) | rfl
set_option maxRecDepth 65536 in
set_option maxHeartbeats 40000000 in
theorem app_rr (l : Launch) (Z : State) (a0 : Array Value) (hw : ∀ d ∈ tables_1, d.before a0 Z = true) (o0 : Addr) (ap : Addr) (tv : Addr) (h0 : Heap) (P0 : Fld Z h0 o0 "com/example/restlint/restlint/document/MappingNode" "applied" "Lcom/example/restlint/restlint/document/MappingNode$Applied;" (.ref ap)) (P1 : Fld Z h0 ap "com/example/restlint/restlint/document/MappingNode$Applied" "target" "Lcom/example/restlint/restlint/document/Node;" (.ref tv)) :
    own_Met l Z (⟨"com/example/restlint/restlint/document/MappingNode", "applied", "()Lcom/example/restlint/restlint/document/Node;"⟩ : MethodName) prog_43_method_11_code 1 (some (.object "com/example/restlint/restlint/document/Node")) [] ({ frames := 0, cells := 0, slots := 0, locals := 0 } : Room) #[(.ref o0)] h0 0 0 (fun v h L => v = some (.ref tv) ∧ h = h0 ∧ L = []) := by
  refine own_met (plainFor_of_name pn_app_rr) ?_
  intro p e s m below meth c s₁ Bd hml0 hZ X0 e0
  have hx := Bd.exec
  have hby := Bd.bytes
  have hml : c.maxLocals = 1 := hml0
  have hown : s.vm.findClass "com/example/restlint/restlint/document/MappingNode" = some m.cls := findClass_of_methodNamed Bd.named
  have hnm := (name_of_methodNamed Bd.named Bd.method).1
  refine own_cast (ef_app_rr m o0) ?_
  generalize hQQ : (fun (v : Option Value) (h : Heap) (L : List Loc) => v = some (.ref tv) ∧ h = h0 ∧ L = []) = QQ
  refine own_go (g' := (mkF m 1 #[.val (.ref o0)] [(.ref o0)])) (fun _ kgo => XS.aloadN X0.here hx rfl (hb hby d10_0) rfl rfl kgo) ?_
  obtain ⟨T1, X1, e1, st1⟩ := getF X0 hx hZ hown (host := "") (Or.inl (hw _ (List.mem_of_getElem? (i := 89) rfl))) Via.refl e0 P0 (g := (mkF m 1 #[.val (.ref o0)] [(.ref o0)])) rfl rfl (hb hby d10_1)
  refine own_go (g' := (mkF m 4 #[.val (.ref o0)] [(.ref ap)])) (st1) ?_
  refine own_go (g' := (mkF m 11 #[.val (.ref o0)] [])) (fun _ kgo => XS.ifnonnullYes X1.here hx rfl (pc0 := 4) (pc' := 11) rfl (hb hby d10_4) rfl (by decide) (by decide) kgo) ?_
  refine own_go (g' := (mkF m 12 #[.val (.ref o0)] [(.ref o0)])) (fun _ kgo => XS.aloadN X1.here hx rfl (hb hby d10_11) rfl rfl kgo) ?_
  obtain ⟨T2, X2, e2, st2⟩ := getF X1 hx hZ hown (host := "") (Or.inl (hw _ (List.mem_of_getElem? (i := 89) rfl))) Via.refl e1 P0 (g := (mkF m 12 #[.val (.ref o0)] [(.ref o0)])) rfl rfl (hb hby d10_12)
  refine own_go (g' := (mkF m 15 #[.val (.ref o0)] [(.ref ap)])) (st2) ?_
  obtain ⟨T3, X3, e3, st3⟩ := getF X2 hx hZ hown (host := "") (Or.inl (hw _ (List.mem_of_getElem? (i := 127) rfl))) Via.refl e2 P1 (g := (mkF m 15 #[.val (.ref o0)] [(.ref ap)])) rfl rfl (hb hby d10_15)
  refine own_go (g' := (mkF m 18 #[.val (.ref o0)] [(.ref tv)])) (st3) ?_
  refine own_retA X3 hx Bd.returns Bd.notSynchronized rfl rfl (hb hby d10_18) (by decide) (by decide) ?_
  show QQ _ T3.heap _
  rw [e3]
  rw [← hQQ]
  exact ⟨rfl, rfl, rfl⟩
theorem d16_0 : decode prog_43_method_10_code 0 = .ok (.aload_n 0, 1) := by decide +kernel
theorem d16_1 : decode prog_43_method_10_code 1 = .ok (.getfield 78, 3) := by decide +kernel
theorem d16_4 : decode prog_43_method_10_code 4 = .ok (.ifnull 7, 3) := by decide +kernel
theorem d16_11 : decode prog_43_method_10_code 11 = .ok (.iconst 0, 1) := by decide +kernel
theorem d16_12 : decode prog_43_method_10_code 12 = .ok (.ireturn, 1) := by decide +kernel
theorem pn_apl_n : plainName "com/example/restlint/restlint/document/MappingNode" = true := by first | (simp [plainName, overriddenIn]; done) | decide +kernel
theorem ef_apl_n (m : MethodId) (o0 : Addr) : entryFrame m #[(.ref o0)] 1 = mkF m 0 #[.val (.ref o0)] [] := by first | (simp [entryFrame, mkF, argsToLocals, Value.category]; done) | rfl
set_option maxRecDepth 65536 in
set_option maxHeartbeats 40000000 in
theorem apl_n (l : Launch) (Z : State) (a0 : Array Value) (hw : ∀ d ∈ tables_1, d.before a0 Z = true) (o0 : Addr)  (h0 : Heap) (P0 : Fld Z h0 o0 "com/example/restlint/restlint/document/MappingNode" "applied" "Lcom/example/restlint/restlint/document/MappingNode$Applied;" .null) :
    own_Met l Z (⟨"com/example/restlint/restlint/document/MappingNode", "appliesReference", "()Z"⟩ : MethodName) prog_43_method_10_code 1 (some .boolean) [] ({ frames := 0, cells := 0, slots := 0, locals := 0 } : Room) #[(.ref o0)] h0 0 0 (fun v h L => v = some (.int (0 : Int32)) ∧ h = h0 ∧ L = []) := by
  refine own_met (plainFor_of_name pn_apl_n) ?_
  intro p e s m below meth c s₁ Bd hml0 hZ X0 e0
  have hx := Bd.exec
  have hby := Bd.bytes
  have hml : c.maxLocals = 1 := hml0
  have hown : s.vm.findClass "com/example/restlint/restlint/document/MappingNode" = some m.cls := findClass_of_methodNamed Bd.named
  have hnm := (name_of_methodNamed Bd.named Bd.method).1
  refine own_cast (ef_apl_n m o0) ?_
  generalize hQQ : (fun (v : Option Value) (h : Heap) (L : List Loc) => v = some (.int (0 : Int32)) ∧ h = h0 ∧ L = []) = QQ
  refine own_go (g' := (mkF m 1 #[.val (.ref o0)] [(.ref o0)])) (fun _ kgo => XS.aloadN X0.here hx rfl (hb hby d16_0) rfl rfl kgo) ?_
  obtain ⟨T1, X1, e1, st1⟩ := getF X0 hx hZ hown (host := "") (Or.inl (hw _ (List.mem_of_getElem? (i := 89) rfl))) Via.refl e0 P0 (g := (mkF m 1 #[.val (.ref o0)] [(.ref o0)])) rfl rfl (hb hby d16_1)
  refine own_go (g' := (mkF m 4 #[.val (.ref o0)] [.null])) (st1) ?_
  refine own_go (g' := (mkF m 11 #[.val (.ref o0)] [])) (fun _ kgo => XS.ifnullYes X1.here hx rfl (pc0 := 4) (pc' := 11) rfl (hb hby d16_4) rfl (by decide) (by decide) kgo) ?_
  refine own_go (g' := (mkF m 12 #[.val (.ref o0)] [(.int (0 : Int32))])) (fun _ kgo => XS.iconst X1.here hx rfl (hb hby d16_11) kgo) ?_
  refine own_retN X1 hx .boolean Bd.returns Bd.notSynchronized (by simp) (hb hby d16_12) (by decide) (by decide) ?_
  show QQ _ T1.heap _
  rw [e1]
  rw [← hQQ]
  exact ⟨rfl, rfl, rfl⟩
theorem d16_7 : decode prog_43_method_10_code 7 = .ok (.iconst 1, 1) := by decide +kernel
theorem d16_8 : decode prog_43_method_10_code 8 = .ok (.goto 4, 3) := by decide +kernel
theorem pn_apl_r : plainName "com/example/restlint/restlint/document/MappingNode" = true := by first | (simp [plainName, overriddenIn]; done) | decide +kernel
theorem ef_apl_r (m : MethodId) (o0 : Addr) : entryFrame m #[(.ref o0)] 1 = mkF m 0 #[.val (.ref o0)] [] := by first | (simp [entryFrame, mkF, argsToLocals, Value.category]; done) | rfl
set_option maxRecDepth 65536 in
set_option maxHeartbeats 40000000 in
theorem apl_r (l : Launch) (Z : State) (a0 : Array Value) (hw : ∀ d ∈ tables_1, d.before a0 Z = true) (o0 : Addr) (ap : Addr) (h0 : Heap) (P0 : Fld Z h0 o0 "com/example/restlint/restlint/document/MappingNode" "applied" "Lcom/example/restlint/restlint/document/MappingNode$Applied;" (.ref ap)) :
    own_Met l Z (⟨"com/example/restlint/restlint/document/MappingNode", "appliesReference", "()Z"⟩ : MethodName) prog_43_method_10_code 1 (some .boolean) [] ({ frames := 0, cells := 0, slots := 0, locals := 0 } : Room) #[(.ref o0)] h0 0 0 (fun v h L => v = some (.int (1 : Int32)) ∧ h = h0 ∧ L = []) := by
  refine own_met (plainFor_of_name pn_apl_r) ?_
  intro p e s m below meth c s₁ Bd hml0 hZ X0 e0
  have hx := Bd.exec
  have hby := Bd.bytes
  have hml : c.maxLocals = 1 := hml0
  have hown : s.vm.findClass "com/example/restlint/restlint/document/MappingNode" = some m.cls := findClass_of_methodNamed Bd.named
  have hnm := (name_of_methodNamed Bd.named Bd.method).1
  refine own_cast (ef_apl_r m o0) ?_
  generalize hQQ : (fun (v : Option Value) (h : Heap) (L : List Loc) => v = some (.int (1 : Int32)) ∧ h = h0 ∧ L = []) = QQ
  refine own_go (g' := (mkF m 1 #[.val (.ref o0)] [(.ref o0)])) (fun _ kgo => XS.aloadN X0.here hx rfl (hb hby d16_0) rfl rfl kgo) ?_
  obtain ⟨T1, X1, e1, st1⟩ := getF X0 hx hZ hown (host := "") (Or.inl (hw _ (List.mem_of_getElem? (i := 89) rfl))) Via.refl e0 P0 (g := (mkF m 1 #[.val (.ref o0)] [(.ref o0)])) rfl rfl (hb hby d16_1)
  refine own_go (g' := (mkF m 4 #[.val (.ref o0)] [(.ref ap)])) (st1) ?_
  refine own_go (g' := (mkF m 7 #[.val (.ref o0)] [])) (fun _ kgo => XS.ifnullNo X1.here hx rfl (hb hby d16_4) rfl kgo) ?_
  refine own_go (g' := (mkF m 8 #[.val (.ref o0)] [(.int (1 : Int32))])) (fun _ kgo => XS.iconst X1.here hx rfl (hb hby d16_7) kgo) ?_
  refine own_go (g' := (mkF m 12 #[.val (.ref o0)] [(.int (1 : Int32))])) (fun _ kgo => XS.goto X1.here hx rfl (pc0 := 8) (pc' := 12) rfl (hb hby d16_8) (by decide) (by decide) kgo) ?_
  refine own_retN X1 hx .boolean Bd.returns Bd.notSynchronized (by simp) (hb hby d16_12) (by decide) (by decide) ?_
  show QQ _ T1.heap _
  rw [e1]
  rw [← hQQ]
  exact ⟨rfl, rfl, rfl⟩
theorem d11_0 : decode method_2_code 0 = .ok (.iload_n 0, 1) := by decide +kernel
theorem d11_1 : decode method_2_code 1 = .ok (.iconst 3, 1) := by decide +kernel
theorem d11_2 : decode method_2_code 2 = .ok (.iand, 1) := by decide +kernel
theorem d11_3 : decode method_2_code 3 = .ok (.istore 4, 2) := by decide +kernel
theorem d11_5 : decode method_2_code 5 = .ok (.iload 4, 2) := by decide +kernel
theorem d11_7 : decode method_2_code 7 = .ok (.ifCond .ne 5, 3) := by decide +kernel
theorem d11_10 : decode method_2_code 10 = .ok (.aconst_null, 1) := by decide +kernel
theorem d11_11 : decode method_2_code 11 = .ok (.areturn, 1) := by decide +kernel
theorem pn_pick0 : plainName "com/example/restlint/restlint/document/MappingNodeAppliedPinLaw" = true := by first | (simp [plainName, overriddenIn]; done) | decide +kernel
theorem ef_pick0 (m : MethodId) (p0 : Int32) (o1 : Addr) (o2 : Addr) (o3 : Addr) : entryFrame m #[(.int p0), (.ref o1), (.ref o2), (.ref o3)] 5 = mkF m 0 #[.val (.int p0), .val (.ref o1), .val (.ref o2), .val (.ref o3), .unset] [] := by first | (simp [entryFrame, mkF, argsToLocals, Value.category]; done) | rfl
set_option maxRecDepth 65536 in
set_option maxHeartbeats 40000000 in
theorem pick0 (l : Launch) (Z : State) (a0 : Array Value) (hw : ∀ d ∈ tables_1, d.before a0 Z = true) (p0 : Int32) (o1 : Addr) (o2 : Addr) (o3 : Addr)  (h0 : Heap) (hk : (p0 &&& (3 : Int32)) = (0 : Int32)) :
    own_Met l Z (⟨"com/example/restlint/restlint/document/MappingNodeAppliedPinLaw", "pick", "(ILcom/example/restlint/restlint/document/Node;Lcom/example/restlint/restlint/document/Node;Lcom/example/restlint/restlint/document/Node;)Lcom/example/restlint/restlint/document/Node;"⟩ : MethodName) method_2_code 5 (some (.object "com/example/restlint/restlint/document/Node")) [] ({ frames := 0, cells := 0, slots := 0, locals := 0 } : Room) #[(.int p0), (.ref o1), (.ref o2), (.ref o3)] h0 0 0 (fun v h L => v = some .null ∧ h = h0 ∧ L = []) := by
  refine own_met (plainFor_of_name pn_pick0) ?_
  intro p e s m below meth c s₁ Bd hml0 hZ X0 e0
  have hx := Bd.exec
  have hby := Bd.bytes
  have hml : c.maxLocals = 5 := hml0
  have hown : s.vm.findClass "com/example/restlint/restlint/document/MappingNodeAppliedPinLaw" = some m.cls := findClass_of_methodNamed Bd.named
  have hnm := (name_of_methodNamed Bd.named Bd.method).1
  refine own_cast (ef_pick0 m p0 o1 o2 o3) ?_
  generalize hQQ : (fun (v : Option Value) (h : Heap) (L : List Loc) => v = some .null ∧ h = h0 ∧ L = []) = QQ
  refine own_go (g' := (mkF m 1 #[.val (.int p0), .val (.ref o1), .val (.ref o2), .val (.ref o3), .unset] [(.int p0)])) (fun _ kgo => XS.iloadN X0.here hx rfl (hb hby d11_0) rfl kgo) ?_
  refine own_go (g' := (mkF m 2 #[.val (.int p0), .val (.ref o1), .val (.ref o2), .val (.ref o3), .unset] [(.int (3 : Int32)), (.int p0)])) (fun _ kgo => XS.iconst X0.here hx rfl (hb hby d11_1) kgo) ?_
  refine own_go (g' := (mkF m 3 #[.val (.int p0), .val (.ref o1), .val (.ref o2), .val (.ref o3), .unset] [(.int (p0 &&& (3 : Int32)))])) (fun _ kgo => XS.iand X0.here hx rfl (hb hby d11_2) rfl kgo) ?_
  refine own_go (g' := (mkF m 5 #[.val (.int p0), .val (.ref o1), .val (.ref o2), .val (.ref o3), .val (.int (p0 &&& (3 : Int32)))] [])) (fun _ kgo => XS.istore X0.here hx rfl (hb hby d11_3) rfl (l' := #[.val (.int p0), .val (.ref o1), .val (.ref o2), .val (.ref o3), .val (.int (p0 &&& (3 : Int32)))]) rfl kgo) ?_
  refine own_go (g' := (mkF m 7 #[.val (.int p0), .val (.ref o1), .val (.ref o2), .val (.ref o3), .val (.int (p0 &&& (3 : Int32)))] [(.int (p0 &&& (3 : Int32)))])) (fun _ kgo => XS.iload X0.here hx rfl (hb hby d11_5) rfl kgo) ?_
  refine own_go (g' := (mkF m 10 #[.val (.int p0), .val (.ref o1), .val (.ref o2), .val (.ref o3), .val (.int (p0 &&& (3 : Int32)))] [])) (fun _ kgo => XS.ifNo X0.here hx rfl (hb hby d11_7) rfl ((if0 _ _).trans (teq hk).2) kgo) ?_
  refine own_go (g' := (mkF m 11 #[.val (.int p0), .val (.ref o1), .val (.ref o2), .val (.ref o3), .val (.int (p0 &&& (3 : Int32)))] [.null])) (fun _ kgo => XS.aconstNull X0.here hx rfl (hb hby d11_10) kgo) ?_
  refine own_retA X0 hx Bd.returns Bd.notSynchronized rfl rfl (hb hby d11_11) (by decide) (by decide) ?_
  show QQ _ s₁.heap _
  rw [e0]
  rw [← hQQ]
  exact ⟨rfl, rfl, rfl⟩
theorem d11_12 : decode method_2_code 12 = .ok (.iload 4, 2) := by decide +kernel
theorem d11_14 : decode method_2_code 14 = .ok (.iconst 1, 1) := by decide +kernel
theorem d11_15 : decode method_2_code 15 = .ok (.if_icmp .ne 5, 3) := by decide +kernel
theorem d11_18 : decode method_2_code 18 = .ok (.aload_n 1, 1) := by decide +kernel
theorem d11_19 : decode method_2_code 19 = .ok (.areturn, 1) := by decide +kernel
theorem pn_pick1 : plainName "com/example/restlint/restlint/document/MappingNodeAppliedPinLaw" = true := by first | (simp [plainName, overriddenIn]; done) | decide +kernel
theorem ef_pick1 (m : MethodId) (p0 : Int32) (o1 : Addr) (o2 : Addr) (o3 : Addr) : entryFrame m #[(.int p0), (.ref o1), (.ref o2), (.ref o3)] 5 = mkF m 0 #[.val (.int p0), .val (.ref o1), .val (.ref o2), .val (.ref o3), .unset] [] := by first | (simp [entryFrame, mkF, argsToLocals, Value.category]; done) | rfl
set_option maxRecDepth 65536 in
set_option maxHeartbeats 40000000 in
theorem pick1 (l : Launch) (Z : State) (a0 : Array Value) (hw : ∀ d ∈ tables_1, d.before a0 Z = true) (p0 : Int32) (o1 : Addr) (o2 : Addr) (o3 : Addr)  (h0 : Heap) (hk : (p0 &&& (3 : Int32)) = (1 : Int32)) :
    own_Met l Z (⟨"com/example/restlint/restlint/document/MappingNodeAppliedPinLaw", "pick", "(ILcom/example/restlint/restlint/document/Node;Lcom/example/restlint/restlint/document/Node;Lcom/example/restlint/restlint/document/Node;)Lcom/example/restlint/restlint/document/Node;"⟩ : MethodName) method_2_code 5 (some (.object "com/example/restlint/restlint/document/Node")) [] ({ frames := 0, cells := 0, slots := 0, locals := 0 } : Room) #[(.int p0), (.ref o1), (.ref o2), (.ref o3)] h0 0 0 (fun v h L => v = some (.ref o1) ∧ h = h0 ∧ L = []) := by
  refine own_met (plainFor_of_name pn_pick1) ?_
  intro p e s m below meth c s₁ Bd hml0 hZ X0 e0
  have hx := Bd.exec
  have hby := Bd.bytes
  have hml : c.maxLocals = 5 := hml0
  have hown : s.vm.findClass "com/example/restlint/restlint/document/MappingNodeAppliedPinLaw" = some m.cls := findClass_of_methodNamed Bd.named
  have hnm := (name_of_methodNamed Bd.named Bd.method).1
  refine own_cast (ef_pick1 m p0 o1 o2 o3) ?_
  generalize hQQ : (fun (v : Option Value) (h : Heap) (L : List Loc) => v = some (.ref o1) ∧ h = h0 ∧ L = []) = QQ
  refine own_go (g' := (mkF m 1 #[.val (.int p0), .val (.ref o1), .val (.ref o2), .val (.ref o3), .unset] [(.int p0)])) (fun _ kgo => XS.iloadN X0.here hx rfl (hb hby d11_0) rfl kgo) ?_
  refine own_go (g' := (mkF m 2 #[.val (.int p0), .val (.ref o1), .val (.ref o2), .val (.ref o3), .unset] [(.int (3 : Int32)), (.int p0)])) (fun _ kgo => XS.iconst X0.here hx rfl (hb hby d11_1) kgo) ?_
  refine own_go (g' := (mkF m 3 #[.val (.int p0), .val (.ref o1), .val (.ref o2), .val (.ref o3), .unset] [(.int (p0 &&& (3 : Int32)))])) (fun _ kgo => XS.iand X0.here hx rfl (hb hby d11_2) rfl kgo) ?_
  refine own_go (g' := (mkF m 5 #[.val (.int p0), .val (.ref o1), .val (.ref o2), .val (.ref o3), .val (.int (p0 &&& (3 : Int32)))] [])) (fun _ kgo => XS.istore X0.here hx rfl (hb hby d11_3) rfl (l' := #[.val (.int p0), .val (.ref o1), .val (.ref o2), .val (.ref o3), .val (.int (p0 &&& (3 : Int32)))]) rfl kgo) ?_
  refine own_go (g' := (mkF m 7 #[.val (.int p0), .val (.ref o1), .val (.ref o2), .val (.ref o3), .val (.int (p0 &&& (3 : Int32)))] [(.int (p0 &&& (3 : Int32)))])) (fun _ kgo => XS.iload X0.here hx rfl (hb hby d11_5) rfl kgo) ?_
  refine own_go (g' := (mkF m 12 #[.val (.int p0), .val (.ref o1), .val (.ref o2), .val (.ref o3), .val (.int (p0 &&& (3 : Int32)))] [])) (fun _ kgo => XS.ifYes X0.here hx rfl (pc0 := 7) (pc' := 12) rfl (hb hby d11_7) rfl ((if0 _ _).trans (feq (by rw [hk]; decide)).2) (by decide) (by decide) kgo) ?_
  refine own_go (g' := (mkF m 14 #[.val (.int p0), .val (.ref o1), .val (.ref o2), .val (.ref o3), .val (.int (p0 &&& (3 : Int32)))] [(.int (p0 &&& (3 : Int32)))])) (fun _ kgo => XS.iload X0.here hx rfl (hb hby d11_12) rfl kgo) ?_
  refine own_go (g' := (mkF m 15 #[.val (.int p0), .val (.ref o1), .val (.ref o2), .val (.ref o3), .val (.int (p0 &&& (3 : Int32)))] [(.int (1 : Int32)), (.int (p0 &&& (3 : Int32)))])) (fun _ kgo => XS.iconst X0.here hx rfl (hb hby d11_14) kgo) ?_
  refine own_go (g' := (mkF m 18 #[.val (.int p0), .val (.ref o1), .val (.ref o2), .val (.ref o3), .val (.int (p0 &&& (3 : Int32)))] [])) (fun _ kgo => XS.icmpNo X0.here hx rfl (hb hby d11_15) rfl (teq hk).2 kgo) ?_
  refine own_go (g' := (mkF m 19 #[.val (.int p0), .val (.ref o1), .val (.ref o2), .val (.ref o3), .val (.int (p0 &&& (3 : Int32)))] [(.ref o1)])) (fun _ kgo => XS.aloadN X0.here hx rfl (hb hby d11_18) rfl rfl kgo) ?_
  refine own_retA X0 hx Bd.returns Bd.notSynchronized rfl rfl (hb hby d11_19) (by decide) (by decide) ?_
  show QQ _ s₁.heap _
  rw [e0]
  rw [← hQQ]
  exact ⟨rfl, rfl, rfl⟩
theorem d11_20 : decode method_2_code 20 = .ok (.iload 4, 2) := by decide +kernel
theorem d11_22 : decode method_2_code 22 = .ok (.iconst 2, 1) := by decide +kernel
theorem d11_23 : decode method_2_code 23 = .ok (.if_icmp .ne 5, 3) := by decide +kernel
theorem d11_26 : decode method_2_code 26 = .ok (.aload_n 2, 1) := by decide +kernel
theorem d11_27 : decode method_2_code 27 = .ok (.areturn, 1) := by decide +kernel
theorem pn_pick2 : plainName "com/example/restlint/restlint/document/MappingNodeAppliedPinLaw" = true := by first | (simp [plainName, overriddenIn]; done) | decide +kernel
theorem ef_pick2 (m : MethodId) (p0 : Int32) (o1 : Addr) (o2 : Addr) (o3 : Addr) : entryFrame m #[(.int p0), (.ref o1), (.ref o2), (.ref o3)] 5 = mkF m 0 #[.val (.int p0), .val (.ref o1), .val (.ref o2), .val (.ref o3), .unset] [] := by first | (simp [entryFrame, mkF, argsToLocals, Value.category]; done) | rfl
set_option maxRecDepth 65536 in
set_option maxHeartbeats 40000000 in
theorem pick2 (l : Launch) (Z : State) (a0 : Array Value) (hw : ∀ d ∈ tables_1, d.before a0 Z = true) (p0 : Int32) (o1 : Addr) (o2 : Addr) (o3 : Addr)  (h0 : Heap) (hk : (p0 &&& (3 : Int32)) = (2 : Int32)) :
    own_Met l Z (⟨"com/example/restlint/restlint/document/MappingNodeAppliedPinLaw", "pick", "(ILcom/example/restlint/restlint/document/Node;Lcom/example/restlint/restlint/document/Node;Lcom/example/restlint/restlint/document/Node;)Lcom/example/restlint/restlint/document/Node;"⟩ : MethodName) method_2_code 5 (some (.object "com/example/restlint/restlint/document/Node")) [] ({ frames := 0, cells := 0, slots := 0, locals := 0 } : Room) #[(.int p0), (.ref o1), (.ref o2), (.ref o3)] h0 0 0 (fun v h L => v = some (.ref o2) ∧ h = h0 ∧ L = []) := by
  refine own_met (plainFor_of_name pn_pick2) ?_
  intro p e s m below meth c s₁ Bd hml0 hZ X0 e0
  have hx := Bd.exec
  have hby := Bd.bytes
  have hml : c.maxLocals = 5 := hml0
  have hown : s.vm.findClass "com/example/restlint/restlint/document/MappingNodeAppliedPinLaw" = some m.cls := findClass_of_methodNamed Bd.named
  have hnm := (name_of_methodNamed Bd.named Bd.method).1
  refine own_cast (ef_pick2 m p0 o1 o2 o3) ?_
  generalize hQQ : (fun (v : Option Value) (h : Heap) (L : List Loc) => v = some (.ref o2) ∧ h = h0 ∧ L = []) = QQ
  refine own_go (g' := (mkF m 1 #[.val (.int p0), .val (.ref o1), .val (.ref o2), .val (.ref o3), .unset] [(.int p0)])) (fun _ kgo => XS.iloadN X0.here hx rfl (hb hby d11_0) rfl kgo) ?_
  refine own_go (g' := (mkF m 2 #[.val (.int p0), .val (.ref o1), .val (.ref o2), .val (.ref o3), .unset] [(.int (3 : Int32)), (.int p0)])) (fun _ kgo => XS.iconst X0.here hx rfl (hb hby d11_1) kgo) ?_
  refine own_go (g' := (mkF m 3 #[.val (.int p0), .val (.ref o1), .val (.ref o2), .val (.ref o3), .unset] [(.int (p0 &&& (3 : Int32)))])) (fun _ kgo => XS.iand X0.here hx rfl (hb hby d11_2) rfl kgo) ?_
  refine own_go (g' := (mkF m 5 #[.val (.int p0), .val (.ref o1), .val (.ref o2), .val (.ref o3), .val (.int (p0 &&& (3 : Int32)))] [])) (fun _ kgo => XS.istore X0.here hx rfl (hb hby d11_3) rfl (l' := #[.val (.int p0), .val (.ref o1), .val (.ref o2), .val (.ref o3), .val (.int (p0 &&& (3 : Int32)))]) rfl kgo) ?_
  refine own_go (g' := (mkF m 7 #[.val (.int p0), .val (.ref o1), .val (.ref o2), .val (.ref o3), .val (.int (p0 &&& (3 : Int32)))] [(.int (p0 &&& (3 : Int32)))])) (fun _ kgo => XS.iload X0.here hx rfl (hb hby d11_5) rfl kgo) ?_
  refine own_go (g' := (mkF m 12 #[.val (.int p0), .val (.ref o1), .val (.ref o2), .val (.ref o3), .val (.int (p0 &&& (3 : Int32)))] [])) (fun _ kgo => XS.ifYes X0.here hx rfl (pc0 := 7) (pc' := 12) rfl (hb hby d11_7) rfl ((if0 _ _).trans (feq (by rw [hk]; decide)).2) (by decide) (by decide) kgo) ?_
  refine own_go (g' := (mkF m 14 #[.val (.int p0), .val (.ref o1), .val (.ref o2), .val (.ref o3), .val (.int (p0 &&& (3 : Int32)))] [(.int (p0 &&& (3 : Int32)))])) (fun _ kgo => XS.iload X0.here hx rfl (hb hby d11_12) rfl kgo) ?_
  refine own_go (g' := (mkF m 15 #[.val (.int p0), .val (.ref o1), .val (.ref o2), .val (.ref o3), .val (.int (p0 &&& (3 : Int32)))] [(.int (1 : Int32)), (.int (p0 &&& (3 : Int32)))])) (fun _ kgo => XS.iconst X0.here hx rfl (hb hby d11_14) kgo) ?_
  refine own_go (g' := (mkF m 20 #[.val (.int p0), .val (.ref o1), .val (.ref o2), .val (.ref o3), .val (.int (p0 &&& (3 : Int32)))] [])) (fun _ kgo => XS.icmpYes X0.here hx rfl (pc0 := 15) (pc' := 20) rfl (hb hby d11_15) rfl (feq (by rw [hk]; decide)).2 (by decide) (by decide) kgo) ?_
  refine own_go (g' := (mkF m 22 #[.val (.int p0), .val (.ref o1), .val (.ref o2), .val (.ref o3), .val (.int (p0 &&& (3 : Int32)))] [(.int (p0 &&& (3 : Int32)))])) (fun _ kgo => XS.iload X0.here hx rfl (hb hby d11_20) rfl kgo) ?_
  refine own_go (g' := (mkF m 23 #[.val (.int p0), .val (.ref o1), .val (.ref o2), .val (.ref o3), .val (.int (p0 &&& (3 : Int32)))] [(.int (2 : Int32)), (.int (p0 &&& (3 : Int32)))])) (fun _ kgo => XS.iconst X0.here hx rfl (hb hby d11_22) kgo) ?_
  refine own_go (g' := (mkF m 26 #[.val (.int p0), .val (.ref o1), .val (.ref o2), .val (.ref o3), .val (.int (p0 &&& (3 : Int32)))] [])) (fun _ kgo => XS.icmpNo X0.here hx rfl (hb hby d11_23) rfl (teq hk).2 kgo) ?_
  refine own_go (g' := (mkF m 27 #[.val (.int p0), .val (.ref o1), .val (.ref o2), .val (.ref o3), .val (.int (p0 &&& (3 : Int32)))] [(.ref o2)])) (fun _ kgo => XS.aloadN X0.here hx rfl (hb hby d11_26) rfl rfl kgo) ?_
  refine own_retA X0 hx Bd.returns Bd.notSynchronized rfl rfl (hb hby d11_27) (by decide) (by decide) ?_
  show QQ _ s₁.heap _
  rw [e0]
  rw [← hQQ]
  exact ⟨rfl, rfl, rfl⟩
theorem d11_28 : decode method_2_code 28 = .ok (.aload_n 3, 1) := by decide +kernel
theorem d11_29 : decode method_2_code 29 = .ok (.areturn, 1) := by decide +kernel
theorem pn_pick3 : plainName "com/example/restlint/restlint/document/MappingNodeAppliedPinLaw" = true := by first | (simp [plainName, overriddenIn]; done) | decide +kernel
theorem ef_pick3 (m : MethodId) (p0 : Int32) (o1 : Addr) (o2 : Addr) (o3 : Addr) : entryFrame m #[(.int p0), (.ref o1), (.ref o2), (.ref o3)] 5 = mkF m 0 #[.val (.int p0), .val (.ref o1), .val (.ref o2), .val (.ref o3), .unset] [] := by first | (simp [entryFrame, mkF, argsToLocals, Value.category]; done) | rfl
set_option maxRecDepth 65536 in
set_option maxHeartbeats 40000000 in
theorem pick3 (l : Launch) (Z : State) (a0 : Array Value) (hw : ∀ d ∈ tables_1, d.before a0 Z = true) (p0 : Int32) (o1 : Addr) (o2 : Addr) (o3 : Addr)  (h0 : Heap) (hk : (p0 &&& (3 : Int32)) = (3 : Int32)) :
    own_Met l Z (⟨"com/example/restlint/restlint/document/MappingNodeAppliedPinLaw", "pick", "(ILcom/example/restlint/restlint/document/Node;Lcom/example/restlint/restlint/document/Node;Lcom/example/restlint/restlint/document/Node;)Lcom/example/restlint/restlint/document/Node;"⟩ : MethodName) method_2_code 5 (some (.object "com/example/restlint/restlint/document/Node")) [] ({ frames := 0, cells := 0, slots := 0, locals := 0 } : Room) #[(.int p0), (.ref o1), (.ref o2), (.ref o3)] h0 0 0 (fun v h L => v = some (.ref o3) ∧ h = h0 ∧ L = []) := by
  refine own_met (plainFor_of_name pn_pick3) ?_
  intro p e s m below meth c s₁ Bd hml0 hZ X0 e0
  have hx := Bd.exec
  have hby := Bd.bytes
  have hml : c.maxLocals = 5 := hml0
  have hown : s.vm.findClass "com/example/restlint/restlint/document/MappingNodeAppliedPinLaw" = some m.cls := findClass_of_methodNamed Bd.named
  have hnm := (name_of_methodNamed Bd.named Bd.method).1
  refine own_cast (ef_pick3 m p0 o1 o2 o3) ?_
  generalize hQQ : (fun (v : Option Value) (h : Heap) (L : List Loc) => v = some (.ref o3) ∧ h = h0 ∧ L = []) = QQ
  refine own_go (g' := (mkF m 1 #[.val (.int p0), .val (.ref o1), .val (.ref o2), .val (.ref o3), .unset] [(.int p0)])) (fun _ kgo => XS.iloadN X0.here hx rfl (hb hby d11_0) rfl kgo) ?_
  refine own_go (g' := (mkF m 2 #[.val (.int p0), .val (.ref o1), .val (.ref o2), .val (.ref o3), .unset] [(.int (3 : Int32)), (.int p0)])) (fun _ kgo => XS.iconst X0.here hx rfl (hb hby d11_1) kgo) ?_
  refine own_go (g' := (mkF m 3 #[.val (.int p0), .val (.ref o1), .val (.ref o2), .val (.ref o3), .unset] [(.int (p0 &&& (3 : Int32)))])) (fun _ kgo => XS.iand X0.here hx rfl (hb hby d11_2) rfl kgo) ?_
  refine own_go (g' := (mkF m 5 #[.val (.int p0), .val (.ref o1), .val (.ref o2), .val (.ref o3), .val (.int (p0 &&& (3 : Int32)))] [])) (fun _ kgo => XS.istore X0.here hx rfl (hb hby d11_3) rfl (l' := #[.val (.int p0), .val (.ref o1), .val (.ref o2), .val (.ref o3), .val (.int (p0 &&& (3 : Int32)))]) rfl kgo) ?_
  refine own_go (g' := (mkF m 7 #[.val (.int p0), .val (.ref o1), .val (.ref o2), .val (.ref o3), .val (.int (p0 &&& (3 : Int32)))] [(.int (p0 &&& (3 : Int32)))])) (fun _ kgo => XS.iload X0.here hx rfl (hb hby d11_5) rfl kgo) ?_
  refine own_go (g' := (mkF m 12 #[.val (.int p0), .val (.ref o1), .val (.ref o2), .val (.ref o3), .val (.int (p0 &&& (3 : Int32)))] [])) (fun _ kgo => XS.ifYes X0.here hx rfl (pc0 := 7) (pc' := 12) rfl (hb hby d11_7) rfl ((if0 _ _).trans (feq (by rw [hk]; decide)).2) (by decide) (by decide) kgo) ?_
  refine own_go (g' := (mkF m 14 #[.val (.int p0), .val (.ref o1), .val (.ref o2), .val (.ref o3), .val (.int (p0 &&& (3 : Int32)))] [(.int (p0 &&& (3 : Int32)))])) (fun _ kgo => XS.iload X0.here hx rfl (hb hby d11_12) rfl kgo) ?_
  refine own_go (g' := (mkF m 15 #[.val (.int p0), .val (.ref o1), .val (.ref o2), .val (.ref o3), .val (.int (p0 &&& (3 : Int32)))] [(.int (1 : Int32)), (.int (p0 &&& (3 : Int32)))])) (fun _ kgo => XS.iconst X0.here hx rfl (hb hby d11_14) kgo) ?_
  refine own_go (g' := (mkF m 20 #[.val (.int p0), .val (.ref o1), .val (.ref o2), .val (.ref o3), .val (.int (p0 &&& (3 : Int32)))] [])) (fun _ kgo => XS.icmpYes X0.here hx rfl (pc0 := 15) (pc' := 20) rfl (hb hby d11_15) rfl (feq (by rw [hk]; decide)).2 (by decide) (by decide) kgo) ?_
  refine own_go (g' := (mkF m 22 #[.val (.int p0), .val (.ref o1), .val (.ref o2), .val (.ref o3), .val (.int (p0 &&& (3 : Int32)))] [(.int (p0 &&& (3 : Int32)))])) (fun _ kgo => XS.iload X0.here hx rfl (hb hby d11_20) rfl kgo) ?_
  refine own_go (g' := (mkF m 23 #[.val (.int p0), .val (.ref o1), .val (.ref o2), .val (.ref o3), .val (.int (p0 &&& (3 : Int32)))] [(.int (2 : Int32)), (.int (p0 &&& (3 : Int32)))])) (fun _ kgo => XS.iconst X0.here hx rfl (hb hby d11_22) kgo) ?_
  refine own_go (g' := (mkF m 28 #[.val (.int p0), .val (.ref o1), .val (.ref o2), .val (.ref o3), .val (.int (p0 &&& (3 : Int32)))] [])) (fun _ kgo => XS.icmpYes X0.here hx rfl (pc0 := 23) (pc' := 28) rfl (hb hby d11_23) rfl (feq (by rw [hk]; decide)).2 (by decide) (by decide) kgo) ?_
  refine own_go (g' := (mkF m 29 #[.val (.int p0), .val (.ref o1), .val (.ref o2), .val (.ref o3), .val (.int (p0 &&& (3 : Int32)))] [(.ref o3)])) (fun _ kgo => XS.aloadN X0.here hx rfl (hb hby d11_28) rfl rfl kgo) ?_
  refine own_retA X0 hx Bd.returns Bd.notSynchronized rfl rfl (hb hby d11_29) (by decide) (by decide) ?_
  show QQ _ s₁.heap _
  rw [e0]
  rw [← hQQ]
  exact ⟨rfl, rfl, rfl⟩
theorem d13_0 : decode prog_44_method_1_code 0 = .ok (.aload_n 0, 1) := by decide +kernel
theorem d13_1 : decode prog_44_method_1_code 1 = .ok (.invokespecial 1, 3) := by decide +kernel
theorem d13_4 : decode prog_44_method_1_code 4 = .ok (.aload_n 0, 1) := by decide +kernel
theorem d13_5 : decode prog_44_method_1_code 5 = .ok (.new 7, 3) := by decide +kernel
theorem d13_8 : decode prog_44_method_1_code 8 = .ok (.dup, 1) := by decide +kernel
theorem d13_9 : decode prog_44_method_1_code 9 = .ok (.invokespecial 9, 3) := by decide +kernel
theorem d13_12 : decode prog_44_method_1_code 12 = .ok (.putfield 10, 3) := by decide +kernel
theorem d13_15 : decode prog_44_method_1_code 15 = .ok (.aload_n 0, 1) := by decide +kernel
theorem d13_16 : decode prog_44_method_1_code 16 = .ok (.aload_n 1, 1) := by decide +kernel
theorem d13_17 : decode prog_44_method_1_code 17 = .ok (.putfield 16, 3) := by decide +kernel
theorem d13_20 : decode prog_44_method_1_code 20 = .ok (.return_, 1) := by decide +kernel
theorem pn_ai_n : plainName "com/example/restlint/restlint/document/MappingNode$Applied" = true := by first | (simp [plainName, overriddenIn]; done) | decide +kernel
theorem pd13_0 : parseMethodDescriptor "()V" = some ⟨[], none⟩ := by decide +kernel
theorem ef_ai_n (m : MethodId) (o0 : Addr) : entryFrame m #[(.ref o0), .null] 2 = mkF m 0 #[.val (.ref o0), .val .null] [] := by first | (simp [entryFrame, mkF, argsToLocals, Value.category]; done) | rfl
set_option maxRecDepth 65536 in
set_option maxHeartbeats 40000000 in
theorem ai_n (l : Launch) (Z : State) (a0 : Array Value) (hw : ∀ d ∈ tables_1, d.before a0 Z = true) (o0 : Addr)  (h0 : Heap) (n0 : Nat) (Z0 : n0 ≤ h0.size) (g_o0 : n0 ≤ o0) (P0 : Exa Z h0 o0 "com/example/restlint/restlint/document/MappingNode$Applied") (P1 : Fld Z h0 o0 "com/example/restlint/restlint/document/MappingNode$Applied" "holders" "Ljava/util/Map;" .null) (P2 : Fld Z h0 o0 "com/example/restlint/restlint/document/MappingNode$Applied" "target" "Lcom/example/restlint/restlint/document/Node;" .null) :
    own_Met l Z (⟨"com/example/restlint/restlint/document/MappingNode$Applied", "<init>", "(Lcom/example/restlint/restlint/document/Node;)V"⟩ : MethodName) prog_44_method_1_code 2 none [] ({ frames := 3, cells := 1, slots := 8, locals := 38 } : Room) #[(.ref o0), .null] h0 1 8 (fun v h L => v = none ∧ Fr n0 L ∧ Keep h0 h [o0] ∧ Exa Z h o0 "com/example/restlint/restlint/document/MappingNode$Applied" ∧ Fld Z h o0 "com/example/restlint/restlint/document/MappingNode$Applied" "target" "Lcom/example/restlint/restlint/document/Node;" .null) := by
  refine own_met (plainFor_of_name pn_ai_n) ?_
  intro p e s m below meth c s₁ Bd hml0 hZ X0 e0
  have hx := Bd.exec
  have hby := Bd.bytes
  have hml : c.maxLocals = 2 := hml0
  have hown : s.vm.findClass "com/example/restlint/restlint/document/MappingNode$Applied" = some m.cls := findClass_of_methodNamed Bd.named
  have hnm := (name_of_methodNamed Bd.named Bd.method).1
  refine own_cast (ef_ai_n m o0) ?_
  generalize hQQ : (fun (v : Option Value) (h : Heap) (L : List Loc) => v = none ∧ Fr n0 L ∧ Keep h0 h [o0] ∧ Exa Z h o0 "com/example/restlint/restlint/document/MappingNode$Applied" ∧ Fld Z h o0 "com/example/restlint/restlint/document/MappingNode$Applied" "target" "Lcom/example/restlint/restlint/document/Node;" .null) = QQ
  have N0 := Fr.nil n0
  have K0 := Keep.refl h0 [o0]
  refine own_go (g' := (mkF m 1 #[.val (.ref o0), .val .null] [(.ref o0)])) (fun _ kgo => XS.aloadN X0.here hx rfl (hb hby d13_0) rfl rfl kgo) ?_
  obtain ⟨T1, X1, e1, st1⟩ := initO X0 hx hZ hown (hw _ (List.mem_of_getElem? (i := 106) rfl)) (hw _ (List.mem_of_getElem? (i := 23) rfl)) (hw _ (List.mem_of_getElem? (i := 24) rfl)) e0 (g := (mkF m 1 #[.val (.ref o0), .val .null] [(.ref o0)])) rfl (by rw [hml]; rfl) rfl (hb hby d13_1) (by decide) (W := 0) (by show 2 * 0 + _ ≤ _; exact Nat.le_of_eq rfl) (by decide)
  refine own_go (g' := (mkF m 4 #[.val (.ref o0), .val .null] [])) (st1) ?_
  refine own_go (g' := (mkF m 5 #[.val (.ref o0), .val .null] [(.ref o0)])) (fun _ kgo => XS.aloadN X1.here hx rfl (hb hby d13_4) rfl rfl kgo) ?_
  obtain ⟨T2, h2, X2, e2, E2, A2, D2, -, st2⟩ := newO X1 hx hZ hown (hw _ (List.mem_of_getElem? (i := 107) rfl)) (hw _ (List.mem_of_getElem? (i := 108) rfl)) (hw _ (List.mem_of_getElem? (i := 109) rfl)) e1 (g := (mkF m 5 #[.val (.ref o0), .val .null] [(.ref o0)])) rfl (hb hby d13_5) (by decide) (by decide)
  obtain ⟨b2, ad2⟩ : ∃ z, z = h0.size := ⟨_, rfl⟩
  rw [← ad2] at A2 D2 st2
  have ne_o0_b2 : o0 ≠ b2 := Nat.ne_of_lt (by rw [ad2]; exact P0.lt)
  have ge_b2 : n0 ≤ b2 := by rw [ad2]; exact Z0
  have sz_b2 : h0.size ≤ b2 := by rw [ad2]; exact K0.1
  have Z2 : n0 ≤ h2.size := Nat.le_trans Z0 E2.1
  have K2 : Keep h0 h2 [o0] := K0.ext E2
  have F2_loadFactor : Fld Z h2 b2 "java/util/HashMap" "loadFactor" "F" (.float (0 : UInt32)) := D2 (Or.inr (hw _ (List.mem_of_getElem? (i := 122) rfl))) (ty := .float) (by decide)
  refine own_go (g' := (mkF m 8 #[.val (.ref o0), .val .null] [(.ref b2), (.ref o0)])) (st2) ?_
  refine own_go (g' := (mkF m 9 #[.val (.ref o0), .val .null] [(.ref b2), (.ref b2), (.ref o0)])) (fun _ kgo => XS.dup X2.here hx rfl (hb hby d13_8) rfl rfl kgo) ?_
  obtain ⟨v3, T3, L3, hQ3, X3, st3⟩ := own_callI X2 hx hZ (y := (⟨"java/util/HashMap", "<init>", "()V"⟩ : MethodName)) rfl hown (hw _ (List.mem_of_getElem? (i := 110) rfl)) (hw _ (List.mem_of_getElem? (i := 111) rfl)) (hw _ (List.mem_of_getElem? (i := 109) rfl)) (hw _ (List.mem_of_getElem? (i := 112) rfl)) ⟨by decide, by decide⟩ (a := b2) (argsL := []) (rm14 l Z a0 hw b2 h2 n0 Z2 ge_b2 A2 F2_loadFactor) e2 (g := (mkF m 9 #[.val (.ref o0), .val .null] [(.ref b2), (.ref b2), (.ref o0)])) rfl (by rw [hml]; rfl) (rest := [(.ref b2), (.ref o0)]) (lenOf pd13_0 rfl) rfl (hb hby d13_9) (W := 2) (by show 2 * 0 + _ ≤ _; exact Nat.le_of_eq rfl) (by decide) (by decide) (by decide) (by decide)
  obtain ⟨rfl, Nq3, Kq3, q3_0⟩ := hQ3
  have N3 := Fr.app N0 Nq3
  have Z3 : n0 ≤ T3.heap.size := Nat.le_trans Z2 Kq3.1
  have KK3 : Keep h0 T3.heap [o0] := K2.trans Kq3 (allS (Or.inr sz_b2) all0)
  refine own_go (g' := (mkF m 12 #[.val (.ref o0), .val .null] [(.ref b2), (.ref o0)])) (st3) ?_
  have fx4 : Fld Z T3.heap o0 "com/example/restlint/restlint/document/MappingNode$Applied" "holders" "Ljava/util/Map;" .null := (Fld.keep (Fld.ext E2 P1) Kq3 (ninS ne_o0_b2 nin0))
  have fx5 : Exa Z T3.heap o0 "com/example/restlint/restlint/document/MappingNode$Applied" := (Exa.keep (Exa.ext E2 P0) Kq3)
  obtain ⟨T6, h6, X6, e6, W6, st6⟩ := putF X3 hx hZ hown (host := "") (Or.inl (hw _ (List.mem_of_getElem? (i := 123) rfl))) Via.refl rfl fx4 fx5 (Or.inr ⟨(hw _ (List.mem_of_getElem? (i := 124) rfl)), rfl, hnm⟩) (hw _ (List.mem_of_getElem? (i := 101) rfl)) (ty := (.object "java/util/Map")) (by decide) rfl rfl (g := (mkF m 12 #[.val (.ref o0), .val .null] [(.ref b2), (.ref o0)])) rfl rfl (hb hby d13_12)
  have fw6 := Fld.same W6 fx4
  have N6 := Fr.snoc X6 N3 g_o0
  have Z6 : n0 ≤ h6.size := by rw [W6.size]; exact Z3
  have K6 : Keep h0 h6 [o0] := KK3.wr W6 (Or.inl (List.mem_of_getElem? (i := 0) rfl))
  refine own_go (g' := (mkF m 15 #[.val (.ref o0), .val .null] [])) (st6) ?_
  refine own_go (g' := (mkF m 16 #[.val (.ref o0), .val .null] [(.ref o0)])) (fun _ kgo => XS.aloadN X6.here hx rfl (hb hby d13_15) rfl rfl kgo) ?_
  refine own_go (g' := (mkF m 17 #[.val (.ref o0), .val .null] [.null, (.ref o0)])) (fun _ kgo => XS.aloadN X6.here hx rfl (hb hby d13_16) rfl rfl kgo) ?_
  have fx7 : Fld Z h6 o0 "com/example/restlint/restlint/document/MappingNode$Applied" "target" "Lcom/example/restlint/restlint/document/Node;" .null := (Fld.other W6 (Fld.keep (Fld.ext E2 P2) Kq3 (ninS ne_o0_b2 nin0)) (Or.inr (slot_ne (Or.inr (hw _ (List.mem_of_getElem? (i := 126) rfl))) (Or.inr (hw _ (List.mem_of_getElem? (i := 124) rfl))) (by decide) (t := (.object "com/example/restlint/restlint/document/Node")) (t' := (.object "java/util/Map")) (by decide) (by decide))))
  have fx8 : Exa Z h6 o0 "com/example/restlint/restlint/document/MappingNode$Applied" := (Exa.wr W6 fx5)
  obtain ⟨T9, h9, X9, e9, W9, st9⟩ := putF X6 hx hZ hown (host := "") (Or.inl (hw _ (List.mem_of_getElem? (i := 125) rfl))) Via.refl e6 fx7 fx8 (Or.inr ⟨(hw _ (List.mem_of_getElem? (i := 126) rfl)), rfl, hnm⟩) (hw _ (List.mem_of_getElem? (i := 101) rfl)) (ty := (.object "com/example/restlint/restlint/document/Node")) (by decide) rfl rfl (g := (mkF m 17 #[.val (.ref o0), .val .null] [.null, (.ref o0)])) rfl rfl (hb hby d13_17)
  have fw9 := Fld.same W9 fx7
  have N9 := Fr.snoc X9 N6 g_o0
  have Z9 : n0 ≤ h9.size := by rw [W9.size]; exact Z6
  have K9 : Keep h0 h9 [o0] := K6.wr W9 (Or.inl (List.mem_of_getElem? (i := 0) rfl))
  refine own_go (g' := (mkF m 20 #[.val (.ref o0), .val .null] [])) (st9) ?_
  refine own_retV X9 hx Bd.returns Bd.notSynchronized (hb hby d13_20) (by decide) (by decide) ?_
  show QQ _ T9.heap _
  rw [e9]
  have fx10 : Exa Z h9 o0 "com/example/restlint/restlint/document/MappingNode$Applied" := (Exa.wr W9 fx8)
  rw [← hQQ]
  exact ⟨rfl, N9, K9, fx10, fw9⟩
theorem d12_0 : decode prog_43_method_15_code 0 = .ok (.aload_n 0, 1) := by decide +kernel
theorem d12_1 : decode prog_43_method_15_code 1 = .ok (.new 87, 3) := by decide +kernel
theorem d12_4 : decode prog_43_method_15_code 4 = .ok (.dup, 1) := by decide +kernel
theorem d12_5 : decode prog_43_method_15_code 5 = .ok (.aload_n 1, 1) := by decide +kernel
theorem d12_6 : decode prog_43_method_15_code 6 = .ok (.invokespecial 136, 3) := by decide +kernel
theorem d12_9 : decode prog_43_method_15_code 9 = .ok (.putfield 78, 3) := by decide +kernel
theorem d12_12 : decode prog_43_method_15_code 12 = .ok (.return_, 1) := by decide +kernel
theorem pn_apr_nn : plainName "com/example/restlint/restlint/document/MappingNode" = true := by first | (simp [plainName, overriddenIn]; done) | decide +kernel
theorem pd12_0 : parseMethodDescriptor "(Lcom/example/restlint/restlint/document/Node;)V" = some ⟨[(.object "com/example/restlint/restlint/document/Node")], none⟩ := by decide +kernel
theorem ef_apr_nn (m : MethodId) (o0 : Addr) : entryFrame m #[(.ref o0), .null] 2 = mkF m 0 #[.val (.ref o0), .val .null] [] := by first | (simp [entryFrame, mkF, argsToLocals, Value.category]; done) | rfl
set_option maxRecDepth 65536 in
set_option maxHeartbeats 40000000 in
theorem apr_nn (l : Launch) (Z : State) (a0 : Array Value) (hw : ∀ d ∈ tables_1, d.before a0 Z = true) (o0 : Addr)  (h0 : Heap) (n0 : Nat) (Z0 : n0 ≤ h0.size) (g_o0 : n0 ≤ o0) (P0 : Exa Z h0 o0 "com/example/restlint/restlint/document/MappingNode") (P1 : Fld Z h0 o0 "com/example/restlint/restlint/document/MappingNode" "applied" "Lcom/example/restlint/restlint/document/MappingNode$Applied;" .null) :
    own_Met l Z (⟨"com/example/restlint/restlint/document/MappingNode", "applyReference", "(Lcom/example/restlint/restlint/document/Node;)V"⟩ : MethodName) prog_43_method_15_code 2 none [] ({ frames := 4, cells := 2, slots := 11, locals := 53 } : Room) #[(.ref o0), .null] h0 2 11 (fun v h L => ∃ (ap : Addr), v = none ∧ Fr n0 L ∧ Keep h0 h [o0] ∧ h0.size ≤ ap ∧ Exa Z h o0 "com/example/restlint/restlint/document/MappingNode" ∧ Fld Z h o0 "com/example/restlint/restlint/document/MappingNode" "applied" "Lcom/example/restlint/restlint/document/MappingNode$Applied;" (.ref ap) ∧ Fld Z h ap "com/example/restlint/restlint/document/MappingNode$Applied" "target" "Lcom/example/restlint/restlint/document/Node;" .null) := by
  refine own_met (plainFor_of_name pn_apr_nn) ?_
  intro p e s m below meth c s₁ Bd hml0 hZ X0 e0
  have hx := Bd.exec
  have hby := Bd.bytes
  have hml : c.maxLocals = 2 := hml0
  have hown : s.vm.findClass "com/example/restlint/restlint/document/MappingNode" = some m.cls := findClass_of_methodNamed Bd.named
  have hnm := (name_of_methodNamed Bd.named Bd.method).1
  refine own_cast (ef_apr_nn m o0) ?_
  generalize hQQ : (fun (v : Option Value) (h : Heap) (L : List Loc) => ∃ (ap : Addr), v = none ∧ Fr n0 L ∧ Keep h0 h [o0] ∧ h0.size ≤ ap ∧ Exa Z h o0 "com/example/restlint/restlint/document/MappingNode" ∧ Fld Z h o0 "com/example/restlint/restlint/document/MappingNode" "applied" "Lcom/example/restlint/restlint/document/MappingNode$Applied;" (.ref ap) ∧ Fld Z h ap "com/example/restlint/restlint/document/MappingNode$Applied" "target" "Lcom/example/restlint/restlint/document/Node;" .null) = QQ
  have N0 := Fr.nil n0
  have K0 := Keep.refl h0 [o0]
  refine own_go (g' := (mkF m 1 #[.val (.ref o0), .val .null] [(.ref o0)])) (fun _ kgo => XS.aloadN X0.here hx rfl (hb hby d12_0) rfl rfl kgo) ?_
  obtain ⟨T1, h1, X1, e1, E1, A1, D1, -, st1⟩ := newO X0 hx hZ hown (hw _ (List.mem_of_getElem? (i := 100) rfl)) (hw _ (List.mem_of_getElem? (i := 101) rfl)) (hw _ (List.mem_of_getElem? (i := 102) rfl)) e0 (g := (mkF m 1 #[.val (.ref o0), .val .null] [(.ref o0)])) rfl (hb hby d12_1) (by decide) (by decide)
  obtain ⟨b1, ad1⟩ : ∃ z, z = h0.size := ⟨_, rfl⟩
  rw [← ad1] at A1 D1 st1
  have ne_o0_b1 : o0 ≠ b1 := Nat.ne_of_lt (by rw [ad1]; exact P0.lt)
  have ge_b1 : n0 ≤ b1 := by rw [ad1]; exact Z0
  have sz_b1 : h0.size ≤ b1 := by rw [ad1]; exact K0.1
  have Z1 : n0 ≤ h1.size := Nat.le_trans Z0 E1.1
  have K1 : Keep h0 h1 [o0] := K0.ext E1
  have F1_holders : Fld Z h1 b1 "com/example/restlint/restlint/document/MappingNode$Applied" "holders" "Ljava/util/Map;" .null := D1 (Or.inr (hw _ (List.mem_of_getElem? (i := 124) rfl))) (ty := (.object "java/util/Map")) (by decide)
  have F1_target : Fld Z h1 b1 "com/example/restlint/restlint/document/MappingNode$Applied" "target" "Lcom/example/restlint/restlint/document/Node;" .null := D1 (Or.inr (hw _ (List.mem_of_getElem? (i := 126) rfl))) (ty := (.object "com/example/restlint/restlint/document/Node")) (by decide)
  refine own_go (g' := (mkF m 4 #[.val (.ref o0), .val .null] [(.ref b1), (.ref o0)])) (st1) ?_
  refine own_go (g' := (mkF m 5 #[.val (.ref o0), .val .null] [(.ref b1), (.ref b1), (.ref o0)])) (fun _ kgo => XS.dup X1.here hx rfl (hb hby d12_4) rfl rfl kgo) ?_
  refine own_go (g' := (mkF m 6 #[.val (.ref o0), .val .null] [.null, (.ref b1), (.ref b1), (.ref o0)])) (fun _ kgo => XS.aloadN X1.here hx rfl (hb hby d12_5) rfl rfl kgo) ?_
  obtain ⟨v2, T2, L2, hQ2, X2, st2⟩ := own_callI X1 hx hZ (y := (⟨"com/example/restlint/restlint/document/MappingNode$Applied", "<init>", "(Lcom/example/restlint/restlint/document/Node;)V"⟩ : MethodName)) rfl hown (hw _ (List.mem_of_getElem? (i := 103) rfl)) (hw _ (List.mem_of_getElem? (i := 104) rfl)) (hw _ (List.mem_of_getElem? (i := 102) rfl)) (hw _ (List.mem_of_getElem? (i := 105) rfl)) ⟨by decide, by decide⟩ (a := b1) (argsL := [.null]) (ai_n l Z a0 hw b1 h1 n0 Z1 ge_b1 A1 F1_holders F1_target) e1 (g := (mkF m 6 #[.val (.ref o0), .val .null] [.null, (.ref b1), (.ref b1), (.ref o0)])) rfl (by rw [hml]; rfl) (rest := [(.ref b1), (.ref o0)]) (lenOf pd12_0 rfl) rfl (hb hby d12_6) (W := 2) (by show 2 * 0 + _ ≤ _; exact Nat.le_of_eq rfl) (by decide) (by decide) (by decide) (by decide)
  obtain ⟨rfl, Nq2, Kq2, q2_0, q2_1⟩ := hQ2
  have N2 := Fr.app N0 Nq2
  have Z2 : n0 ≤ T2.heap.size := Nat.le_trans Z1 Kq2.1
  have KK2 : Keep h0 T2.heap [o0] := K1.trans Kq2 (allS (Or.inr sz_b1) all0)
  refine own_go (g' := (mkF m 9 #[.val (.ref o0), .val .null] [(.ref b1), (.ref o0)])) (st2) ?_
  have fx3 : Fld Z T2.heap o0 "com/example/restlint/restlint/document/MappingNode" "applied" "Lcom/example/restlint/restlint/document/MappingNode$Applied;" .null := (Fld.keep (Fld.ext E1 P1) Kq2 (ninS ne_o0_b1 nin0))
  have fx4 : Exa Z T2.heap o0 "com/example/restlint/restlint/document/MappingNode" := (Exa.keep (Exa.ext E1 P0) Kq2)
  obtain ⟨T5, h5, X5, e5, W5, st5⟩ := putF X2 hx hZ hown (host := "") (Or.inl (hw _ (List.mem_of_getElem? (i := 89) rfl))) Via.refl rfl fx3 fx4 (Or.inl (hw _ (List.mem_of_getElem? (i := 90) rfl))) (hw _ (List.mem_of_getElem? (i := 34) rfl)) (ty := (.object "com/example/restlint/restlint/document/MappingNode$Applied")) (by decide) rfl rfl (g := (mkF m 9 #[.val (.ref o0), .val .null] [(.ref b1), (.ref o0)])) rfl rfl (hb hby d12_9)
  have fw5 := Fld.same W5 fx3
  have N5 := Fr.snoc X5 N2 g_o0
  have Z5 : n0 ≤ h5.size := by rw [W5.size]; exact Z2
  have K5 : Keep h0 h5 [o0] := KK2.wr W5 (Or.inl (List.mem_of_getElem? (i := 0) rfl))
  refine own_go (g' := (mkF m 12 #[.val (.ref o0), .val .null] [])) (st5) ?_
  refine own_retV X5 hx Bd.returns Bd.notSynchronized (hb hby d12_12) (by decide) (by decide) ?_
  show QQ _ T5.heap _
  rw [e5]
  have fx6 : Exa Z h5 o0 "com/example/restlint/restlint/document/MappingNode" := (Exa.wr W5 fx4)
  have fx7 : Fld Z h5 b1 "com/example/restlint/restlint/document/MappingNode$Applied" "target" "Lcom/example/restlint/restlint/document/Node;" .null := (Fld.other W5 q2_1 (Or.inl (Ne.symm ne_o0_b1)))
  rw [← hQQ]
  exact ⟨b1, rfl, N5, K5, sz_b1, fx6, fw5, fx7⟩
theorem pn_apr_nr : plainName "com/example/restlint/restlint/document/MappingNode" = true := by first | (simp [plainName, overriddenIn]; done) | decide +kernel
theorem ef_apr_nr (m : MethodId) (o0 : Addr) : entryFrame m #[(.ref o0), .null] 2 = mkF m 0 #[.val (.ref o0), .val .null] [] := by first | (simp [entryFrame, mkF, argsToLocals, Value.category]; done) | rfl
set_option maxRecDepth 65536 in
set_option maxHeartbeats 40000000 in
theorem apr_nr (l : Launch) (Z : State) (a0 : Array Value) (hw : ∀ d ∈ tables_1, d.before a0 Z = true) (o0 : Addr) (aq : Addr) (h0 : Heap) (n0 : Nat) (Z0 : n0 ≤ h0.size) (g_o0 : n0 ≤ o0) (P0 : Exa Z h0 o0 "com/example/restlint/restlint/document/MappingNode") (P1 : Fld Z h0 o0 "com/example/restlint/restlint/document/MappingNode" "applied" "Lcom/example/restlint/restlint/document/MappingNode$Applied;" (.ref aq)) :
    own_Met l Z (⟨"com/example/restlint/restlint/document/MappingNode", "applyReference", "(Lcom/example/restlint/restlint/document/Node;)V"⟩ : MethodName) prog_43_method_15_code 2 none [] ({ frames := 4, cells := 2, slots := 11, locals := 53 } : Room) #[(.ref o0), .null] h0 2 11 (fun v h L => ∃ (ap : Addr), v = none ∧ Fr n0 L ∧ Keep h0 h [o0] ∧ h0.size ≤ ap ∧ Exa Z h o0 "com/example/restlint/restlint/document/MappingNode" ∧ Fld Z h o0 "com/example/restlint/restlint/document/MappingNode" "applied" "Lcom/example/restlint/restlint/document/MappingNode$Applied;" (.ref ap) ∧ Fld Z h ap "com/example/restlint/restlint/document/MappingNode$Applied" "target" "Lcom/example/restlint/restlint/document/Node;" .null) := by
  refine own_met (plainFor_of_name pn_apr_nr) ?_
  intro p e s m below meth c s₁ Bd hml0 hZ X0 e0
  have hx := Bd.exec
  have hby := Bd.bytes
  have hml : c.maxLocals = 2 := hml0
  have hown : s.vm.findClass "com/example/restlint/restlint/document/MappingNode" = some m.cls := findClass_of_methodNamed Bd.named
  have hnm := (name_of_methodNamed Bd.named Bd.method).1
  refine own_cast (ef_apr_nr m o0) ?_
  generalize hQQ : (fun (v : Option Value) (h : Heap) (L : List Loc) => ∃ (ap : Addr), v = none ∧ Fr n0 L ∧ Keep h0 h [o0] ∧ h0.size ≤ ap ∧ Exa Z h o0 "com/example/restlint/restlint/document/MappingNode" ∧ Fld Z h o0 "com/example/restlint/restlint/document/MappingNode" "applied" "Lcom/example/restlint/restlint/document/MappingNode$Applied;" (.ref ap) ∧ Fld Z h ap "com/example/restlint/restlint/document/MappingNode$Applied" "target" "Lcom/example/restlint/restlint/document/Node;" .null) = QQ
  have N0 := Fr.nil n0
  have K0 := Keep.refl h0 [o0]
  refine own_go (g' := (mkF m 1 #[.val (.ref o0), .val .null] [(.ref o0)])) (fun _ kgo => XS.aloadN X0.here hx rfl (hb hby d12_0) rfl rfl kgo) ?_
  obtain ⟨T1, h1, X1, e1, E1, A1, D1, -, st1⟩ := newO X0 hx hZ hown (hw _ (List.mem_of_getElem? (i := 100) rfl)) (hw _ (List.mem_of_getElem? (i := 101) rfl)) (hw _ (List.mem_of_getElem? (i := 102) rfl)) e0 (g := (mkF m 1 #[.val (.ref o0), .val .null] [(.ref o0)])) rfl (hb hby d12_1) (by decide) (by decide)
  obtain ⟨b1, ad1⟩ : ∃ z, z = h0.size := ⟨_, rfl⟩
  rw [← ad1] at A1 D1 st1
  have ne_o0_b1 : o0 ≠ b1 := Nat.ne_of_lt (by rw [ad1]; exact P0.lt)
  have ge_b1 : n0 ≤ b1 := by rw [ad1]; exact Z0
  have sz_b1 : h0.size ≤ b1 := by rw [ad1]; exact K0.1
  have Z1 : n0 ≤ h1.size := Nat.le_trans Z0 E1.1
  have K1 : Keep h0 h1 [o0] := K0.ext E1
  have F1_holders : Fld Z h1 b1 "com/example/restlint/restlint/document/MappingNode$Applied" "holders" "Ljava/util/Map;" .null := D1 (Or.inr (hw _ (List.mem_of_getElem? (i := 124) rfl))) (ty := (.object "java/util/Map")) (by decide)
  have F1_target : Fld Z h1 b1 "com/example/restlint/restlint/document/MappingNode$Applied" "target" "Lcom/example/restlint/restlint/document/Node;" .null := D1 (Or.inr (hw _ (List.mem_of_getElem? (i := 126) rfl))) (ty := (.object "com/example/restlint/restlint/document/Node")) (by decide)
  refine own_go (g' := (mkF m 4 #[.val (.ref o0), .val .null] [(.ref b1), (.ref o0)])) (st1) ?_
  refine own_go (g' := (mkF m 5 #[.val (.ref o0), .val .null] [(.ref b1), (.ref b1), (.ref o0)])) (fun _ kgo => XS.dup X1.here hx rfl (hb hby d12_4) rfl rfl kgo) ?_
  refine own_go (g' := (mkF m 6 #[.val (.ref o0), .val .null] [.null, (.ref b1), (.ref b1), (.ref o0)])) (fun _ kgo => XS.aloadN X1.here hx rfl (hb hby d12_5) rfl rfl kgo) ?_
  obtain ⟨v2, T2, L2, hQ2, X2, st2⟩ := own_callI X1 hx hZ (y := (⟨"com/example/restlint/restlint/document/MappingNode$Applied", "<init>", "(Lcom/example/restlint/restlint/document/Node;)V"⟩ : MethodName)) rfl hown (hw _ (List.mem_of_getElem? (i := 103) rfl)) (hw _ (List.mem_of_getElem? (i := 104) rfl)) (hw _ (List.mem_of_getElem? (i := 102) rfl)) (hw _ (List.mem_of_getElem? (i := 105) rfl)) ⟨by decide, by decide⟩ (a := b1) (argsL := [.null]) (ai_n l Z a0 hw b1 h1 n0 Z1 ge_b1 A1 F1_holders F1_target) e1 (g := (mkF m 6 #[.val (.ref o0), .val .null] [.null, (.ref b1), (.ref b1), (.ref o0)])) rfl (by rw [hml]; rfl) (rest := [(.ref b1), (.ref o0)]) (lenOf pd12_0 rfl) rfl (hb hby d12_6) (W := 2) (by show 2 * 0 + _ ≤ _; exact Nat.le_of_eq rfl) (by decide) (by decide) (by decide) (by decide)
  obtain ⟨rfl, Nq2, Kq2, q2_0, q2_1⟩ := hQ2
  have N2 := Fr.app N0 Nq2
  have Z2 : n0 ≤ T2.heap.size := Nat.le_trans Z1 Kq2.1
  have KK2 : Keep h0 T2.heap [o0] := K1.trans Kq2 (allS (Or.inr sz_b1) all0)
  refine own_go (g' := (mkF m 9 #[.val (.ref o0), .val .null] [(.ref b1), (.ref o0)])) (st2) ?_
  have fx3 : Fld Z T2.heap o0 "com/example/restlint/restlint/document/MappingNode" "applied" "Lcom/example/restlint/restlint/document/MappingNode$Applied;" (.ref aq) := (Fld.keep (Fld.ext E1 P1) Kq2 (ninS ne_o0_b1 nin0))
  have fx4 : Exa Z T2.heap o0 "com/example/restlint/restlint/document/MappingNode" := (Exa.keep (Exa.ext E1 P0) Kq2)
  obtain ⟨T5, h5, X5, e5, W5, st5⟩ := putF X2 hx hZ hown (host := "") (Or.inl (hw _ (List.mem_of_getElem? (i := 89) rfl))) Via.refl rfl fx3 fx4 (Or.inl (hw _ (List.mem_of_getElem? (i := 90) rfl))) (hw _ (List.mem_of_getElem? (i := 34) rfl)) (ty := (.object "com/example/restlint/restlint/document/MappingNode$Applied")) (by decide) rfl rfl (g := (mkF m 9 #[.val (.ref o0), .val .null] [(.ref b1), (.ref o0)])) rfl rfl (hb hby d12_9)
  have fw5 := Fld.same W5 fx3
  have N5 := Fr.snoc X5 N2 g_o0
  have Z5 : n0 ≤ h5.size := by rw [W5.size]; exact Z2
  have K5 : Keep h0 h5 [o0] := KK2.wr W5 (Or.inl (List.mem_of_getElem? (i := 0) rfl))
  refine own_go (g' := (mkF m 12 #[.val (.ref o0), .val .null] [])) (st5) ?_
  refine own_retV X5 hx Bd.returns Bd.notSynchronized (hb hby d12_12) (by decide) (by decide) ?_
  show QQ _ T5.heap _
  rw [e5]
  have fx6 : Exa Z h5 o0 "com/example/restlint/restlint/document/MappingNode" := (Exa.wr W5 fx4)
  have fx7 : Fld Z h5 b1 "com/example/restlint/restlint/document/MappingNode$Applied" "target" "Lcom/example/restlint/restlint/document/Node;" .null := (Fld.other W5 q2_1 (Or.inl (Ne.symm ne_o0_b1)))
  rw [← hQQ]
  exact ⟨b1, rfl, N5, K5, sz_b1, fx6, fw5, fx7⟩
theorem pn_ai_r : plainName "com/example/restlint/restlint/document/MappingNode$Applied" = true := by first | (simp [plainName, overriddenIn]; done) | decide +kernel
theorem ef_ai_r (m : MethodId) (o0 : Addr) (o1 : Addr) : entryFrame m #[(.ref o0), (.ref o1)] 2 = mkF m 0 #[.val (.ref o0), .val (.ref o1)] [] := by first | (simp [entryFrame, mkF, argsToLocals, Value.category]; done) | rfl
set_option maxRecDepth 65536 in
set_option maxHeartbeats 40000000 in
theorem ai_r (l : Launch) (Z : State) (a0 : Array Value) (hw : ∀ d ∈ tables_1, d.before a0 Z = true) (o0 : Addr) (o1 : Addr)  (h0 : Heap) (n0 : Nat) (Z0 : n0 ≤ h0.size) (g_o0 : n0 ≤ o0) (P0 : Exa Z h0 o0 "com/example/restlint/restlint/document/MappingNode$Applied") (P1 : Fld Z h0 o0 "com/example/restlint/restlint/document/MappingNode$Applied" "holders" "Ljava/util/Map;" .null) (P2 : Fld Z h0 o0 "com/example/restlint/restlint/document/MappingNode$Applied" "target" "Lcom/example/restlint/restlint/document/Node;" .null) :
    own_Met l Z (⟨"com/example/restlint/restlint/document/MappingNode$Applied", "<init>", "(Lcom/example/restlint/restlint/document/Node;)V"⟩ : MethodName) prog_44_method_1_code 2 none [] ({ frames := 3, cells := 1, slots := 8, locals := 38 } : Room) #[(.ref o0), (.ref o1)] h0 1 8 (fun v h L => v = none ∧ Fr n0 L ∧ Keep h0 h [o0] ∧ Exa Z h o0 "com/example/restlint/restlint/document/MappingNode$Applied" ∧ Fld Z h o0 "com/example/restlint/restlint/document/MappingNode$Applied" "target" "Lcom/example/restlint/restlint/document/Node;" (.ref o1)) := by
  refine own_met (plainFor_of_name pn_ai_r) ?_
  intro p e s m below meth c s₁ Bd hml0 hZ X0 e0
  have hx := Bd.exec
  have hby := Bd.bytes
  have hml : c.maxLocals = 2 := hml0
  have hown : s.vm.findClass "com/example/restlint/restlint/document/MappingNode$Applied" = some m.cls := findClass_of_methodNamed Bd.named
  have hnm := (name_of_methodNamed Bd.named Bd.method).1
  refine own_cast (ef_ai_r m o0 o1) ?_
  generalize hQQ : (fun (v : Option Value) (h : Heap) (L : List Loc) => v = none ∧ Fr n0 L ∧ Keep h0 h [o0] ∧ Exa Z h o0 "com/example/restlint/restlint/document/MappingNode$Applied" ∧ Fld Z h o0 "com/example/restlint/restlint/document/MappingNode$Applied" "target" "Lcom/example/restlint/restlint/document/Node;" (.ref o1)) = QQ
  have N0 := Fr.nil n0
  have K0 := Keep.refl h0 [o0]
  refine own_go (g' := (mkF m 1 #[.val (.ref o0), .val (.ref o1)] [(.ref o0)])) (fun _ kgo => XS.aloadN X0.here hx rfl (hb hby d13_0) rfl rfl kgo) ?_
  obtain ⟨T1, X1, e1, st1⟩ := initO X0 hx hZ hown (hw _ (List.mem_of_getElem? (i := 106) rfl)) (hw _ (List.mem_of_getElem? (i := 23) rfl)) (hw _ (List.mem_of_getElem? (i := 24) rfl)) e0 (g := (mkF m 1 #[.val (.ref o0), .val (.ref o1)] [(.ref o0)])) rfl (by rw [hml]; rfl) rfl (hb hby d13_1) (by decide) (W := 0) (by show 2 * 0 + _ ≤ _; exact Nat.le_of_eq rfl) (by decide)
  refine own_go (g' := (mkF m 4 #[.val (.ref o0), .val (.ref o1)] [])) (st1) ?_
  refine own_go (g' := (mkF m 5 #[.val (.ref o0), .val (.ref o1)] [(.ref o0)])) (fun _ kgo => XS.aloadN X1.here hx rfl (hb hby d13_4) rfl rfl kgo) ?_
  obtain ⟨T2, h2, X2, e2, E2, A2, D2, -, st2⟩ := newO X1 hx hZ hown (hw _ (List.mem_of_getElem? (i := 107) rfl)) (hw _ (List.mem_of_getElem? (i := 108) rfl)) (hw _ (List.mem_of_getElem? (i := 109) rfl)) e1 (g := (mkF m 5 #[.val (.ref o0), .val (.ref o1)] [(.ref o0)])) rfl (hb hby d13_5) (by decide) (by decide)
  obtain ⟨b2, ad2⟩ : ∃ z, z = h0.size := ⟨_, rfl⟩
  rw [← ad2] at A2 D2 st2
  have ne_o0_b2 : o0 ≠ b2 := Nat.ne_of_lt (by rw [ad2]; exact P0.lt)
  have ge_b2 : n0 ≤ b2 := by rw [ad2]; exact Z0
  have sz_b2 : h0.size ≤ b2 := by rw [ad2]; exact K0.1
  have Z2 : n0 ≤ h2.size := Nat.le_trans Z0 E2.1
  have K2 : Keep h0 h2 [o0] := K0.ext E2
  have F2_loadFactor : Fld Z h2 b2 "java/util/HashMap" "loadFactor" "F" (.float (0 : UInt32)) := D2 (Or.inr (hw _ (List.mem_of_getElem? (i := 122) rfl))) (ty := .float) (by decide)
  refine own_go (g' := (mkF m 8 #[.val (.ref o0), .val (.ref o1)] [(.ref b2), (.ref o0)])) (st2) ?_
  refine own_go (g' := (mkF m 9 #[.val (.ref o0), .val (.ref o1)] [(.ref b2), (.ref b2), (.ref o0)])) (fun _ kgo => XS.dup X2.here hx rfl (hb hby d13_8) rfl rfl kgo) ?_
  obtain ⟨v3, T3, L3, hQ3, X3, st3⟩ := own_callI X2 hx hZ (y := (⟨"java/util/HashMap", "<init>", "()V"⟩ : MethodName)) rfl hown (hw _ (List.mem_of_getElem? (i := 110) rfl)) (hw _ (List.mem_of_getElem? (i := 111) rfl)) (hw _ (List.mem_of_getElem? (i := 109) rfl)) (hw _ (List.mem_of_getElem? (i := 112) rfl)) ⟨by decide, by decide⟩ (a := b2) (argsL := []) (rm14 l Z a0 hw b2 h2 n0 Z2 ge_b2 A2 F2_loadFactor) e2 (g := (mkF m 9 #[.val (.ref o0), .val (.ref o1)] [(.ref b2), (.ref b2), (.ref o0)])) rfl (by rw [hml]; rfl) (rest := [(.ref b2), (.ref o0)]) (lenOf pd13_0 rfl) rfl (hb hby d13_9) (W := 2) (by show 2 * 0 + _ ≤ _; exact Nat.le_of_eq rfl) (by decide) (by decide) (by decide) (by decide)
  obtain ⟨rfl, Nq3, Kq3, q3_0⟩ := hQ3
  have N3 := Fr.app N0 Nq3
  have Z3 : n0 ≤ T3.heap.size := Nat.le_trans Z2 Kq3.1
  have KK3 : Keep h0 T3.heap [o0] := K2.trans Kq3 (allS (Or.inr sz_b2) all0)
  refine own_go (g' := (mkF m 12 #[.val (.ref o0), .val (.ref o1)] [(.ref b2), (.ref o0)])) (st3) ?_
  have fx4 : Fld Z T3.heap o0 "com/example/restlint/restlint/document/MappingNode$Applied" "holders" "Ljava/util/Map;" .null := (Fld.keep (Fld.ext E2 P1) Kq3 (ninS ne_o0_b2 nin0))
  have fx5 : Exa Z T3.heap o0 "com/example/restlint/restlint/document/MappingNode$Applied" := (Exa.keep (Exa.ext E2 P0) Kq3)
  obtain ⟨T6, h6, X6, e6, W6, st6⟩ := putF X3 hx hZ hown (host := "") (Or.inl (hw _ (List.mem_of_getElem? (i := 123) rfl))) Via.refl rfl fx4 fx5 (Or.inr ⟨(hw _ (List.mem_of_getElem? (i := 124) rfl)), rfl, hnm⟩) (hw _ (List.mem_of_getElem? (i := 101) rfl)) (ty := (.object "java/util/Map")) (by decide) rfl rfl (g := (mkF m 12 #[.val (.ref o0), .val (.ref o1)] [(.ref b2), (.ref o0)])) rfl rfl (hb hby d13_12)
  have fw6 := Fld.same W6 fx4
  have N6 := Fr.snoc X6 N3 g_o0
  have Z6 : n0 ≤ h6.size := by rw [W6.size]; exact Z3
  have K6 : Keep h0 h6 [o0] := KK3.wr W6 (Or.inl (List.mem_of_getElem? (i := 0) rfl))
  refine own_go (g' := (mkF m 15 #[.val (.ref o0), .val (.ref o1)] [])) (st6) ?_
  refine own_go (g' := (mkF m 16 #[.val (.ref o0), .val (.ref o1)] [(.ref o0)])) (fun _ kgo => XS.aloadN X6.here hx rfl (hb hby d13_15) rfl rfl kgo) ?_
  refine own_go (g' := (mkF m 17 #[.val (.ref o0), .val (.ref o1)] [(.ref o1), (.ref o0)])) (fun _ kgo => XS.aloadN X6.here hx rfl (hb hby d13_16) rfl rfl kgo) ?_
  have fx7 : Fld Z h6 o0 "com/example/restlint/restlint/document/MappingNode$Applied" "target" "Lcom/example/restlint/restlint/document/Node;" .null := (Fld.other W6 (Fld.keep (Fld.ext E2 P2) Kq3 (ninS ne_o0_b2 nin0)) (Or.inr (slot_ne (Or.inr (hw _ (List.mem_of_getElem? (i := 126) rfl))) (Or.inr (hw _ (List.mem_of_getElem? (i := 124) rfl))) (by decide) (t := (.object "com/example/restlint/restlint/document/Node")) (t' := (.object "java/util/Map")) (by decide) (by decide))))
  have fx8 : Exa Z h6 o0 "com/example/restlint/restlint/document/MappingNode$Applied" := (Exa.wr W6 fx5)
  obtain ⟨T9, h9, X9, e9, W9, st9⟩ := putF X6 hx hZ hown (host := "") (Or.inl (hw _ (List.mem_of_getElem? (i := 125) rfl))) Via.refl e6 fx7 fx8 (Or.inr ⟨(hw _ (List.mem_of_getElem? (i := 126) rfl)), rfl, hnm⟩) (hw _ (List.mem_of_getElem? (i := 101) rfl)) (ty := (.object "com/example/restlint/restlint/document/Node")) (by decide) rfl rfl (g := (mkF m 17 #[.val (.ref o0), .val (.ref o1)] [(.ref o1), (.ref o0)])) rfl rfl (hb hby d13_17)
  have fw9 := Fld.same W9 fx7
  have N9 := Fr.snoc X9 N6 g_o0
  have Z9 : n0 ≤ h9.size := by rw [W9.size]; exact Z6
  have K9 : Keep h0 h9 [o0] := K6.wr W9 (Or.inl (List.mem_of_getElem? (i := 0) rfl))
  refine own_go (g' := (mkF m 20 #[.val (.ref o0), .val (.ref o1)] [])) (st9) ?_
  refine own_retV X9 hx Bd.returns Bd.notSynchronized (hb hby d13_20) (by decide) (by decide) ?_
  show QQ _ T9.heap _
  rw [e9]
  have fx10 : Exa Z h9 o0 "com/example/restlint/restlint/document/MappingNode$Applied" := (Exa.wr W9 fx8)
  rw [← hQQ]
  exact ⟨rfl, N9, K9, fx10, fw9⟩
theorem pn_apr_rn : plainName "com/example/restlint/restlint/document/MappingNode" = true := by first | (simp [plainName, overriddenIn]; done) | decide +kernel
theorem ef_apr_rn (m : MethodId) (o0 : Addr) (o1 : Addr) : entryFrame m #[(.ref o0), (.ref o1)] 2 = mkF m 0 #[.val (.ref o0), .val (.ref o1)] [] := by first | (simp [entryFrame, mkF, argsToLocals, Value.category]; done) | rfl
set_option maxRecDepth 65536 in
set_option maxHeartbeats 40000000 in
theorem apr_rn (l : Launch) (Z : State) (a0 : Array Value) (hw : ∀ d ∈ tables_1, d.before a0 Z = true) (o0 : Addr) (o1 : Addr)  (h0 : Heap) (n0 : Nat) (Z0 : n0 ≤ h0.size) (g_o0 : n0 ≤ o0) (P0 : Exa Z h0 o0 "com/example/restlint/restlint/document/MappingNode") (P1 : Fld Z h0 o0 "com/example/restlint/restlint/document/MappingNode" "applied" "Lcom/example/restlint/restlint/document/MappingNode$Applied;" .null) :
    own_Met l Z (⟨"com/example/restlint/restlint/document/MappingNode", "applyReference", "(Lcom/example/restlint/restlint/document/Node;)V"⟩ : MethodName) prog_43_method_15_code 2 none [] ({ frames := 4, cells := 2, slots := 11, locals := 53 } : Room) #[(.ref o0), (.ref o1)] h0 2 11 (fun v h L => ∃ (ap : Addr), v = none ∧ Fr n0 L ∧ Keep h0 h [o0] ∧ h0.size ≤ ap ∧ Exa Z h o0 "com/example/restlint/restlint/document/MappingNode" ∧ Fld Z h o0 "com/example/restlint/restlint/document/MappingNode" "applied" "Lcom/example/restlint/restlint/document/MappingNode$Applied;" (.ref ap) ∧ Fld Z h ap "com/example/restlint/restlint/document/MappingNode$Applied" "target" "Lcom/example/restlint/restlint/document/Node;" (.ref o1)) := by
  refine own_met (plainFor_of_name pn_apr_rn) ?_
  intro p e s m below meth c s₁ Bd hml0 hZ X0 e0
  have hx := Bd.exec
  have hby := Bd.bytes
  have hml : c.maxLocals = 2 := hml0
  have hown : s.vm.findClass "com/example/restlint/restlint/document/MappingNode" = some m.cls := findClass_of_methodNamed Bd.named
  have hnm := (name_of_methodNamed Bd.named Bd.method).1
  refine own_cast (ef_apr_rn m o0 o1) ?_
  generalize hQQ : (fun (v : Option Value) (h : Heap) (L : List Loc) => ∃ (ap : Addr), v = none ∧ Fr n0 L ∧ Keep h0 h [o0] ∧ h0.size ≤ ap ∧ Exa Z h o0 "com/example/restlint/restlint/document/MappingNode" ∧ Fld Z h o0 "com/example/restlint/restlint/document/MappingNode" "applied" "Lcom/example/restlint/restlint/document/MappingNode$Applied;" (.ref ap) ∧ Fld Z h ap "com/example/restlint/restlint/document/MappingNode$Applied" "target" "Lcom/example/restlint/restlint/document/Node;" (.ref o1)) = QQ
  have N0 := Fr.nil n0
  have K0 := Keep.refl h0 [o0]
  refine own_go (g' := (mkF m 1 #[.val (.ref o0), .val (.ref o1)] [(.ref o0)])) (fun _ kgo => XS.aloadN X0.here hx rfl (hb hby d12_0) rfl rfl kgo) ?_
  obtain ⟨T1, h1, X1, e1, E1, A1, D1, -, st1⟩ := newO X0 hx hZ hown (hw _ (List.mem_of_getElem? (i := 100) rfl)) (hw _ (List.mem_of_getElem? (i := 101) rfl)) (hw _ (List.mem_of_getElem? (i := 102) rfl)) e0 (g := (mkF m 1 #[.val (.ref o0), .val (.ref o1)] [(.ref o0)])) rfl (hb hby d12_1) (by decide) (by decide)
  obtain ⟨b1, ad1⟩ : ∃ z, z = h0.size := ⟨_, rfl⟩
  rw [← ad1] at A1 D1 st1
  have ne_o0_b1 : o0 ≠ b1 := Nat.ne_of_lt (by rw [ad1]; exact P0.lt)
  have ge_b1 : n0 ≤ b1 := by rw [ad1]; exact Z0
  have sz_b1 : h0.size ≤ b1 := by rw [ad1]; exact K0.1
  have Z1 : n0 ≤ h1.size := Nat.le_trans Z0 E1.1
  have K1 : Keep h0 h1 [o0] := K0.ext E1
  have F1_holders : Fld Z h1 b1 "com/example/restlint/restlint/document/MappingNode$Applied" "holders" "Ljava/util/Map;" .null := D1 (Or.inr (hw _ (List.mem_of_getElem? (i := 124) rfl))) (ty := (.object "java/util/Map")) (by decide)
  have F1_target : Fld Z h1 b1 "com/example/restlint/restlint/document/MappingNode$Applied" "target" "Lcom/example/restlint/restlint/document/Node;" .null := D1 (Or.inr (hw _ (List.mem_of_getElem? (i := 126) rfl))) (ty := (.object "com/example/restlint/restlint/document/Node")) (by decide)
  refine own_go (g' := (mkF m 4 #[.val (.ref o0), .val (.ref o1)] [(.ref b1), (.ref o0)])) (st1) ?_
  refine own_go (g' := (mkF m 5 #[.val (.ref o0), .val (.ref o1)] [(.ref b1), (.ref b1), (.ref o0)])) (fun _ kgo => XS.dup X1.here hx rfl (hb hby d12_4) rfl rfl kgo) ?_
  refine own_go (g' := (mkF m 6 #[.val (.ref o0), .val (.ref o1)] [(.ref o1), (.ref b1), (.ref b1), (.ref o0)])) (fun _ kgo => XS.aloadN X1.here hx rfl (hb hby d12_5) rfl rfl kgo) ?_
  obtain ⟨v2, T2, L2, hQ2, X2, st2⟩ := own_callI X1 hx hZ (y := (⟨"com/example/restlint/restlint/document/MappingNode$Applied", "<init>", "(Lcom/example/restlint/restlint/document/Node;)V"⟩ : MethodName)) rfl hown (hw _ (List.mem_of_getElem? (i := 103) rfl)) (hw _ (List.mem_of_getElem? (i := 104) rfl)) (hw _ (List.mem_of_getElem? (i := 102) rfl)) (hw _ (List.mem_of_getElem? (i := 105) rfl)) ⟨by decide, by decide⟩ (a := b1) (argsL := [(.ref o1)]) (ai_r l Z a0 hw b1 o1 h1 n0 Z1 ge_b1 A1 F1_holders F1_target) e1 (g := (mkF m 6 #[.val (.ref o0), .val (.ref o1)] [(.ref o1), (.ref b1), (.ref b1), (.ref o0)])) rfl (by rw [hml]; rfl) (rest := [(.ref b1), (.ref o0)]) (lenOf pd12_0 rfl) rfl (hb hby d12_6) (W := 2) (by show 2 * 0 + _ ≤ _; exact Nat.le_of_eq rfl) (by decide) (by decide) (by decide) (by decide)
  obtain ⟨rfl, Nq2, Kq2, q2_0, q2_1⟩ := hQ2
  have N2 := Fr.app N0 Nq2
  have Z2 : n0 ≤ T2.heap.size := Nat.le_trans Z1 Kq2.1
  have KK2 : Keep h0 T2.heap [o0] := K1.trans Kq2 (allS (Or.inr sz_b1) all0)
  refine own_go (g' := (mkF m 9 #[.val (.ref o0), .val (.ref o1)] [(.ref b1), (.ref o0)])) (st2) ?_
  have fx3 : Fld Z T2.heap o0 "com/example/restlint/restlint/document/MappingNode" "applied" "Lcom/example/restlint/restlint/document/MappingNode$Applied;" .null := (Fld.keep (Fld.ext E1 P1) Kq2 (ninS ne_o0_b1 nin0))
  have fx4 : Exa Z T2.heap o0 "com/example/restlint/restlint/document/MappingNode" := (Exa.keep (Exa.ext E1 P0) Kq2)
  obtain ⟨T5, h5, X5, e5, W5, st5⟩ := putF X2 hx hZ hown (host := "") (Or.inl (hw _ (List.mem_of_getElem? (i := 89) rfl))) Via.refl rfl fx3 fx4 (Or.inl (hw _ (List.mem_of_getElem? (i := 90) rfl))) (hw _ (List.mem_of_getElem? (i := 34) rfl)) (ty := (.object "com/example/restlint/restlint/document/MappingNode$Applied")) (by decide) rfl rfl (g := (mkF m 9 #[.val (.ref o0), .val (.ref o1)] [(.ref b1), (.ref o0)])) rfl rfl (hb hby d12_9)
  have fw5 := Fld.same W5 fx3
  have N5 := Fr.snoc X5 N2 g_o0
  have Z5 : n0 ≤ h5.size := by rw [W5.size]; exact Z2
  have K5 : Keep h0 h5 [o0] := KK2.wr W5 (Or.inl (List.mem_of_getElem? (i := 0) rfl))
  refine own_go (g' := (mkF m 12 #[.val (.ref o0), .val (.ref o1)] [])) (st5) ?_
  refine own_retV X5 hx Bd.returns Bd.notSynchronized (hb hby d12_12) (by decide) (by decide) ?_
  show QQ _ T5.heap _
  rw [e5]
  have fx6 : Exa Z h5 o0 "com/example/restlint/restlint/document/MappingNode" := (Exa.wr W5 fx4)
  have fx7 : Fld Z h5 b1 "com/example/restlint/restlint/document/MappingNode$Applied" "target" "Lcom/example/restlint/restlint/document/Node;" (.ref o1) := (Fld.other W5 q2_1 (Or.inl (Ne.symm ne_o0_b1)))
  rw [← hQQ]
  exact ⟨b1, rfl, N5, K5, sz_b1, fx6, fw5, fx7⟩
theorem pn_apr_rr : plainName "com/example/restlint/restlint/document/MappingNode" = true := by first | (simp [plainName, overriddenIn]; done) | decide +kernel
theorem ef_apr_rr (m : MethodId) (o0 : Addr) (o1 : Addr) : entryFrame m #[(.ref o0), (.ref o1)] 2 = mkF m 0 #[.val (.ref o0), .val (.ref o1)] [] := by first | (simp [entryFrame, mkF, argsToLocals, Value.category]; done) | rfl
set_option maxRecDepth 65536 in
set_option maxHeartbeats 40000000 in
theorem apr_rr (l : Launch) (Z : State) (a0 : Array Value) (hw : ∀ d ∈ tables_1, d.before a0 Z = true) (o0 : Addr) (o1 : Addr) (aq : Addr) (h0 : Heap) (n0 : Nat) (Z0 : n0 ≤ h0.size) (g_o0 : n0 ≤ o0) (P0 : Exa Z h0 o0 "com/example/restlint/restlint/document/MappingNode") (P1 : Fld Z h0 o0 "com/example/restlint/restlint/document/MappingNode" "applied" "Lcom/example/restlint/restlint/document/MappingNode$Applied;" (.ref aq)) :
    own_Met l Z (⟨"com/example/restlint/restlint/document/MappingNode", "applyReference", "(Lcom/example/restlint/restlint/document/Node;)V"⟩ : MethodName) prog_43_method_15_code 2 none [] ({ frames := 4, cells := 2, slots := 11, locals := 53 } : Room) #[(.ref o0), (.ref o1)] h0 2 11 (fun v h L => ∃ (ap : Addr), v = none ∧ Fr n0 L ∧ Keep h0 h [o0] ∧ h0.size ≤ ap ∧ Exa Z h o0 "com/example/restlint/restlint/document/MappingNode" ∧ Fld Z h o0 "com/example/restlint/restlint/document/MappingNode" "applied" "Lcom/example/restlint/restlint/document/MappingNode$Applied;" (.ref ap) ∧ Fld Z h ap "com/example/restlint/restlint/document/MappingNode$Applied" "target" "Lcom/example/restlint/restlint/document/Node;" (.ref o1)) := by
  refine own_met (plainFor_of_name pn_apr_rr) ?_
  intro p e s m below meth c s₁ Bd hml0 hZ X0 e0
  have hx := Bd.exec
  have hby := Bd.bytes
  have hml : c.maxLocals = 2 := hml0
  have hown : s.vm.findClass "com/example/restlint/restlint/document/MappingNode" = some m.cls := findClass_of_methodNamed Bd.named
  have hnm := (name_of_methodNamed Bd.named Bd.method).1
  refine own_cast (ef_apr_rr m o0 o1) ?_
  generalize hQQ : (fun (v : Option Value) (h : Heap) (L : List Loc) => ∃ (ap : Addr), v = none ∧ Fr n0 L ∧ Keep h0 h [o0] ∧ h0.size ≤ ap ∧ Exa Z h o0 "com/example/restlint/restlint/document/MappingNode" ∧ Fld Z h o0 "com/example/restlint/restlint/document/MappingNode" "applied" "Lcom/example/restlint/restlint/document/MappingNode$Applied;" (.ref ap) ∧ Fld Z h ap "com/example/restlint/restlint/document/MappingNode$Applied" "target" "Lcom/example/restlint/restlint/document/Node;" (.ref o1)) = QQ
  have N0 := Fr.nil n0
  have K0 := Keep.refl h0 [o0]
  refine own_go (g' := (mkF m 1 #[.val (.ref o0), .val (.ref o1)] [(.ref o0)])) (fun _ kgo => XS.aloadN X0.here hx rfl (hb hby d12_0) rfl rfl kgo) ?_
  obtain ⟨T1, h1, X1, e1, E1, A1, D1, -, st1⟩ := newO X0 hx hZ hown (hw _ (List.mem_of_getElem? (i := 100) rfl)) (hw _ (List.mem_of_getElem? (i := 101) rfl)) (hw _ (List.mem_of_getElem? (i := 102) rfl)) e0 (g := (mkF m 1 #[.val (.ref o0), .val (.ref o1)] [(.ref o0)])) rfl (hb hby d12_1) (by decide) (by decide)
  obtain ⟨b1, ad1⟩ : ∃ z, z = h0.size := ⟨_, rfl⟩
  rw [← ad1] at A1 D1 st1
  have ne_o0_b1 : o0 ≠ b1 := Nat.ne_of_lt (by rw [ad1]; exact P0.lt)
  have ge_b1 : n0 ≤ b1 := by rw [ad1]; exact Z0
  have sz_b1 : h0.size ≤ b1 := by rw [ad1]; exact K0.1
  have Z1 : n0 ≤ h1.size := Nat.le_trans Z0 E1.1
  have K1 : Keep h0 h1 [o0] := K0.ext E1
  have F1_holders : Fld Z h1 b1 "com/example/restlint/restlint/document/MappingNode$Applied" "holders" "Ljava/util/Map;" .null := D1 (Or.inr (hw _ (List.mem_of_getElem? (i := 124) rfl))) (ty := (.object "java/util/Map")) (by decide)
  have F1_target : Fld Z h1 b1 "com/example/restlint/restlint/document/MappingNode$Applied" "target" "Lcom/example/restlint/restlint/document/Node;" .null := D1 (Or.inr (hw _ (List.mem_of_getElem? (i := 126) rfl))) (ty := (.object "com/example/restlint/restlint/document/Node")) (by decide)
  refine own_go (g' := (mkF m 4 #[.val (.ref o0), .val (.ref o1)] [(.ref b1), (.ref o0)])) (st1) ?_
  refine own_go (g' := (mkF m 5 #[.val (.ref o0), .val (.ref o1)] [(.ref b1), (.ref b1), (.ref o0)])) (fun _ kgo => XS.dup X1.here hx rfl (hb hby d12_4) rfl rfl kgo) ?_
  refine own_go (g' := (mkF m 6 #[.val (.ref o0), .val (.ref o1)] [(.ref o1), (.ref b1), (.ref b1), (.ref o0)])) (fun _ kgo => XS.aloadN X1.here hx rfl (hb hby d12_5) rfl rfl kgo) ?_
  obtain ⟨v2, T2, L2, hQ2, X2, st2⟩ := own_callI X1 hx hZ (y := (⟨"com/example/restlint/restlint/document/MappingNode$Applied", "<init>", "(Lcom/example/restlint/restlint/document/Node;)V"⟩ : MethodName)) rfl hown (hw _ (List.mem_of_getElem? (i := 103) rfl)) (hw _ (List.mem_of_getElem? (i := 104) rfl)) (hw _ (List.mem_of_getElem? (i := 102) rfl)) (hw _ (List.mem_of_getElem? (i := 105) rfl)) ⟨by decide, by decide⟩ (a := b1) (argsL := [(.ref o1)]) (ai_r l Z a0 hw b1 o1 h1 n0 Z1 ge_b1 A1 F1_holders F1_target) e1 (g := (mkF m 6 #[.val (.ref o0), .val (.ref o1)] [(.ref o1), (.ref b1), (.ref b1), (.ref o0)])) rfl (by rw [hml]; rfl) (rest := [(.ref b1), (.ref o0)]) (lenOf pd12_0 rfl) rfl (hb hby d12_6) (W := 2) (by show 2 * 0 + _ ≤ _; exact Nat.le_of_eq rfl) (by decide) (by decide) (by decide) (by decide)
  obtain ⟨rfl, Nq2, Kq2, q2_0, q2_1⟩ := hQ2
  have N2 := Fr.app N0 Nq2
  have Z2 : n0 ≤ T2.heap.size := Nat.le_trans Z1 Kq2.1
  have KK2 : Keep h0 T2.heap [o0] := K1.trans Kq2 (allS (Or.inr sz_b1) all0)
  refine own_go (g' := (mkF m 9 #[.val (.ref o0), .val (.ref o1)] [(.ref b1), (.ref o0)])) (st2) ?_
  have fx3 : Fld Z T2.heap o0 "com/example/restlint/restlint/document/MappingNode" "applied" "Lcom/example/restlint/restlint/document/MappingNode$Applied;" (.ref aq) := (Fld.keep (Fld.ext E1 P1) Kq2 (ninS ne_o0_b1 nin0))
  have fx4 : Exa Z T2.heap o0 "com/example/restlint/restlint/document/MappingNode" := (Exa.keep (Exa.ext E1 P0) Kq2)
  obtain ⟨T5, h5, X5, e5, W5, st5⟩ := putF X2 hx hZ hown (host := "") (Or.inl (hw _ (List.mem_of_getElem? (i := 89) rfl))) Via.refl rfl fx3 fx4 (Or.inl (hw _ (List.mem_of_getElem? (i := 90) rfl))) (hw _ (List.mem_of_getElem? (i := 34) rfl)) (ty := (.object "com/example/restlint/restlint/document/MappingNode$Applied")) (by decide) rfl rfl (g := (mkF m 9 #[.val (.ref o0), .val (.ref o1)] [(.ref b1), (.ref o0)])) rfl rfl (hb hby d12_9)
  have fw5 := Fld.same W5 fx3
  have N5 := Fr.snoc X5 N2 g_o0
  have Z5 : n0 ≤ h5.size := by rw [W5.size]; exact Z2
  have K5 : Keep h0 h5 [o0] := KK2.wr W5 (Or.inl (List.mem_of_getElem? (i := 0) rfl))
  refine own_go (g' := (mkF m 12 #[.val (.ref o0), .val (.ref o1)] [])) (st5) ?_
  refine own_retV X5 hx Bd.returns Bd.notSynchronized (hb hby d12_12) (by decide) (by decide) ?_
  show QQ _ T5.heap _
  rw [e5]
  have fx6 : Exa Z h5 o0 "com/example/restlint/restlint/document/MappingNode" := (Exa.wr W5 fx4)
  have fx7 : Fld Z h5 b1 "com/example/restlint/restlint/document/MappingNode$Applied" "target" "Lcom/example/restlint/restlint/document/Node;" (.ref o1) := (Fld.other W5 q2_1 (Or.inl (Ne.symm ne_o0_b1)))
  rw [← hQQ]
  exact ⟨b1, rfl, N5, K5, sz_b1, fx6, fw5, fx7⟩
theorem pn_rm0 : plainName "com/example/restlint/restlint/document/MappingNodeAppliedPinLaw" = true := by first | (simp [plainName, overriddenIn]; done) | decide +kernel
theorem pd0_0 : parseMethodDescriptor "(Ljava/lang/String;II)V" = some ⟨[(.object "java/lang/String"), .int, .int], none⟩ := by decide +kernel
theorem pd0_1 : parseMethodDescriptor "(Lcom/example/restlint/restlint/document/Location;Lcom/example/restlint/restlint/document/Location;)V" = some ⟨[(.object "com/example/restlint/restlint/document/Location"), (.object "com/example/restlint/restlint/document/Location")], none⟩ := by decide +kernel
theorem pd0_2 : parseMethodDescriptor "(Ljava/lang/String;Lcom/example/restlint/restlint/document/Location;Z)V" = some ⟨[(.object "java/lang/String"), (.object "com/example/restlint/restlint/document/Location"), .boolean], none⟩ := by decide +kernel
theorem pd0_3 : parseMethodDescriptor "()Lcom/example/restlint/restlint/document/Node;" = some ⟨[], some (.object "com/example/restlint/restlint/document/Node")⟩ := by decide +kernel
theorem pd0_4 : parseMethodDescriptor "()Z" = some ⟨[], some .boolean⟩ := by decide +kernel
theorem pd0_5 : parseMethodDescriptor "(ILcom/example/restlint/restlint/document/Node;Lcom/example/restlint/restlint/document/Node;Lcom/example/restlint/restlint/document/Node;)Lcom/example/restlint/restlint/document/Node;" = some ⟨[.int, (.object "com/example/restlint/restlint/document/Node"), (.object "com/example/restlint/restlint/document/Node"), (.object "com/example/restlint/restlint/document/Node")], some (.object "com/example/restlint/restlint/document/Node")⟩ := by decide +kernel
theorem pd0_6 : parseMethodDescriptor "(Lcom/example/restlint/restlint/document/Node;)V" = some ⟨[(.object "com/example/restlint/restlint/document/Node")], none⟩ := by decide +kernel
theorem ef_rm0 (m : MethodId) (p0 : Int32) (p1 : Int32) (p2 : Int32) (p3 : Int32) (p4 : Int32) : entryFrame m #[(.int p0), (.int p1), (.int p2), (.int p3), (.int p4)] maxLocals = mkF m 0 #[.val (.int p0), .val (.int p1), .val (.int p2), .val (.int p3), .val (.int p4), .unset, .unset, .unset, .unset, .unset, .unset, .unset] [] := by first | (simp [entryFrame, mkF, argsToLocals, Value.category, maxLocals]; done) | rfl
set_option maxRecDepth 65536 in
set_option maxHeartbeats 40000000 in
theorem rm0 (l : Launch) (Z : State) (a0 : Array Value) (hw : ∀ d ∈ tables_1, d.before a0 Z = true) (p0 : Int32) (p1 : Int32) (p2 : Int32) (p3 : Int32) (p4 : Int32) (ea : Addr) (h0 : Heap) (n0 : Nat) (Z0 : n0 ≤ h0.size) (O0 : Old Z n0 h0) (S0 : Sta Z Z.heap "java/util/ArrayList" "DEFAULTCAPACITY_EMPTY_ELEMENTDATA" "[Ljava/lang/Object;" (.ref ea)) :
    own_MetW l Z x code maxLocals ret tables_1 room_1 #[(.int p0), (.int p1), (.int p2), (.int p3), (.int p4)] h0 32 2240 (fun v h L => v = some (.int 1) ∧ Fr n0 L) := by
  refine own_metW (plainFor_of_name pn_rm0) ?_
  intro p e s m below meth c s₁ Bd hml0 hZ X0 e0 hS0
  have hk0 : 0 ≤ h0.size := Nat.zero_le _
  have hx := Bd.exec
  have hby := Bd.bytes
  have hml : c.maxLocals = 12 := hml0
  have hown : (s.setVm s.vm).vm.findClass "com/example/restlint/restlint/document/MappingNodeAppliedPinLaw" = some m.cls := findClass_of_methodNamed Bd.named
  have hnm := (name_of_methodNamed Bd.named Bd.method).1
  refine own_cast (ef_rm0 m p0 p1 p2 p3 p4) ?_
  generalize hQQ : (fun (v : Option Value) (h : Heap) (L : List Loc) => v = some (.int 1) ∧ Fr n0 L) = QQ
  have N0 := Fr.nil n0
  obtain ⟨T1, h1, X1, e1, E1, A1, D1, -, st1⟩ := newO X0 hx hZ hown (hw _ (List.mem_of_getElem? (i := 0) rfl)) (hw _ (List.mem_of_getElem? (i := 1) rfl)) (hw _ (List.mem_of_getElem? (i := 2) rfl)) e0 (g := (mkF m 0 #[.val (.int p0), .val (.int p1), .val (.int p2), .val (.int p3), .val (.int p4), .unset, .unset, .unset, .unset, .unset, .unset, .unset] [])) rfl (hb hby at_0) (by decide) (by decide)
  obtain ⟨b1, ad1⟩ : ∃ z, z = h0.size := ⟨_, rfl⟩
  rw [← ad1] at A1 D1 st1
  have ge_b1 : n0 ≤ b1 := by rw [ad1]; exact Z0
  have hk1 := Nat.le_trans hk0 E1.1
  have Z1 : n0 ≤ h1.size := Nat.le_trans Z0 E1.1
  have F1_file : Fld Z h1 b1 "com/example/restlint/restlint/document/Location" "file" "Ljava/lang/String;" .null := D1 (Or.inr (hw _ (List.mem_of_getElem? (i := 26) rfl))) (ty := (.object "java/lang/String")) (by decide)
  have F1_line : Fld Z h1 b1 "com/example/restlint/restlint/document/Location" "line" "I" (.int (0 : Int32)) := D1 (Or.inr (hw _ (List.mem_of_getElem? (i := 28) rfl))) (ty := .int) (by decide)
  have F1_column : Fld Z h1 b1 "com/example/restlint/restlint/document/Location" "column" "I" (.int (0 : Int32)) := D1 (Or.inr (hw _ (List.mem_of_getElem? (i := 30) rfl))) (ty := .int) (by decide)
  have F1_pointer : Fld Z h1 b1 "com/example/restlint/restlint/document/Location" "pointer" "Lcom/example/restlint/restlint/document/JsonPointer;" .null := D1 (Or.inr (hw _ (List.mem_of_getElem? (i := 32) rfl))) (ty := (.object "com/example/restlint/restlint/document/JsonPointer")) (by decide)
  refine own_go (g' := (mkF m 3 #[.val (.int p0), .val (.int p1), .val (.int p2), .val (.int p3), .val (.int p4), .unset, .unset, .unset, .unset, .unset, .unset, .unset] [(.ref b1)])) (st1) ?_
  refine own_go (g' := (mkF m 4 #[.val (.int p0), .val (.int p1), .val (.int p2), .val (.int p3), .val (.int p4), .unset, .unset, .unset, .unset, .unset, .unset, .unset] [(.ref b1), (.ref b1)])) (fun _ kgo => XS.dup X1.here hx rfl (hb hby at_3) rfl rfl kgo) ?_
  obtain ⟨b2, T2, h2, kq2, X2, e2, E2, hS2, hk2, hZ, hown, st2⟩ := ldcS X1 hx hZ hown (hw _ (List.mem_of_getElem? (i := 3) rfl)) (fun d hd => hw d (own_strw d hd)) e1 hS0 hk1 (g := (mkF m 4 #[.val (.int p0), .val (.int p1), .val (.int p2), .val (.int p3), .val (.int p4), .unset, .unset, .unset, .unset, .unset, .unset, .unset] [(.ref b1), (.ref b1)])) rfl (hb hby at_4) (n := 4) (by first | decide | simp) (by decide) (by decide) (by decide)
  have Z2 : n0 ≤ h2.size := Nat.le_trans Z1 E2.1
  refine own_go (g' := (mkF m 6 #[.val (.int p0), .val (.int p1), .val (.int p2), .val (.int p3), .val (.int p4), .unset, .unset, .unset, .unset, .unset, .unset, .unset] [(.ref b2), (.ref b1), (.ref b1)])) (st2) ?_
  refine own_go (g' := (mkF m 7 #[.val (.int p0), .val (.int p1), .val (.int p2), .val (.int p3), .val (.int p4), .unset, .unset, .unset, .unset, .unset, .unset, .unset] [(.int p3), (.ref b2), (.ref b1), (.ref b1)])) (fun _ kgo => XS.iloadN X2.here hx rfl (hb hby at_6) rfl kgo) ?_
  refine own_go (g' := (mkF m 9 #[.val (.int p0), .val (.int p1), .val (.int p2), .val (.int p3), .val (.int p4), .unset, .unset, .unset, .unset, .unset, .unset, .unset] [(.int p4), (.int p3), (.ref b2), (.ref b1), (.ref b1)])) (fun _ kgo => XS.iload X2.here hx rfl (hb hby at_7) rfl kgo) ?_
  have fx4 : Exa Z h2 b1 "com/example/restlint/restlint/document/Location" := (Exa.ext E2 A1)
  have fx5 : Fld Z h2 b1 "com/example/restlint/restlint/document/Location" "file" "Ljava/lang/String;" .null := (Fld.ext E2 F1_file)
  have fx6 : Fld Z h2 b1 "com/example/restlint/restlint/document/Location" "line" "I" (.int (0 : Int32)) := (Fld.ext E2 F1_line)
  have fx7 : Fld Z h2 b1 "com/example/restlint/restlint/document/Location" "column" "I" (.int (0 : Int32)) := (Fld.ext E2 F1_column)
  have fx8 : Fld Z h2 b1 "com/example/restlint/restlint/document/Location" "pointer" "Lcom/example/restlint/restlint/document/JsonPointer;" .null := (Fld.ext E2 F1_pointer)
  obtain ⟨v3, T3, L3, hQ3, X3, st3⟩ := own_callI X2 hx hZ (y := (⟨"com/example/restlint/restlint/document/Location", "<init>", "(Ljava/lang/String;II)V"⟩ : MethodName)) rfl hown (hw _ (List.mem_of_getElem? (i := 11) rfl)) (hw _ (List.mem_of_getElem? (i := 12) rfl)) (hw _ (List.mem_of_getElem? (i := 2) rfl)) (hw _ (List.mem_of_getElem? (i := 13) rfl)) ⟨by decide, by decide⟩ (a := b1) (argsL := [(.ref b2), (.int p3), (.int p4)]) (lo1 l Z a0 hw b1 b2 p3 p4 h2 n0 Z2 ge_b1 fx4 fx5 fx6 fx7 fx8) e2 (g := (mkF m 9 #[.val (.int p0), .val (.int p1), .val (.int p2), .val (.int p3), .val (.int p4), .unset, .unset, .unset, .unset, .unset, .unset, .unset] [(.int p4), (.int p3), (.ref b2), (.ref b1), (.ref b1)])) rfl (by rw [hml]; rfl) (rest := [(.ref b1)]) (lenOf pd0_0 rfl) rfl (hb hby at_9) (W := 1) (by show 2 * 0 + _ ≤ _; exact Nat.le_of_eq rfl) (by decide) (by decide) (by decide) (by decide)
  obtain ⟨rfl, Nq3, Kq3, q3_0⟩ := hQ3
  have N3 := Fr.app N0 Nq3
  have hk3 := Nat.le_trans hk2 Kq3.1
  have Z3 : n0 ≤ T3.heap.size := Nat.le_trans Z2 Kq3.1
  refine own_go (g' := (mkF m 12 #[.val (.int p0), .val (.int p1), .val (.int p2), .val (.int p3), .val (.int p4), .unset, .unset, .unset, .unset, .unset, .unset, .unset] [(.ref b1)])) (st3) ?_
  refine own_go (g' := (mkF m 14 #[.val (.int p0), .val (.int p1), .val (.int p2), .val (.int p3), .val (.int p4), .val (.ref b1), .unset, .unset, .unset, .unset, .unset, .unset] [])) (fun _ kgo => XS.astore X3.here hx rfl (hb hby at_12) rfl rfl (l' := #[.val (.int p0), .val (.int p1), .val (.int p2), .val (.int p3), .val (.int p4), .val (.ref b1), .unset, .unset, .unset, .unset, .unset, .unset]) rfl kgo) ?_
  obtain ⟨T9, h9, X9, e9, E9, A9, D9, -, st9⟩ := newO X3 hx hZ hown (hw _ (List.mem_of_getElem? (i := 33) rfl)) (hw _ (List.mem_of_getElem? (i := 34) rfl)) (hw _ (List.mem_of_getElem? (i := 35) rfl)) rfl (g := (mkF m 14 #[.val (.int p0), .val (.int p1), .val (.int p2), .val (.int p3), .val (.int p4), .val (.ref b1), .unset, .unset, .unset, .unset, .unset, .unset] [])) rfl (hb hby at_14) (by decide) (by decide)
  obtain ⟨b9, ad9⟩ : ∃ z, z = T3.heap.size := ⟨_, rfl⟩
  rw [← ad9] at A9 D9 st9
  have ne_b1_b9 : b1 ≠ b9 := Nat.ne_of_lt (by rw [ad9]; exact q3_0.lt)
  have ge_b9 : n0 ≤ b9 := by rw [ad9]; exact Z3
  have hk9 := Nat.le_trans hk3 E9.1
  have Z9 : n0 ≤ h9.size := Nat.le_trans Z3 E9.1
  have F9_entries : Fld Z h9 b9 "com/example/restlint/restlint/document/MappingNode" "entries" "Ljava/util/List;" .null := D9 (Or.inl (hw _ (List.mem_of_getElem? (i := 65) rfl))) (ty := (.object "java/util/List")) (by decide)
  have F9_location : Fld Z h9 b9 "com/example/restlint/restlint/document/MappingNode" "location" "Lcom/example/restlint/restlint/document/Location;" .null := D9 (Or.inr (hw _ (List.mem_of_getElem? (i := 67) rfl))) (ty := (.object "com/example/restlint/restlint/document/Location")) (by decide)
  have F9_writtenAt : Fld Z h9 b9 "com/example/restlint/restlint/document/MappingNode" "writtenAt" "Lcom/example/restlint/restlint/document/Location;" .null := D9 (Or.inr (hw _ (List.mem_of_getElem? (i := 69) rfl))) (ty := (.object "com/example/restlint/restlint/document/Location")) (by decide)
  have F9_applied : Fld Z h9 b9 "com/example/restlint/restlint/document/MappingNode" "applied" "Lcom/example/restlint/restlint/document/MappingNode$Applied;" .null := D9 (Or.inl (hw _ (List.mem_of_getElem? (i := 90) rfl))) (ty := (.object "com/example/restlint/restlint/document/MappingNode$Applied")) (by decide)
  refine own_go (g' := (mkF m 17 #[.val (.int p0), .val (.int p1), .val (.int p2), .val (.int p3), .val (.int p4), .val (.ref b1), .unset, .unset, .unset, .unset, .unset, .unset] [(.ref b9)])) (st9) ?_
  refine own_go (g' := (mkF m 18 #[.val (.int p0), .val (.int p1), .val (.int p2), .val (.int p3), .val (.int p4), .val (.ref b1), .unset, .unset, .unset, .unset, .unset, .unset] [(.ref b9), (.ref b9)])) (fun _ kgo => XS.dup X9.here hx rfl (hb hby at_17) rfl rfl kgo) ?_
  refine own_go (g' := (mkF m 20 #[.val (.int p0), .val (.int p1), .val (.int p2), .val (.int p3), .val (.int p4), .val (.ref b1), .unset, .unset, .unset, .unset, .unset, .unset] [(.ref b1), (.ref b9), (.ref b9)])) (fun _ kgo => XS.aload X9.here hx rfl (hb hby at_18) rfl rfl kgo) ?_
  refine own_go (g' := (mkF m 22 #[.val (.int p0), .val (.int p1), .val (.int p2), .val (.int p3), .val (.int p4), .val (.ref b1), .unset, .unset, .unset, .unset, .unset, .unset] [(.ref b1), (.ref b1), (.ref b9), (.ref b9)])) (fun _ kgo => XS.aload X9.here hx rfl (hb hby at_20) rfl rfl kgo) ?_
  have fx11 : Old Z n0 h9 := (Old.ext (Old.keep (Old.ext (Old.ext O0 E1) E2) Kq3 (allS ge_b1 all0)) E9)
  obtain ⟨v10, T10, L10, hQ10, X10, st10⟩ := own_callI X9 hx hZ (y := (⟨"com/example/restlint/restlint/document/MappingNode", "<init>", "(Lcom/example/restlint/restlint/document/Location;Lcom/example/restlint/restlint/document/Location;)V"⟩ : MethodName)) rfl hown (hw _ (List.mem_of_getElem? (i := 36) rfl)) (hw _ (List.mem_of_getElem? (i := 37) rfl)) (hw _ (List.mem_of_getElem? (i := 35) rfl)) (hw _ (List.mem_of_getElem? (i := 38) rfl)) ⟨by decide, by decide⟩ (a := b9) (argsL := [(.ref b1), (.ref b1)]) (mni l Z a0 hw b9 b1 b1 ea h9 n0 Z9 ge_b9 A9 F9_entries F9_location F9_writtenAt F9_applied (Sta.ext fx11.2 S0)) e9 (g := (mkF m 22 #[.val (.int p0), .val (.int p1), .val (.int p2), .val (.int p3), .val (.int p4), .val (.ref b1), .unset, .unset, .unset, .unset, .unset, .unset] [(.ref b1), (.ref b1), (.ref b9), (.ref b9)])) rfl (by rw [hml]; rfl) (rest := [(.ref b9)]) (lenOf pd0_1 rfl) rfl (hb hby at_22) (W := 1) (by show 2 * 0 + _ ≤ _; exact Nat.le_of_eq rfl) (by decide) (by decide) (by decide) (by decide)
  obtain ⟨rfl, Nq10, Kq10, q10_0, q10_1⟩ := hQ10
  have N10 := Fr.app N3 Nq10
  have hk10 := Nat.le_trans hk9 Kq10.1
  have Z10 : n0 ≤ T10.heap.size := Nat.le_trans Z9 Kq10.1
  refine own_go (g' := (mkF m 25 #[.val (.int p0), .val (.int p1), .val (.int p2), .val (.int p3), .val (.int p4), .val (.ref b1), .unset, .unset, .unset, .unset, .unset, .unset] [(.ref b9)])) (st10) ?_
  refine own_go (g' := (mkF m 27 #[.val (.int p0), .val (.int p1), .val (.int p2), .val (.int p3), .val (.int p4), .val (.ref b1), .val (.ref b9), .unset, .unset, .unset, .unset, .unset] [])) (fun _ kgo => XS.astore X10.here hx rfl (hb hby at_25) rfl rfl (l' := #[.val (.int p0), .val (.int p1), .val (.int p2), .val (.int p3), .val (.int p4), .val (.ref b1), .val (.ref b9), .unset, .unset, .unset, .unset, .unset]) rfl kgo) ?_
  obtain ⟨T12, h12, X12, e12, E12, A12, D12, -, st12⟩ := newO X10 hx hZ hown (hw _ (List.mem_of_getElem? (i := 33) rfl)) (hw _ (List.mem_of_getElem? (i := 34) rfl)) (hw _ (List.mem_of_getElem? (i := 35) rfl)) rfl (g := (mkF m 27 #[.val (.int p0), .val (.int p1), .val (.int p2), .val (.int p3), .val (.int p4), .val (.ref b1), .val (.ref b9), .unset, .unset, .unset, .unset, .unset] [])) rfl (hb hby at_27) (by decide) (by decide)
  obtain ⟨b12, ad12⟩ : ∃ z, z = T10.heap.size := ⟨_, rfl⟩
  rw [← ad12] at A12 D12 st12
  have fx13 : Exa Z T10.heap b1 "com/example/restlint/restlint/document/Location" := (Exa.keep (Exa.ext E9 q3_0) Kq10)
  have ne_b1_b12 : b1 ≠ b12 := Nat.ne_of_lt (by rw [ad12]; exact fx13.lt)
  have ne_b9_b12 : b9 ≠ b12 := Nat.ne_of_lt (by rw [ad12]; exact q10_0.lt)
  have ge_b12 : n0 ≤ b12 := by rw [ad12]; exact Z10
  have hk12 := Nat.le_trans hk10 E12.1
  have Z12 : n0 ≤ h12.size := Nat.le_trans Z10 E12.1
  have F12_entries : Fld Z h12 b12 "com/example/restlint/restlint/document/MappingNode" "entries" "Ljava/util/List;" .null := D12 (Or.inl (hw _ (List.mem_of_getElem? (i := 65) rfl))) (ty := (.object "java/util/List")) (by decide)
  have F12_location : Fld Z h12 b12 "com/example/restlint/restlint/document/MappingNode" "location" "Lcom/example/restlint/restlint/document/Location;" .null := D12 (Or.inr (hw _ (List.mem_of_getElem? (i := 67) rfl))) (ty := (.object "com/example/restlint/restlint/document/Location")) (by decide)
  have F12_writtenAt : Fld Z h12 b12 "com/example/restlint/restlint/document/MappingNode" "writtenAt" "Lcom/example/restlint/restlint/document/Location;" .null := D12 (Or.inr (hw _ (List.mem_of_getElem? (i := 69) rfl))) (ty := (.object "com/example/restlint/restlint/document/Location")) (by decide)
  have F12_applied : Fld Z h12 b12 "com/example/restlint/restlint/document/MappingNode" "applied" "Lcom/example/restlint/restlint/document/MappingNode$Applied;" .null := D12 (Or.inl (hw _ (List.mem_of_getElem? (i := 90) rfl))) (ty := (.object "com/example/restlint/restlint/document/MappingNode$Applied")) (by decide)
  refine own_go (g' := (mkF m 30 #[.val (.int p0), .val (.int p1), .val (.int p2), .val (.int p3), .val (.int p4), .val (.ref b1), .val (.ref b9), .unset, .unset, .unset, .unset, .unset] [(.ref b12)])) (st12) ?_
  refine own_go (g' := (mkF m 31 #[.val (.int p0), .val (.int p1), .val (.int p2), .val (.int p3), .val (.int p4), .val (.ref b1), .val (.ref b9), .unset, .unset, .unset, .unset, .unset] [(.ref b12), (.ref b12)])) (fun _ kgo => XS.dup X12.here hx rfl (hb hby at_30) rfl rfl kgo) ?_
  refine own_go (g' := (mkF m 33 #[.val (.int p0), .val (.int p1), .val (.int p2), .val (.int p3), .val (.int p4), .val (.ref b1), .val (.ref b9), .unset, .unset, .unset, .unset, .unset] [(.ref b1), (.ref b12), (.ref b12)])) (fun _ kgo => XS.aload X12.here hx rfl (hb hby at_31) rfl rfl kgo) ?_
  refine own_go (g' := (mkF m 35 #[.val (.int p0), .val (.int p1), .val (.int p2), .val (.int p3), .val (.int p4), .val (.ref b1), .val (.ref b9), .unset, .unset, .unset, .unset, .unset] [(.ref b1), (.ref b1), (.ref b12), (.ref b12)])) (fun _ kgo => XS.aload X12.here hx rfl (hb hby at_33) rfl rfl kgo) ?_
  have fx15 : Old Z n0 h12 := (Old.ext (Old.keep fx11 Kq10 (allS ge_b9 all0)) E12)
  obtain ⟨v14, T14, L14, hQ14, X14, st14⟩ := own_callI X12 hx hZ (y := (⟨"com/example/restlint/restlint/document/MappingNode", "<init>", "(Lcom/example/restlint/restlint/document/Location;Lcom/example/restlint/restlint/document/Location;)V"⟩ : MethodName)) rfl hown (hw _ (List.mem_of_getElem? (i := 36) rfl)) (hw _ (List.mem_of_getElem? (i := 37) rfl)) (hw _ (List.mem_of_getElem? (i := 35) rfl)) (hw _ (List.mem_of_getElem? (i := 38) rfl)) ⟨by decide, by decide⟩ (a := b12) (argsL := [(.ref b1), (.ref b1)]) (mni l Z a0 hw b12 b1 b1 ea h12 n0 Z12 ge_b12 A12 F12_entries F12_location F12_writtenAt F12_applied (Sta.ext fx15.2 S0)) e12 (g := (mkF m 35 #[.val (.int p0), .val (.int p1), .val (.int p2), .val (.int p3), .val (.int p4), .val (.ref b1), .val (.ref b9), .unset, .unset, .unset, .unset, .unset] [(.ref b1), (.ref b1), (.ref b12), (.ref b12)])) rfl (by rw [hml]; rfl) (rest := [(.ref b12)]) (lenOf pd0_1 rfl) rfl (hb hby at_35) (W := 1) (by show 2 * 0 + _ ≤ _; exact Nat.le_of_eq rfl) (by decide) (by decide) (by decide) (by decide)
  obtain ⟨rfl, Nq14, Kq14, q14_0, q14_1⟩ := hQ14
  have N14 := Fr.app N10 Nq14
  have hk14 := Nat.le_trans hk12 Kq14.1
  have Z14 : n0 ≤ T14.heap.size := Nat.le_trans Z12 Kq14.1
  refine own_go (g' := (mkF m 38 #[.val (.int p0), .val (.int p1), .val (.int p2), .val (.int p3), .val (.int p4), .val (.ref b1), .val (.ref b9), .unset, .unset, .unset, .unset, .unset] [(.ref b12)])) (st14) ?_
  refine own_go (g' := (mkF m 40 #[.val (.int p0), .val (.int p1), .val (.int p2), .val (.int p3), .val (.int p4), .val (.ref b1), .val (.ref b9), .val (.ref b12), .unset, .unset, .unset, .unset] [])) (fun _ kgo => XS.astore X14.here hx rfl (hb hby at_38) rfl rfl (l' := #[.val (.int p0), .val (.int p1), .val (.int p2), .val (.int p3), .val (.int p4), .val (.ref b1), .val (.ref b9), .val (.ref b12), .unset, .unset, .unset, .unset]) rfl kgo) ?_
  obtain ⟨T16, h16, X16, e16, E16, A16, D16, -, st16⟩ := newO X14 hx hZ hown (hw _ (List.mem_of_getElem? (i := 70) rfl)) (hw _ (List.mem_of_getElem? (i := 71) rfl)) (hw _ (List.mem_of_getElem? (i := 72) rfl)) rfl (g := (mkF m 40 #[.val (.int p0), .val (.int p1), .val (.int p2), .val (.int p3), .val (.int p4), .val (.ref b1), .val (.ref b9), .val (.ref b12), .unset, .unset, .unset, .unset] [])) rfl (hb hby at_40) (by decide) (by decide)
  obtain ⟨b16, ad16⟩ : ∃ z, z = T14.heap.size := ⟨_, rfl⟩
  rw [← ad16] at A16 D16 st16
  have fx17 : Exa Z T14.heap b1 "com/example/restlint/restlint/document/Location" := (Exa.keep (Exa.ext E12 fx13) Kq14)
  have ne_b1_b16 : b1 ≠ b16 := Nat.ne_of_lt (by rw [ad16]; exact fx17.lt)
  have fx18 : Exa Z T14.heap b9 "com/example/restlint/restlint/document/MappingNode" := (Exa.keep (Exa.ext E12 q10_0) Kq14)
  have ne_b9_b16 : b9 ≠ b16 := Nat.ne_of_lt (by rw [ad16]; exact fx18.lt)
  have ne_b12_b16 : b12 ≠ b16 := Nat.ne_of_lt (by rw [ad16]; exact q14_0.lt)
  have ge_b16 : n0 ≤ b16 := by rw [ad16]; exact Z14
  have hk16 := Nat.le_trans hk14 E16.1
  have Z16 : n0 ≤ h16.size := Nat.le_trans Z14 E16.1
  have F16_text : Fld Z h16 b16 "com/example/restlint/restlint/document/ScalarNode" "text" "Ljava/lang/String;" .null := D16 (Or.inr (hw _ (List.mem_of_getElem? (i := 79) rfl))) (ty := (.object "java/lang/String")) (by decide)
  have F16_location : Fld Z h16 b16 "com/example/restlint/restlint/document/ScalarNode" "location" "Lcom/example/restlint/restlint/document/Location;" .null := D16 (Or.inr (hw _ (List.mem_of_getElem? (i := 81) rfl))) (ty := (.object "com/example/restlint/restlint/document/Location")) (by decide)
  have F16_isNull : Fld Z h16 b16 "com/example/restlint/restlint/document/ScalarNode" "isNull" "Z" (.int (0 : Int32)) := D16 (Or.inr (hw _ (List.mem_of_getElem? (i := 83) rfl))) (ty := .boolean) (by decide)
  refine own_go (g' := (mkF m 43 #[.val (.int p0), .val (.int p1), .val (.int p2), .val (.int p3), .val (.int p4), .val (.ref b1), .val (.ref b9), .val (.ref b12), .unset, .unset, .unset, .unset] [(.ref b16)])) (st16) ?_
  refine own_go (g' := (mkF m 44 #[.val (.int p0), .val (.int p1), .val (.int p2), .val (.int p3), .val (.int p4), .val (.ref b1), .val (.ref b9), .val (.ref b12), .unset, .unset, .unset, .unset] [(.ref b16), (.ref b16)])) (fun _ kgo => XS.dup X16.here hx rfl (hb hby at_43) rfl rfl kgo) ?_
  obtain ⟨b19, T19, h19, kq19, X19, e19, E19, hS19, hk19, hZ, hown, st19⟩ := ldcS X16 hx hZ hown (hw _ (List.mem_of_getElem? (i := 73) rfl)) (fun d hd => hw d (own_strw d hd)) e16 hS2 hk16 (g := (mkF m 44 #[.val (.int p0), .val (.int p1), .val (.int p2), .val (.int p3), .val (.int p4), .val (.ref b1), .val (.ref b9), .val (.ref b12), .unset, .unset, .unset, .unset] [(.ref b16), (.ref b16)])) rfl (hb hby at_44) (n := 4) (by first | decide | simp) (by decide) (by decide) (by decide)
  have Z19 : n0 ≤ h19.size := Nat.le_trans Z16 E19.1
  refine own_go (g' := (mkF m 46 #[.val (.int p0), .val (.int p1), .val (.int p2), .val (.int p3), .val (.int p4), .val (.ref b1), .val (.ref b9), .val (.ref b12), .unset, .unset, .unset, .unset] [(.ref b19), (.ref b16), (.ref b16)])) (st19) ?_
  refine own_go (g' := (mkF m 48 #[.val (.int p0), .val (.int p1), .val (.int p2), .val (.int p3), .val (.int p4), .val (.ref b1), .val (.ref b9), .val (.ref b12), .unset, .unset, .unset, .unset] [(.ref b1), (.ref b19), (.ref b16), (.ref b16)])) (fun _ kgo => XS.aload X19.here hx rfl (hb hby at_46) rfl rfl kgo) ?_
  refine own_go (g' := (mkF m 49 #[.val (.int p0), .val (.int p1), .val (.int p2), .val (.int p3), .val (.int p4), .val (.ref b1), .val (.ref b9), .val (.ref b12), .unset, .unset, .unset, .unset] [(.int p2), (.ref b1), (.ref b19), (.ref b16), (.ref b16)])) (fun _ kgo => XS.iloadN X19.here hx rfl (hb hby at_48) rfl kgo) ?_
  refine own_go (g' := (mkF m 50 #[.val (.int p0), .val (.int p1), .val (.int p2), .val (.int p3), .val (.int p4), .val (.ref b1), .val (.ref b9), .val (.ref b12), .unset, .unset, .unset, .unset] [(.int (4 : Int32)), (.int p2), (.ref b1), (.ref b19), (.ref b16), (.ref b16)])) (fun _ kgo => XS.iconst X19.here hx rfl (hb hby at_49) kgo) ?_
  refine own_go (g' := (mkF m 51 #[.val (.int p0), .val (.int p1), .val (.int p2), .val (.int p3), .val (.int p4), .val (.ref b1), .val (.ref b9), .val (.ref b12), .unset, .unset, .unset, .unset] [(.int (p2 &&& (4 : Int32))), (.ref b1), (.ref b19), (.ref b16), (.ref b16)])) (fun _ kgo => XS.iand X19.here hx rfl (hb hby at_50) rfl kgo) ?_
  have J20 : own_Go p e below (own_PostW s QQ 32 2240) T19 (mkF m 59 #[.val (.int p0), .val (.int p1), .val (.int p2), .val (.int p3), .val (.int p4), .val (.ref b1), .val (.ref b9), .val (.ref b12), .unset, .unset, .unset, .unset] [(.int (own_b (!decide ((p2 &&& (4 : Int32)) = (0 : Int32))))), (.ref b1), (.ref b19), (.ref b16), (.ref b16)]) := by
    have fx22 : Exa Z h19 b16 "com/example/restlint/restlint/document/ScalarNode" := (Exa.ext E19 A16)
    have fx23 : Fld Z h19 b16 "com/example/restlint/restlint/document/ScalarNode" "text" "Ljava/lang/String;" .null := (Fld.ext E19 F16_text)
    have fx24 : Fld Z h19 b16 "com/example/restlint/restlint/document/ScalarNode" "location" "Lcom/example/restlint/restlint/document/Location;" .null := (Fld.ext E19 F16_location)
    have fx25 : Fld Z h19 b16 "com/example/restlint/restlint/document/ScalarNode" "isNull" "Z" (.int (0 : Int32)) := (Fld.ext E19 F16_isNull)
    obtain ⟨v21, T21, L21, hQ21, X21, st21⟩ := own_callI X19 hx hZ (y := (⟨"com/example/restlint/restlint/document/ScalarNode", "<init>", "(Ljava/lang/String;Lcom/example/restlint/restlint/document/Location;Z)V"⟩ : MethodName)) rfl hown (hw _ (List.mem_of_getElem? (i := 74) rfl)) (hw _ (List.mem_of_getElem? (i := 75) rfl)) (hw _ (List.mem_of_getElem? (i := 72) rfl)) (hw _ (List.mem_of_getElem? (i := 76) rfl)) ⟨by decide, by decide⟩ (a := b16) (argsL := [(.ref b19), (.ref b1), (.int (own_b (!decide ((p2 &&& (4 : Int32)) = (0 : Int32)))))]) (sci l Z a0 hw b16 b19 b1 (own_b (!decide ((p2 &&& (4 : Int32)) = (0 : Int32)))) h19 n0 Z19 ge_b16 fx22 fx23 fx24 fx25) e19 (g := (mkF m 59 #[.val (.int p0), .val (.int p1), .val (.int p2), .val (.int p3), .val (.int p4), .val (.ref b1), .val (.ref b9), .val (.ref b12), .unset, .unset, .unset, .unset] [(.int (own_b (!decide ((p2 &&& (4 : Int32)) = (0 : Int32))))), (.ref b1), (.ref b19), (.ref b16), (.ref b16)])) rfl (by rw [hml]; rfl) (rest := [(.ref b16)]) (lenOf pd0_2 rfl) rfl (hb hby at_59) (W := 1) (by show 2 * 0 + _ ≤ _; exact Nat.le_of_eq rfl) (by decide) (by decide) (by decide) (by decide)
    obtain ⟨rfl, Nq21, Kq21, q21_0⟩ := hQ21
    have N21 := Fr.app N14 Nq21
    have hk21 := Nat.le_trans hk19 Kq21.1
    have Z21 : n0 ≤ T21.heap.size := Nat.le_trans Z19 Kq21.1
    refine own_go (g' := (mkF m 62 #[.val (.int p0), .val (.int p1), .val (.int p2), .val (.int p3), .val (.int p4), .val (.ref b1), .val (.ref b9), .val (.ref b12), .unset, .unset, .unset, .unset] [(.ref b16)])) (st21) ?_
    refine own_go (g' := (mkF m 64 #[.val (.int p0), .val (.int p1), .val (.int p2), .val (.int p3), .val (.int p4), .val (.ref b1), .val (.ref b9), .val (.ref b12), .val (.ref b16), .unset, .unset, .unset] [])) (fun _ kgo => XS.astore X21.here hx rfl (hb hby at_62) rfl rfl (l' := #[.val (.int p0), .val (.int p1), .val (.int p2), .val (.int p3), .val (.int p4), .val (.ref b1), .val (.ref b9), .val (.ref b12), .val (.ref b16), .unset, .unset, .unset]) rfl kgo) ?_
    refine own_go (g' := (mkF m 66 #[.val (.int p0), .val (.int p1), .val (.int p2), .val (.int p3), .val (.int p4), .val (.ref b1), .val (.ref b9), .val (.ref b12), .val (.ref b16), .unset, .unset, .unset] [(.ref b9)])) (fun _ kgo => XS.aload X21.here hx rfl (hb hby at_64) rfl rfl kgo) ?_
    have fx27 : Fld Z T21.heap b9 "com/example/restlint/restlint/document/MappingNode" "applied" "Lcom/example/restlint/restlint/document/MappingNode$Applied;" .null := (Fld.keep (Fld.ext E19 (Fld.ext E16 (Fld.keep (Fld.ext E12 q10_1) Kq14 (ninS ne_b9_b12 nin0)))) Kq21 (ninS ne_b9_b16 nin0))
    have fx28 : Exa Z T21.heap b9 "com/example/restlint/restlint/document/MappingNode" := (Exa.keep (Exa.ext E19 (Exa.ext E16 fx18)) Kq21)
    obtain ⟨v26, T26, L26, hQ26, X26, st26⟩ := own_callV X21 hx hZ (y := (⟨"com/example/restlint/restlint/document/MappingNode", "applied", "()Lcom/example/restlint/restlint/document/Node;"⟩ : MethodName)) (z := (⟨"com/example/restlint/restlint/document/MappingNode", "applied", "()Lcom/example/restlint/restlint/document/Node;"⟩ : MethodName)) hown (hw _ (List.mem_of_getElem? (i := 84) rfl)) (hw _ (List.mem_of_getElem? (i := 85) rfl)) (notFace_of_selects (args := #[]) (mvT hZ (hw _ (List.mem_of_getElem? (i := 87) rfl)))) (hw _ (List.mem_of_getElem? (i := 87) rfl)) (hw _ (List.mem_of_getElem? (i := 86) rfl)) (hw _ (List.mem_of_getElem? (i := 35) rfl)) (hw _ (List.mem_of_getElem? (i := 88) rfl)) ⟨by decide, by decide⟩ (a := b9) (argsL := []) (app_n l Z a0 hw b9 T21.heap fx27) rfl fx28 (g := (mkF m 66 #[.val (.int p0), .val (.int p1), .val (.int p2), .val (.int p3), .val (.int p4), .val (.ref b1), .val (.ref b9), .val (.ref b12), .val (.ref b16), .unset, .unset, .unset] [(.ref b9)])) rfl (by rw [hml]; rfl) (rest := []) (lenOf pd0_3 rfl) rfl (hb hby at_66) (W := 0) (by show 2 * 0 + _ ≤ _; exact Nat.le_of_eq rfl) (by decide) (by decide) (by decide) (by decide)
    obtain ⟨rfl, e26, rfl⟩ := hQ26
    have N26 := Fr.app N21 (Fr.nil n0)
    refine own_go (g' := (mkF m 69 #[.val (.int p0), .val (.int p1), .val (.int p2), .val (.int p3), .val (.int p4), .val (.ref b1), .val (.ref b9), .val (.ref b12), .val (.ref b16), .unset, .unset, .unset] [.null])) (st26) ?_
    refine own_go (g' := (mkF m 74 #[.val (.int p0), .val (.int p1), .val (.int p2), .val (.int p3), .val (.int p4), .val (.ref b1), .val (.ref b9), .val (.ref b12), .val (.ref b16), .unset, .unset, .unset] [])) (fun _ kgo => XS.ifnullYes X26.here hx rfl (pc0 := 69) (pc' := 74) rfl (hb hby at_69) rfl (by decide) (by decide) kgo) ?_
    refine own_go (g' := (mkF m 75 #[.val (.int p0), .val (.int p1), .val (.int p2), .val (.int p3), .val (.int p4), .val (.ref b1), .val (.ref b9), .val (.ref b12), .val (.ref b16), .unset, .unset, .unset] [.null])) (fun _ kgo => XS.aconstNull X26.here hx rfl (hb hby at_74) kgo) ?_
    refine own_go (g' := (mkF m 77 #[.val (.int p0), .val (.int p1), .val (.int p2), .val (.int p3), .val (.int p4), .val (.ref b1), .val (.ref b9), .val (.ref b12), .val (.ref b16), .val .null, .unset, .unset] [])) (fun _ kgo => XS.astore X26.here hx rfl (hb hby at_75) rfl rfl (l' := #[.val (.int p0), .val (.int p1), .val (.int p2), .val (.int p3), .val (.int p4), .val (.ref b1), .val (.ref b9), .val (.ref b12), .val (.ref b16), .val .null, .unset, .unset]) rfl kgo) ?_
    refine own_go (g' := (mkF m 78 #[.val (.int p0), .val (.int p1), .val (.int p2), .val (.int p3), .val (.int p4), .val (.ref b1), .val (.ref b9), .val (.ref b12), .val (.ref b16), .val .null, .unset, .unset] [(.int (0 : Int32))])) (fun _ kgo => XS.iconst X26.here hx rfl (hb hby at_77) kgo) ?_
    refine own_go (g' := (mkF m 80 #[.val (.int p0), .val (.int p1), .val (.int p2), .val (.int p3), .val (.int p4), .val (.ref b1), .val (.ref b9), .val (.ref b12), .val (.ref b16), .val .null, .val (.int (0 : Int32)), .unset] [])) (fun _ kgo => XS.istore X26.here hx rfl (hb hby at_78) rfl (l' := #[.val (.int p0), .val (.int p1), .val (.int p2), .val (.int p3), .val (.int p4), .val (.ref b1), .val (.ref b9), .val (.ref b12), .val (.ref b16), .val .null, .val (.int (0 : Int32)), .unset]) rfl kgo) ?_
    refine own_go (g' := (mkF m 81 #[.val (.int p0), .val (.int p1), .val (.int p2), .val (.int p3), .val (.int p4), .val (.ref b1), .val (.ref b9), .val (.ref b12), .val (.ref b16), .val .null, .val (.int (0 : Int32)), .unset] [(.int p2)])) (fun _ kgo => XS.iloadN X26.here hx rfl (hb hby at_80) rfl kgo) ?_
    refine own_go (g' := (mkF m 82 #[.val (.int p0), .val (.int p1), .val (.int p2), .val (.int p3), .val (.int p4), .val (.ref b1), .val (.ref b9), .val (.ref b12), .val (.ref b16), .val .null, .val (.int (0 : Int32)), .unset] [(.int (1 : Int32)), (.int p2)])) (fun _ kgo => XS.iconst X26.here hx rfl (hb hby at_81) kgo) ?_
    refine own_go (g' := (mkF m 83 #[.val (.int p0), .val (.int p1), .val (.int p2), .val (.int p3), .val (.int p4), .val (.ref b1), .val (.ref b9), .val (.ref b12), .val (.ref b16), .val .null, .val (.int (0 : Int32)), .unset] [(.int (p2 &&& (1 : Int32)))])) (fun _ kgo => XS.iand X26.here hx rfl (hb hby at_82) rfl kgo) ?_
    by_cases hc29 : (p2 &&& (1 : Int32)) = (0 : Int32)
    ·
      refine own_go (g' := (mkF m 124 #[.val (.int p0), .val (.int p1), .val (.int p2), .val (.int p3), .val (.int p4), .val (.ref b1), .val (.ref b9), .val (.ref b12), .val (.ref b16), .val .null, .val (.int (0 : Int32)), .unset] [])) (fun _ kgo => XS.ifYes X26.here hx rfl (pc0 := 83) (pc' := 124) rfl (hb hby at_83) rfl ((if0 _ _).trans (teq hc29).1) (by decide) (by decide) kgo) ?_
      refine own_go (g' := (mkF m 125 #[.val (.int p0), .val (.int p1), .val (.int p2), .val (.int p3), .val (.int p4), .val (.ref b1), .val (.ref b9), .val (.ref b12), .val (.ref b16), .val .null, .val (.int (0 : Int32)), .unset] [(.int p2)])) (fun _ kgo => XS.iloadN X26.here hx rfl (hb hby at_124) rfl kgo) ?_
      refine own_go (g' := (mkF m 126 #[.val (.int p0), .val (.int p1), .val (.int p2), .val (.int p3), .val (.int p4), .val (.ref b1), .val (.ref b9), .val (.ref b12), .val (.ref b16), .val .null, .val (.int (0 : Int32)), .unset] [(.int (2 : Int32)), (.int p2)])) (fun _ kgo => XS.iconst X26.here hx rfl (hb hby at_125) kgo) ?_
      refine own_go (g' := (mkF m 127 #[.val (.int p0), .val (.int p1), .val (.int p2), .val (.int p3), .val (.int p4), .val (.ref b1), .val (.ref b9), .val (.ref b12), .val (.ref b16), .val .null, .val (.int (0 : Int32)), .unset] [(.int (p2 &&& (2 : Int32)))])) (fun _ kgo => XS.iand X26.here hx rfl (hb hby at_126) rfl kgo) ?_
      by_cases hc30 : (p2 &&& (2 : Int32)) = (0 : Int32)
      ·
        refine own_go (g' := (mkF m 156 #[.val (.int p0), .val (.int p1), .val (.int p2), .val (.int p3), .val (.int p4), .val (.ref b1), .val (.ref b9), .val (.ref b12), .val (.ref b16), .val .null, .val (.int (0 : Int32)), .unset] [])) (fun _ kgo => XS.ifYes X26.here hx rfl (pc0 := 127) (pc' := 156) rfl (hb hby at_127) rfl ((if0 _ _).trans (teq hc30).1) (by decide) (by decide) kgo) ?_
        refine own_go (g' := (mkF m 158 #[.val (.int p0), .val (.int p1), .val (.int p2), .val (.int p3), .val (.int p4), .val (.ref b1), .val (.ref b9), .val (.ref b12), .val (.ref b16), .val .null, .val (.int (0 : Int32)), .unset] [(.ref b9)])) (fun _ kgo => XS.aload X26.here hx rfl (hb hby at_156) rfl rfl kgo) ?_
        obtain ⟨v31, T31, L31, hQ31, X31, st31⟩ := own_callV X26 hx hZ (y := (⟨"com/example/restlint/restlint/document/MappingNode", "applied", "()Lcom/example/restlint/restlint/document/Node;"⟩ : MethodName)) (z := (⟨"com/example/restlint/restlint/document/MappingNode", "applied", "()Lcom/example/restlint/restlint/document/Node;"⟩ : MethodName)) hown (hw _ (List.mem_of_getElem? (i := 84) rfl)) (hw _ (List.mem_of_getElem? (i := 85) rfl)) (notFace_of_selects (args := #[]) (mvT hZ (hw _ (List.mem_of_getElem? (i := 87) rfl)))) (hw _ (List.mem_of_getElem? (i := 87) rfl)) (hw _ (List.mem_of_getElem? (i := 86) rfl)) (hw _ (List.mem_of_getElem? (i := 35) rfl)) (hw _ (List.mem_of_getElem? (i := 88) rfl)) ⟨by decide, by decide⟩ (a := b9) (argsL := []) (app_n l Z a0 hw b9 T21.heap fx27) e26 fx28 (g := (mkF m 158 #[.val (.int p0), .val (.int p1), .val (.int p2), .val (.int p3), .val (.int p4), .val (.ref b1), .val (.ref b9), .val (.ref b12), .val (.ref b16), .val .null, .val (.int (0 : Int32)), .unset] [(.ref b9)])) rfl (by rw [hml]; rfl) (rest := []) (lenOf pd0_3 rfl) rfl (hb hby at_158) (W := 0) (by show 2 * 0 + _ ≤ _; exact Nat.le_of_eq rfl) (by decide) (by decide) (by decide) (by decide)
        obtain ⟨rfl, e31, rfl⟩ := hQ31
        have N31 := Fr.app N26 (Fr.nil n0)
        refine own_go (g' := (mkF m 161 #[.val (.int p0), .val (.int p1), .val (.int p2), .val (.int p3), .val (.int p4), .val (.ref b1), .val (.ref b9), .val (.ref b12), .val (.ref b16), .val .null, .val (.int (0 : Int32)), .unset] [.null])) (st31) ?_
        refine own_go (g' := (mkF m 163 #[.val (.int p0), .val (.int p1), .val (.int p2), .val (.int p3), .val (.int p4), .val (.ref b1), .val (.ref b9), .val (.ref b12), .val (.ref b16), .val .null, .val (.int (0 : Int32)), .unset] [.null, .null])) (fun _ kgo => XS.aload X31.here hx rfl (hb hby at_161) rfl rfl kgo) ?_
        refine own_go (g' := (mkF m 166 #[.val (.int p0), .val (.int p1), .val (.int p2), .val (.int p3), .val (.int p4), .val (.ref b1), .val (.ref b9), .val (.ref b12), .val (.ref b16), .val .null, .val (.int (0 : Int32)), .unset] [])) (fun _ kgo => Jvm.RoadKit.acmp (g := (mkF m 163 #[.val (.int p0), .val (.int p1), .val (.int p2), .val (.int p3), .val (.int p4), .val (.ref b1), .val (.ref b9), .val (.ref b12), .val (.ref b16), .val .null, .val (.int (0 : Int32)), .unset] [.null, .null])) X31 hx rfl rfl rfl (pc0 := 163) (pc' := 166) (same := true) rfl (hb hby at_163) rfl (decide_eq_true rfl) (by decide) (by decide) kgo) ?_
        refine own_go (g' := (mkF m 168 #[.val (.int p0), .val (.int p1), .val (.int p2), .val (.int p3), .val (.int p4), .val (.ref b1), .val (.ref b9), .val (.ref b12), .val (.ref b16), .val .null, .val (.int (0 : Int32)), .unset] [(.ref b9)])) (fun _ kgo => XS.aload X31.here hx rfl (hb hby at_166) rfl rfl kgo) ?_
        obtain ⟨v32, T32, L32, hQ32, X32, st32⟩ := own_callV X31 hx hZ (y := (⟨"com/example/restlint/restlint/document/MappingNode", "appliesReference", "()Z"⟩ : MethodName)) (z := (⟨"com/example/restlint/restlint/document/MappingNode", "appliesReference", "()Z"⟩ : MethodName)) hown (hw _ (List.mem_of_getElem? (i := 128) rfl)) (hw _ (List.mem_of_getElem? (i := 129) rfl)) (notFace_of_selects (args := #[]) (mvT hZ (hw _ (List.mem_of_getElem? (i := 131) rfl)))) (hw _ (List.mem_of_getElem? (i := 131) rfl)) (hw _ (List.mem_of_getElem? (i := 130) rfl)) (hw _ (List.mem_of_getElem? (i := 35) rfl)) (hw _ (List.mem_of_getElem? (i := 132) rfl)) ⟨by decide, by decide⟩ (a := b9) (argsL := []) (apl_n l Z a0 hw b9 T21.heap fx27) e31 fx28 (g := (mkF m 168 #[.val (.int p0), .val (.int p1), .val (.int p2), .val (.int p3), .val (.int p4), .val (.ref b1), .val (.ref b9), .val (.ref b12), .val (.ref b16), .val .null, .val (.int (0 : Int32)), .unset] [(.ref b9)])) rfl (by rw [hml]; rfl) (rest := []) (lenOf pd0_4 rfl) rfl (hb hby at_168) (W := 0) (by show 2 * 0 + _ ≤ _; exact Nat.le_of_eq rfl) (by decide) (by decide) (by decide) (by decide)
        obtain ⟨rfl, e32, rfl⟩ := hQ32
        have N32 := Fr.app N31 (Fr.nil n0)
        refine own_go (g' := (mkF m 171 #[.val (.int p0), .val (.int p1), .val (.int p2), .val (.int p3), .val (.int p4), .val (.ref b1), .val (.ref b9), .val (.ref b12), .val (.ref b16), .val .null, .val (.int (0 : Int32)), .unset] [(.int (0 : Int32))])) (st32) ?_
        refine own_go (g' := (mkF m 173 #[.val (.int p0), .val (.int p1), .val (.int p2), .val (.int p3), .val (.int p4), .val (.ref b1), .val (.ref b9), .val (.ref b12), .val (.ref b16), .val .null, .val (.int (0 : Int32)), .unset] [(.int (0 : Int32)), (.int (0 : Int32))])) (fun _ kgo => XS.iload X32.here hx rfl (hb hby at_171) rfl kgo) ?_
        refine own_go (g' := (mkF m 176 #[.val (.int p0), .val (.int p1), .val (.int p2), .val (.int p3), .val (.int p4), .val (.ref b1), .val (.ref b9), .val (.ref b12), .val (.ref b16), .val .null, .val (.int (0 : Int32)), .unset] [])) (fun _ kgo => XS.icmpNo X32.here hx rfl (hb hby at_173) rfl (teq (by decide)).2 kgo) ?_
        refine own_go (g' := (mkF m 178 #[.val (.int p0), .val (.int p1), .val (.int p2), .val (.int p3), .val (.int p4), .val (.ref b1), .val (.ref b9), .val (.ref b12), .val (.ref b16), .val .null, .val (.int (0 : Int32)), .unset] [(.ref b12)])) (fun _ kgo => XS.aload X32.here hx rfl (hb hby at_176) rfl rfl kgo) ?_
        have fx34 : Fld Z T21.heap b12 "com/example/restlint/restlint/document/MappingNode" "applied" "Lcom/example/restlint/restlint/document/MappingNode$Applied;" .null := (Fld.keep (Fld.ext E19 (Fld.ext E16 q14_1)) Kq21 (ninS ne_b12_b16 nin0))
        have fx35 : Exa Z T21.heap b12 "com/example/restlint/restlint/document/MappingNode" := (Exa.keep (Exa.ext E19 (Exa.ext E16 q14_0)) Kq21)
        obtain ⟨v33, T33, L33, hQ33, X33, st33⟩ := own_callV X32 hx hZ (y := (⟨"com/example/restlint/restlint/document/MappingNode", "applied", "()Lcom/example/restlint/restlint/document/Node;"⟩ : MethodName)) (z := (⟨"com/example/restlint/restlint/document/MappingNode", "applied", "()Lcom/example/restlint/restlint/document/Node;"⟩ : MethodName)) hown (hw _ (List.mem_of_getElem? (i := 84) rfl)) (hw _ (List.mem_of_getElem? (i := 85) rfl)) (notFace_of_selects (args := #[]) (mvT hZ (hw _ (List.mem_of_getElem? (i := 87) rfl)))) (hw _ (List.mem_of_getElem? (i := 87) rfl)) (hw _ (List.mem_of_getElem? (i := 86) rfl)) (hw _ (List.mem_of_getElem? (i := 35) rfl)) (hw _ (List.mem_of_getElem? (i := 88) rfl)) ⟨by decide, by decide⟩ (a := b12) (argsL := []) (app_n l Z a0 hw b12 T21.heap fx34) e32 fx35 (g := (mkF m 178 #[.val (.int p0), .val (.int p1), .val (.int p2), .val (.int p3), .val (.int p4), .val (.ref b1), .val (.ref b9), .val (.ref b12), .val (.ref b16), .val .null, .val (.int (0 : Int32)), .unset] [(.ref b12)])) rfl (by rw [hml]; rfl) (rest := []) (lenOf pd0_3 rfl) rfl (hb hby at_178) (W := 0) (by show 2 * 0 + _ ≤ _; exact Nat.le_of_eq rfl) (by decide) (by decide) (by decide) (by decide)
        obtain ⟨rfl, e33, rfl⟩ := hQ33
        have N33 := Fr.app N32 (Fr.nil n0)
        refine own_go (g' := (mkF m 181 #[.val (.int p0), .val (.int p1), .val (.int p2), .val (.int p3), .val (.int p4), .val (.ref b1), .val (.ref b9), .val (.ref b12), .val (.ref b16), .val .null, .val (.int (0 : Int32)), .unset] [.null])) (st33) ?_
        refine own_go (g' := (mkF m 184 #[.val (.int p0), .val (.int p1), .val (.int p2), .val (.int p3), .val (.int p4), .val (.ref b1), .val (.ref b9), .val (.ref b12), .val (.ref b16), .val .null, .val (.int (0 : Int32)), .unset] [])) (fun _ kgo => XS.ifnonnullNo X33.here hx rfl (hb hby at_181) rfl kgo) ?_
        refine own_go (g' := (mkF m 185 #[.val (.int p0), .val (.int p1), .val (.int p2), .val (.int p3), .val (.int p4), .val (.ref b1), .val (.ref b9), .val (.ref b12), .val (.ref b16), .val .null, .val (.int (0 : Int32)), .unset] [(.int (1 : Int32))])) (fun _ kgo => XS.iconst X33.here hx rfl (hb hby at_184) kgo) ?_
        refine own_go (g' := (mkF m 189 #[.val (.int p0), .val (.int p1), .val (.int p2), .val (.int p3), .val (.int p4), .val (.ref b1), .val (.ref b9), .val (.ref b12), .val (.ref b16), .val .null, .val (.int (0 : Int32)), .unset] [(.int (1 : Int32))])) (fun _ kgo => XS.goto X33.here hx rfl (pc0 := 185) (pc' := 189) rfl (hb hby at_185) (by decide) (by decide) kgo) ?_
        refine own_retNW X33 hx hS19 e33 hk21 .boolean Bd.returns Bd.notSynchronized (by simp) (hb hby at_189) (by decide) (by decide) ?_
        show QQ _ T33.heap _
        rw [e33]
        rw [← hQQ]
        exact ⟨rfl, N33⟩
      ·
        refine own_go (g' := (mkF m 130 #[.val (.int p0), .val (.int p1), .val (.int p2), .val (.int p3), .val (.int p4), .val (.ref b1), .val (.ref b9), .val (.ref b12), .val (.ref b16), .val .null, .val (.int (0 : Int32)), .unset] [])) (fun _ kgo => XS.ifNo X26.here hx rfl (hb hby at_127) rfl ((if0 _ _).trans (feq hc30).1) kgo) ?_
        refine own_go (g' := (mkF m 131 #[.val (.int p0), .val (.int p1), .val (.int p2), .val (.int p3), .val (.int p4), .val (.ref b1), .val (.ref b9), .val (.ref b12), .val (.ref b16), .val .null, .val (.int (0 : Int32)), .unset] [(.int p1)])) (fun _ kgo => XS.iloadN X26.here hx rfl (hb hby at_130) rfl kgo) ?_
        refine own_go (g' := (mkF m 133 #[.val (.int p0), .val (.int p1), .val (.int p2), .val (.int p3), .val (.int p4), .val (.ref b1), .val (.ref b9), .val (.ref b12), .val (.ref b16), .val .null, .val (.int (0 : Int32)), .unset] [(.ref b16), (.int p1)])) (fun _ kgo => XS.aload X26.here hx rfl (hb hby at_131) rfl rfl kgo) ?_
        refine own_go (g' := (mkF m 135 #[.val (.int p0), .val (.int p1), .val (.int p2), .val (.int p3), .val (.int p4), .val (.ref b1), .val (.ref b9), .val (.ref b12), .val (.ref b16), .val .null, .val (.int (0 : Int32)), .unset] [(.ref b12), (.ref b16), (.int p1)])) (fun _ kgo => XS.aload X26.here hx rfl (hb hby at_133) rfl rfl kgo) ?_
        refine own_go (g' := (mkF m 137 #[.val (.int p0), .val (.int p1), .val (.int p2), .val (.int p3), .val (.int p4), .val (.ref b1), .val (.ref b9), .val (.ref b12), .val (.ref b16), .val .null, .val (.int (0 : Int32)), .unset] [(.ref b9), (.ref b12), (.ref b16), (.int p1)])) (fun _ kgo => XS.aload X26.here hx rfl (hb hby at_135) rfl rfl kgo) ?_
        rcases own_k4 p1 with hk_p1 | hk_p1 | hk_p1 | hk_p1
        ·
          obtain ⟨v36, T36, L36, hQ36, X36, st36⟩ := own_callS X26 hx hZ (y := (⟨"com/example/restlint/restlint/document/MappingNodeAppliedPinLaw", "pick", "(ILcom/example/restlint/restlint/document/Node;Lcom/example/restlint/restlint/document/Node;Lcom/example/restlint/restlint/document/Node;)Lcom/example/restlint/restlint/document/Node;"⟩ : MethodName)) hown (hw _ (List.mem_of_getElem? (i := 91) rfl)) (hw _ (List.mem_of_getElem? (i := 92) rfl)) (hw _ (List.mem_of_getElem? (i := 93) rfl)) (hw _ (List.mem_of_getElem? (i := 94) rfl)) ⟨by decide, by decide⟩ (argsL := [(.int p1), (.ref b16), (.ref b12), (.ref b9)]) (pick0 l Z a0 hw p1 b16 b12 b9 T21.heap hk_p1) e26 (g := (mkF m 137 #[.val (.int p0), .val (.int p1), .val (.int p2), .val (.int p3), .val (.int p4), .val (.ref b1), .val (.ref b9), .val (.ref b12), .val (.ref b16), .val .null, .val (.int (0 : Int32)), .unset] [(.ref b9), (.ref b12), (.ref b16), (.int p1)])) rfl (by rw [hml]; rfl) (rest := []) (lenOf pd0_5 rfl) rfl (hb hby at_137) (W := 0) (by show 2 * 0 + _ ≤ _; exact Nat.le_of_eq rfl) (by decide) (by decide) (by decide) (by decide)
          obtain ⟨rfl, e36, rfl⟩ := hQ36
          have N36 := Fr.app N26 (Fr.nil n0)
          refine own_go (g' := (mkF m 140 #[.val (.int p0), .val (.int p1), .val (.int p2), .val (.int p3), .val (.int p4), .val (.ref b1), .val (.ref b9), .val (.ref b12), .val (.ref b16), .val .null, .val (.int (0 : Int32)), .unset] [.null])) (st36) ?_
          refine own_go (g' := (mkF m 142 #[.val (.int p0), .val (.int p1), .val (.int p2), .val (.int p3), .val (.int p4), .val (.ref b1), .val (.ref b9), .val (.ref b12), .val (.ref b16), .val .null, .val (.int (0 : Int32)), .val .null] [])) (fun _ kgo => XS.astore X36.here hx rfl (hb hby at_140) rfl rfl (l' := #[.val (.int p0), .val (.int p1), .val (.int p2), .val (.int p3), .val (.int p4), .val (.ref b1), .val (.ref b9), .val (.ref b12), .val (.ref b16), .val .null, .val (.int (0 : Int32)), .val .null]) rfl kgo) ?_
          refine own_go (g' := (mkF m 144 #[.val (.int p0), .val (.int p1), .val (.int p2), .val (.int p3), .val (.int p4), .val (.ref b1), .val (.ref b9), .val (.ref b12), .val (.ref b16), .val .null, .val (.int (0 : Int32)), .val .null] [(.ref b9)])) (fun _ kgo => XS.aload X36.here hx rfl (hb hby at_142) rfl rfl kgo) ?_
          refine own_go (g' := (mkF m 146 #[.val (.int p0), .val (.int p1), .val (.int p2), .val (.int p3), .val (.int p4), .val (.ref b1), .val (.ref b9), .val (.ref b12), .val (.ref b16), .val .null, .val (.int (0 : Int32)), .val .null] [.null, (.ref b9)])) (fun _ kgo => XS.aload X36.here hx rfl (hb hby at_144) rfl rfl kgo) ?_
          obtain ⟨v37, T37, L37, hQ37, X37, st37⟩ := own_callV X36 hx hZ (y := (⟨"com/example/restlint/restlint/document/MappingNode", "applyReference", "(Lcom/example/restlint/restlint/document/Node;)V"⟩ : MethodName)) (z := (⟨"com/example/restlint/restlint/document/MappingNode", "applyReference", "(Lcom/example/restlint/restlint/document/Node;)V"⟩ : MethodName)) hown (hw _ (List.mem_of_getElem? (i := 95) rfl)) (hw _ (List.mem_of_getElem? (i := 96) rfl)) (notFace_of_selects (args := #[]) (mvT hZ (hw _ (List.mem_of_getElem? (i := 98) rfl)))) (hw _ (List.mem_of_getElem? (i := 98) rfl)) (hw _ (List.mem_of_getElem? (i := 97) rfl)) (hw _ (List.mem_of_getElem? (i := 35) rfl)) (hw _ (List.mem_of_getElem? (i := 99) rfl)) ⟨by decide, by decide⟩ (a := b9) (argsL := [.null]) (apr_nn l Z a0 hw b9 T21.heap n0 Z21 ge_b9 fx28 fx27) e36 fx28 (g := (mkF m 146 #[.val (.int p0), .val (.int p1), .val (.int p2), .val (.int p3), .val (.int p4), .val (.ref b1), .val (.ref b9), .val (.ref b12), .val (.ref b16), .val .null, .val (.int (0 : Int32)), .val .null] [.null, (.ref b9)])) rfl (by rw [hml]; rfl) (rest := []) (lenOf pd0_6 rfl) rfl (hb hby at_146) (W := 0) (by show 2 * 0 + _ ≤ _; exact Nat.le_of_eq rfl) (by decide) (by decide) (by decide) (by decide)
          obtain ⟨ap37, rfl, Nq37, Kq37, pr37_0, q37_0, q37_1, q37_2⟩ := hQ37
          have fx38 : Exa Z T21.heap b1 "com/example/restlint/restlint/document/Location" := (Exa.keep (Exa.ext E19 (Exa.ext E16 fx17)) Kq21)
          have ne_b1_ap37 : b1 ≠ ap37 := Nat.ne_of_lt (Nat.lt_of_lt_of_le fx38.lt pr37_0)
          have ne_b9_ap37 : b9 ≠ ap37 := Nat.ne_of_lt (Nat.lt_of_lt_of_le fx28.lt pr37_0)
          have fx39 : Exa Z T21.heap b12 "com/example/restlint/restlint/document/MappingNode" := (Exa.keep (Exa.ext E19 (Exa.ext E16 q14_0)) Kq21)
          have ne_b12_ap37 : b12 ≠ ap37 := Nat.ne_of_lt (Nat.lt_of_lt_of_le fx39.lt pr37_0)
          have ne_b16_ap37 : b16 ≠ ap37 := Nat.ne_of_lt (Nat.lt_of_lt_of_le q21_0.lt pr37_0)
          have ge_ap37 : n0 ≤ ap37 := Nat.le_trans Z21 pr37_0
          have N37 := Fr.app N36 Nq37
          have hk37 := Nat.le_trans hk21 Kq37.1
          have Z37 : n0 ≤ T37.heap.size := Nat.le_trans Z21 Kq37.1
          refine own_go (g' := (mkF m 149 #[.val (.int p0), .val (.int p1), .val (.int p2), .val (.int p3), .val (.int p4), .val (.ref b1), .val (.ref b9), .val (.ref b12), .val (.ref b16), .val .null, .val (.int (0 : Int32)), .val .null] [])) (st37) ?_
          refine own_go (g' := (mkF m 151 #[.val (.int p0), .val (.int p1), .val (.int p2), .val (.int p3), .val (.int p4), .val (.ref b1), .val (.ref b9), .val (.ref b12), .val (.ref b16), .val .null, .val (.int (0 : Int32)), .val .null] [.null])) (fun _ kgo => XS.aload X37.here hx rfl (hb hby at_149) rfl rfl kgo) ?_
          refine own_go (g' := (mkF m 153 #[.val (.int p0), .val (.int p1), .val (.int p2), .val (.int p3), .val (.int p4), .val (.ref b1), .val (.ref b9), .val (.ref b12), .val (.ref b16), .val .null, .val (.int (0 : Int32)), .val .null] [])) (fun _ kgo => XS.astore X37.here hx rfl (hb hby at_151) rfl rfl (l' := #[.val (.int p0), .val (.int p1), .val (.int p2), .val (.int p3), .val (.int p4), .val (.ref b1), .val (.ref b9), .val (.ref b12), .val (.ref b16), .val .null, .val (.int (0 : Int32)), .val .null]) rfl kgo) ?_
          refine own_go (g' := (mkF m 154 #[.val (.int p0), .val (.int p1), .val (.int p2), .val (.int p3), .val (.int p4), .val (.ref b1), .val (.ref b9), .val (.ref b12), .val (.ref b16), .val .null, .val (.int (0 : Int32)), .val .null] [(.int (1 : Int32))])) (fun _ kgo => XS.iconst X37.here hx rfl (hb hby at_153) kgo) ?_
          refine own_go (g' := (mkF m 156 #[.val (.int p0), .val (.int p1), .val (.int p2), .val (.int p3), .val (.int p4), .val (.ref b1), .val (.ref b9), .val (.ref b12), .val (.ref b16), .val .null, .val (.int (1 : Int32)), .val .null] [])) (fun _ kgo => XS.istore X37.here hx rfl (hb hby at_154) rfl (l' := #[.val (.int p0), .val (.int p1), .val (.int p2), .val (.int p3), .val (.int p4), .val (.ref b1), .val (.ref b9), .val (.ref b12), .val (.ref b16), .val .null, .val (.int (1 : Int32)), .val .null]) rfl kgo) ?_
          refine own_go (g' := (mkF m 158 #[.val (.int p0), .val (.int p1), .val (.int p2), .val (.int p3), .val (.int p4), .val (.ref b1), .val (.ref b9), .val (.ref b12), .val (.ref b16), .val .null, .val (.int (1 : Int32)), .val .null] [(.ref b9)])) (fun _ kgo => XS.aload X37.here hx rfl (hb hby at_156) rfl rfl kgo) ?_
          obtain ⟨v40, T40, L40, hQ40, X40, st40⟩ := own_callV X37 hx hZ (y := (⟨"com/example/restlint/restlint/document/MappingNode", "applied", "()Lcom/example/restlint/restlint/document/Node;"⟩ : MethodName)) (z := (⟨"com/example/restlint/restlint/document/MappingNode", "applied", "()Lcom/example/restlint/restlint/document/Node;"⟩ : MethodName)) hown (hw _ (List.mem_of_getElem? (i := 84) rfl)) (hw _ (List.mem_of_getElem? (i := 85) rfl)) (notFace_of_selects (args := #[]) (mvT hZ (hw _ (List.mem_of_getElem? (i := 87) rfl)))) (hw _ (List.mem_of_getElem? (i := 87) rfl)) (hw _ (List.mem_of_getElem? (i := 86) rfl)) (hw _ (List.mem_of_getElem? (i := 35) rfl)) (hw _ (List.mem_of_getElem? (i := 88) rfl)) ⟨by decide, by decide⟩ (a := b9) (argsL := []) (app_rn l Z a0 hw b9 ap37 T37.heap q37_1 q37_2) rfl q37_0 (g := (mkF m 158 #[.val (.int p0), .val (.int p1), .val (.int p2), .val (.int p3), .val (.int p4), .val (.ref b1), .val (.ref b9), .val (.ref b12), .val (.ref b16), .val .null, .val (.int (1 : Int32)), .val .null] [(.ref b9)])) rfl (by rw [hml]; rfl) (rest := []) (lenOf pd0_3 rfl) rfl (hb hby at_158) (W := 0) (by show 2 * 0 + _ ≤ _; exact Nat.le_of_eq rfl) (by decide) (by decide) (by decide) (by decide)
          obtain ⟨rfl, e40, rfl⟩ := hQ40
          have N40 := Fr.app N37 (Fr.nil n0)
          refine own_go (g' := (mkF m 161 #[.val (.int p0), .val (.int p1), .val (.int p2), .val (.int p3), .val (.int p4), .val (.ref b1), .val (.ref b9), .val (.ref b12), .val (.ref b16), .val .null, .val (.int (1 : Int32)), .val .null] [.null])) (st40) ?_
          refine own_go (g' := (mkF m 163 #[.val (.int p0), .val (.int p1), .val (.int p2), .val (.int p3), .val (.int p4), .val (.ref b1), .val (.ref b9), .val (.ref b12), .val (.ref b16), .val .null, .val (.int (1 : Int32)), .val .null] [.null, .null])) (fun _ kgo => XS.aload X40.here hx rfl (hb hby at_161) rfl rfl kgo) ?_
          refine own_go (g' := (mkF m 166 #[.val (.int p0), .val (.int p1), .val (.int p2), .val (.int p3), .val (.int p4), .val (.ref b1), .val (.ref b9), .val (.ref b12), .val (.ref b16), .val .null, .val (.int (1 : Int32)), .val .null] [])) (fun _ kgo => Jvm.RoadKit.acmp (g := (mkF m 163 #[.val (.int p0), .val (.int p1), .val (.int p2), .val (.int p3), .val (.int p4), .val (.ref b1), .val (.ref b9), .val (.ref b12), .val (.ref b16), .val .null, .val (.int (1 : Int32)), .val .null] [.null, .null])) X40 hx rfl rfl rfl (pc0 := 163) (pc' := 166) (same := true) rfl (hb hby at_163) rfl (decide_eq_true rfl) (by decide) (by decide) kgo) ?_
          refine own_go (g' := (mkF m 168 #[.val (.int p0), .val (.int p1), .val (.int p2), .val (.int p3), .val (.int p4), .val (.ref b1), .val (.ref b9), .val (.ref b12), .val (.ref b16), .val .null, .val (.int (1 : Int32)), .val .null] [(.ref b9)])) (fun _ kgo => XS.aload X40.here hx rfl (hb hby at_166) rfl rfl kgo) ?_
          obtain ⟨v41, T41, L41, hQ41, X41, st41⟩ := own_callV X40 hx hZ (y := (⟨"com/example/restlint/restlint/document/MappingNode", "appliesReference", "()Z"⟩ : MethodName)) (z := (⟨"com/example/restlint/restlint/document/MappingNode", "appliesReference", "()Z"⟩ : MethodName)) hown (hw _ (List.mem_of_getElem? (i := 128) rfl)) (hw _ (List.mem_of_getElem? (i := 129) rfl)) (notFace_of_selects (args := #[]) (mvT hZ (hw _ (List.mem_of_getElem? (i := 131) rfl)))) (hw _ (List.mem_of_getElem? (i := 131) rfl)) (hw _ (List.mem_of_getElem? (i := 130) rfl)) (hw _ (List.mem_of_getElem? (i := 35) rfl)) (hw _ (List.mem_of_getElem? (i := 132) rfl)) ⟨by decide, by decide⟩ (a := b9) (argsL := []) (apl_r l Z a0 hw b9 ap37 T37.heap q37_1) e40 q37_0 (g := (mkF m 168 #[.val (.int p0), .val (.int p1), .val (.int p2), .val (.int p3), .val (.int p4), .val (.ref b1), .val (.ref b9), .val (.ref b12), .val (.ref b16), .val .null, .val (.int (1 : Int32)), .val .null] [(.ref b9)])) rfl (by rw [hml]; rfl) (rest := []) (lenOf pd0_4 rfl) rfl (hb hby at_168) (W := 0) (by show 2 * 0 + _ ≤ _; exact Nat.le_of_eq rfl) (by decide) (by decide) (by decide) (by decide)
          obtain ⟨rfl, e41, rfl⟩ := hQ41
          have N41 := Fr.app N40 (Fr.nil n0)
          refine own_go (g' := (mkF m 171 #[.val (.int p0), .val (.int p1), .val (.int p2), .val (.int p3), .val (.int p4), .val (.ref b1), .val (.ref b9), .val (.ref b12), .val (.ref b16), .val .null, .val (.int (1 : Int32)), .val .null] [(.int (1 : Int32))])) (st41) ?_
          refine own_go (g' := (mkF m 173 #[.val (.int p0), .val (.int p1), .val (.int p2), .val (.int p3), .val (.int p4), .val (.ref b1), .val (.ref b9), .val (.ref b12), .val (.ref b16), .val .null, .val (.int (1 : Int32)), .val .null] [(.int (1 : Int32)), (.int (1 : Int32))])) (fun _ kgo => XS.iload X41.here hx rfl (hb hby at_171) rfl kgo) ?_
          refine own_go (g' := (mkF m 176 #[.val (.int p0), .val (.int p1), .val (.int p2), .val (.int p3), .val (.int p4), .val (.ref b1), .val (.ref b9), .val (.ref b12), .val (.ref b16), .val .null, .val (.int (1 : Int32)), .val .null] [])) (fun _ kgo => XS.icmpNo X41.here hx rfl (hb hby at_173) rfl (teq (by decide)).2 kgo) ?_
          refine own_go (g' := (mkF m 178 #[.val (.int p0), .val (.int p1), .val (.int p2), .val (.int p3), .val (.int p4), .val (.ref b1), .val (.ref b9), .val (.ref b12), .val (.ref b16), .val .null, .val (.int (1 : Int32)), .val .null] [(.ref b12)])) (fun _ kgo => XS.aload X41.here hx rfl (hb hby at_176) rfl rfl kgo) ?_
          have fx43 : Fld Z T37.heap b12 "com/example/restlint/restlint/document/MappingNode" "applied" "Lcom/example/restlint/restlint/document/MappingNode$Applied;" .null := (Fld.keep (Fld.keep (Fld.ext E19 (Fld.ext E16 q14_1)) Kq21 (ninS ne_b12_b16 nin0)) Kq37 (ninS (Ne.symm ne_b9_b12) nin0))
          have fx44 : Exa Z T37.heap b12 "com/example/restlint/restlint/document/MappingNode" := (Exa.keep fx39 Kq37)
          obtain ⟨v42, T42, L42, hQ42, X42, st42⟩ := own_callV X41 hx hZ (y := (⟨"com/example/restlint/restlint/document/MappingNode", "applied", "()Lcom/example/restlint/restlint/document/Node;"⟩ : MethodName)) (z := (⟨"com/example/restlint/restlint/document/MappingNode", "applied", "()Lcom/example/restlint/restlint/document/Node;"⟩ : MethodName)) hown (hw _ (List.mem_of_getElem? (i := 84) rfl)) (hw _ (List.mem_of_getElem? (i := 85) rfl)) (notFace_of_selects (args := #[]) (mvT hZ (hw _ (List.mem_of_getElem? (i := 87) rfl)))) (hw _ (List.mem_of_getElem? (i := 87) rfl)) (hw _ (List.mem_of_getElem? (i := 86) rfl)) (hw _ (List.mem_of_getElem? (i := 35) rfl)) (hw _ (List.mem_of_getElem? (i := 88) rfl)) ⟨by decide, by decide⟩ (a := b12) (argsL := []) (app_n l Z a0 hw b12 T37.heap fx43) e41 fx44 (g := (mkF m 178 #[.val (.int p0), .val (.int p1), .val (.int p2), .val (.int p3), .val (.int p4), .val (.ref b1), .val (.ref b9), .val (.ref b12), .val (.ref b16), .val .null, .val (.int (1 : Int32)), .val .null] [(.ref b12)])) rfl (by rw [hml]; rfl) (rest := []) (lenOf pd0_3 rfl) rfl (hb hby at_178) (W := 0) (by show 2 * 0 + _ ≤ _; exact Nat.le_of_eq rfl) (by decide) (by decide) (by decide) (by decide)
          obtain ⟨rfl, e42, rfl⟩ := hQ42
          have N42 := Fr.app N41 (Fr.nil n0)
          refine own_go (g' := (mkF m 181 #[.val (.int p0), .val (.int p1), .val (.int p2), .val (.int p3), .val (.int p4), .val (.ref b1), .val (.ref b9), .val (.ref b12), .val (.ref b16), .val .null, .val (.int (1 : Int32)), .val .null] [.null])) (st42) ?_
          refine own_go (g' := (mkF m 184 #[.val (.int p0), .val (.int p1), .val (.int p2), .val (.int p3), .val (.int p4), .val (.ref b1), .val (.ref b9), .val (.ref b12), .val (.ref b16), .val .null, .val (.int (1 : Int32)), .val .null] [])) (fun _ kgo => XS.ifnonnullNo X42.here hx rfl (hb hby at_181) rfl kgo) ?_
          refine own_go (g' := (mkF m 185 #[.val (.int p0), .val (.int p1), .val (.int p2), .val (.int p3), .val (.int p4), .val (.ref b1), .val (.ref b9), .val (.ref b12), .val (.ref b16), .val .null, .val (.int (1 : Int32)), .val .null] [(.int (1 : Int32))])) (fun _ kgo => XS.iconst X42.here hx rfl (hb hby at_184) kgo) ?_
          refine own_go (g' := (mkF m 189 #[.val (.int p0), .val (.int p1), .val (.int p2), .val (.int p3), .val (.int p4), .val (.ref b1), .val (.ref b9), .val (.ref b12), .val (.ref b16), .val .null, .val (.int (1 : Int32)), .val .null] [(.int (1 : Int32))])) (fun _ kgo => XS.goto X42.here hx rfl (pc0 := 185) (pc' := 189) rfl (hb hby at_185) (by decide) (by decide) kgo) ?_
          refine own_retNW X42 hx hS19 e42 hk37 .boolean Bd.returns Bd.notSynchronized (by simp) (hb hby at_189) (by decide) (by decide) ?_
          show QQ _ T42.heap _
          rw [e42]
          rw [← hQQ]
          exact ⟨rfl, N42⟩
        ·
          obtain ⟨v45, T45, L45, hQ45, X45, st45⟩ := own_callS X26 hx hZ (y := (⟨"com/example/restlint/restlint/document/MappingNodeAppliedPinLaw", "pick", "(ILcom/example/restlint/restlint/document/Node;Lcom/example/restlint/restlint/document/Node;Lcom/example/restlint/restlint/document/Node;)Lcom/example/restlint/restlint/document/Node;"⟩ : MethodName)) hown (hw _ (List.mem_of_getElem? (i := 91) rfl)) (hw _ (List.mem_of_getElem? (i := 92) rfl)) (hw _ (List.mem_of_getElem? (i := 93) rfl)) (hw _ (List.mem_of_getElem? (i := 94) rfl)) ⟨by decide, by decide⟩ (argsL := [(.int p1), (.ref b16), (.ref b12), (.ref b9)]) (pick1 l Z a0 hw p1 b16 b12 b9 T21.heap hk_p1) e26 (g := (mkF m 137 #[.val (.int p0), .val (.int p1), .val (.int p2), .val (.int p3), .val (.int p4), .val (.ref b1), .val (.ref b9), .val (.ref b12), .val (.ref b16), .val .null, .val (.int (0 : Int32)), .unset] [(.ref b9), (.ref b12), (.ref b16), (.int p1)])) rfl (by rw [hml]; rfl) (rest := []) (lenOf pd0_5 rfl) rfl (hb hby at_137) (W := 0) (by show 2 * 0 + _ ≤ _; exact Nat.le_of_eq rfl) (by decide) (by decide) (by decide) (by decide)
          obtain ⟨rfl, e45, rfl⟩ := hQ45
          have N45 := Fr.app N26 (Fr.nil n0)
          refine own_go (g' := (mkF m 140 #[.val (.int p0), .val (.int p1), .val (.int p2), .val (.int p3), .val (.int p4), .val (.ref b1), .val (.ref b9), .val (.ref b12), .val (.ref b16), .val .null, .val (.int (0 : Int32)), .unset] [(.ref b16)])) (st45) ?_
          refine own_go (g' := (mkF m 142 #[.val (.int p0), .val (.int p1), .val (.int p2), .val (.int p3), .val (.int p4), .val (.ref b1), .val (.ref b9), .val (.ref b12), .val (.ref b16), .val .null, .val (.int (0 : Int32)), .val (.ref b16)] [])) (fun _ kgo => XS.astore X45.here hx rfl (hb hby at_140) rfl rfl (l' := #[.val (.int p0), .val (.int p1), .val (.int p2), .val (.int p3), .val (.int p4), .val (.ref b1), .val (.ref b9), .val (.ref b12), .val (.ref b16), .val .null, .val (.int (0 : Int32)), .val (.ref b16)]) rfl kgo) ?_
          refine own_go (g' := (mkF m 144 #[.val (.int p0), .val (.int p1), .val (.int p2), .val (.int p3), .val (.int p4), .val (.ref b1), .val (.ref b9), .val (.ref b12), .val (.ref b16), .val .null, .val (.int (0 : Int32)), .val (.ref b16)] [(.ref b9)])) (fun _ kgo => XS.aload X45.here hx rfl (hb hby at_142) rfl rfl kgo) ?_
          refine own_go (g' := (mkF m 146 #[.val (.int p0), .val (.int p1), .val (.int p2), .val (.int p3), .val (.int p4), .val (.ref b1), .val (.ref b9), .val (.ref b12), .val (.ref b16), .val .null, .val (.int (0 : Int32)), .val (.ref b16)] [(.ref b16), (.ref b9)])) (fun _ kgo => XS.aload X45.here hx rfl (hb hby at_144) rfl rfl kgo) ?_
          obtain ⟨v46, T46, L46, hQ46, X46, st46⟩ := own_callV X45 hx hZ (y := (⟨"com/example/restlint/restlint/document/MappingNode", "applyReference", "(Lcom/example/restlint/restlint/document/Node;)V"⟩ : MethodName)) (z := (⟨"com/example/restlint/restlint/document/MappingNode", "applyReference", "(Lcom/example/restlint/restlint/document/Node;)V"⟩ : MethodName)) hown (hw _ (List.mem_of_getElem? (i := 95) rfl)) (hw _ (List.mem_of_getElem? (i := 96) rfl)) (notFace_of_selects (args := #[]) (mvT hZ (hw _ (List.mem_of_getElem? (i := 98) rfl)))) (hw _ (List.mem_of_getElem? (i := 98) rfl)) (hw _ (List.mem_of_getElem? (i := 97) rfl)) (hw _ (List.mem_of_getElem? (i := 35) rfl)) (hw _ (List.mem_of_getElem? (i := 99) rfl)) ⟨by decide, by decide⟩ (a := b9) (argsL := [(.ref b16)]) (apr_rn l Z a0 hw b9 b16 T21.heap n0 Z21 ge_b9 fx28 fx27) e45 fx28 (g := (mkF m 146 #[.val (.int p0), .val (.int p1), .val (.int p2), .val (.int p3), .val (.int p4), .val (.ref b1), .val (.ref b9), .val (.ref b12), .val (.ref b16), .val .null, .val (.int (0 : Int32)), .val (.ref b16)] [(.ref b16), (.ref b9)])) rfl (by rw [hml]; rfl) (rest := []) (lenOf pd0_6 rfl) rfl (hb hby at_146) (W := 0) (by show 2 * 0 + _ ≤ _; exact Nat.le_of_eq rfl) (by decide) (by decide) (by decide) (by decide)
          obtain ⟨ap46, rfl, Nq46, Kq46, pr46_0, q46_0, q46_1, q46_2⟩ := hQ46
          have fx47 : Exa Z T21.heap b1 "com/example/restlint/restlint/document/Location" := (Exa.keep (Exa.ext E19 (Exa.ext E16 fx17)) Kq21)
          have ne_b1_ap46 : b1 ≠ ap46 := Nat.ne_of_lt (Nat.lt_of_lt_of_le fx47.lt pr46_0)
          have ne_b9_ap46 : b9 ≠ ap46 := Nat.ne_of_lt (Nat.lt_of_lt_of_le fx28.lt pr46_0)
          have fx48 : Exa Z T21.heap b12 "com/example/restlint/restlint/document/MappingNode" := (Exa.keep (Exa.ext E19 (Exa.ext E16 q14_0)) Kq21)
          have ne_b12_ap46 : b12 ≠ ap46 := Nat.ne_of_lt (Nat.lt_of_lt_of_le fx48.lt pr46_0)
          have ne_b16_ap46 : b16 ≠ ap46 := Nat.ne_of_lt (Nat.lt_of_lt_of_le q21_0.lt pr46_0)
          have ge_ap46 : n0 ≤ ap46 := Nat.le_trans Z21 pr46_0
          have N46 := Fr.app N45 Nq46
          have hk46 := Nat.le_trans hk21 Kq46.1
          have Z46 : n0 ≤ T46.heap.size := Nat.le_trans Z21 Kq46.1
          refine own_go (g' := (mkF m 149 #[.val (.int p0), .val (.int p1), .val (.int p2), .val (.int p3), .val (.int p4), .val (.ref b1), .val (.ref b9), .val (.ref b12), .val (.ref b16), .val .null, .val (.int (0 : Int32)), .val (.ref b16)] [])) (st46) ?_
          refine own_go (g' := (mkF m 151 #[.val (.int p0), .val (.int p1), .val (.int p2), .val (.int p3), .val (.int p4), .val (.ref b1), .val (.ref b9), .val (.ref b12), .val (.ref b16), .val .null, .val (.int (0 : Int32)), .val (.ref b16)] [(.ref b16)])) (fun _ kgo => XS.aload X46.here hx rfl (hb hby at_149) rfl rfl kgo) ?_
          refine own_go (g' := (mkF m 153 #[.val (.int p0), .val (.int p1), .val (.int p2), .val (.int p3), .val (.int p4), .val (.ref b1), .val (.ref b9), .val (.ref b12), .val (.ref b16), .val (.ref b16), .val (.int (0 : Int32)), .val (.ref b16)] [])) (fun _ kgo => XS.astore X46.here hx rfl (hb hby at_151) rfl rfl (l' := #[.val (.int p0), .val (.int p1), .val (.int p2), .val (.int p3), .val (.int p4), .val (.ref b1), .val (.ref b9), .val (.ref b12), .val (.ref b16), .val (.ref b16), .val (.int (0 : Int32)), .val (.ref b16)]) rfl kgo) ?_
          refine own_go (g' := (mkF m 154 #[.val (.int p0), .val (.int p1), .val (.int p2), .val (.int p3), .val (.int p4), .val (.ref b1), .val (.ref b9), .val (.ref b12), .val (.ref b16), .val (.ref b16), .val (.int (0 : Int32)), .val (.ref b16)] [(.int (1 : Int32))])) (fun _ kgo => XS.iconst X46.here hx rfl (hb hby at_153) kgo) ?_
          refine own_go (g' := (mkF m 156 #[.val (.int p0), .val (.int p1), .val (.int p2), .val (.int p3), .val (.int p4), .val (.ref b1), .val (.ref b9), .val (.ref b12), .val (.ref b16), .val (.ref b16), .val (.int (1 : Int32)), .val (.ref b16)] [])) (fun _ kgo => XS.istore X46.here hx rfl (hb hby at_154) rfl (l' := #[.val (.int p0), .val (.int p1), .val (.int p2), .val (.int p3), .val (.int p4), .val (.ref b1), .val (.ref b9), .val (.ref b12), .val (.ref b16), .val (.ref b16), .val (.int (1 : Int32)), .val (.ref b16)]) rfl kgo) ?_
          refine own_go (g' := (mkF m 158 #[.val (.int p0), .val (.int p1), .val (.int p2), .val (.int p3), .val (.int p4), .val (.ref b1), .val (.ref b9), .val (.ref b12), .val (.ref b16), .val (.ref b16), .val (.int (1 : Int32)), .val (.ref b16)] [(.ref b9)])) (fun _ kgo => XS.aload X46.here hx rfl (hb hby at_156) rfl rfl kgo) ?_
          obtain ⟨v49, T49, L49, hQ49, X49, st49⟩ := own_callV X46 hx hZ (y := (⟨"com/example/restlint/restlint/document/MappingNode", "applied", "()Lcom/example/restlint/restlint/document/Node;"⟩ : MethodName)) (z := (⟨"com/example/restlint/restlint/document/MappingNode", "applied", "()Lcom/example/restlint/restlint/document/Node;"⟩ : MethodName)) hown (hw _ (List.mem_of_getElem? (i := 84) rfl)) (hw _ (List.mem_of_getElem? (i := 85) rfl)) (notFace_of_selects (args := #[]) (mvT hZ (hw _ (List.mem_of_getElem? (i := 87) rfl)))) (hw _ (List.mem_of_getElem? (i := 87) rfl)) (hw _ (List.mem_of_getElem? (i := 86) rfl)) (hw _ (List.mem_of_getElem? (i := 35) rfl)) (hw _ (List.mem_of_getElem? (i := 88) rfl)) ⟨by decide, by decide⟩ (a := b9) (argsL := []) (app_rr l Z a0 hw b9 ap46 b16 T46.heap q46_1 q46_2) rfl q46_0 (g := (mkF m 158 #[.val (.int p0), .val (.int p1), .val (.int p2), .val (.int p3), .val (.int p4), .val (.ref b1), .val (.ref b9), .val (.ref b12), .val (.ref b16), .val (.ref b16), .val (.int (1 : Int32)), .val (.ref b16)] [(.ref b9)])) rfl (by rw [hml]; rfl) (rest := []) (lenOf pd0_3 rfl) rfl (hb hby at_158) (W := 0) (by show 2 * 0 + _ ≤ _; exact Nat.le_of_eq rfl) (by decide) (by decide) (by decide) (by decide)
          obtain ⟨rfl, e49, rfl⟩ := hQ49
          have N49 := Fr.app N46 (Fr.nil n0)
          refine own_go (g' := (mkF m 161 #[.val (.int p0), .val (.int p1), .val (.int p2), .val (.int p3), .val (.int p4), .val (.ref b1), .val (.ref b9), .val (.ref b12), .val (.ref b16), .val (.ref b16), .val (.int (1 : Int32)), .val (.ref b16)] [(.ref b16)])) (st49) ?_
          refine own_go (g' := (mkF m 163 #[.val (.int p0), .val (.int p1), .val (.int p2), .val (.int p3), .val (.int p4), .val (.ref b1), .val (.ref b9), .val (.ref b12), .val (.ref b16), .val (.ref b16), .val (.int (1 : Int32)), .val (.ref b16)] [(.ref b16), (.ref b16)])) (fun _ kgo => XS.aload X49.here hx rfl (hb hby at_161) rfl rfl kgo) ?_
          refine own_go (g' := (mkF m 166 #[.val (.int p0), .val (.int p1), .val (.int p2), .val (.int p3), .val (.int p4), .val (.ref b1), .val (.ref b9), .val (.ref b12), .val (.ref b16), .val (.ref b16), .val (.int (1 : Int32)), .val (.ref b16)] [])) (fun _ kgo => Jvm.RoadKit.acmp (g := (mkF m 163 #[.val (.int p0), .val (.int p1), .val (.int p2), .val (.int p3), .val (.int p4), .val (.ref b1), .val (.ref b9), .val (.ref b12), .val (.ref b16), .val (.ref b16), .val (.int (1 : Int32)), .val (.ref b16)] [(.ref b16), (.ref b16)])) X49 hx rfl rfl rfl (pc0 := 163) (pc' := 166) (same := true) rfl (hb hby at_163) rfl (decide_eq_true rfl) (by decide) (by decide) kgo) ?_
          refine own_go (g' := (mkF m 168 #[.val (.int p0), .val (.int p1), .val (.int p2), .val (.int p3), .val (.int p4), .val (.ref b1), .val (.ref b9), .val (.ref b12), .val (.ref b16), .val (.ref b16), .val (.int (1 : Int32)), .val (.ref b16)] [(.ref b9)])) (fun _ kgo => XS.aload X49.here hx rfl (hb hby at_166) rfl rfl kgo) ?_
          obtain ⟨v50, T50, L50, hQ50, X50, st50⟩ := own_callV X49 hx hZ (y := (⟨"com/example/restlint/restlint/document/MappingNode", "appliesReference", "()Z"⟩ : MethodName)) (z := (⟨"com/example/restlint/restlint/document/MappingNode", "appliesReference", "()Z"⟩ : MethodName)) hown (hw _ (List.mem_of_getElem? (i := 128) rfl)) (hw _ (List.mem_of_getElem? (i := 129) rfl)) (notFace_of_selects (args := #[]) (mvT hZ (hw _ (List.mem_of_getElem? (i := 131) rfl)))) (hw _ (List.mem_of_getElem? (i := 131) rfl)) (hw _ (List.mem_of_getElem? (i := 130) rfl)) (hw _ (List.mem_of_getElem? (i := 35) rfl)) (hw _ (List.mem_of_getElem? (i := 132) rfl)) ⟨by decide, by decide⟩ (a := b9) (argsL := []) (apl_r l Z a0 hw b9 ap46 T46.heap q46_1) e49 q46_0 (g := (mkF m 168 #[.val (.int p0), .val (.int p1), .val (.int p2), .val (.int p3), .val (.int p4), .val (.ref b1), .val (.ref b9), .val (.ref b12), .val (.ref b16), .val (.ref b16), .val (.int (1 : Int32)), .val (.ref b16)] [(.ref b9)])) rfl (by rw [hml]; rfl) (rest := []) (lenOf pd0_4 rfl) rfl (hb hby at_168) (W := 0) (by show 2 * 0 + _ ≤ _; exact Nat.le_of_eq rfl) (by decide) (by decide) (by decide) (by decide)
          obtain ⟨rfl, e50, rfl⟩ := hQ50
          have N50 := Fr.app N49 (Fr.nil n0)
          refine own_go (g' := (mkF m 171 #[.val (.int p0), .val (.int p1), .val (.int p2), .val (.int p3), .val (.int p4), .val (.ref b1), .val (.ref b9), .val (.ref b12), .val (.ref b16), .val (.ref b16), .val (.int (1 : Int32)), .val (.ref b16)] [(.int (1 : Int32))])) (st50) ?_
          refine own_go (g' := (mkF m 173 #[.val (.int p0), .val (.int p1), .val (.int p2), .val (.int p3), .val (.int p4), .val (.ref b1), .val (.ref b9), .val (.ref b12), .val (.ref b16), .val (.ref b16), .val (.int (1 : Int32)), .val (.ref b16)] [(.int (1 : Int32)), (.int (1 : Int32))])) (fun _ kgo => XS.iload X50.here hx rfl (hb hby at_171) rfl kgo) ?_
          refine own_go (g' := (mkF m 176 #[.val (.int p0), .val (.int p1), .val (.int p2), .val (.int p3), .val (.int p4), .val (.ref b1), .val (.ref b9), .val (.ref b12), .val (.ref b16), .val (.ref b16), .val (.int (1 : Int32)), .val (.ref b16)] [])) (fun _ kgo => XS.icmpNo X50.here hx rfl (hb hby at_173) rfl (teq (by decide)).2 kgo) ?_
          refine own_go (g' := (mkF m 178 #[.val (.int p0), .val (.int p1), .val (.int p2), .val (.int p3), .val (.int p4), .val (.ref b1), .val (.ref b9), .val (.ref b12), .val (.ref b16), .val (.ref b16), .val (.int (1 : Int32)), .val (.ref b16)] [(.ref b12)])) (fun _ kgo => XS.aload X50.here hx rfl (hb hby at_176) rfl rfl kgo) ?_
          have fx52 : Fld Z T46.heap b12 "com/example/restlint/restlint/document/MappingNode" "applied" "Lcom/example/restlint/restlint/document/MappingNode$Applied;" .null := (Fld.keep (Fld.keep (Fld.ext E19 (Fld.ext E16 q14_1)) Kq21 (ninS ne_b12_b16 nin0)) Kq46 (ninS (Ne.symm ne_b9_b12) nin0))
          have fx53 : Exa Z T46.heap b12 "com/example/restlint/restlint/document/MappingNode" := (Exa.keep fx48 Kq46)
          obtain ⟨v51, T51, L51, hQ51, X51, st51⟩ := own_callV X50 hx hZ (y := (⟨"com/example/restlint/restlint/document/MappingNode", "applied", "()Lcom/example/restlint/restlint/document/Node;"⟩ : MethodName)) (z := (⟨"com/example/restlint/restlint/document/MappingNode", "applied", "()Lcom/example/restlint/restlint/document/Node;"⟩ : MethodName)) hown (hw _ (List.mem_of_getElem? (i := 84) rfl)) (hw _ (List.mem_of_getElem? (i := 85) rfl)) (notFace_of_selects (args := #[]) (mvT hZ (hw _ (List.mem_of_getElem? (i := 87) rfl)))) (hw _ (List.mem_of_getElem? (i := 87) rfl)) (hw _ (List.mem_of_getElem? (i := 86) rfl)) (hw _ (List.mem_of_getElem? (i := 35) rfl)) (hw _ (List.mem_of_getElem? (i := 88) rfl)) ⟨by decide, by decide⟩ (a := b12) (argsL := []) (app_n l Z a0 hw b12 T46.heap fx52) e50 fx53 (g := (mkF m 178 #[.val (.int p0), .val (.int p1), .val (.int p2), .val (.int p3), .val (.int p4), .val (.ref b1), .val (.ref b9), .val (.ref b12), .val (.ref b16), .val (.ref b16), .val (.int (1 : Int32)), .val (.ref b16)] [(.ref b12)])) rfl (by rw [hml]; rfl) (rest := []) (lenOf pd0_3 rfl) rfl (hb hby at_178) (W := 0) (by show 2 * 0 + _ ≤ _; exact Nat.le_of_eq rfl) (by decide) (by decide) (by decide) (by decide)
          obtain ⟨rfl, e51, rfl⟩ := hQ51
          have N51 := Fr.app N50 (Fr.nil n0)
          refine own_go (g' := (mkF m 181 #[.val (.int p0), .val (.int p1), .val (.int p2), .val (.int p3), .val (.int p4), .val (.ref b1), .val (.ref b9), .val (.ref b12), .val (.ref b16), .val (.ref b16), .val (.int (1 : Int32)), .val (.ref b16)] [.null])) (st51) ?_
          refine own_go (g' := (mkF m 184 #[.val (.int p0), .val (.int p1), .val (.int p2), .val (.int p3), .val (.int p4), .val (.ref b1), .val (.ref b9), .val (.ref b12), .val (.ref b16), .val (.ref b16), .val (.int (1 : Int32)), .val (.ref b16)] [])) (fun _ kgo => XS.ifnonnullNo X51.here hx rfl (hb hby at_181) rfl kgo) ?_
          refine own_go (g' := (mkF m 185 #[.val (.int p0), .val (.int p1), .val (.int p2), .val (.int p3), .val (.int p4), .val (.ref b1), .val (.ref b9), .val (.ref b12), .val (.ref b16), .val (.ref b16), .val (.int (1 : Int32)), .val (.ref b16)] [(.int (1 : Int32))])) (fun _ kgo => XS.iconst X51.here hx rfl (hb hby at_184) kgo) ?_
          refine own_go (g' := (mkF m 189 #[.val (.int p0), .val (.int p1), .val (.int p2), .val (.int p3), .val (.int p4), .val (.ref b1), .val (.ref b9), .val (.ref b12), .val (.ref b16), .val (.ref b16), .val (.int (1 : Int32)), .val (.ref b16)] [(.int (1 : Int32))])) (fun _ kgo => XS.goto X51.here hx rfl (pc0 := 185) (pc' := 189) rfl (hb hby at_185) (by decide) (by decide) kgo) ?_
          refine own_retNW X51 hx hS19 e51 hk46 .boolean Bd.returns Bd.notSynchronized (by simp) (hb hby at_189) (by decide) (by decide) ?_
          show QQ _ T51.heap _
          rw [e51]
          rw [← hQQ]
          exact ⟨rfl, N51⟩
        ·
          obtain ⟨v54, T54, L54, hQ54, X54, st54⟩ := own_callS X26 hx hZ (y := (⟨"com/example/restlint/restlint/document/MappingNodeAppliedPinLaw", "pick", "(ILcom/example/restlint/restlint/document/Node;Lcom/example/restlint/restlint/document/Node;Lcom/example/restlint/restlint/document/Node;)Lcom/example/restlint/restlint/document/Node;"⟩ : MethodName)) hown (hw _ (List.mem_of_getElem? (i := 91) rfl)) (hw _ (List.mem_of_getElem? (i := 92) rfl)) (hw _ (List.mem_of_getElem? (i := 93) rfl)) (hw _ (List.mem_of_getElem? (i := 94) rfl)) ⟨by decide, by decide⟩ (argsL := [(.int p1), (.ref b16), (.ref b12), (.ref b9)]) (pick2 l Z a0 hw p1 b16 b12 b9 T21.heap hk_p1) e26 (g := (mkF m 137 #[.val (.int p0), .val (.int p1), .val (.int p2), .val (.int p3), .val (.int p4), .val (.ref b1), .val (.ref b9), .val (.ref b12), .val (.ref b16), .val .null, .val (.int (0 : Int32)), .unset] [(.ref b9), (.ref b12), (.ref b16), (.int p1)])) rfl (by rw [hml]; rfl) (rest := []) (lenOf pd0_5 rfl) rfl (hb hby at_137) (W := 0) (by show 2 * 0 + _ ≤ _; exact Nat.le_of_eq rfl) (by decide) (by decide) (by decide) (by decide)
          obtain ⟨rfl, e54, rfl⟩ := hQ54
          have N54 := Fr.app N26 (Fr.nil n0)
          refine own_go (g' := (mkF m 140 #[.val (.int p0), .val (.int p1), .val (.int p2), .val (.int p3), .val (.int p4), .val (.ref b1), .val (.ref b9), .val (.ref b12), .val (.ref b16), .val .null, .val (.int (0 : Int32)), .unset] [(.ref b12)])) (st54) ?_
          refine own_go (g' := (mkF m 142 #[.val (.int p0), .val (.int p1), .val (.int p2), .val (.int p3), .val (.int p4), .val (.ref b1), .val (.ref b9), .val (.ref b12), .val (.ref b16), .val .null, .val (.int (0 : Int32)), .val (.ref b12)] [])) (fun _ kgo => XS.astore X54.here hx rfl (hb hby at_140) rfl rfl (l' := #[.val (.int p0), .val (.int p1), .val (.int p2), .val (.int p3), .val (.int p4), .val (.ref b1), .val (.ref b9), .val (.ref b12), .val (.ref b16), .val .null, .val (.int (0 : Int32)), .val (.ref b12)]) rfl kgo) ?_
          refine own_go (g' := (mkF m 144 #[.val (.int p0), .val (.int p1), .val (.int p2), .val (.int p3), .val (.int p4), .val (.ref b1), .val (.ref b9), .val (.ref b12), .val (.ref b16), .val .null, .val (.int (0 : Int32)), .val (.ref b12)] [(.ref b9)])) (fun _ kgo => XS.aload X54.here hx rfl (hb hby at_142) rfl rfl kgo) ?_
          refine own_go (g' := (mkF m 146 #[.val (.int p0), .val (.int p1), .val (.int p2), .val (.int p3), .val (.int p4), .val (.ref b1), .val (.ref b9), .val (.ref b12), .val (.ref b16), .val .null, .val (.int (0 : Int32)), .val (.ref b12)] [(.ref b12), (.ref b9)])) (fun _ kgo => XS.aload X54.here hx rfl (hb hby at_144) rfl rfl kgo) ?_
          obtain ⟨v55, T55, L55, hQ55, X55, st55⟩ := own_callV X54 hx hZ (y := (⟨"com/example/restlint/restlint/document/MappingNode", "applyReference", "(Lcom/example/restlint/restlint/document/Node;)V"⟩ : MethodName)) (z := (⟨"com/example/restlint/restlint/document/MappingNode", "applyReference", "(Lcom/example/restlint/restlint/document/Node;)V"⟩ : MethodName)) hown (hw _ (List.mem_of_getElem? (i := 95) rfl)) (hw _ (List.mem_of_getElem? (i := 96) rfl)) (notFace_of_selects (args := #[]) (mvT hZ (hw _ (List.mem_of_getElem? (i := 98) rfl)))) (hw _ (List.mem_of_getElem? (i := 98) rfl)) (hw _ (List.mem_of_getElem? (i := 97) rfl)) (hw _ (List.mem_of_getElem? (i := 35) rfl)) (hw _ (List.mem_of_getElem? (i := 99) rfl)) ⟨by decide, by decide⟩ (a := b9) (argsL := [(.ref b12)]) (apr_rn l Z a0 hw b9 b12 T21.heap n0 Z21 ge_b9 fx28 fx27) e54 fx28 (g := (mkF m 146 #[.val (.int p0), .val (.int p1), .val (.int p2), .val (.int p3), .val (.int p4), .val (.ref b1), .val (.ref b9), .val (.ref b12), .val (.ref b16), .val .null, .val (.int (0 : Int32)), .val (.ref b12)] [(.ref b12), (.ref b9)])) rfl (by rw [hml]; rfl) (rest := []) (lenOf pd0_6 rfl) rfl (hb hby at_146) (W := 0) (by show 2 * 0 + _ ≤ _; exact Nat.le_of_eq rfl) (by decide) (by decide) (by decide) (by decide)
          obtain ⟨ap55, rfl, Nq55, Kq55, pr55_0, q55_0, q55_1, q55_2⟩ := hQ55
          have fx56 : Exa Z T21.heap b1 "com/example/restlint/restlint/document/Location" := (Exa.keep (Exa.ext E19 (Exa.ext E16 fx17)) Kq21)
          have ne_b1_ap55 : b1 ≠ ap55 := Nat.ne_of_lt (Nat.lt_of_lt_of_le fx56.lt pr55_0)
          have ne_b9_ap55 : b9 ≠ ap55 := Nat.ne_of_lt (Nat.lt_of_lt_of_le fx28.lt pr55_0)
          have fx57 : Exa Z T21.heap b12 "com/example/restlint/restlint/document/MappingNode" := (Exa.keep (Exa.ext E19 (Exa.ext E16 q14_0)) Kq21)
          have ne_b12_ap55 : b12 ≠ ap55 := Nat.ne_of_lt (Nat.lt_of_lt_of_le fx57.lt pr55_0)
          have ne_b16_ap55 : b16 ≠ ap55 := Nat.ne_of_lt (Nat.lt_of_lt_of_le q21_0.lt pr55_0)
          have ge_ap55 : n0 ≤ ap55 := Nat.le_trans Z21 pr55_0
          have N55 := Fr.app N54 Nq55
          have hk55 := Nat.le_trans hk21 Kq55.1
          have Z55 : n0 ≤ T55.heap.size := Nat.le_trans Z21 Kq55.1
          refine own_go (g' := (mkF m 149 #[.val (.int p0), .val (.int p1), .val (.int p2), .val (.int p3), .val (.int p4), .val (.ref b1), .val (.ref b9), .val (.ref b12), .val (.ref b16), .val .null, .val (.int (0 : Int32)), .val (.ref b12)] [])) (st55) ?_
          refine own_go (g' := (mkF m 151 #[.val (.int p0), .val (.int p1), .val (.int p2), .val (.int p3), .val (.int p4), .val (.ref b1), .val (.ref b9), .val (.ref b12), .val (.ref b16), .val .null, .val (.int (0 : Int32)), .val (.ref b12)] [(.ref b12)])) (fun _ kgo => XS.aload X55.here hx rfl (hb hby at_149) rfl rfl kgo) ?_
          refine own_go (g' := (mkF m 153 #[.val (.int p0), .val (.int p1), .val (.int p2), .val (.int p3), .val (.int p4), .val (.ref b1), .val (.ref b9), .val (.ref b12), .val (.ref b16), .val (.ref b12), .val (.int (0 : Int32)), .val (.ref b12)] [])) (fun _ kgo => XS.astore X55.here hx rfl (hb hby at_151) rfl rfl (l' := #[.val (.int p0), .val (.int p1), .val (.int p2), .val (.int p3), .val (.int p4), .val (.ref b1), .val (.ref b9), .val (.ref b12), .val (.ref b16), .val (.ref b12), .val (.int (0 : Int32)), .val (.ref b12)]) rfl kgo) ?_
          refine own_go (g' := (mkF m 154 #[.val (.int p0), .val (.int p1), .val (.int p2), .val (.int p3), .val (.int p4), .val (.ref b1), .val (.ref b9), .val (.ref b12), .val (.ref b16), .val (.ref b12), .val (.int (0 : Int32)), .val (.ref b12)] [(.int (1 : Int32))])) (fun _ kgo => XS.iconst X55.here hx rfl (hb hby at_153) kgo) ?_
          refine own_go (g' := (mkF m 156 #[.val (.int p0), .val (.int p1), .val (.int p2), .val (.int p3), .val (.int p4), .val (.ref b1), .val (.ref b9), .val (.ref b12), .val (.ref b16), .val (.ref b12), .val (.int (1 : Int32)), .val (.ref b12)] [])) (fun _ kgo => XS.istore X55.here hx rfl (hb hby at_154) rfl (l' := #[.val (.int p0), .val (.int p1), .val (.int p2), .val (.int p3), .val (.int p4), .val (.ref b1), .val (.ref b9), .val (.ref b12), .val (.ref b16), .val (.ref b12), .val (.int (1 : Int32)), .val (.ref b12)]) rfl kgo) ?_
          refine own_go (g' := (mkF m 158 #[.val (.int p0), .val (.int p1), .val (.int p2), .val (.int p3), .val (.int p4), .val (.ref b1), .val (.ref b9), .val (.ref b12), .val (.ref b16), .val (.ref b12), .val (.int (1 : Int32)), .val (.ref b12)] [(.ref b9)])) (fun _ kgo => XS.aload X55.here hx rfl (hb hby at_156) rfl rfl kgo) ?_
          obtain ⟨v58, T58, L58, hQ58, X58, st58⟩ := own_callV X55 hx hZ (y := (⟨"com/example/restlint/restlint/document/MappingNode", "applied", "()Lcom/example/restlint/restlint/document/Node;"⟩ : MethodName)) (z := (⟨"com/example/restlint/restlint/document/MappingNode", "applied", "()Lcom/example/restlint/restlint/document/Node;"⟩ : MethodName)) hown (hw _ (List.mem_of_getElem? (i := 84) rfl)) (hw _ (List.mem_of_getElem? (i := 85) rfl)) (notFace_of_selects (args := #[]) (mvT hZ (hw _ (List.mem_of_getElem? (i := 87) rfl)))) (hw _ (List.mem_of_getElem? (i := 87) rfl)) (hw _ (List.mem_of_getElem? (i := 86) rfl)) (hw _ (List.mem_of_getElem? (i := 35) rfl)) (hw _ (List.mem_of_getElem? (i := 88) rfl)) ⟨by decide, by decide⟩ (a := b9) (argsL := []) (app_rr l Z a0 hw b9 ap55 b12 T55.heap q55_1 q55_2) rfl q55_0 (g := (mkF m 158 #[.val (.int p0), .val (.int p1), .val (.int p2), .val (.int p3), .val (.int p4), .val (.ref b1), .val (.ref b9), .val (.ref b12), .val (.ref b16), .val (.ref b12), .val (.int (1 : Int32)), .val (.ref b12)] [(.ref b9)])) rfl (by rw [hml]; rfl) (rest := []) (lenOf pd0_3 rfl) rfl (hb hby at_158) (W := 0) (by show 2 * 0 + _ ≤ _; exact Nat.le_of_eq rfl) (by decide) (by decide) (by decide) (by decide)
          obtain ⟨rfl, e58, rfl⟩ := hQ58
          have N58 := Fr.app N55 (Fr.nil n0)
          refine own_go (g' := (mkF m 161 #[.val (.int p0), .val (.int p1), .val (.int p2), .val (.int p3), .val (.int p4), .val (.ref b1), .val (.ref b9), .val (.ref b12), .val (.ref b16), .val (.ref b12), .val (.int (1 : Int32)), .val (.ref b12)] [(.ref b12)])) (st58) ?_
          refine own_go (g' := (mkF m 163 #[.val (.int p0), .val (.int p1), .val (.int p2), .val (.int p3), .val (.int p4), .val (.ref b1), .val (.ref b9), .val (.ref b12), .val (.ref b16), .val (.ref b12), .val (.int (1 : Int32)), .val (.ref b12)] [(.ref b12), (.ref b12)])) (fun _ kgo => XS.aload X58.here hx rfl (hb hby at_161) rfl rfl kgo) ?_
          refine own_go (g' := (mkF m 166 #[.val (.int p0), .val (.int p1), .val (.int p2), .val (.int p3), .val (.int p4), .val (.ref b1), .val (.ref b9), .val (.ref b12), .val (.ref b16), .val (.ref b12), .val (.int (1 : Int32)), .val (.ref b12)] [])) (fun _ kgo => Jvm.RoadKit.acmp (g := (mkF m 163 #[.val (.int p0), .val (.int p1), .val (.int p2), .val (.int p3), .val (.int p4), .val (.ref b1), .val (.ref b9), .val (.ref b12), .val (.ref b16), .val (.ref b12), .val (.int (1 : Int32)), .val (.ref b12)] [(.ref b12), (.ref b12)])) X58 hx rfl rfl rfl (pc0 := 163) (pc' := 166) (same := true) rfl (hb hby at_163) rfl (decide_eq_true rfl) (by decide) (by decide) kgo) ?_
          refine own_go (g' := (mkF m 168 #[.val (.int p0), .val (.int p1), .val (.int p2), .val (.int p3), .val (.int p4), .val (.ref b1), .val (.ref b9), .val (.ref b12), .val (.ref b16), .val (.ref b12), .val (.int (1 : Int32)), .val (.ref b12)] [(.ref b9)])) (fun _ kgo => XS.aload X58.here hx rfl (hb hby at_166) rfl rfl kgo) ?_
          obtain ⟨v59, T59, L59, hQ59, X59, st59⟩ := own_callV X58 hx hZ (y := (⟨"com/example/restlint/restlint/document/MappingNode", "appliesReference", "()Z"⟩ : MethodName)) (z := (⟨"com/example/restlint/restlint/document/MappingNode", "appliesReference", "()Z"⟩ : MethodName)) hown (hw _ (List.mem_of_getElem? (i := 128) rfl)) (hw _ (List.mem_of_getElem? (i := 129) rfl)) (notFace_of_selects (args := #[]) (mvT hZ (hw _ (List.mem_of_getElem? (i := 131) rfl)))) (hw _ (List.mem_of_getElem? (i := 131) rfl)) (hw _ (List.mem_of_getElem? (i := 130) rfl)) (hw _ (List.mem_of_getElem? (i := 35) rfl)) (hw _ (List.mem_of_getElem? (i := 132) rfl)) ⟨by decide, by decide⟩ (a := b9) (argsL := []) (apl_r l Z a0 hw b9 ap55 T55.heap q55_1) e58 q55_0 (g := (mkF m 168 #[.val (.int p0), .val (.int p1), .val (.int p2), .val (.int p3), .val (.int p4), .val (.ref b1), .val (.ref b9), .val (.ref b12), .val (.ref b16), .val (.ref b12), .val (.int (1 : Int32)), .val (.ref b12)] [(.ref b9)])) rfl (by rw [hml]; rfl) (rest := []) (lenOf pd0_4 rfl) rfl (hb hby at_168) (W := 0) (by show 2 * 0 + _ ≤ _; exact Nat.le_of_eq rfl) (by decide) (by decide) (by decide) (by decide)
          obtain ⟨rfl, e59, rfl⟩ := hQ59
          have N59 := Fr.app N58 (Fr.nil n0)
          refine own_go (g' := (mkF m 171 #[.val (.int p0), .val (.int p1), .val (.int p2), .val (.int p3), .val (.int p4), .val (.ref b1), .val (.ref b9), .val (.ref b12), .val (.ref b16), .val (.ref b12), .val (.int (1 : Int32)), .val (.ref b12)] [(.int (1 : Int32))])) (st59) ?_
          refine own_go (g' := (mkF m 173 #[.val (.int p0), .val (.int p1), .val (.int p2), .val (.int p3), .val (.int p4), .val (.ref b1), .val (.ref b9), .val (.ref b12), .val (.ref b16), .val (.ref b12), .val (.int (1 : Int32)), .val (.ref b12)] [(.int (1 : Int32)), (.int (1 : Int32))])) (fun _ kgo => XS.iload X59.here hx rfl (hb hby at_171) rfl kgo) ?_
          refine own_go (g' := (mkF m 176 #[.val (.int p0), .val (.int p1), .val (.int p2), .val (.int p3), .val (.int p4), .val (.ref b1), .val (.ref b9), .val (.ref b12), .val (.ref b16), .val (.ref b12), .val (.int (1 : Int32)), .val (.ref b12)] [])) (fun _ kgo => XS.icmpNo X59.here hx rfl (hb hby at_173) rfl (teq (by decide)).2 kgo) ?_
          refine own_go (g' := (mkF m 178 #[.val (.int p0), .val (.int p1), .val (.int p2), .val (.int p3), .val (.int p4), .val (.ref b1), .val (.ref b9), .val (.ref b12), .val (.ref b16), .val (.ref b12), .val (.int (1 : Int32)), .val (.ref b12)] [(.ref b12)])) (fun _ kgo => XS.aload X59.here hx rfl (hb hby at_176) rfl rfl kgo) ?_
          have fx61 : Fld Z T55.heap b12 "com/example/restlint/restlint/document/MappingNode" "applied" "Lcom/example/restlint/restlint/document/MappingNode$Applied;" .null := (Fld.keep (Fld.keep (Fld.ext E19 (Fld.ext E16 q14_1)) Kq21 (ninS ne_b12_b16 nin0)) Kq55 (ninS (Ne.symm ne_b9_b12) nin0))
          have fx62 : Exa Z T55.heap b12 "com/example/restlint/restlint/document/MappingNode" := (Exa.keep fx57 Kq55)
          obtain ⟨v60, T60, L60, hQ60, X60, st60⟩ := own_callV X59 hx hZ (y := (⟨"com/example/restlint/restlint/document/MappingNode", "applied", "()Lcom/example/restlint/restlint/document/Node;"⟩ : MethodName)) (z := (⟨"com/example/restlint/restlint/document/MappingNode", "applied", "()Lcom/example/restlint/restlint/document/Node;"⟩ : MethodName)) hown (hw _ (List.mem_of_getElem? (i := 84) rfl)) (hw _ (List.mem_of_getElem? (i := 85) rfl)) (notFace_of_selects (args := #[]) (mvT hZ (hw _ (List.mem_of_getElem? (i := 87) rfl)))) (hw _ (List.mem_of_getElem? (i := 87) rfl)) (hw _ (List.mem_of_getElem? (i := 86) rfl)) (hw _ (List.mem_of_getElem? (i := 35) rfl)) (hw _ (List.mem_of_getElem? (i := 88) rfl)) ⟨by decide, by decide⟩ (a := b12) (argsL := []) (app_n l Z a0 hw b12 T55.heap fx61) e59 fx62 (g := (mkF m 178 #[.val (.int p0), .val (.int p1), .val (.int p2), .val (.int p3), .val (.int p4), .val (.ref b1), .val (.ref b9), .val (.ref b12), .val (.ref b16), .val (.ref b12), .val (.int (1 : Int32)), .val (.ref b12)] [(.ref b12)])) rfl (by rw [hml]; rfl) (rest := []) (lenOf pd0_3 rfl) rfl (hb hby at_178) (W := 0) (by show 2 * 0 + _ ≤ _; exact Nat.le_of_eq rfl) (by decide) (by decide) (by decide) (by decide)
          obtain ⟨rfl, e60, rfl⟩ := hQ60
          have N60 := Fr.app N59 (Fr.nil n0)
          refine own_go (g' := (mkF m 181 #[.val (.int p0), .val (.int p1), .val (.int p2), .val (.int p3), .val (.int p4), .val (.ref b1), .val (.ref b9), .val (.ref b12), .val (.ref b16), .val (.ref b12), .val (.int (1 : Int32)), .val (.ref b12)] [.null])) (st60) ?_
          refine own_go (g' := (mkF m 184 #[.val (.int p0), .val (.int p1), .val (.int p2), .val (.int p3), .val (.int p4), .val (.ref b1), .val (.ref b9), .val (.ref b12), .val (.ref b16), .val (.ref b12), .val (.int (1 : Int32)), .val (.ref b12)] [])) (fun _ kgo => XS.ifnonnullNo X60.here hx rfl (hb hby at_181) rfl kgo) ?_
          refine own_go (g' := (mkF m 185 #[.val (.int p0), .val (.int p1), .val (.int p2), .val (.int p3), .val (.int p4), .val (.ref b1), .val (.ref b9), .val (.ref b12), .val (.ref b16), .val (.ref b12), .val (.int (1 : Int32)), .val (.ref b12)] [(.int (1 : Int32))])) (fun _ kgo => XS.iconst X60.here hx rfl (hb hby at_184) kgo) ?_
          refine own_go (g' := (mkF m 189 #[.val (.int p0), .val (.int p1), .val (.int p2), .val (.int p3), .val (.int p4), .val (.ref b1), .val (.ref b9), .val (.ref b12), .val (.ref b16), .val (.ref b12), .val (.int (1 : Int32)), .val (.ref b12)] [(.int (1 : Int32))])) (fun _ kgo => XS.goto X60.here hx rfl (pc0 := 185) (pc' := 189) rfl (hb hby at_185) (by decide) (by decide) kgo) ?_
          refine own_retNW X60 hx hS19 e60 hk55 .boolean Bd.returns Bd.notSynchronized (by simp) (hb hby at_189) (by decide) (by decide) ?_
          show QQ _ T60.heap _
          rw [e60]
          rw [← hQQ]
          exact ⟨rfl, N60⟩
        ·
          obtain ⟨v63, T63, L63, hQ63, X63, st63⟩ := own_callS X26 hx hZ (y := (⟨"com/example/restlint/restlint/document/MappingNodeAppliedPinLaw", "pick", "(ILcom/example/restlint/restlint/document/Node;Lcom/example/restlint/restlint/document/Node;Lcom/example/restlint/restlint/document/Node;)Lcom/example/restlint/restlint/document/Node;"⟩ : MethodName)) hown (hw _ (List.mem_of_getElem? (i := 91) rfl)) (hw _ (List.mem_of_getElem? (i := 92) rfl)) (hw _ (List.mem_of_getElem? (i := 93) rfl)) (hw _ (List.mem_of_getElem? (i := 94) rfl)) ⟨by decide, by decide⟩ (argsL := [(.int p1), (.ref b16), (.ref b12), (.ref b9)]) (pick3 l Z a0 hw p1 b16 b12 b9 T21.heap hk_p1) e26 (g := (mkF m 137 #[.val (.int p0), .val (.int p1), .val (.int p2), .val (.int p3), .val (.int p4), .val (.ref b1), .val (.ref b9), .val (.ref b12), .val (.ref b16), .val .null, .val (.int (0 : Int32)), .unset] [(.ref b9), (.ref b12), (.ref b16), (.int p1)])) rfl (by rw [hml]; rfl) (rest := []) (lenOf pd0_5 rfl) rfl (hb hby at_137) (W := 0) (by show 2 * 0 + _ ≤ _; exact Nat.le_of_eq rfl) (by decide) (by decide) (by decide) (by decide)
          obtain ⟨rfl, e63, rfl⟩ := hQ63
          have N63 := Fr.app N26 (Fr.nil n0)
          refine own_go (g' := (mkF m 140 #[.val (.int p0), .val (.int p1), .val (.int p2), .val (.int p3), .val (.int p4), .val (.ref b1), .val (.ref b9), .val (.ref b12), .val (.ref b16), .val .null, .val (.int (0 : Int32)), .unset] [(.ref b9)])) (st63) ?_
          refine own_go (g' := (mkF m 142 #[.val (.int p0), .val (.int p1), .val (.int p2), .val (.int p3), .val (.int p4), .val (.ref b1), .val (.ref b9), .val (.ref b12), .val (.ref b16), .val .null, .val (.int (0 : Int32)), .val (.ref b9)] [])) (fun _ kgo => XS.astore X63.here hx rfl (hb hby at_140) rfl rfl (l' := #[.val (.int p0), .val (.int p1), .val (.int p2), .val (.int p3), .val (.int p4), .val (.ref b1), .val (.ref b9), .val (.ref b12), .val (.ref b16), .val .null, .val (.int (0 : Int32)), .val (.ref b9)]) rfl kgo) ?_
          refine own_go (g' := (mkF m 144 #[.val (.int p0), .val (.int p1), .val (.int p2), .val (.int p3), .val (.int p4), .val (.ref b1), .val (.ref b9), .val (.ref b12), .val (.ref b16), .val .null, .val (.int (0 : Int32)), .val (.ref b9)] [(.ref b9)])) (fun _ kgo => XS.aload X63.here hx rfl (hb hby at_142) rfl rfl kgo) ?_
          refine own_go (g' := (mkF m 146 #[.val (.int p0), .val (.int p1), .val (.int p2), .val (.int p3), .val (.int p4), .val (.ref b1), .val (.ref b9), .val (.ref b12), .val (.ref b16), .val .null, .val (.int (0 : Int32)), .val (.ref b9)] [(.ref b9), (.ref b9)])) (fun _ kgo => XS.aload X63.here hx rfl (hb hby at_144) rfl rfl kgo) ?_
          obtain ⟨v64, T64, L64, hQ64, X64, st64⟩ := own_callV X63 hx hZ (y := (⟨"com/example/restlint/restlint/document/MappingNode", "applyReference", "(Lcom/example/restlint/restlint/document/Node;)V"⟩ : MethodName)) (z := (⟨"com/example/restlint/restlint/document/MappingNode", "applyReference", "(Lcom/example/restlint/restlint/document/Node;)V"⟩ : MethodName)) hown (hw _ (List.mem_of_getElem? (i := 95) rfl)) (hw _ (List.mem_of_getElem? (i := 96) rfl)) (notFace_of_selects (args := #[]) (mvT hZ (hw _ (List.mem_of_getElem? (i := 98) rfl)))) (hw _ (List.mem_of_getElem? (i := 98) rfl)) (hw _ (List.mem_of_getElem? (i := 97) rfl)) (hw _ (List.mem_of_getElem? (i := 35) rfl)) (hw _ (List.mem_of_getElem? (i := 99) rfl)) ⟨by decide, by decide⟩ (a := b9) (argsL := [(.ref b9)]) (apr_rn l Z a0 hw b9 b9 T21.heap n0 Z21 ge_b9 fx28 fx27) e63 fx28 (g := (mkF m 146 #[.val (.int p0), .val (.int p1), .val (.int p2), .val (.int p3), .val (.int p4), .val (.ref b1), .val (.ref b9), .val (.ref b12), .val (.ref b16), .val .null, .val (.int (0 : Int32)), .val (.ref b9)] [(.ref b9), (.ref b9)])) rfl (by rw [hml]; rfl) (rest := []) (lenOf pd0_6 rfl) rfl (hb hby at_146) (W := 0) (by show 2 * 0 + _ ≤ _; exact Nat.le_of_eq rfl) (by decide) (by decide) (by decide) (by decide)
          obtain ⟨ap64, rfl, Nq64, Kq64, pr64_0, q64_0, q64_1, q64_2⟩ := hQ64
          have fx65 : Exa Z T21.heap b1 "com/example/restlint/restlint/document/Location" := (Exa.keep (Exa.ext E19 (Exa.ext E16 fx17)) Kq21)
          have ne_b1_ap64 : b1 ≠ ap64 := Nat.ne_of_lt (Nat.lt_of_lt_of_le fx65.lt pr64_0)
          have ne_b9_ap64 : b9 ≠ ap64 := Nat.ne_of_lt (Nat.lt_of_lt_of_le fx28.lt pr64_0)
          have fx66 : Exa Z T21.heap b12 "com/example/restlint/restlint/document/MappingNode" := (Exa.keep (Exa.ext E19 (Exa.ext E16 q14_0)) Kq21)
          have ne_b12_ap64 : b12 ≠ ap64 := Nat.ne_of_lt (Nat.lt_of_lt_of_le fx66.lt pr64_0)
          have ne_b16_ap64 : b16 ≠ ap64 := Nat.ne_of_lt (Nat.lt_of_lt_of_le q21_0.lt pr64_0)
          have ge_ap64 : n0 ≤ ap64 := Nat.le_trans Z21 pr64_0
          have N64 := Fr.app N63 Nq64
          have hk64 := Nat.le_trans hk21 Kq64.1
          have Z64 : n0 ≤ T64.heap.size := Nat.le_trans Z21 Kq64.1
          refine own_go (g' := (mkF m 149 #[.val (.int p0), .val (.int p1), .val (.int p2), .val (.int p3), .val (.int p4), .val (.ref b1), .val (.ref b9), .val (.ref b12), .val (.ref b16), .val .null, .val (.int (0 : Int32)), .val (.ref b9)] [])) (st64) ?_
          refine own_go (g' := (mkF m 151 #[.val (.int p0), .val (.int p1), .val (.int p2), .val (.int p3), .val (.int p4), .val (.ref b1), .val (.ref b9), .val (.ref b12), .val (.ref b16), .val .null, .val (.int (0 : Int32)), .val (.ref b9)] [(.ref b9)])) (fun _ kgo => XS.aload X64.here hx rfl (hb hby at_149) rfl rfl kgo) ?_
          refine own_go (g' := (mkF m 153 #[.val (.int p0), .val (.int p1), .val (.int p2), .val (.int p3), .val (.int p4), .val (.ref b1), .val (.ref b9), .val (.ref b12), .val (.ref b16), .val (.ref b9), .val (.int (0 : Int32)), .val (.ref b9)] [])) (fun _ kgo => XS.astore X64.here hx rfl (hb hby at_151) rfl rfl (l' := #[.val (.int p0), .val (.int p1), .val (.int p2), .val (.int p3), .val (.int p4), .val (.ref b1), .val (.ref b9), .val (.ref b12), .val (.ref b16), .val (.ref b9), .val (.int (0 : Int32)), .val (.ref b9)]) rfl kgo) ?_
          refine own_go (g' := (mkF m 154 #[.val (.int p0), .val (.int p1), .val (.int p2), .val (.int p3), .val (.int p4), .val (.ref b1), .val (.ref b9), .val (.ref b12), .val (.ref b16), .val (.ref b9), .val (.int (0 : Int32)), .val (.ref b9)] [(.int (1 : Int32))])) (fun _ kgo => XS.iconst X64.here hx rfl (hb hby at_153) kgo) ?_
          refine own_go (g' := (mkF m 156 #[.val (.int p0), .val (.int p1), .val (.int p2), .val (.int p3), .val (.int p4), .val (.ref b1), .val (.ref b9), .val (.ref b12), .val (.ref b16), .val (.ref b9), .val (.int (1 : Int32)), .val (.ref b9)] [])) (fun _ kgo => XS.istore X64.here hx rfl (hb hby at_154) rfl (l' := #[.val (.int p0), .val (.int p1), .val (.int p2), .val (.int p3), .val (.int p4), .val (.ref b1), .val (.ref b9), .val (.ref b12), .val (.ref b16), .val (.ref b9), .val (.int (1 : Int32)), .val (.ref b9)]) rfl kgo) ?_
          refine own_go (g' := (mkF m 158 #[.val (.int p0), .val (.int p1), .val (.int p2), .val (.int p3), .val (.int p4), .val (.ref b1), .val (.ref b9), .val (.ref b12), .val (.ref b16), .val (.ref b9), .val (.int (1 : Int32)), .val (.ref b9)] [(.ref b9)])) (fun _ kgo => XS.aload X64.here hx rfl (hb hby at_156) rfl rfl kgo) ?_
          obtain ⟨v67, T67, L67, hQ67, X67, st67⟩ := own_callV X64 hx hZ (y := (⟨"com/example/restlint/restlint/document/MappingNode", "applied", "()Lcom/example/restlint/restlint/document/Node;"⟩ : MethodName)) (z := (⟨"com/example/restlint/restlint/document/MappingNode", "applied", "()Lcom/example/restlint/restlint/document/Node;"⟩ : MethodName)) hown (hw _ (List.mem_of_getElem? (i := 84) rfl)) (hw _ (List.mem_of_getElem? (i := 85) rfl)) (notFace_of_selects (args := #[]) (mvT hZ (hw _ (List.mem_of_getElem? (i := 87) rfl)))) (hw _ (List.mem_of_getElem? (i := 87) rfl)) (hw _ (List.mem_of_getElem? (i := 86) rfl)) (hw _ (List.mem_of_getElem? (i := 35) rfl)) (hw _ (List.mem_of_getElem? (i := 88) rfl)) ⟨by decide, by decide⟩ (a := b9) (argsL := []) (app_rr l Z a0 hw b9 ap64 b9 T64.heap q64_1 q64_2) rfl q64_0 (g := (mkF m 158 #[.val (.int p0), .val (.int p1), .val (.int p2), .val (.int p3), .val (.int p4), .val (.ref b1), .val (.ref b9), .val (.ref b12), .val (.ref b16), .val (.ref b9), .val (.int (1 : Int32)), .val (.ref b9)] [(.ref b9)])) rfl (by rw [hml]; rfl) (rest := []) (lenOf pd0_3 rfl) rfl (hb hby at_158) (W := 0) (by show 2 * 0 + _ ≤ _; exact Nat.le_of_eq rfl) (by decide) (by decide) (by decide) (by decide)
          obtain ⟨rfl, e67, rfl⟩ := hQ67
          have N67 := Fr.app N64 (Fr.nil n0)
          refine own_go (g' := (mkF m 161 #[.val (.int p0), .val (.int p1), .val (.int p2), .val (.int p3), .val (.int p4), .val (.ref b1), .val (.ref b9), .val (.ref b12), .val (.ref b16), .val (.ref b9), .val (.int (1 : Int32)), .val (.ref b9)] [(.ref b9)])) (st67) ?_
          refine own_go (g' := (mkF m 163 #[.val (.int p0), .val (.int p1), .val (.int p2), .val (.int p3), .val (.int p4), .val (.ref b1), .val (.ref b9), .val (.ref b12), .val (.ref b16), .val (.ref b9), .val (.int (1 : Int32)), .val (.ref b9)] [(.ref b9), (.ref b9)])) (fun _ kgo => XS.aload X67.here hx rfl (hb hby at_161) rfl rfl kgo) ?_
          refine own_go (g' := (mkF m 166 #[.val (.int p0), .val (.int p1), .val (.int p2), .val (.int p3), .val (.int p4), .val (.ref b1), .val (.ref b9), .val (.ref b12), .val (.ref b16), .val (.ref b9), .val (.int (1 : Int32)), .val (.ref b9)] [])) (fun _ kgo => Jvm.RoadKit.acmp (g := (mkF m 163 #[.val (.int p0), .val (.int p1), .val (.int p2), .val (.int p3), .val (.int p4), .val (.ref b1), .val (.ref b9), .val (.ref b12), .val (.ref b16), .val (.ref b9), .val (.int (1 : Int32)), .val (.ref b9)] [(.ref b9), (.ref b9)])) X67 hx rfl rfl rfl (pc0 := 163) (pc' := 166) (same := true) rfl (hb hby at_163) rfl (decide_eq_true rfl) (by decide) (by decide) kgo) ?_
          refine own_go (g' := (mkF m 168 #[.val (.int p0), .val (.int p1), .val (.int p2), .val (.int p3), .val (.int p4), .val (.ref b1), .val (.ref b9), .val (.ref b12), .val (.ref b16), .val (.ref b9), .val (.int (1 : Int32)), .val (.ref b9)] [(.ref b9)])) (fun _ kgo => XS.aload X67.here hx rfl (hb hby at_166) rfl rfl kgo) ?_
          obtain ⟨v68, T68, L68, hQ68, X68, st68⟩ := own_callV X67 hx hZ (y := (⟨"com/example/restlint/restlint/document/MappingNode", "appliesReference", "()Z"⟩ : MethodName)) (z := (⟨"com/example/restlint/restlint/document/MappingNode", "appliesReference", "()Z"⟩ : MethodName)) hown (hw _ (List.mem_of_getElem? (i := 128) rfl)) (hw _ (List.mem_of_getElem? (i := 129) rfl)) (notFace_of_selects (args := #[]) (mvT hZ (hw _ (List.mem_of_getElem? (i := 131) rfl)))) (hw _ (List.mem_of_getElem? (i := 131) rfl)) (hw _ (List.mem_of_getElem? (i := 130) rfl)) (hw _ (List.mem_of_getElem? (i := 35) rfl)) (hw _ (List.mem_of_getElem? (i := 132) rfl)) ⟨by decide, by decide⟩ (a := b9) (argsL := []) (apl_r l Z a0 hw b9 ap64 T64.heap q64_1) e67 q64_0 (g := (mkF m 168 #[.val (.int p0), .val (.int p1), .val (.int p2), .val (.int p3), .val (.int p4), .val (.ref b1), .val (.ref b9), .val (.ref b12), .val (.ref b16), .val (.ref b9), .val (.int (1 : Int32)), .val (.ref b9)] [(.ref b9)])) rfl (by rw [hml]; rfl) (rest := []) (lenOf pd0_4 rfl) rfl (hb hby at_168) (W := 0) (by show 2 * 0 + _ ≤ _; exact Nat.le_of_eq rfl) (by decide) (by decide) (by decide) (by decide)
          obtain ⟨rfl, e68, rfl⟩ := hQ68
          have N68 := Fr.app N67 (Fr.nil n0)
          refine own_go (g' := (mkF m 171 #[.val (.int p0), .val (.int p1), .val (.int p2), .val (.int p3), .val (.int p4), .val (.ref b1), .val (.ref b9), .val (.ref b12), .val (.ref b16), .val (.ref b9), .val (.int (1 : Int32)), .val (.ref b9)] [(.int (1 : Int32))])) (st68) ?_
          refine own_go (g' := (mkF m 173 #[.val (.int p0), .val (.int p1), .val (.int p2), .val (.int p3), .val (.int p4), .val (.ref b1), .val (.ref b9), .val (.ref b12), .val (.ref b16), .val (.ref b9), .val (.int (1 : Int32)), .val (.ref b9)] [(.int (1 : Int32)), (.int (1 : Int32))])) (fun _ kgo => XS.iload X68.here hx rfl (hb hby at_171) rfl kgo) ?_
          refine own_go (g' := (mkF m 176 #[.val (.int p0), .val (.int p1), .val (.int p2), .val (.int p3), .val (.int p4), .val (.ref b1), .val (.ref b9), .val (.ref b12), .val (.ref b16), .val (.ref b9), .val (.int (1 : Int32)), .val (.ref b9)] [])) (fun _ kgo => XS.icmpNo X68.here hx rfl (hb hby at_173) rfl (teq (by decide)).2 kgo) ?_
          refine own_go (g' := (mkF m 178 #[.val (.int p0), .val (.int p1), .val (.int p2), .val (.int p3), .val (.int p4), .val (.ref b1), .val (.ref b9), .val (.ref b12), .val (.ref b16), .val (.ref b9), .val (.int (1 : Int32)), .val (.ref b9)] [(.ref b12)])) (fun _ kgo => XS.aload X68.here hx rfl (hb hby at_176) rfl rfl kgo) ?_
          have fx70 : Fld Z T64.heap b12 "com/example/restlint/restlint/document/MappingNode" "applied" "Lcom/example/restlint/restlint/document/MappingNode$Applied;" .null := (Fld.keep (Fld.keep (Fld.ext E19 (Fld.ext E16 q14_1)) Kq21 (ninS ne_b12_b16 nin0)) Kq64 (ninS (Ne.symm ne_b9_b12) nin0))
          have fx71 : Exa Z T64.heap b12 "com/example/restlint/restlint/document/MappingNode" := (Exa.keep fx66 Kq64)
          obtain ⟨v69, T69, L69, hQ69, X69, st69⟩ := own_callV X68 hx hZ (y := (⟨"com/example/restlint/restlint/document/MappingNode", "applied", "()Lcom/example/restlint/restlint/document/Node;"⟩ : MethodName)) (z := (⟨"com/example/restlint/restlint/document/MappingNode", "applied", "()Lcom/example/restlint/restlint/document/Node;"⟩ : MethodName)) hown (hw _ (List.mem_of_getElem? (i := 84) rfl)) (hw _ (List.mem_of_getElem? (i := 85) rfl)) (notFace_of_selects (args := #[]) (mvT hZ (hw _ (List.mem_of_getElem? (i := 87) rfl)))) (hw _ (List.mem_of_getElem? (i := 87) rfl)) (hw _ (List.mem_of_getElem? (i := 86) rfl)) (hw _ (List.mem_of_getElem? (i := 35) rfl)) (hw _ (List.mem_of_getElem? (i := 88) rfl)) ⟨by decide, by decide⟩ (a := b12) (argsL := []) (app_n l Z a0 hw b12 T64.heap fx70) e68 fx71 (g := (mkF m 178 #[.val (.int p0), .val (.int p1), .val (.int p2), .val (.int p3), .val (.int p4), .val (.ref b1), .val (.ref b9), .val (.ref b12), .val (.ref b16), .val (.ref b9), .val (.int (1 : Int32)), .val (.ref b9)] [(.ref b12)])) rfl (by rw [hml]; rfl) (rest := []) (lenOf pd0_3 rfl) rfl (hb hby at_178) (W := 0) (by show 2 * 0 + _ ≤ _; exact Nat.le_of_eq rfl) (by decide) (by decide) (by decide) (by decide)
          obtain ⟨rfl, e69, rfl⟩ := hQ69
          have N69 := Fr.app N68 (Fr.nil n0)
          refine own_go (g' := (mkF m 181 #[.val (.int p0), .val (.int p1), .val (.int p2), .val (.int p3), .val (.int p4), .val (.ref b1), .val (.ref b9), .val (.ref b12), .val (.ref b16), .val (.ref b9), .val (.int (1 : Int32)), .val (.ref b9)] [.null])) (st69) ?_
          refine own_go (g' := (mkF m 184 #[.val (.int p0), .val (.int p1), .val (.int p2), .val (.int p3), .val (.int p4), .val (.ref b1), .val (.ref b9), .val (.ref b12), .val (.ref b16), .val (.ref b9), .val (.int (1 : Int32)), .val (.ref b9)] [])) (fun _ kgo => XS.ifnonnullNo X69.here hx rfl (hb hby at_181) rfl kgo) ?_
          refine own_go (g' := (mkF m 185 #[.val (.int p0), .val (.int p1), .val (.int p2), .val (.int p3), .val (.int p4), .val (.ref b1), .val (.ref b9), .val (.ref b12), .val (.ref b16), .val (.ref b9), .val (.int (1 : Int32)), .val (.ref b9)] [(.int (1 : Int32))])) (fun _ kgo => XS.iconst X69.here hx rfl (hb hby at_184) kgo) ?_
          refine own_go (g' := (mkF m 189 #[.val (.int p0), .val (.int p1), .val (.int p2), .val (.int p3), .val (.int p4), .val (.ref b1), .val (.ref b9), .val (.ref b12), .val (.ref b16), .val (.ref b9), .val (.int (1 : Int32)), .val (.ref b9)] [(.int (1 : Int32))])) (fun _ kgo => XS.goto X69.here hx rfl (pc0 := 185) (pc' := 189) rfl (hb hby at_185) (by decide) (by decide) kgo) ?_
          refine own_retNW X69 hx hS19 e69 hk64 .boolean Bd.returns Bd.notSynchronized (by simp) (hb hby at_189) (by decide) (by decide) ?_
          show QQ _ T69.heap _
          rw [e69]
          rw [← hQQ]
          exact ⟨rfl, N69⟩
    ·
      refine own_go (g' := (mkF m 86 #[.val (.int p0), .val (.int p1), .val (.int p2), .val (.int p3), .val (.int p4), .val (.ref b1), .val (.ref b9), .val (.ref b12), .val (.ref b16), .val .null, .val (.int (0 : Int32)), .unset] [])) (fun _ kgo => XS.ifNo X26.here hx rfl (hb hby at_83) rfl ((if0 _ _).trans (feq hc29).1) kgo) ?_
      refine own_go (g' := (mkF m 87 #[.val (.int p0), .val (.int p1), .val (.int p2), .val (.int p3), .val (.int p4), .val (.ref b1), .val (.ref b9), .val (.ref b12), .val (.ref b16), .val .null, .val (.int (0 : Int32)), .unset] [(.int p0)])) (fun _ kgo => XS.iloadN X26.here hx rfl (hb hby at_86) rfl kgo) ?_
      refine own_go (g' := (mkF m 89 #[.val (.int p0), .val (.int p1), .val (.int p2), .val (.int p3), .val (.int p4), .val (.ref b1), .val (.ref b9), .val (.ref b12), .val (.ref b16), .val .null, .val (.int (0 : Int32)), .unset] [(.ref b16), (.int p0)])) (fun _ kgo => XS.aload X26.here hx rfl (hb hby at_87) rfl rfl kgo) ?_
      refine own_go (g' := (mkF m 91 #[.val (.int p0), .val (.int p1), .val (.int p2), .val (.int p3), .val (.int p4), .val (.ref b1), .val (.ref b9), .val (.ref b12), .val (.ref b16), .val .null, .val (.int (0 : Int32)), .unset] [(.ref b12), (.ref b16), (.int p0)])) (fun _ kgo => XS.aload X26.here hx rfl (hb hby at_89) rfl rfl kgo) ?_
      refine own_go (g' := (mkF m 93 #[.val (.int p0), .val (.int p1), .val (.int p2), .val (.int p3), .val (.int p4), .val (.ref b1), .val (.ref b9), .val (.ref b12), .val (.ref b16), .val .null, .val (.int (0 : Int32)), .unset] [(.ref b9), (.ref b12), (.ref b16), (.int p0)])) (fun _ kgo => XS.aload X26.here hx rfl (hb hby at_91) rfl rfl kgo) ?_
      rcases own_k4 p0 with hk_p0 | hk_p0 | hk_p0 | hk_p0
      ·
        obtain ⟨v72, T72, L72, hQ72, X72, st72⟩ := own_callS X26 hx hZ (y := (⟨"com/example/restlint/restlint/document/MappingNodeAppliedPinLaw", "pick", "(ILcom/example/restlint/restlint/document/Node;Lcom/example/restlint/restlint/document/Node;Lcom/example/restlint/restlint/document/Node;)Lcom/example/restlint/restlint/document/Node;"⟩ : MethodName)) hown (hw _ (List.mem_of_getElem? (i := 91) rfl)) (hw _ (List.mem_of_getElem? (i := 92) rfl)) (hw _ (List.mem_of_getElem? (i := 93) rfl)) (hw _ (List.mem_of_getElem? (i := 94) rfl)) ⟨by decide, by decide⟩ (argsL := [(.int p0), (.ref b16), (.ref b12), (.ref b9)]) (pick0 l Z a0 hw p0 b16 b12 b9 T21.heap hk_p0) e26 (g := (mkF m 93 #[.val (.int p0), .val (.int p1), .val (.int p2), .val (.int p3), .val (.int p4), .val (.ref b1), .val (.ref b9), .val (.ref b12), .val (.ref b16), .val .null, .val (.int (0 : Int32)), .unset] [(.ref b9), (.ref b12), (.ref b16), (.int p0)])) rfl (by rw [hml]; rfl) (rest := []) (lenOf pd0_5 rfl) rfl (hb hby at_93) (W := 0) (by show 2 * 0 + _ ≤ _; exact Nat.le_of_eq rfl) (by decide) (by decide) (by decide) (by decide)
        obtain ⟨rfl, e72, rfl⟩ := hQ72
        have N72 := Fr.app N26 (Fr.nil n0)
        refine own_go (g' := (mkF m 96 #[.val (.int p0), .val (.int p1), .val (.int p2), .val (.int p3), .val (.int p4), .val (.ref b1), .val (.ref b9), .val (.ref b12), .val (.ref b16), .val .null, .val (.int (0 : Int32)), .unset] [.null])) (st72) ?_
        refine own_go (g' := (mkF m 98 #[.val (.int p0), .val (.int p1), .val (.int p2), .val (.int p3), .val (.int p4), .val (.ref b1), .val (.ref b9), .val (.ref b12), .val (.ref b16), .val .null, .val (.int (0 : Int32)), .val .null] [])) (fun _ kgo => XS.astore X72.here hx rfl (hb hby at_96) rfl rfl (l' := #[.val (.int p0), .val (.int p1), .val (.int p2), .val (.int p3), .val (.int p4), .val (.ref b1), .val (.ref b9), .val (.ref b12), .val (.ref b16), .val .null, .val (.int (0 : Int32)), .val .null]) rfl kgo) ?_
        refine own_go (g' := (mkF m 100 #[.val (.int p0), .val (.int p1), .val (.int p2), .val (.int p3), .val (.int p4), .val (.ref b1), .val (.ref b9), .val (.ref b12), .val (.ref b16), .val .null, .val (.int (0 : Int32)), .val .null] [(.ref b9)])) (fun _ kgo => XS.aload X72.here hx rfl (hb hby at_98) rfl rfl kgo) ?_
        refine own_go (g' := (mkF m 102 #[.val (.int p0), .val (.int p1), .val (.int p2), .val (.int p3), .val (.int p4), .val (.ref b1), .val (.ref b9), .val (.ref b12), .val (.ref b16), .val .null, .val (.int (0 : Int32)), .val .null] [.null, (.ref b9)])) (fun _ kgo => XS.aload X72.here hx rfl (hb hby at_100) rfl rfl kgo) ?_
        obtain ⟨v73, T73, L73, hQ73, X73, st73⟩ := own_callV X72 hx hZ (y := (⟨"com/example/restlint/restlint/document/MappingNode", "applyReference", "(Lcom/example/restlint/restlint/document/Node;)V"⟩ : MethodName)) (z := (⟨"com/example/restlint/restlint/document/MappingNode", "applyReference", "(Lcom/example/restlint/restlint/document/Node;)V"⟩ : MethodName)) hown (hw _ (List.mem_of_getElem? (i := 95) rfl)) (hw _ (List.mem_of_getElem? (i := 96) rfl)) (notFace_of_selects (args := #[]) (mvT hZ (hw _ (List.mem_of_getElem? (i := 98) rfl)))) (hw _ (List.mem_of_getElem? (i := 98) rfl)) (hw _ (List.mem_of_getElem? (i := 97) rfl)) (hw _ (List.mem_of_getElem? (i := 35) rfl)) (hw _ (List.mem_of_getElem? (i := 99) rfl)) ⟨by decide, by decide⟩ (a := b9) (argsL := [.null]) (apr_nn l Z a0 hw b9 T21.heap n0 Z21 ge_b9 fx28 fx27) e72 fx28 (g := (mkF m 102 #[.val (.int p0), .val (.int p1), .val (.int p2), .val (.int p3), .val (.int p4), .val (.ref b1), .val (.ref b9), .val (.ref b12), .val (.ref b16), .val .null, .val (.int (0 : Int32)), .val .null] [.null, (.ref b9)])) rfl (by rw [hml]; rfl) (rest := []) (lenOf pd0_6 rfl) rfl (hb hby at_102) (W := 0) (by show 2 * 0 + _ ≤ _; exact Nat.le_of_eq rfl) (by decide) (by decide) (by decide) (by decide)
        obtain ⟨ap73, rfl, Nq73, Kq73, pr73_0, q73_0, q73_1, q73_2⟩ := hQ73
        have fx74 : Exa Z T21.heap b1 "com/example/restlint/restlint/document/Location" := (Exa.keep (Exa.ext E19 (Exa.ext E16 fx17)) Kq21)
        have ne_b1_ap73 : b1 ≠ ap73 := Nat.ne_of_lt (Nat.lt_of_lt_of_le fx74.lt pr73_0)
        have ne_b9_ap73 : b9 ≠ ap73 := Nat.ne_of_lt (Nat.lt_of_lt_of_le fx28.lt pr73_0)
        have fx75 : Exa Z T21.heap b12 "com/example/restlint/restlint/document/MappingNode" := (Exa.keep (Exa.ext E19 (Exa.ext E16 q14_0)) Kq21)
        have ne_b12_ap73 : b12 ≠ ap73 := Nat.ne_of_lt (Nat.lt_of_lt_of_le fx75.lt pr73_0)
        have ne_b16_ap73 : b16 ≠ ap73 := Nat.ne_of_lt (Nat.lt_of_lt_of_le q21_0.lt pr73_0)
        have ge_ap73 : n0 ≤ ap73 := Nat.le_trans Z21 pr73_0
        have N73 := Fr.app N72 Nq73
        have hk73 := Nat.le_trans hk21 Kq73.1
        have Z73 : n0 ≤ T73.heap.size := Nat.le_trans Z21 Kq73.1
        refine own_go (g' := (mkF m 105 #[.val (.int p0), .val (.int p1), .val (.int p2), .val (.int p3), .val (.int p4), .val (.ref b1), .val (.ref b9), .val (.ref b12), .val (.ref b16), .val .null, .val (.int (0 : Int32)), .val .null] [])) (st73) ?_
        refine own_go (g' := (mkF m 107 #[.val (.int p0), .val (.int p1), .val (.int p2), .val (.int p3), .val (.int p4), .val (.ref b1), .val (.ref b9), .val (.ref b12), .val (.ref b16), .val .null, .val (.int (0 : Int32)), .val .null] [.null])) (fun _ kgo => XS.aload X73.here hx rfl (hb hby at_105) rfl rfl kgo) ?_
        refine own_go (g' := (mkF m 109 #[.val (.int p0), .val (.int p1), .val (.int p2), .val (.int p3), .val (.int p4), .val (.ref b1), .val (.ref b9), .val (.ref b12), .val (.ref b16), .val .null, .val (.int (0 : Int32)), .val .null] [])) (fun _ kgo => XS.astore X73.here hx rfl (hb hby at_107) rfl rfl (l' := #[.val (.int p0), .val (.int p1), .val (.int p2), .val (.int p3), .val (.int p4), .val (.ref b1), .val (.ref b9), .val (.ref b12), .val (.ref b16), .val .null, .val (.int (0 : Int32)), .val .null]) rfl kgo) ?_
        refine own_go (g' := (mkF m 110 #[.val (.int p0), .val (.int p1), .val (.int p2), .val (.int p3), .val (.int p4), .val (.ref b1), .val (.ref b9), .val (.ref b12), .val (.ref b16), .val .null, .val (.int (0 : Int32)), .val .null] [(.int (1 : Int32))])) (fun _ kgo => XS.iconst X73.here hx rfl (hb hby at_109) kgo) ?_
        refine own_go (g' := (mkF m 112 #[.val (.int p0), .val (.int p1), .val (.int p2), .val (.int p3), .val (.int p4), .val (.ref b1), .val (.ref b9), .val (.ref b12), .val (.ref b16), .val .null, .val (.int (1 : Int32)), .val .null] [])) (fun _ kgo => XS.istore X73.here hx rfl (hb hby at_110) rfl (l' := #[.val (.int p0), .val (.int p1), .val (.int p2), .val (.int p3), .val (.int p4), .val (.ref b1), .val (.ref b9), .val (.ref b12), .val (.ref b16), .val .null, .val (.int (1 : Int32)), .val .null]) rfl kgo) ?_
        refine own_go (g' := (mkF m 114 #[.val (.int p0), .val (.int p1), .val (.int p2), .val (.int p3), .val (.int p4), .val (.ref b1), .val (.ref b9), .val (.ref b12), .val (.ref b16), .val .null, .val (.int (1 : Int32)), .val .null] [(.ref b9)])) (fun _ kgo => XS.aload X73.here hx rfl (hb hby at_112) rfl rfl kgo) ?_
        obtain ⟨v76, T76, L76, hQ76, X76, st76⟩ := own_callV X73 hx hZ (y := (⟨"com/example/restlint/restlint/document/MappingNode", "applied", "()Lcom/example/restlint/restlint/document/Node;"⟩ : MethodName)) (z := (⟨"com/example/restlint/restlint/document/MappingNode", "applied", "()Lcom/example/restlint/restlint/document/Node;"⟩ : MethodName)) hown (hw _ (List.mem_of_getElem? (i := 84) rfl)) (hw _ (List.mem_of_getElem? (i := 85) rfl)) (notFace_of_selects (args := #[]) (mvT hZ (hw _ (List.mem_of_getElem? (i := 87) rfl)))) (hw _ (List.mem_of_getElem? (i := 87) rfl)) (hw _ (List.mem_of_getElem? (i := 86) rfl)) (hw _ (List.mem_of_getElem? (i := 35) rfl)) (hw _ (List.mem_of_getElem? (i := 88) rfl)) ⟨by decide, by decide⟩ (a := b9) (argsL := []) (app_rn l Z a0 hw b9 ap73 T73.heap q73_1 q73_2) rfl q73_0 (g := (mkF m 114 #[.val (.int p0), .val (.int p1), .val (.int p2), .val (.int p3), .val (.int p4), .val (.ref b1), .val (.ref b9), .val (.ref b12), .val (.ref b16), .val .null, .val (.int (1 : Int32)), .val .null] [(.ref b9)])) rfl (by rw [hml]; rfl) (rest := []) (lenOf pd0_3 rfl) rfl (hb hby at_114) (W := 0) (by show 2 * 0 + _ ≤ _; exact Nat.le_of_eq rfl) (by decide) (by decide) (by decide) (by decide)
        obtain ⟨rfl, e76, rfl⟩ := hQ76
        have N76 := Fr.app N73 (Fr.nil n0)
        refine own_go (g' := (mkF m 117 #[.val (.int p0), .val (.int p1), .val (.int p2), .val (.int p3), .val (.int p4), .val (.ref b1), .val (.ref b9), .val (.ref b12), .val (.ref b16), .val .null, .val (.int (1 : Int32)), .val .null] [.null])) (st76) ?_
        refine own_go (g' := (mkF m 119 #[.val (.int p0), .val (.int p1), .val (.int p2), .val (.int p3), .val (.int p4), .val (.ref b1), .val (.ref b9), .val (.ref b12), .val (.ref b16), .val .null, .val (.int (1 : Int32)), .val .null] [.null, .null])) (fun _ kgo => XS.aload X76.here hx rfl (hb hby at_117) rfl rfl kgo) ?_
        refine own_go (g' := (mkF m 124 #[.val (.int p0), .val (.int p1), .val (.int p2), .val (.int p3), .val (.int p4), .val (.ref b1), .val (.ref b9), .val (.ref b12), .val (.ref b16), .val .null, .val (.int (1 : Int32)), .val .null] [])) (fun _ kgo => Jvm.RoadKit.acmp (g := (mkF m 119 #[.val (.int p0), .val (.int p1), .val (.int p2), .val (.int p3), .val (.int p4), .val (.ref b1), .val (.ref b9), .val (.ref b12), .val (.ref b16), .val .null, .val (.int (1 : Int32)), .val .null] [.null, .null])) X76 hx rfl rfl rfl (pc0 := 119) (pc' := 124) (same := true) rfl (hb hby at_119) rfl (decide_eq_true rfl) (by decide) (by decide) kgo) ?_
        refine own_go (g' := (mkF m 125 #[.val (.int p0), .val (.int p1), .val (.int p2), .val (.int p3), .val (.int p4), .val (.ref b1), .val (.ref b9), .val (.ref b12), .val (.ref b16), .val .null, .val (.int (1 : Int32)), .val .null] [(.int p2)])) (fun _ kgo => XS.iloadN X76.here hx rfl (hb hby at_124) rfl kgo) ?_
        refine own_go (g' := (mkF m 126 #[.val (.int p0), .val (.int p1), .val (.int p2), .val (.int p3), .val (.int p4), .val (.ref b1), .val (.ref b9), .val (.ref b12), .val (.ref b16), .val .null, .val (.int (1 : Int32)), .val .null] [(.int (2 : Int32)), (.int p2)])) (fun _ kgo => XS.iconst X76.here hx rfl (hb hby at_125) kgo) ?_
        refine own_go (g' := (mkF m 127 #[.val (.int p0), .val (.int p1), .val (.int p2), .val (.int p3), .val (.int p4), .val (.ref b1), .val (.ref b9), .val (.ref b12), .val (.ref b16), .val .null, .val (.int (1 : Int32)), .val .null] [(.int (p2 &&& (2 : Int32)))])) (fun _ kgo => XS.iand X76.here hx rfl (hb hby at_126) rfl kgo) ?_
        by_cases hc77 : (p2 &&& (2 : Int32)) = (0 : Int32)
        ·
          refine own_go (g' := (mkF m 156 #[.val (.int p0), .val (.int p1), .val (.int p2), .val (.int p3), .val (.int p4), .val (.ref b1), .val (.ref b9), .val (.ref b12), .val (.ref b16), .val .null, .val (.int (1 : Int32)), .val .null] [])) (fun _ kgo => XS.ifYes X76.here hx rfl (pc0 := 127) (pc' := 156) rfl (hb hby at_127) rfl ((if0 _ _).trans (teq hc77).1) (by decide) (by decide) kgo) ?_
          refine own_go (g' := (mkF m 158 #[.val (.int p0), .val (.int p1), .val (.int p2), .val (.int p3), .val (.int p4), .val (.ref b1), .val (.ref b9), .val (.ref b12), .val (.ref b16), .val .null, .val (.int (1 : Int32)), .val .null] [(.ref b9)])) (fun _ kgo => XS.aload X76.here hx rfl (hb hby at_156) rfl rfl kgo) ?_
          obtain ⟨v78, T78, L78, hQ78, X78, st78⟩ := own_callV X76 hx hZ (y := (⟨"com/example/restlint/restlint/document/MappingNode", "applied", "()Lcom/example/restlint/restlint/document/Node;"⟩ : MethodName)) (z := (⟨"com/example/restlint/restlint/document/MappingNode", "applied", "()Lcom/example/restlint/restlint/document/Node;"⟩ : MethodName)) hown (hw _ (List.mem_of_getElem? (i := 84) rfl)) (hw _ (List.mem_of_getElem? (i := 85) rfl)) (notFace_of_selects (args := #[]) (mvT hZ (hw _ (List.mem_of_getElem? (i := 87) rfl)))) (hw _ (List.mem_of_getElem? (i := 87) rfl)) (hw _ (List.mem_of_getElem? (i := 86) rfl)) (hw _ (List.mem_of_getElem? (i := 35) rfl)) (hw _ (List.mem_of_getElem? (i := 88) rfl)) ⟨by decide, by decide⟩ (a := b9) (argsL := []) (app_rn l Z a0 hw b9 ap73 T73.heap q73_1 q73_2) e76 q73_0 (g := (mkF m 158 #[.val (.int p0), .val (.int p1), .val (.int p2), .val (.int p3), .val (.int p4), .val (.ref b1), .val (.ref b9), .val (.ref b12), .val (.ref b16), .val .null, .val (.int (1 : Int32)), .val .null] [(.ref b9)])) rfl (by rw [hml]; rfl) (rest := []) (lenOf pd0_3 rfl) rfl (hb hby at_158) (W := 0) (by show 2 * 0 + _ ≤ _; exact Nat.le_of_eq rfl) (by decide) (by decide) (by decide) (by decide)
          obtain ⟨rfl, e78, rfl⟩ := hQ78
          have N78 := Fr.app N76 (Fr.nil n0)
          refine own_go (g' := (mkF m 161 #[.val (.int p0), .val (.int p1), .val (.int p2), .val (.int p3), .val (.int p4), .val (.ref b1), .val (.ref b9), .val (.ref b12), .val (.ref b16), .val .null, .val (.int (1 : Int32)), .val .null] [.null])) (st78) ?_
          refine own_go (g' := (mkF m 163 #[.val (.int p0), .val (.int p1), .val (.int p2), .val (.int p3), .val (.int p4), .val (.ref b1), .val (.ref b9), .val (.ref b12), .val (.ref b16), .val .null, .val (.int (1 : Int32)), .val .null] [.null, .null])) (fun _ kgo => XS.aload X78.here hx rfl (hb hby at_161) rfl rfl kgo) ?_
          refine own_go (g' := (mkF m 166 #[.val (.int p0), .val (.int p1), .val (.int p2), .val (.int p3), .val (.int p4), .val (.ref b1), .val (.ref b9), .val (.ref b12), .val (.ref b16), .val .null, .val (.int (1 : Int32)), .val .null] [])) (fun _ kgo => Jvm.RoadKit.acmp (g := (mkF m 163 #[.val (.int p0), .val (.int p1), .val (.int p2), .val (.int p3), .val (.int p4), .val (.ref b1), .val (.ref b9), .val (.ref b12), .val (.ref b16), .val .null, .val (.int (1 : Int32)), .val .null] [.null, .null])) X78 hx rfl rfl rfl (pc0 := 163) (pc' := 166) (same := true) rfl (hb hby at_163) rfl (decide_eq_true rfl) (by decide) (by decide) kgo) ?_
          refine own_go (g' := (mkF m 168 #[.val (.int p0), .val (.int p1), .val (.int p2), .val (.int p3), .val (.int p4), .val (.ref b1), .val (.ref b9), .val (.ref b12), .val (.ref b16), .val .null, .val (.int (1 : Int32)), .val .null] [(.ref b9)])) (fun _ kgo => XS.aload X78.here hx rfl (hb hby at_166) rfl rfl kgo) ?_
          obtain ⟨v79, T79, L79, hQ79, X79, st79⟩ := own_callV X78 hx hZ (y := (⟨"com/example/restlint/restlint/document/MappingNode", "appliesReference", "()Z"⟩ : MethodName)) (z := (⟨"com/example/restlint/restlint/document/MappingNode", "appliesReference", "()Z"⟩ : MethodName)) hown (hw _ (List.mem_of_getElem? (i := 128) rfl)) (hw _ (List.mem_of_getElem? (i := 129) rfl)) (notFace_of_selects (args := #[]) (mvT hZ (hw _ (List.mem_of_getElem? (i := 131) rfl)))) (hw _ (List.mem_of_getElem? (i := 131) rfl)) (hw _ (List.mem_of_getElem? (i := 130) rfl)) (hw _ (List.mem_of_getElem? (i := 35) rfl)) (hw _ (List.mem_of_getElem? (i := 132) rfl)) ⟨by decide, by decide⟩ (a := b9) (argsL := []) (apl_r l Z a0 hw b9 ap73 T73.heap q73_1) e78 q73_0 (g := (mkF m 168 #[.val (.int p0), .val (.int p1), .val (.int p2), .val (.int p3), .val (.int p4), .val (.ref b1), .val (.ref b9), .val (.ref b12), .val (.ref b16), .val .null, .val (.int (1 : Int32)), .val .null] [(.ref b9)])) rfl (by rw [hml]; rfl) (rest := []) (lenOf pd0_4 rfl) rfl (hb hby at_168) (W := 0) (by show 2 * 0 + _ ≤ _; exact Nat.le_of_eq rfl) (by decide) (by decide) (by decide) (by decide)
          obtain ⟨rfl, e79, rfl⟩ := hQ79
          have N79 := Fr.app N78 (Fr.nil n0)
          refine own_go (g' := (mkF m 171 #[.val (.int p0), .val (.int p1), .val (.int p2), .val (.int p3), .val (.int p4), .val (.ref b1), .val (.ref b9), .val (.ref b12), .val (.ref b16), .val .null, .val (.int (1 : Int32)), .val .null] [(.int (1 : Int32))])) (st79) ?_
          refine own_go (g' := (mkF m 173 #[.val (.int p0), .val (.int p1), .val (.int p2), .val (.int p3), .val (.int p4), .val (.ref b1), .val (.ref b9), .val (.ref b12), .val (.ref b16), .val .null, .val (.int (1 : Int32)), .val .null] [(.int (1 : Int32)), (.int (1 : Int32))])) (fun _ kgo => XS.iload X79.here hx rfl (hb hby at_171) rfl kgo) ?_
          refine own_go (g' := (mkF m 176 #[.val (.int p0), .val (.int p1), .val (.int p2), .val (.int p3), .val (.int p4), .val (.ref b1), .val (.ref b9), .val (.ref b12), .val (.ref b16), .val .null, .val (.int (1 : Int32)), .val .null] [])) (fun _ kgo => XS.icmpNo X79.here hx rfl (hb hby at_173) rfl (teq (by decide)).2 kgo) ?_
          refine own_go (g' := (mkF m 178 #[.val (.int p0), .val (.int p1), .val (.int p2), .val (.int p3), .val (.int p4), .val (.ref b1), .val (.ref b9), .val (.ref b12), .val (.ref b16), .val .null, .val (.int (1 : Int32)), .val .null] [(.ref b12)])) (fun _ kgo => XS.aload X79.here hx rfl (hb hby at_176) rfl rfl kgo) ?_
          have fx81 : Fld Z T73.heap b12 "com/example/restlint/restlint/document/MappingNode" "applied" "Lcom/example/restlint/restlint/document/MappingNode$Applied;" .null := (Fld.keep (Fld.keep (Fld.ext E19 (Fld.ext E16 q14_1)) Kq21 (ninS ne_b12_b16 nin0)) Kq73 (ninS (Ne.symm ne_b9_b12) nin0))
          have fx82 : Exa Z T73.heap b12 "com/example/restlint/restlint/document/MappingNode" := (Exa.keep fx75 Kq73)
          obtain ⟨v80, T80, L80, hQ80, X80, st80⟩ := own_callV X79 hx hZ (y := (⟨"com/example/restlint/restlint/document/MappingNode", "applied", "()Lcom/example/restlint/restlint/document/Node;"⟩ : MethodName)) (z := (⟨"com/example/restlint/restlint/document/MappingNode", "applied", "()Lcom/example/restlint/restlint/document/Node;"⟩ : MethodName)) hown (hw _ (List.mem_of_getElem? (i := 84) rfl)) (hw _ (List.mem_of_getElem? (i := 85) rfl)) (notFace_of_selects (args := #[]) (mvT hZ (hw _ (List.mem_of_getElem? (i := 87) rfl)))) (hw _ (List.mem_of_getElem? (i := 87) rfl)) (hw _ (List.mem_of_getElem? (i := 86) rfl)) (hw _ (List.mem_of_getElem? (i := 35) rfl)) (hw _ (List.mem_of_getElem? (i := 88) rfl)) ⟨by decide, by decide⟩ (a := b12) (argsL := []) (app_n l Z a0 hw b12 T73.heap fx81) e79 fx82 (g := (mkF m 178 #[.val (.int p0), .val (.int p1), .val (.int p2), .val (.int p3), .val (.int p4), .val (.ref b1), .val (.ref b9), .val (.ref b12), .val (.ref b16), .val .null, .val (.int (1 : Int32)), .val .null] [(.ref b12)])) rfl (by rw [hml]; rfl) (rest := []) (lenOf pd0_3 rfl) rfl (hb hby at_178) (W := 0) (by show 2 * 0 + _ ≤ _; exact Nat.le_of_eq rfl) (by decide) (by decide) (by decide) (by decide)
          obtain ⟨rfl, e80, rfl⟩ := hQ80
          have N80 := Fr.app N79 (Fr.nil n0)
          refine own_go (g' := (mkF m 181 #[.val (.int p0), .val (.int p1), .val (.int p2), .val (.int p3), .val (.int p4), .val (.ref b1), .val (.ref b9), .val (.ref b12), .val (.ref b16), .val .null, .val (.int (1 : Int32)), .val .null] [.null])) (st80) ?_
          refine own_go (g' := (mkF m 184 #[.val (.int p0), .val (.int p1), .val (.int p2), .val (.int p3), .val (.int p4), .val (.ref b1), .val (.ref b9), .val (.ref b12), .val (.ref b16), .val .null, .val (.int (1 : Int32)), .val .null] [])) (fun _ kgo => XS.ifnonnullNo X80.here hx rfl (hb hby at_181) rfl kgo) ?_
          refine own_go (g' := (mkF m 185 #[.val (.int p0), .val (.int p1), .val (.int p2), .val (.int p3), .val (.int p4), .val (.ref b1), .val (.ref b9), .val (.ref b12), .val (.ref b16), .val .null, .val (.int (1 : Int32)), .val .null] [(.int (1 : Int32))])) (fun _ kgo => XS.iconst X80.here hx rfl (hb hby at_184) kgo) ?_
          refine own_go (g' := (mkF m 189 #[.val (.int p0), .val (.int p1), .val (.int p2), .val (.int p3), .val (.int p4), .val (.ref b1), .val (.ref b9), .val (.ref b12), .val (.ref b16), .val .null, .val (.int (1 : Int32)), .val .null] [(.int (1 : Int32))])) (fun _ kgo => XS.goto X80.here hx rfl (pc0 := 185) (pc' := 189) rfl (hb hby at_185) (by decide) (by decide) kgo) ?_
          refine own_retNW X80 hx hS19 e80 hk73 .boolean Bd.returns Bd.notSynchronized (by simp) (hb hby at_189) (by decide) (by decide) ?_
          show QQ _ T80.heap _
          rw [e80]
          rw [← hQQ]
          exact ⟨rfl, N80⟩
        ·
          refine own_go (g' := (mkF m 130 #[.val (.int p0), .val (.int p1), .val (.int p2), .val (.int p3), .val (.int p4), .val (.ref b1), .val (.ref b9), .val (.ref b12), .val (.ref b16), .val .null, .val (.int (1 : Int32)), .val .null] [])) (fun _ kgo => XS.ifNo X76.here hx rfl (hb hby at_127) rfl ((if0 _ _).trans (feq hc77).1) kgo) ?_
          refine own_go (g' := (mkF m 131 #[.val (.int p0), .val (.int p1), .val (.int p2), .val (.int p3), .val (.int p4), .val (.ref b1), .val (.ref b9), .val (.ref b12), .val (.ref b16), .val .null, .val (.int (1 : Int32)), .val .null] [(.int p1)])) (fun _ kgo => XS.iloadN X76.here hx rfl (hb hby at_130) rfl kgo) ?_
          refine own_go (g' := (mkF m 133 #[.val (.int p0), .val (.int p1), .val (.int p2), .val (.int p3), .val (.int p4), .val (.ref b1), .val (.ref b9), .val (.ref b12), .val (.ref b16), .val .null, .val (.int (1 : Int32)), .val .null] [(.ref b16), (.int p1)])) (fun _ kgo => XS.aload X76.here hx rfl (hb hby at_131) rfl rfl kgo) ?_
          refine own_go (g' := (mkF m 135 #[.val (.int p0), .val (.int p1), .val (.int p2), .val (.int p3), .val (.int p4), .val (.ref b1), .val (.ref b9), .val (.ref b12), .val (.ref b16), .val .null, .val (.int (1 : Int32)), .val .null] [(.ref b12), (.ref b16), (.int p1)])) (fun _ kgo => XS.aload X76.here hx rfl (hb hby at_133) rfl rfl kgo) ?_
          refine own_go (g' := (mkF m 137 #[.val (.int p0), .val (.int p1), .val (.int p2), .val (.int p3), .val (.int p4), .val (.ref b1), .val (.ref b9), .val (.ref b12), .val (.ref b16), .val .null, .val (.int (1 : Int32)), .val .null] [(.ref b9), (.ref b12), (.ref b16), (.int p1)])) (fun _ kgo => XS.aload X76.here hx rfl (hb hby at_135) rfl rfl kgo) ?_
          rcases own_k4 p1 with hk_p1 | hk_p1 | hk_p1 | hk_p1
          ·
            obtain ⟨v83, T83, L83, hQ83, X83, st83⟩ := own_callS X76 hx hZ (y := (⟨"com/example/restlint/restlint/document/MappingNodeAppliedPinLaw", "pick", "(ILcom/example/restlint/restlint/document/Node;Lcom/example/restlint/restlint/document/Node;Lcom/example/restlint/restlint/document/Node;)Lcom/example/restlint/restlint/document/Node;"⟩ : MethodName)) hown (hw _ (List.mem_of_getElem? (i := 91) rfl)) (hw _ (List.mem_of_getElem? (i := 92) rfl)) (hw _ (List.mem_of_getElem? (i := 93) rfl)) (hw _ (List.mem_of_getElem? (i := 94) rfl)) ⟨by decide, by decide⟩ (argsL := [(.int p1), (.ref b16), (.ref b12), (.ref b9)]) (pick0 l Z a0 hw p1 b16 b12 b9 T73.heap hk_p1) e76 (g := (mkF m 137 #[.val (.int p0), .val (.int p1), .val (.int p2), .val (.int p3), .val (.int p4), .val (.ref b1), .val (.ref b9), .val (.ref b12), .val (.ref b16), .val .null, .val (.int (1 : Int32)), .val .null] [(.ref b9), (.ref b12), (.ref b16), (.int p1)])) rfl (by rw [hml]; rfl) (rest := []) (lenOf pd0_5 rfl) rfl (hb hby at_137) (W := 0) (by show 2 * 0 + _ ≤ _; exact Nat.le_of_eq rfl) (by decide) (by decide) (by decide) (by decide)
            obtain ⟨rfl, e83, rfl⟩ := hQ83
            have N83 := Fr.app N76 (Fr.nil n0)
            refine own_go (g' := (mkF m 140 #[.val (.int p0), .val (.int p1), .val (.int p2), .val (.int p3), .val (.int p4), .val (.ref b1), .val (.ref b9), .val (.ref b12), .val (.ref b16), .val .null, .val (.int (1 : Int32)), .val .null] [.null])) (st83) ?_
            refine own_go (g' := (mkF m 142 #[.val (.int p0), .val (.int p1), .val (.int p2), .val (.int p3), .val (.int p4), .val (.ref b1), .val (.ref b9), .val (.ref b12), .val (.ref b16), .val .null, .val (.int (1 : Int32)), .val .null] [])) (fun _ kgo => XS.astore X83.here hx rfl (hb hby at_140) rfl rfl (l' := #[.val (.int p0), .val (.int p1), .val (.int p2), .val (.int p3), .val (.int p4), .val (.ref b1), .val (.ref b9), .val (.ref b12), .val (.ref b16), .val .null, .val (.int (1 : Int32)), .val .null]) rfl kgo) ?_
            refine own_go (g' := (mkF m 144 #[.val (.int p0), .val (.int p1), .val (.int p2), .val (.int p3), .val (.int p4), .val (.ref b1), .val (.ref b9), .val (.ref b12), .val (.ref b16), .val .null, .val (.int (1 : Int32)), .val .null] [(.ref b9)])) (fun _ kgo => XS.aload X83.here hx rfl (hb hby at_142) rfl rfl kgo) ?_
            refine own_go (g' := (mkF m 146 #[.val (.int p0), .val (.int p1), .val (.int p2), .val (.int p3), .val (.int p4), .val (.ref b1), .val (.ref b9), .val (.ref b12), .val (.ref b16), .val .null, .val (.int (1 : Int32)), .val .null] [.null, (.ref b9)])) (fun _ kgo => XS.aload X83.here hx rfl (hb hby at_144) rfl rfl kgo) ?_
            obtain ⟨v84, T84, L84, hQ84, X84, st84⟩ := own_callV X83 hx hZ (y := (⟨"com/example/restlint/restlint/document/MappingNode", "applyReference", "(Lcom/example/restlint/restlint/document/Node;)V"⟩ : MethodName)) (z := (⟨"com/example/restlint/restlint/document/MappingNode", "applyReference", "(Lcom/example/restlint/restlint/document/Node;)V"⟩ : MethodName)) hown (hw _ (List.mem_of_getElem? (i := 95) rfl)) (hw _ (List.mem_of_getElem? (i := 96) rfl)) (notFace_of_selects (args := #[]) (mvT hZ (hw _ (List.mem_of_getElem? (i := 98) rfl)))) (hw _ (List.mem_of_getElem? (i := 98) rfl)) (hw _ (List.mem_of_getElem? (i := 97) rfl)) (hw _ (List.mem_of_getElem? (i := 35) rfl)) (hw _ (List.mem_of_getElem? (i := 99) rfl)) ⟨by decide, by decide⟩ (a := b9) (argsL := [.null]) (apr_nr l Z a0 hw b9 ap73 T73.heap n0 Z73 ge_b9 q73_0 q73_1) e83 q73_0 (g := (mkF m 146 #[.val (.int p0), .val (.int p1), .val (.int p2), .val (.int p3), .val (.int p4), .val (.ref b1), .val (.ref b9), .val (.ref b12), .val (.ref b16), .val .null, .val (.int (1 : Int32)), .val .null] [.null, (.ref b9)])) rfl (by rw [hml]; rfl) (rest := []) (lenOf pd0_6 rfl) rfl (hb hby at_146) (W := 0) (by show 2 * 0 + _ ≤ _; exact Nat.le_of_eq rfl) (by decide) (by decide) (by decide) (by decide)
            obtain ⟨ap84, rfl, Nq84, Kq84, pr84_0, q84_0, q84_1, q84_2⟩ := hQ84
            have fx85 : Exa Z T73.heap b1 "com/example/restlint/restlint/document/Location" := (Exa.keep fx74 Kq73)
            have ne_b1_ap84 : b1 ≠ ap84 := Nat.ne_of_lt (Nat.lt_of_lt_of_le fx85.lt pr84_0)
            have ne_b9_ap84 : b9 ≠ ap84 := Nat.ne_of_lt (Nat.lt_of_lt_of_le q73_0.lt pr84_0)
            have fx86 : Exa Z T73.heap b12 "com/example/restlint/restlint/document/MappingNode" := (Exa.keep fx75 Kq73)
            have ne_b12_ap84 : b12 ≠ ap84 := Nat.ne_of_lt (Nat.lt_of_lt_of_le fx86.lt pr84_0)
            have fx87 : Exa Z T73.heap b16 "com/example/restlint/restlint/document/ScalarNode" := (Exa.keep q21_0 Kq73)
            have ne_b16_ap84 : b16 ≠ ap84 := Nat.ne_of_lt (Nat.lt_of_lt_of_le fx87.lt pr84_0)
            have ne_ap73_ap84 : ap73 ≠ ap84 := Nat.ne_of_lt (Nat.lt_of_lt_of_le q73_2.lt pr84_0)
            have ge_ap84 : n0 ≤ ap84 := Nat.le_trans Z73 pr84_0
            have N84 := Fr.app N83 Nq84
            have hk84 := Nat.le_trans hk73 Kq84.1
            have Z84 : n0 ≤ T84.heap.size := Nat.le_trans Z73 Kq84.1
            refine own_go (g' := (mkF m 149 #[.val (.int p0), .val (.int p1), .val (.int p2), .val (.int p3), .val (.int p4), .val (.ref b1), .val (.ref b9), .val (.ref b12), .val (.ref b16), .val .null, .val (.int (1 : Int32)), .val .null] [])) (st84) ?_
            refine own_go (g' := (mkF m 151 #[.val (.int p0), .val (.int p1), .val (.int p2), .val (.int p3), .val (.int p4), .val (.ref b1), .val (.ref b9), .val (.ref b12), .val (.ref b16), .val .null, .val (.int (1 : Int32)), .val .null] [.null])) (fun _ kgo => XS.aload X84.here hx rfl (hb hby at_149) rfl rfl kgo) ?_
            refine own_go (g' := (mkF m 153 #[.val (.int p0), .val (.int p1), .val (.int p2), .val (.int p3), .val (.int p4), .val (.ref b1), .val (.ref b9), .val (.ref b12), .val (.ref b16), .val .null, .val (.int (1 : Int32)), .val .null] [])) (fun _ kgo => XS.astore X84.here hx rfl (hb hby at_151) rfl rfl (l' := #[.val (.int p0), .val (.int p1), .val (.int p2), .val (.int p3), .val (.int p4), .val (.ref b1), .val (.ref b9), .val (.ref b12), .val (.ref b16), .val .null, .val (.int (1 : Int32)), .val .null]) rfl kgo) ?_
            refine own_go (g' := (mkF m 154 #[.val (.int p0), .val (.int p1), .val (.int p2), .val (.int p3), .val (.int p4), .val (.ref b1), .val (.ref b9), .val (.ref b12), .val (.ref b16), .val .null, .val (.int (1 : Int32)), .val .null] [(.int (1 : Int32))])) (fun _ kgo => XS.iconst X84.here hx rfl (hb hby at_153) kgo) ?_
            refine own_go (g' := (mkF m 156 #[.val (.int p0), .val (.int p1), .val (.int p2), .val (.int p3), .val (.int p4), .val (.ref b1), .val (.ref b9), .val (.ref b12), .val (.ref b16), .val .null, .val (.int (1 : Int32)), .val .null] [])) (fun _ kgo => XS.istore X84.here hx rfl (hb hby at_154) rfl (l' := #[.val (.int p0), .val (.int p1), .val (.int p2), .val (.int p3), .val (.int p4), .val (.ref b1), .val (.ref b9), .val (.ref b12), .val (.ref b16), .val .null, .val (.int (1 : Int32)), .val .null]) rfl kgo) ?_
            refine own_go (g' := (mkF m 158 #[.val (.int p0), .val (.int p1), .val (.int p2), .val (.int p3), .val (.int p4), .val (.ref b1), .val (.ref b9), .val (.ref b12), .val (.ref b16), .val .null, .val (.int (1 : Int32)), .val .null] [(.ref b9)])) (fun _ kgo => XS.aload X84.here hx rfl (hb hby at_156) rfl rfl kgo) ?_
            obtain ⟨v88, T88, L88, hQ88, X88, st88⟩ := own_callV X84 hx hZ (y := (⟨"com/example/restlint/restlint/document/MappingNode", "applied", "()Lcom/example/restlint/restlint/document/Node;"⟩ : MethodName)) (z := (⟨"com/example/restlint/restlint/document/MappingNode", "applied", "()Lcom/example/restlint/restlint/document/Node;"⟩ : MethodName)) hown (hw _ (List.mem_of_getElem? (i := 84) rfl)) (hw _ (List.mem_of_getElem? (i := 85) rfl)) (notFace_of_selects (args := #[]) (mvT hZ (hw _ (List.mem_of_getElem? (i := 87) rfl)))) (hw _ (List.mem_of_getElem? (i := 87) rfl)) (hw _ (List.mem_of_getElem? (i := 86) rfl)) (hw _ (List.mem_of_getElem? (i := 35) rfl)) (hw _ (List.mem_of_getElem? (i := 88) rfl)) ⟨by decide, by decide⟩ (a := b9) (argsL := []) (app_rn l Z a0 hw b9 ap84 T84.heap q84_1 q84_2) rfl q84_0 (g := (mkF m 158 #[.val (.int p0), .val (.int p1), .val (.int p2), .val (.int p3), .val (.int p4), .val (.ref b1), .val (.ref b9), .val (.ref b12), .val (.ref b16), .val .null, .val (.int (1 : Int32)), .val .null] [(.ref b9)])) rfl (by rw [hml]; rfl) (rest := []) (lenOf pd0_3 rfl) rfl (hb hby at_158) (W := 0) (by show 2 * 0 + _ ≤ _; exact Nat.le_of_eq rfl) (by decide) (by decide) (by decide) (by decide)
            obtain ⟨rfl, e88, rfl⟩ := hQ88
            have N88 := Fr.app N84 (Fr.nil n0)
            refine own_go (g' := (mkF m 161 #[.val (.int p0), .val (.int p1), .val (.int p2), .val (.int p3), .val (.int p4), .val (.ref b1), .val (.ref b9), .val (.ref b12), .val (.ref b16), .val .null, .val (.int (1 : Int32)), .val .null] [.null])) (st88) ?_
            refine own_go (g' := (mkF m 163 #[.val (.int p0), .val (.int p1), .val (.int p2), .val (.int p3), .val (.int p4), .val (.ref b1), .val (.ref b9), .val (.ref b12), .val (.ref b16), .val .null, .val (.int (1 : Int32)), .val .null] [.null, .null])) (fun _ kgo => XS.aload X88.here hx rfl (hb hby at_161) rfl rfl kgo) ?_
            refine own_go (g' := (mkF m 166 #[.val (.int p0), .val (.int p1), .val (.int p2), .val (.int p3), .val (.int p4), .val (.ref b1), .val (.ref b9), .val (.ref b12), .val (.ref b16), .val .null, .val (.int (1 : Int32)), .val .null] [])) (fun _ kgo => Jvm.RoadKit.acmp (g := (mkF m 163 #[.val (.int p0), .val (.int p1), .val (.int p2), .val (.int p3), .val (.int p4), .val (.ref b1), .val (.ref b9), .val (.ref b12), .val (.ref b16), .val .null, .val (.int (1 : Int32)), .val .null] [.null, .null])) X88 hx rfl rfl rfl (pc0 := 163) (pc' := 166) (same := true) rfl (hb hby at_163) rfl (decide_eq_true rfl) (by decide) (by decide) kgo) ?_
            refine own_go (g' := (mkF m 168 #[.val (.int p0), .val (.int p1), .val (.int p2), .val (.int p3), .val (.int p4), .val (.ref b1), .val (.ref b9), .val (.ref b12), .val (.ref b16), .val .null, .val (.int (1 : Int32)), .val .null] [(.ref b9)])) (fun _ kgo => XS.aload X88.here hx rfl (hb hby at_166) rfl rfl kgo) ?_
            obtain ⟨v89, T89, L89, hQ89, X89, st89⟩ := own_callV X88 hx hZ (y := (⟨"com/example/restlint/restlint/document/MappingNode", "appliesReference", "()Z"⟩ : MethodName)) (z := (⟨"com/example/restlint/restlint/document/MappingNode", "appliesReference", "()Z"⟩ : MethodName)) hown (hw _ (List.mem_of_getElem? (i := 128) rfl)) (hw _ (List.mem_of_getElem? (i := 129) rfl)) (notFace_of_selects (args := #[]) (mvT hZ (hw _ (List.mem_of_getElem? (i := 131) rfl)))) (hw _ (List.mem_of_getElem? (i := 131) rfl)) (hw _ (List.mem_of_getElem? (i := 130) rfl)) (hw _ (List.mem_of_getElem? (i := 35) rfl)) (hw _ (List.mem_of_getElem? (i := 132) rfl)) ⟨by decide, by decide⟩ (a := b9) (argsL := []) (apl_r l Z a0 hw b9 ap84 T84.heap q84_1) e88 q84_0 (g := (mkF m 168 #[.val (.int p0), .val (.int p1), .val (.int p2), .val (.int p3), .val (.int p4), .val (.ref b1), .val (.ref b9), .val (.ref b12), .val (.ref b16), .val .null, .val (.int (1 : Int32)), .val .null] [(.ref b9)])) rfl (by rw [hml]; rfl) (rest := []) (lenOf pd0_4 rfl) rfl (hb hby at_168) (W := 0) (by show 2 * 0 + _ ≤ _; exact Nat.le_of_eq rfl) (by decide) (by decide) (by decide) (by decide)
            obtain ⟨rfl, e89, rfl⟩ := hQ89
            have N89 := Fr.app N88 (Fr.nil n0)
            refine own_go (g' := (mkF m 171 #[.val (.int p0), .val (.int p1), .val (.int p2), .val (.int p3), .val (.int p4), .val (.ref b1), .val (.ref b9), .val (.ref b12), .val (.ref b16), .val .null, .val (.int (1 : Int32)), .val .null] [(.int (1 : Int32))])) (st89) ?_
            refine own_go (g' := (mkF m 173 #[.val (.int p0), .val (.int p1), .val (.int p2), .val (.int p3), .val (.int p4), .val (.ref b1), .val (.ref b9), .val (.ref b12), .val (.ref b16), .val .null, .val (.int (1 : Int32)), .val .null] [(.int (1 : Int32)), (.int (1 : Int32))])) (fun _ kgo => XS.iload X89.here hx rfl (hb hby at_171) rfl kgo) ?_
            refine own_go (g' := (mkF m 176 #[.val (.int p0), .val (.int p1), .val (.int p2), .val (.int p3), .val (.int p4), .val (.ref b1), .val (.ref b9), .val (.ref b12), .val (.ref b16), .val .null, .val (.int (1 : Int32)), .val .null] [])) (fun _ kgo => XS.icmpNo X89.here hx rfl (hb hby at_173) rfl (teq (by decide)).2 kgo) ?_
            refine own_go (g' := (mkF m 178 #[.val (.int p0), .val (.int p1), .val (.int p2), .val (.int p3), .val (.int p4), .val (.ref b1), .val (.ref b9), .val (.ref b12), .val (.ref b16), .val .null, .val (.int (1 : Int32)), .val .null] [(.ref b12)])) (fun _ kgo => XS.aload X89.here hx rfl (hb hby at_176) rfl rfl kgo) ?_
            have fx91 : Fld Z T84.heap b12 "com/example/restlint/restlint/document/MappingNode" "applied" "Lcom/example/restlint/restlint/document/MappingNode$Applied;" .null := (Fld.keep (Fld.keep (Fld.keep (Fld.ext E19 (Fld.ext E16 q14_1)) Kq21 (ninS ne_b12_b16 nin0)) Kq73 (ninS (Ne.symm ne_b9_b12) nin0)) Kq84 (ninS (Ne.symm ne_b9_b12) nin0))
            have fx92 : Exa Z T84.heap b12 "com/example/restlint/restlint/document/MappingNode" := (Exa.keep fx86 Kq84)
            obtain ⟨v90, T90, L90, hQ90, X90, st90⟩ := own_callV X89 hx hZ (y := (⟨"com/example/restlint/restlint/document/MappingNode", "applied", "()Lcom/example/restlint/restlint/document/Node;"⟩ : MethodName)) (z := (⟨"com/example/restlint/restlint/document/MappingNode", "applied", "()Lcom/example/restlint/restlint/document/Node;"⟩ : MethodName)) hown (hw _ (List.mem_of_getElem? (i := 84) rfl)) (hw _ (List.mem_of_getElem? (i := 85) rfl)) (notFace_of_selects (args := #[]) (mvT hZ (hw _ (List.mem_of_getElem? (i := 87) rfl)))) (hw _ (List.mem_of_getElem? (i := 87) rfl)) (hw _ (List.mem_of_getElem? (i := 86) rfl)) (hw _ (List.mem_of_getElem? (i := 35) rfl)) (hw _ (List.mem_of_getElem? (i := 88) rfl)) ⟨by decide, by decide⟩ (a := b12) (argsL := []) (app_n l Z a0 hw b12 T84.heap fx91) e89 fx92 (g := (mkF m 178 #[.val (.int p0), .val (.int p1), .val (.int p2), .val (.int p3), .val (.int p4), .val (.ref b1), .val (.ref b9), .val (.ref b12), .val (.ref b16), .val .null, .val (.int (1 : Int32)), .val .null] [(.ref b12)])) rfl (by rw [hml]; rfl) (rest := []) (lenOf pd0_3 rfl) rfl (hb hby at_178) (W := 0) (by show 2 * 0 + _ ≤ _; exact Nat.le_of_eq rfl) (by decide) (by decide) (by decide) (by decide)
            obtain ⟨rfl, e90, rfl⟩ := hQ90
            have N90 := Fr.app N89 (Fr.nil n0)
            refine own_go (g' := (mkF m 181 #[.val (.int p0), .val (.int p1), .val (.int p2), .val (.int p3), .val (.int p4), .val (.ref b1), .val (.ref b9), .val (.ref b12), .val (.ref b16), .val .null, .val (.int (1 : Int32)), .val .null] [.null])) (st90) ?_
            refine own_go (g' := (mkF m 184 #[.val (.int p0), .val (.int p1), .val (.int p2), .val (.int p3), .val (.int p4), .val (.ref b1), .val (.ref b9), .val (.ref b12), .val (.ref b16), .val .null, .val (.int (1 : Int32)), .val .null] [])) (fun _ kgo => XS.ifnonnullNo X90.here hx rfl (hb hby at_181) rfl kgo) ?_
            refine own_go (g' := (mkF m 185 #[.val (.int p0), .val (.int p1), .val (.int p2), .val (.int p3), .val (.int p4), .val (.ref b1), .val (.ref b9), .val (.ref b12), .val (.ref b16), .val .null, .val (.int (1 : Int32)), .val .null] [(.int (1 : Int32))])) (fun _ kgo => XS.iconst X90.here hx rfl (hb hby at_184) kgo) ?_
            refine own_go (g' := (mkF m 189 #[.val (.int p0), .val (.int p1), .val (.int p2), .val (.int p3), .val (.int p4), .val (.ref b1), .val (.ref b9), .val (.ref b12), .val (.ref b16), .val .null, .val (.int (1 : Int32)), .val .null] [(.int (1 : Int32))])) (fun _ kgo => XS.goto X90.here hx rfl (pc0 := 185) (pc' := 189) rfl (hb hby at_185) (by decide) (by decide) kgo) ?_
            refine own_retNW X90 hx hS19 e90 hk84 .boolean Bd.returns Bd.notSynchronized (by simp) (hb hby at_189) (by decide) (by decide) ?_
            show QQ _ T90.heap _
            rw [e90]
            rw [← hQQ]
            exact ⟨rfl, N90⟩
          ·
            obtain ⟨v93, T93, L93, hQ93, X93, st93⟩ := own_callS X76 hx hZ (y := (⟨"com/example/restlint/restlint/document/MappingNodeAppliedPinLaw", "pick", "(ILcom/example/restlint/restlint/document/Node;Lcom/example/restlint/restlint/document/Node;Lcom/example/restlint/restlint/document/Node;)Lcom/example/restlint/restlint/document/Node;"⟩ : MethodName)) hown (hw _ (List.mem_of_getElem? (i := 91) rfl)) (hw _ (List.mem_of_getElem? (i := 92) rfl)) (hw _ (List.mem_of_getElem? (i := 93) rfl)) (hw _ (List.mem_of_getElem? (i := 94) rfl)) ⟨by decide, by decide⟩ (argsL := [(.int p1), (.ref b16), (.ref b12), (.ref b9)]) (pick1 l Z a0 hw p1 b16 b12 b9 T73.heap hk_p1) e76 (g := (mkF m 137 #[.val (.int p0), .val (.int p1), .val (.int p2), .val (.int p3), .val (.int p4), .val (.ref b1), .val (.ref b9), .val (.ref b12), .val (.ref b16), .val .null, .val (.int (1 : Int32)), .val .null] [(.ref b9), (.ref b12), (.ref b16), (.int p1)])) rfl (by rw [hml]; rfl) (rest := []) (lenOf pd0_5 rfl) rfl (hb hby at_137) (W := 0) (by show 2 * 0 + _ ≤ _; exact Nat.le_of_eq rfl) (by decide) (by decide) (by decide) (by decide)
            obtain ⟨rfl, e93, rfl⟩ := hQ93
            have N93 := Fr.app N76 (Fr.nil n0)
            refine own_go (g' := (mkF m 140 #[.val (.int p0), .val (.int p1), .val (.int p2), .val (.int p3), .val (.int p4), .val (.ref b1), .val (.ref b9), .val (.ref b12), .val (.ref b16), .val .null, .val (.int (1 : Int32)), .val .null] [(.ref b16)])) (st93) ?_
            refine own_go (g' := (mkF m 142 #[.val (.int p0), .val (.int p1), .val (.int p2), .val (.int p3), .val (.int p4), .val (.ref b1), .val (.ref b9), .val (.ref b12), .val (.ref b16), .val .null, .val (.int (1 : Int32)), .val (.ref b16)] [])) (fun _ kgo => XS.astore X93.here hx rfl (hb hby at_140) rfl rfl (l' := #[.val (.int p0), .val (.int p1), .val (.int p2), .val (.int p3), .val (.int p4), .val (.ref b1), .val (.ref b9), .val (.ref b12), .val (.ref b16), .val .null, .val (.int (1 : Int32)), .val (.ref b16)]) rfl kgo) ?_
            refine own_go (g' := (mkF m 144 #[.val (.int p0), .val (.int p1), .val (.int p2), .val (.int p3), .val (.int p4), .val (.ref b1), .val (.ref b9), .val (.ref b12), .val (.ref b16), .val .null, .val (.int (1 : Int32)), .val (.ref b16)] [(.ref b9)])) (fun _ kgo => XS.aload X93.here hx rfl (hb hby at_142) rfl rfl kgo) ?_
            refine own_go (g' := (mkF m 146 #[.val (.int p0), .val (.int p1), .val (.int p2), .val (.int p3), .val (.int p4), .val (.ref b1), .val (.ref b9), .val (.ref b12), .val (.ref b16), .val .null, .val (.int (1 : Int32)), .val (.ref b16)] [(.ref b16), (.ref b9)])) (fun _ kgo => XS.aload X93.here hx rfl (hb hby at_144) rfl rfl kgo) ?_
            obtain ⟨v94, T94, L94, hQ94, X94, st94⟩ := own_callV X93 hx hZ (y := (⟨"com/example/restlint/restlint/document/MappingNode", "applyReference", "(Lcom/example/restlint/restlint/document/Node;)V"⟩ : MethodName)) (z := (⟨"com/example/restlint/restlint/document/MappingNode", "applyReference", "(Lcom/example/restlint/restlint/document/Node;)V"⟩ : MethodName)) hown (hw _ (List.mem_of_getElem? (i := 95) rfl)) (hw _ (List.mem_of_getElem? (i := 96) rfl)) (notFace_of_selects (args := #[]) (mvT hZ (hw _ (List.mem_of_getElem? (i := 98) rfl)))) (hw _ (List.mem_of_getElem? (i := 98) rfl)) (hw _ (List.mem_of_getElem? (i := 97) rfl)) (hw _ (List.mem_of_getElem? (i := 35) rfl)) (hw _ (List.mem_of_getElem? (i := 99) rfl)) ⟨by decide, by decide⟩ (a := b9) (argsL := [(.ref b16)]) (apr_rr l Z a0 hw b9 b16 ap73 T73.heap n0 Z73 ge_b9 q73_0 q73_1) e93 q73_0 (g := (mkF m 146 #[.val (.int p0), .val (.int p1), .val (.int p2), .val (.int p3), .val (.int p4), .val (.ref b1), .val (.ref b9), .val (.ref b12), .val (.ref b16), .val .null, .val (.int (1 : Int32)), .val (.ref b16)] [(.ref b16), (.ref b9)])) rfl (by rw [hml]; rfl) (rest := []) (lenOf pd0_6 rfl) rfl (hb hby at_146) (W := 0) (by show 2 * 0 + _ ≤ _; exact Nat.le_of_eq rfl) (by decide) (by decide) (by decide) (by decide)
            obtain ⟨ap94, rfl, Nq94, Kq94, pr94_0, q94_0, q94_1, q94_2⟩ := hQ94
            have fx95 : Exa Z T73.heap b1 "com/example/restlint/restlint/document/Location" := (Exa.keep fx74 Kq73)
            have ne_b1_ap94 : b1 ≠ ap94 := Nat.ne_of_lt (Nat.lt_of_lt_of_le fx95.lt pr94_0)
            have ne_b9_ap94 : b9 ≠ ap94 := Nat.ne_of_lt (Nat.lt_of_lt_of_le q73_0.lt pr94_0)
            have fx96 : Exa Z T73.heap b12 "com/example/restlint/restlint/document/MappingNode" := (Exa.keep fx75 Kq73)
            have ne_b12_ap94 : b12 ≠ ap94 := Nat.ne_of_lt (Nat.lt_of_lt_of_le fx96.lt pr94_0)
            have fx97 : Exa Z T73.heap b16 "com/example/restlint/restlint/document/ScalarNode" := (Exa.keep q21_0 Kq73)
            have ne_b16_ap94 : b16 ≠ ap94 := Nat.ne_of_lt (Nat.lt_of_lt_of_le fx97.lt pr94_0)
            have ne_ap73_ap94 : ap73 ≠ ap94 := Nat.ne_of_lt (Nat.lt_of_lt_of_le q73_2.lt pr94_0)
            have ge_ap94 : n0 ≤ ap94 := Nat.le_trans Z73 pr94_0
            have N94 := Fr.app N93 Nq94
            have hk94 := Nat.le_trans hk73 Kq94.1
            have Z94 : n0 ≤ T94.heap.size := Nat.le_trans Z73 Kq94.1
            refine own_go (g' := (mkF m 149 #[.val (.int p0), .val (.int p1), .val (.int p2), .val (.int p3), .val (.int p4), .val (.ref b1), .val (.ref b9), .val (.ref b12), .val (.ref b16), .val .null, .val (.int (1 : Int32)), .val (.ref b16)] [])) (st94) ?_
            refine own_go (g' := (mkF m 151 #[.val (.int p0), .val (.int p1), .val (.int p2), .val (.int p3), .val (.int p4), .val (.ref b1), .val (.ref b9), .val (.ref b12), .val (.ref b16), .val .null, .val (.int (1 : Int32)), .val (.ref b16)] [(.ref b16)])) (fun _ kgo => XS.aload X94.here hx rfl (hb hby at_149) rfl rfl kgo) ?_
            refine own_go (g' := (mkF m 153 #[.val (.int p0), .val (.int p1), .val (.int p2), .val (.int p3), .val (.int p4), .val (.ref b1), .val (.ref b9), .val (.ref b12), .val (.ref b16), .val (.ref b16), .val (.int (1 : Int32)), .val (.ref b16)] [])) (fun _ kgo => XS.astore X94.here hx rfl (hb hby at_151) rfl rfl (l' := #[.val (.int p0), .val (.int p1), .val (.int p2), .val (.int p3), .val (.int p4), .val (.ref b1), .val (.ref b9), .val (.ref b12), .val (.ref b16), .val (.ref b16), .val (.int (1 : Int32)), .val (.ref b16)]) rfl kgo) ?_
            refine own_go (g' := (mkF m 154 #[.val (.int p0), .val (.int p1), .val (.int p2), .val (.int p3), .val (.int p4), .val (.ref b1), .val (.ref b9), .val (.ref b12), .val (.ref b16), .val (.ref b16), .val (.int (1 : Int32)), .val (.ref b16)] [(.int (1 : Int32))])) (fun _ kgo => XS.iconst X94.here hx rfl (hb hby at_153) kgo) ?_
            refine own_go (g' := (mkF m 156 #[.val (.int p0), .val (.int p1), .val (.int p2), .val (.int p3), .val (.int p4), .val (.ref b1), .val (.ref b9), .val (.ref b12), .val (.ref b16), .val (.ref b16), .val (.int (1 : Int32)), .val (.ref b16)] [])) (fun _ kgo => XS.istore X94.here hx rfl (hb hby at_154) rfl (l' := #[.val (.int p0), .val (.int p1), .val (.int p2), .val (.int p3), .val (.int p4), .val (.ref b1), .val (.ref b9), .val (.ref b12), .val (.ref b16), .val (.ref b16), .val (.int (1 : Int32)), .val (.ref b16)]) rfl kgo) ?_
            refine own_go (g' := (mkF m 158 #[.val (.int p0), .val (.int p1), .val (.int p2), .val (.int p3), .val (.int p4), .val (.ref b1), .val (.ref b9), .val (.ref b12), .val (.ref b16), .val (.ref b16), .val (.int (1 : Int32)), .val (.ref b16)] [(.ref b9)])) (fun _ kgo => XS.aload X94.here hx rfl (hb hby at_156) rfl rfl kgo) ?_
            obtain ⟨v98, T98, L98, hQ98, X98, st98⟩ := own_callV X94 hx hZ (y := (⟨"com/example/restlint/restlint/document/MappingNode", "applied", "()Lcom/example/restlint/restlint/document/Node;"⟩ : MethodName)) (z := (⟨"com/example/restlint/restlint/document/MappingNode", "applied", "()Lcom/example/restlint/restlint/document/Node;"⟩ : MethodName)) hown (hw _ (List.mem_of_getElem? (i := 84) rfl)) (hw _ (List.mem_of_getElem? (i := 85) rfl)) (notFace_of_selects (args := #[]) (mvT hZ (hw _ (List.mem_of_getElem? (i := 87) rfl)))) (hw _ (List.mem_of_getElem? (i := 87) rfl)) (hw _ (List.mem_of_getElem? (i := 86) rfl)) (hw _ (List.mem_of_getElem? (i := 35) rfl)) (hw _ (List.mem_of_getElem? (i := 88) rfl)) ⟨by decide, by decide⟩ (a := b9) (argsL := []) (app_rr l Z a0 hw b9 ap94 b16 T94.heap q94_1 q94_2) rfl q94_0 (g := (mkF m 158 #[.val (.int p0), .val (.int p1), .val (.int p2), .val (.int p3), .val (.int p4), .val (.ref b1), .val (.ref b9), .val (.ref b12), .val (.ref b16), .val (.ref b16), .val (.int (1 : Int32)), .val (.ref b16)] [(.ref b9)])) rfl (by rw [hml]; rfl) (rest := []) (lenOf pd0_3 rfl) rfl (hb hby at_158) (W := 0) (by show 2 * 0 + _ ≤ _; exact Nat.le_of_eq rfl) (by decide) (by decide) (by decide) (by decide)
            obtain ⟨rfl, e98, rfl⟩ := hQ98
            have N98 := Fr.app N94 (Fr.nil n0)
            refine own_go (g' := (mkF m 161 #[.val (.int p0), .val (.int p1), .val (.int p2), .val (.int p3), .val (.int p4), .val (.ref b1), .val (.ref b9), .val (.ref b12), .val (.ref b16), .val (.ref b16), .val (.int (1 : Int32)), .val (.ref b16)] [(.ref b16)])) (st98) ?_
            refine own_go (g' := (mkF m 163 #[.val (.int p0), .val (.int p1), .val (.int p2), .val (.int p3), .val (.int p4), .val (.ref b1), .val (.ref b9), .val (.ref b12), .val (.ref b16), .val (.ref b16), .val (.int (1 : Int32)), .val (.ref b16)] [(.ref b16), (.ref b16)])) (fun _ kgo => XS.aload X98.here hx rfl (hb hby at_161) rfl rfl kgo) ?_
            refine own_go (g' := (mkF m 166 #[.val (.int p0), .val (.int p1), .val (.int p2), .val (.int p3), .val (.int p4), .val (.ref b1), .val (.ref b9), .val (.ref b12), .val (.ref b16), .val (.ref b16), .val (.int (1 : Int32)), .val (.ref b16)] [])) (fun _ kgo => Jvm.RoadKit.acmp (g := (mkF m 163 #[.val (.int p0), .val (.int p1), .val (.int p2), .val (.int p3), .val (.int p4), .val (.ref b1), .val (.ref b9), .val (.ref b12), .val (.ref b16), .val (.ref b16), .val (.int (1 : Int32)), .val (.ref b16)] [(.ref b16), (.ref b16)])) X98 hx rfl rfl rfl (pc0 := 163) (pc' := 166) (same := true) rfl (hb hby at_163) rfl (decide_eq_true rfl) (by decide) (by decide) kgo) ?_
            refine own_go (g' := (mkF m 168 #[.val (.int p0), .val (.int p1), .val (.int p2), .val (.int p3), .val (.int p4), .val (.ref b1), .val (.ref b9), .val (.ref b12), .val (.ref b16), .val (.ref b16), .val (.int (1 : Int32)), .val (.ref b16)] [(.ref b9)])) (fun _ kgo => XS.aload X98.here hx rfl (hb hby at_166) rfl rfl kgo) ?_
            obtain ⟨v99, T99, L99, hQ99, X99, st99⟩ := own_callV X98 hx hZ (y := (⟨"com/example/restlint/restlint/document/MappingNode", "appliesReference", "()Z"⟩ : MethodName)) (z := (⟨"com/example/restlint/restlint/document/MappingNode", "appliesReference", "()Z"⟩ : MethodName)) hown (hw _ (List.mem_of_getElem? (i := 128) rfl)) (hw _ (List.mem_of_getElem? (i := 129) rfl)) (notFace_of_selects (args := #[]) (mvT hZ (hw _ (List.mem_of_getElem? (i := 131) rfl)))) (hw _ (List.mem_of_getElem? (i := 131) rfl)) (hw _ (List.mem_of_getElem? (i := 130) rfl)) (hw _ (List.mem_of_getElem? (i := 35) rfl)) (hw _ (List.mem_of_getElem? (i := 132) rfl)) ⟨by decide, by decide⟩ (a := b9) (argsL := []) (apl_r l Z a0 hw b9 ap94 T94.heap q94_1) e98 q94_0 (g := (mkF m 168 #[.val (.int p0), .val (.int p1), .val (.int p2), .val (.int p3), .val (.int p4), .val (.ref b1), .val (.ref b9), .val (.ref b12), .val (.ref b16), .val (.ref b16), .val (.int (1 : Int32)), .val (.ref b16)] [(.ref b9)])) rfl (by rw [hml]; rfl) (rest := []) (lenOf pd0_4 rfl) rfl (hb hby at_168) (W := 0) (by show 2 * 0 + _ ≤ _; exact Nat.le_of_eq rfl) (by decide) (by decide) (by decide) (by decide)
            obtain ⟨rfl, e99, rfl⟩ := hQ99
            have N99 := Fr.app N98 (Fr.nil n0)
            refine own_go (g' := (mkF m 171 #[.val (.int p0), .val (.int p1), .val (.int p2), .val (.int p3), .val (.int p4), .val (.ref b1), .val (.ref b9), .val (.ref b12), .val (.ref b16), .val (.ref b16), .val (.int (1 : Int32)), .val (.ref b16)] [(.int (1 : Int32))])) (st99) ?_
            refine own_go (g' := (mkF m 173 #[.val (.int p0), .val (.int p1), .val (.int p2), .val (.int p3), .val (.int p4), .val (.ref b1), .val (.ref b9), .val (.ref b12), .val (.ref b16), .val (.ref b16), .val (.int (1 : Int32)), .val (.ref b16)] [(.int (1 : Int32)), (.int (1 : Int32))])) (fun _ kgo => XS.iload X99.here hx rfl (hb hby at_171) rfl kgo) ?_
            refine own_go (g' := (mkF m 176 #[.val (.int p0), .val (.int p1), .val (.int p2), .val (.int p3), .val (.int p4), .val (.ref b1), .val (.ref b9), .val (.ref b12), .val (.ref b16), .val (.ref b16), .val (.int (1 : Int32)), .val (.ref b16)] [])) (fun _ kgo => XS.icmpNo X99.here hx rfl (hb hby at_173) rfl (teq (by decide)).2 kgo) ?_
            refine own_go (g' := (mkF m 178 #[.val (.int p0), .val (.int p1), .val (.int p2), .val (.int p3), .val (.int p4), .val (.ref b1), .val (.ref b9), .val (.ref b12), .val (.ref b16), .val (.ref b16), .val (.int (1 : Int32)), .val (.ref b16)] [(.ref b12)])) (fun _ kgo => XS.aload X99.here hx rfl (hb hby at_176) rfl rfl kgo) ?_
            have fx101 : Fld Z T94.heap b12 "com/example/restlint/restlint/document/MappingNode" "applied" "Lcom/example/restlint/restlint/document/MappingNode$Applied;" .null := (Fld.keep (Fld.keep (Fld.keep (Fld.ext E19 (Fld.ext E16 q14_1)) Kq21 (ninS ne_b12_b16 nin0)) Kq73 (ninS (Ne.symm ne_b9_b12) nin0)) Kq94 (ninS (Ne.symm ne_b9_b12) nin0))
            have fx102 : Exa Z T94.heap b12 "com/example/restlint/restlint/document/MappingNode" := (Exa.keep fx96 Kq94)
            obtain ⟨v100, T100, L100, hQ100, X100, st100⟩ := own_callV X99 hx hZ (y := (⟨"com/example/restlint/restlint/document/MappingNode", "applied", "()Lcom/example/restlint/restlint/document/Node;"⟩ : MethodName)) (z := (⟨"com/example/restlint/restlint/document/MappingNode", "applied", "()Lcom/example/restlint/restlint/document/Node;"⟩ : MethodName)) hown (hw _ (List.mem_of_getElem? (i := 84) rfl)) (hw _ (List.mem_of_getElem? (i := 85) rfl)) (notFace_of_selects (args := #[]) (mvT hZ (hw _ (List.mem_of_getElem? (i := 87) rfl)))) (hw _ (List.mem_of_getElem? (i := 87) rfl)) (hw _ (List.mem_of_getElem? (i := 86) rfl)) (hw _ (List.mem_of_getElem? (i := 35) rfl)) (hw _ (List.mem_of_getElem? (i := 88) rfl)) ⟨by decide, by decide⟩ (a := b12) (argsL := []) (app_n l Z a0 hw b12 T94.heap fx101) e99 fx102 (g := (mkF m 178 #[.val (.int p0), .val (.int p1), .val (.int p2), .val (.int p3), .val (.int p4), .val (.ref b1), .val (.ref b9), .val (.ref b12), .val (.ref b16), .val (.ref b16), .val (.int (1 : Int32)), .val (.ref b16)] [(.ref b12)])) rfl (by rw [hml]; rfl) (rest := []) (lenOf pd0_3 rfl) rfl (hb hby at_178) (W := 0) (by show 2 * 0 + _ ≤ _; exact Nat.le_of_eq rfl) (by decide) (by decide) (by decide) (by decide)
            obtain ⟨rfl, e100, rfl⟩ := hQ100
            have N100 := Fr.app N99 (Fr.nil n0)
            refine own_go (g' := (mkF m 181 #[.val (.int p0), .val (.int p1), .val (.int p2), .val (.int p3), .val (.int p4), .val (.ref b1), .val (.ref b9), .val (.ref b12), .val (.ref b16), .val (.ref b16), .val (.int (1 : Int32)), .val (.ref b16)] [.null])) (st100) ?_
            refine own_go (g' := (mkF m 184 #[.val (.int p0), .val (.int p1), .val (.int p2), .val (.int p3), .val (.int p4), .val (.ref b1), .val (.ref b9), .val (.ref b12), .val (.ref b16), .val (.ref b16), .val (.int (1 : Int32)), .val (.ref b16)] [])) (fun _ kgo => XS.ifnonnullNo X100.here hx rfl (hb hby at_181) rfl kgo) ?_
            refine own_go (g' := (mkF m 185 #[.val (.int p0), .val (.int p1), .val (.int p2), .val (.int p3), .val (.int p4), .val (.ref b1), .val (.ref b9), .val (.ref b12), .val (.ref b16), .val (.ref b16), .val (.int (1 : Int32)), .val (.ref b16)] [(.int (1 : Int32))])) (fun _ kgo => XS.iconst X100.here hx rfl (hb hby at_184) kgo) ?_
            refine own_go (g' := (mkF m 189 #[.val (.int p0), .val (.int p1), .val (.int p2), .val (.int p3), .val (.int p4), .val (.ref b1), .val (.ref b9), .val (.ref b12), .val (.ref b16), .val (.ref b16), .val (.int (1 : Int32)), .val (.ref b16)] [(.int (1 : Int32))])) (fun _ kgo => XS.goto X100.here hx rfl (pc0 := 185) (pc' := 189) rfl (hb hby at_185) (by decide) (by decide) kgo) ?_
            refine own_retNW X100 hx hS19 e100 hk94 .boolean Bd.returns Bd.notSynchronized (by simp) (hb hby at_189) (by decide) (by decide) ?_
            show QQ _ T100.heap _
            rw [e100]
            rw [← hQQ]
            exact ⟨rfl, N100⟩
          ·
            obtain ⟨v103, T103, L103, hQ103, X103, st103⟩ := own_callS X76 hx hZ (y := (⟨"com/example/restlint/restlint/document/MappingNodeAppliedPinLaw", "pick", "(ILcom/example/restlint/restlint/document/Node;Lcom/example/restlint/restlint/document/Node;Lcom/example/restlint/restlint/document/Node;)Lcom/example/restlint/restlint/document/Node;"⟩ : MethodName)) hown (hw _ (List.mem_of_getElem? (i := 91) rfl)) (hw _ (List.mem_of_getElem? (i := 92) rfl)) (hw _ (List.mem_of_getElem? (i := 93) rfl)) (hw _ (List.mem_of_getElem? (i := 94) rfl)) ⟨by decide, by decide⟩ (argsL := [(.int p1), (.ref b16), (.ref b12), (.ref b9)]) (pick2 l Z a0 hw p1 b16 b12 b9 T73.heap hk_p1) e76 (g := (mkF m 137 #[.val (.int p0), .val (.int p1), .val (.int p2), .val (.int p3), .val (.int p4), .val (.ref b1), .val (.ref b9), .val (.ref b12), .val (.ref b16), .val .null, .val (.int (1 : Int32)), .val .null] [(.ref b9), (.ref b12), (.ref b16), (.int p1)])) rfl (by rw [hml]; rfl) (rest := []) (lenOf pd0_5 rfl) rfl (hb hby at_137) (W := 0) (by show 2 * 0 + _ ≤ _; exact Nat.le_of_eq rfl) (by decide) (by decide) (by decide) (by decide)
            obtain ⟨rfl, e103, rfl⟩ := hQ103
            have N103 := Fr.app N76 (Fr.nil n0)
            refine own_go (g' := (mkF m 140 #[.val (.int p0), .val (.int p1), .val (.int p2), .val (.int p3), .val (.int p4), .val (.ref b1), .val (.ref b9), .val (.ref b12), .val (.ref b16), .val .null, .val (.int (1 : Int32)), .val .null] [(.ref b12)])) (st103) ?_
            refine own_go (g' := (mkF m 142 #[.val (.int p0), .val (.int p1), .val (.int p2), .val (.int p3), .val (.int p4), .val (.ref b1), .val (.ref b9), .val (.ref b12), .val (.ref b16), .val .null, .val (.int (1 : Int32)), .val (.ref b12)] [])) (fun _ kgo => XS.astore X103.here hx rfl (hb hby at_140) rfl rfl (l' := #[.val (.int p0), .val (.int p1), .val (.int p2), .val (.int p3), .val (.int p4), .val (.ref b1), .val (.ref b9), .val (.ref b12), .val (.ref b16), .val .null, .val (.int (1 : Int32)), .val (.ref b12)]) rfl kgo) ?_
            refine own_go (g' := (mkF m 144 #[.val (.int p0), .val (.int p1), .val (.int p2), .val (.int p3), .val (.int p4), .val (.ref b1), .val (.ref b9), .val (.ref b12), .val (.ref b16), .val .null, .val (.int (1 : Int32)), .val (.ref b12)] [(.ref b9)])) (fun _ kgo => XS.aload X103.here hx rfl (hb hby at_142) rfl rfl kgo) ?_
            refine own_go (g' := (mkF m 146 #[.val (.int p0), .val (.int p1), .val (.int p2), .val (.int p3), .val (.int p4), .val (.ref b1), .val (.ref b9), .val (.ref b12), .val (.ref b16), .val .null, .val (.int (1 : Int32)), .val (.ref b12)] [(.ref b12), (.ref b9)])) (fun _ kgo => XS.aload X103.here hx rfl (hb hby at_144) rfl rfl kgo) ?_
            obtain ⟨v104, T104, L104, hQ104, X104, st104⟩ := own_callV X103 hx hZ (y := (⟨"com/example/restlint/restlint/document/MappingNode", "applyReference", "(Lcom/example/restlint/restlint/document/Node;)V"⟩ : MethodName)) (z := (⟨"com/example/restlint/restlint/document/MappingNode", "applyReference", "(Lcom/example/restlint/restlint/document/Node;)V"⟩ : MethodName)) hown (hw _ (List.mem_of_getElem? (i := 95) rfl)) (hw _ (List.mem_of_getElem? (i := 96) rfl)) (notFace_of_selects (args := #[]) (mvT hZ (hw _ (List.mem_of_getElem? (i := 98) rfl)))) (hw _ (List.mem_of_getElem? (i := 98) rfl)) (hw _ (List.mem_of_getElem? (i := 97) rfl)) (hw _ (List.mem_of_getElem? (i := 35) rfl)) (hw _ (List.mem_of_getElem? (i := 99) rfl)) ⟨by decide, by decide⟩ (a := b9) (argsL := [(.ref b12)]) (apr_rr l Z a0 hw b9 b12 ap73 T73.heap n0 Z73 ge_b9 q73_0 q73_1) e103 q73_0 (g := (mkF m 146 #[.val (.int p0), .val (.int p1), .val (.int p2), .val (.int p3), .val (.int p4), .val (.ref b1), .val (.ref b9), .val (.ref b12), .val (.ref b16), .val .null, .val (.int (1 : Int32)), .val (.ref b12)] [(.ref b12), (.ref b9)])) rfl (by rw [hml]; rfl) (rest := []) (lenOf pd0_6 rfl) rfl (hb hby at_146) (W := 0) (by show 2 * 0 + _ ≤ _; exact Nat.le_of_eq rfl) (by decide) (by decide) (by decide) (by decide)
            obtain ⟨ap104, rfl, Nq104, Kq104, pr104_0, q104_0, q104_1, q104_2⟩ := hQ104
            have fx105 : Exa Z T73.heap b1 "com/example/restlint/restlint/document/Location" := (Exa.keep fx74 Kq73)
            have ne_b1_ap104 : b1 ≠ ap104 := Nat.ne_of_lt (Nat.lt_of_lt_of_le fx105.lt pr104_0)
            have ne_b9_ap104 : b9 ≠ ap104 := Nat.ne_of_lt (Nat.lt_of_lt_of_le q73_0.lt pr104_0)
            have fx106 : Exa Z T73.heap b12 "com/example/restlint/restlint/document/MappingNode" := (Exa.keep fx75 Kq73)
            have ne_b12_ap104 : b12 ≠ ap104 := Nat.ne_of_lt (Nat.lt_of_lt_of_le fx106.lt pr104_0)
            have fx107 : Exa Z T73.heap b16 "com/example/restlint/restlint/document/ScalarNode" := (Exa.keep q21_0 Kq73)
            have ne_b16_ap104 : b16 ≠ ap104 := Nat.ne_of_lt (Nat.lt_of_lt_of_le fx107.lt pr104_0)
            have ne_ap73_ap104 : ap73 ≠ ap104 := Nat.ne_of_lt (Nat.lt_of_lt_of_le q73_2.lt pr104_0)
            have ge_ap104 : n0 ≤ ap104 := Nat.le_trans Z73 pr104_0
            have N104 := Fr.app N103 Nq104
            have hk104 := Nat.le_trans hk73 Kq104.1
            have Z104 : n0 ≤ T104.heap.size := Nat.le_trans Z73 Kq104.1
            refine own_go (g' := (mkF m 149 #[.val (.int p0), .val (.int p1), .val (.int p2), .val (.int p3), .val (.int p4), .val (.ref b1), .val (.ref b9), .val (.ref b12), .val (.ref b16), .val .null, .val (.int (1 : Int32)), .val (.ref b12)] [])) (st104) ?_
            refine own_go (g' := (mkF m 151 #[.val (.int p0), .val (.int p1), .val (.int p2), .val (.int p3), .val (.int p4), .val (.ref b1), .val (.ref b9), .val (.ref b12), .val (.ref b16), .val .null, .val (.int (1 : Int32)), .val (.ref b12)] [(.ref b12)])) (fun _ kgo => XS.aload X104.here hx rfl (hb hby at_149) rfl rfl kgo) ?_
            refine own_go (g' := (mkF m 153 #[.val (.int p0), .val (.int p1), .val (.int p2), .val (.int p3), .val (.int p4), .val (.ref b1), .val (.ref b9), .val (.ref b12), .val (.ref b16), .val (.ref b12), .val (.int (1 : Int32)), .val (.ref b12)] [])) (fun _ kgo => XS.astore X104.here hx rfl (hb hby at_151) rfl rfl (l' := #[.val (.int p0), .val (.int p1), .val (.int p2), .val (.int p3), .val (.int p4), .val (.ref b1), .val (.ref b9), .val (.ref b12), .val (.ref b16), .val (.ref b12), .val (.int (1 : Int32)), .val (.ref b12)]) rfl kgo) ?_
            refine own_go (g' := (mkF m 154 #[.val (.int p0), .val (.int p1), .val (.int p2), .val (.int p3), .val (.int p4), .val (.ref b1), .val (.ref b9), .val (.ref b12), .val (.ref b16), .val (.ref b12), .val (.int (1 : Int32)), .val (.ref b12)] [(.int (1 : Int32))])) (fun _ kgo => XS.iconst X104.here hx rfl (hb hby at_153) kgo) ?_
            refine own_go (g' := (mkF m 156 #[.val (.int p0), .val (.int p1), .val (.int p2), .val (.int p3), .val (.int p4), .val (.ref b1), .val (.ref b9), .val (.ref b12), .val (.ref b16), .val (.ref b12), .val (.int (1 : Int32)), .val (.ref b12)] [])) (fun _ kgo => XS.istore X104.here hx rfl (hb hby at_154) rfl (l' := #[.val (.int p0), .val (.int p1), .val (.int p2), .val (.int p3), .val (.int p4), .val (.ref b1), .val (.ref b9), .val (.ref b12), .val (.ref b16), .val (.ref b12), .val (.int (1 : Int32)), .val (.ref b12)]) rfl kgo) ?_
            refine own_go (g' := (mkF m 158 #[.val (.int p0), .val (.int p1), .val (.int p2), .val (.int p3), .val (.int p4), .val (.ref b1), .val (.ref b9), .val (.ref b12), .val (.ref b16), .val (.ref b12), .val (.int (1 : Int32)), .val (.ref b12)] [(.ref b9)])) (fun _ kgo => XS.aload X104.here hx rfl (hb hby at_156) rfl rfl kgo) ?_
            obtain ⟨v108, T108, L108, hQ108, X108, st108⟩ := own_callV X104 hx hZ (y := (⟨"com/example/restlint/restlint/document/MappingNode", "applied", "()Lcom/example/restlint/restlint/document/Node;"⟩ : MethodName)) (z := (⟨"com/example/restlint/restlint/document/MappingNode", "applied", "()Lcom/example/restlint/restlint/document/Node;"⟩ : MethodName)) hown (hw _ (List.mem_of_getElem? (i := 84) rfl)) (hw _ (List.mem_of_getElem? (i := 85) rfl)) (notFace_of_selects (args := #[]) (mvT hZ (hw _ (List.mem_of_getElem? (i := 87) rfl)))) (hw _ (List.mem_of_getElem? (i := 87) rfl)) (hw _ (List.mem_of_getElem? (i := 86) rfl)) (hw _ (List.mem_of_getElem? (i := 35) rfl)) (hw _ (List.mem_of_getElem? (i := 88) rfl)) ⟨by decide, by decide⟩ (a := b9) (argsL := []) (app_rr l Z a0 hw b9 ap104 b12 T104.heap q104_1 q104_2) rfl q104_0 (g := (mkF m 158 #[.val (.int p0), .val (.int p1), .val (.int p2), .val (.int p3), .val (.int p4), .val (.ref b1), .val (.ref b9), .val (.ref b12), .val (.ref b16), .val (.ref b12), .val (.int (1 : Int32)), .val (.ref b12)] [(.ref b9)])) rfl (by rw [hml]; rfl) (rest := []) (lenOf pd0_3 rfl) rfl (hb hby at_158) (W := 0) (by show 2 * 0 + _ ≤ _; exact Nat.le_of_eq rfl) (by decide) (by decide) (by decide) (by decide)
            obtain ⟨rfl, e108, rfl⟩ := hQ108
            have N108 := Fr.app N104 (Fr.nil n0)
            refine own_go (g' := (mkF m 161 #[.val (.int p0), .val (.int p1), .val (.int p2), .val (.int p3), .val (.int p4), .val (.ref b1), .val (.ref b9), .val (.ref b12), .val (.ref b16), .val (.ref b12), .val (.int (1 : Int32)), .val (.ref b12)] [(.ref b12)])) (st108) ?_
            refine own_go (g' := (mkF m 163 #[.val (.int p0), .val (.int p1), .val (.int p2), .val (.int p3), .val (.int p4), .val (.ref b1), .val (.ref b9), .val (.ref b12), .val (.ref b16), .val (.ref b12), .val (.int (1 : Int32)), .val (.ref b12)] [(.ref b12), (.ref b12)])) (fun _ kgo => XS.aload X108.here hx rfl (hb hby at_161) rfl rfl kgo) ?_
            refine own_go (g' := (mkF m 166 #[.val (.int p0), .val (.int p1), .val (.int p2), .val (.int p3), .val (.int p4), .val (.ref b1), .val (.ref b9), .val (.ref b12), .val (.ref b16), .val (.ref b12), .val (.int (1 : Int32)), .val (.ref b12)] [])) (fun _ kgo => Jvm.RoadKit.acmp (g := (mkF m 163 #[.val (.int p0), .val (.int p1), .val (.int p2), .val (.int p3), .val (.int p4), .val (.ref b1), .val (.ref b9), .val (.ref b12), .val (.ref b16), .val (.ref b12), .val (.int (1 : Int32)), .val (.ref b12)] [(.ref b12), (.ref b12)])) X108 hx rfl rfl rfl (pc0 := 163) (pc' := 166) (same := true) rfl (hb hby at_163) rfl (decide_eq_true rfl) (by decide) (by decide) kgo) ?_
            refine own_go (g' := (mkF m 168 #[.val (.int p0), .val (.int p1), .val (.int p2), .val (.int p3), .val (.int p4), .val (.ref b1), .val (.ref b9), .val (.ref b12), .val (.ref b16), .val (.ref b12), .val (.int (1 : Int32)), .val (.ref b12)] [(.ref b9)])) (fun _ kgo => XS.aload X108.here hx rfl (hb hby at_166) rfl rfl kgo) ?_
            obtain ⟨v109, T109, L109, hQ109, X109, st109⟩ := own_callV X108 hx hZ (y := (⟨"com/example/restlint/restlint/document/MappingNode", "appliesReference", "()Z"⟩ : MethodName)) (z := (⟨"com/example/restlint/restlint/document/MappingNode", "appliesReference", "()Z"⟩ : MethodName)) hown (hw _ (List.mem_of_getElem? (i := 128) rfl)) (hw _ (List.mem_of_getElem? (i := 129) rfl)) (notFace_of_selects (args := #[]) (mvT hZ (hw _ (List.mem_of_getElem? (i := 131) rfl)))) (hw _ (List.mem_of_getElem? (i := 131) rfl)) (hw _ (List.mem_of_getElem? (i := 130) rfl)) (hw _ (List.mem_of_getElem? (i := 35) rfl)) (hw _ (List.mem_of_getElem? (i := 132) rfl)) ⟨by decide, by decide⟩ (a := b9) (argsL := []) (apl_r l Z a0 hw b9 ap104 T104.heap q104_1) e108 q104_0 (g := (mkF m 168 #[.val (.int p0), .val (.int p1), .val (.int p2), .val (.int p3), .val (.int p4), .val (.ref b1), .val (.ref b9), .val (.ref b12), .val (.ref b16), .val (.ref b12), .val (.int (1 : Int32)), .val (.ref b12)] [(.ref b9)])) rfl (by rw [hml]; rfl) (rest := []) (lenOf pd0_4 rfl) rfl (hb hby at_168) (W := 0) (by show 2 * 0 + _ ≤ _; exact Nat.le_of_eq rfl) (by decide) (by decide) (by decide) (by decide)
            obtain ⟨rfl, e109, rfl⟩ := hQ109
            have N109 := Fr.app N108 (Fr.nil n0)
            refine own_go (g' := (mkF m 171 #[.val (.int p0), .val (.int p1), .val (.int p2), .val (.int p3), .val (.int p4), .val (.ref b1), .val (.ref b9), .val (.ref b12), .val (.ref b16), .val (.ref b12), .val (.int (1 : Int32)), .val (.ref b12)] [(.int (1 : Int32))])) (st109) ?_
            refine own_go (g' := (mkF m 173 #[.val (.int p0), .val (.int p1), .val (.int p2), .val (.int p3), .val (.int p4), .val (.ref b1), .val (.ref b9), .val (.ref b12), .val (.ref b16), .val (.ref b12), .val (.int (1 : Int32)), .val (.ref b12)] [(.int (1 : Int32)), (.int (1 : Int32))])) (fun _ kgo => XS.iload X109.here hx rfl (hb hby at_171) rfl kgo) ?_
            refine own_go (g' := (mkF m 176 #[.val (.int p0), .val (.int p1), .val (.int p2), .val (.int p3), .val (.int p4), .val (.ref b1), .val (.ref b9), .val (.ref b12), .val (.ref b16), .val (.ref b12), .val (.int (1 : Int32)), .val (.ref b12)] [])) (fun _ kgo => XS.icmpNo X109.here hx rfl (hb hby at_173) rfl (teq (by decide)).2 kgo) ?_
            refine own_go (g' := (mkF m 178 #[.val (.int p0), .val (.int p1), .val (.int p2), .val (.int p3), .val (.int p4), .val (.ref b1), .val (.ref b9), .val (.ref b12), .val (.ref b16), .val (.ref b12), .val (.int (1 : Int32)), .val (.ref b12)] [(.ref b12)])) (fun _ kgo => XS.aload X109.here hx rfl (hb hby at_176) rfl rfl kgo) ?_
            have fx111 : Fld Z T104.heap b12 "com/example/restlint/restlint/document/MappingNode" "applied" "Lcom/example/restlint/restlint/document/MappingNode$Applied;" .null := (Fld.keep (Fld.keep (Fld.keep (Fld.ext E19 (Fld.ext E16 q14_1)) Kq21 (ninS ne_b12_b16 nin0)) Kq73 (ninS (Ne.symm ne_b9_b12) nin0)) Kq104 (ninS (Ne.symm ne_b9_b12) nin0))
            have fx112 : Exa Z T104.heap b12 "com/example/restlint/restlint/document/MappingNode" := (Exa.keep fx106 Kq104)
            obtain ⟨v110, T110, L110, hQ110, X110, st110⟩ := own_callV X109 hx hZ (y := (⟨"com/example/restlint/restlint/document/MappingNode", "applied", "()Lcom/example/restlint/restlint/document/Node;"⟩ : MethodName)) (z := (⟨"com/example/restlint/restlint/document/MappingNode", "applied", "()Lcom/example/restlint/restlint/document/Node;"⟩ : MethodName)) hown (hw _ (List.mem_of_getElem? (i := 84) rfl)) (hw _ (List.mem_of_getElem? (i := 85) rfl)) (notFace_of_selects (args := #[]) (mvT hZ (hw _ (List.mem_of_getElem? (i := 87) rfl)))) (hw _ (List.mem_of_getElem? (i := 87) rfl)) (hw _ (List.mem_of_getElem? (i := 86) rfl)) (hw _ (List.mem_of_getElem? (i := 35) rfl)) (hw _ (List.mem_of_getElem? (i := 88) rfl)) ⟨by decide, by decide⟩ (a := b12) (argsL := []) (app_n l Z a0 hw b12 T104.heap fx111) e109 fx112 (g := (mkF m 178 #[.val (.int p0), .val (.int p1), .val (.int p2), .val (.int p3), .val (.int p4), .val (.ref b1), .val (.ref b9), .val (.ref b12), .val (.ref b16), .val (.ref b12), .val (.int (1 : Int32)), .val (.ref b12)] [(.ref b12)])) rfl (by rw [hml]; rfl) (rest := []) (lenOf pd0_3 rfl) rfl (hb hby at_178) (W := 0) (by show 2 * 0 + _ ≤ _; exact Nat.le_of_eq rfl) (by decide) (by decide) (by decide) (by decide)
            obtain ⟨rfl, e110, rfl⟩ := hQ110
            have N110 := Fr.app N109 (Fr.nil n0)
            refine own_go (g' := (mkF m 181 #[.val (.int p0), .val (.int p1), .val (.int p2), .val (.int p3), .val (.int p4), .val (.ref b1), .val (.ref b9), .val (.ref b12), .val (.ref b16), .val (.ref b12), .val (.int (1 : Int32)), .val (.ref b12)] [.null])) (st110) ?_
            refine own_go (g' := (mkF m 184 #[.val (.int p0), .val (.int p1), .val (.int p2), .val (.int p3), .val (.int p4), .val (.ref b1), .val (.ref b9), .val (.ref b12), .val (.ref b16), .val (.ref b12), .val (.int (1 : Int32)), .val (.ref b12)] [])) (fun _ kgo => XS.ifnonnullNo X110.here hx rfl (hb hby at_181) rfl kgo) ?_
            refine own_go (g' := (mkF m 185 #[.val (.int p0), .val (.int p1), .val (.int p2), .val (.int p3), .val (.int p4), .val (.ref b1), .val (.ref b9), .val (.ref b12), .val (.ref b16), .val (.ref b12), .val (.int (1 : Int32)), .val (.ref b12)] [(.int (1 : Int32))])) (fun _ kgo => XS.iconst X110.here hx rfl (hb hby at_184) kgo) ?_
            refine own_go (g' := (mkF m 189 #[.val (.int p0), .val (.int p1), .val (.int p2), .val (.int p3), .val (.int p4), .val (.ref b1), .val (.ref b9), .val (.ref b12), .val (.ref b16), .val (.ref b12), .val (.int (1 : Int32)), .val (.ref b12)] [(.int (1 : Int32))])) (fun _ kgo => XS.goto X110.here hx rfl (pc0 := 185) (pc' := 189) rfl (hb hby at_185) (by decide) (by decide) kgo) ?_
            refine own_retNW X110 hx hS19 e110 hk104 .boolean Bd.returns Bd.notSynchronized (by simp) (hb hby at_189) (by decide) (by decide) ?_
            show QQ _ T110.heap _
            rw [e110]
            rw [← hQQ]
            exact ⟨rfl, N110⟩
          ·
            obtain ⟨v113, T113, L113, hQ113, X113, st113⟩ := own_callS X76 hx hZ (y := (⟨"com/example/restlint/restlint/document/MappingNodeAppliedPinLaw", "pick", "(ILcom/example/restlint/restlint/document/Node;Lcom/example/restlint/restlint/document/Node;Lcom/example/restlint/restlint/document/Node;)Lcom/example/restlint/restlint/document/Node;"⟩ : MethodName)) hown (hw _ (List.mem_of_getElem? (i := 91) rfl)) (hw _ (List.mem_of_getElem? (i := 92) rfl)) (hw _ (List.mem_of_getElem? (i := 93) rfl)) (hw _ (List.mem_of_getElem? (i := 94) rfl)) ⟨by decide, by decide⟩ (argsL := [(.int p1), (.ref b16), (.ref b12), (.ref b9)]) (pick3 l Z a0 hw p1 b16 b12 b9 T73.heap hk_p1) e76 (g := (mkF m 137 #[.val (.int p0), .val (.int p1), .val (.int p2), .val (.int p3), .val (.int p4), .val (.ref b1), .val (.ref b9), .val (.ref b12), .val (.ref b16), .val .null, .val (.int (1 : Int32)), .val .null] [(.ref b9), (.ref b12), (.ref b16), (.int p1)])) rfl (by rw [hml]; rfl) (rest := []) (lenOf pd0_5 rfl) rfl (hb hby at_137) (W := 0) (by show 2 * 0 + _ ≤ _; exact Nat.le_of_eq rfl) (by decide) (by decide) (by decide) (by decide)
            obtain ⟨rfl, e113, rfl⟩ := hQ113
            have N113 := Fr.app N76 (Fr.nil n0)
            refine own_go (g' := (mkF m 140 #[.val (.int p0), .val (.int p1), .val (.int p2), .val (.int p3), .val (.int p4), .val (.ref b1), .val (.ref b9), .val (.ref b12), .val (.ref b16), .val .null, .val (.int (1 : Int32)), .val .null] [(.ref b9)])) (st113) ?_
            refine own_go (g' := (mkF m 142 #[.val (.int p0), .val (.int p1), .val (.int p2), .val (.int p3), .val (.int p4), .val (.ref b1), .val (.ref b9), .val (.ref b12), .val (.ref b16), .val .null, .val (.int (1 : Int32)), .val (.ref b9)] [])) (fun _ kgo => XS.astore X113.here hx rfl (hb hby at_140) rfl rfl (l' := #[.val (.int p0), .val (.int p1), .val (.int p2), .val (.int p3), .val (.int p4), .val (.ref b1), .val (.ref b9), .val (.ref b12), .val (.ref b16), .val .null, .val (.int (1 : Int32)), .val (.ref b9)]) rfl kgo) ?_
            refine own_go (g' := (mkF m 144 #[.val (.int p0), .val (.int p1), .val (.int p2), .val (.int p3), .val (.int p4), .val (.ref b1), .val (.ref b9), .val (.ref b12), .val (.ref b16), .val .null, .val (.int (1 : Int32)), .val (.ref b9)] [(.ref b9)])) (fun _ kgo => XS.aload X113.here hx rfl (hb hby at_142) rfl rfl kgo) ?_
            refine own_go (g' := (mkF m 146 #[.val (.int p0), .val (.int p1), .val (.int p2), .val (.int p3), .val (.int p4), .val (.ref b1), .val (.ref b9), .val (.ref b12), .val (.ref b16), .val .null, .val (.int (1 : Int32)), .val (.ref b9)] [(.ref b9), (.ref b9)])) (fun _ kgo => XS.aload X113.here hx rfl (hb hby at_144) rfl rfl kgo) ?_
            obtain ⟨v114, T114, L114, hQ114, X114, st114⟩ := own_callV X113 hx hZ (y := (⟨"com/example/restlint/restlint/document/MappingNode", "applyReference", "(Lcom/example/restlint/restlint/document/Node;)V"⟩ : MethodName)) (z := (⟨"com/example/restlint/restlint/document/MappingNode", "applyReference", "(Lcom/example/restlint/restlint/document/Node;)V"⟩ : MethodName)) hown (hw _ (List.mem_of_getElem? (i := 95) rfl)) (hw _ (List.mem_of_getElem? (i := 96) rfl)) (notFace_of_selects (args := #[]) (mvT hZ (hw _ (List.mem_of_getElem? (i := 98) rfl)))) (hw _ (List.mem_of_getElem? (i := 98) rfl)) (hw _ (List.mem_of_getElem? (i := 97) rfl)) (hw _ (List.mem_of_getElem? (i := 35) rfl)) (hw _ (List.mem_of_getElem? (i := 99) rfl)) ⟨by decide, by decide⟩ (a := b9) (argsL := [(.ref b9)]) (apr_rr l Z a0 hw b9 b9 ap73 T73.heap n0 Z73 ge_b9 q73_0 q73_1) e113 q73_0 (g := (mkF m 146 #[.val (.int p0), .val (.int p1), .val (.int p2), .val (.int p3), .val (.int p4), .val (.ref b1), .val (.ref b9), .val (.ref b12), .val (.ref b16), .val .null, .val (.int (1 : Int32)), .val (.ref b9)] [(.ref b9), (.ref b9)])) rfl (by rw [hml]; rfl) (rest := []) (lenOf pd0_6 rfl) rfl (hb hby at_146) (W := 0) (by show 2 * 0 + _ ≤ _; exact Nat.le_of_eq rfl) (by decide) (by decide) (by decide) (by decide)
            obtain ⟨ap114, rfl, Nq114, Kq114, pr114_0, q114_0, q114_1, q114_2⟩ := hQ114
            have fx115 : Exa Z T73.heap b1 "com/example/restlint/restlint/document/Location" := (Exa.keep fx74 Kq73)
            have ne_b1_ap114 : b1 ≠ ap114 := Nat.ne_of_lt (Nat.lt_of_lt_of_le fx115.lt pr114_0)
            have ne_b9_ap114 : b9 ≠ ap114 := Nat.ne_of_lt (Nat.lt_of_lt_of_le q73_0.lt pr114_0)
            have fx116 : Exa Z T73.heap b12 "com/example/restlint/restlint/document/MappingNode" := (Exa.keep fx75 Kq73)
            have ne_b12_ap114 : b12 ≠ ap114 := Nat.ne_of_lt (Nat.lt_of_lt_of_le fx116.lt pr114_0)
            have fx117 : Exa Z T73.heap b16 "com/example/restlint/restlint/document/ScalarNode" := (Exa.keep q21_0 Kq73)
            have ne_b16_ap114 : b16 ≠ ap114 := Nat.ne_of_lt (Nat.lt_of_lt_of_le fx117.lt pr114_0)
            have ne_ap73_ap114 : ap73 ≠ ap114 := Nat.ne_of_lt (Nat.lt_of_lt_of_le q73_2.lt pr114_0)
            have ge_ap114 : n0 ≤ ap114 := Nat.le_trans Z73 pr114_0
            have N114 := Fr.app N113 Nq114
            have hk114 := Nat.le_trans hk73 Kq114.1
            have Z114 : n0 ≤ T114.heap.size := Nat.le_trans Z73 Kq114.1
            refine own_go (g' := (mkF m 149 #[.val (.int p0), .val (.int p1), .val (.int p2), .val (.int p3), .val (.int p4), .val (.ref b1), .val (.ref b9), .val (.ref b12), .val (.ref b16), .val .null, .val (.int (1 : Int32)), .val (.ref b9)] [])) (st114) ?_
            refine own_go (g' := (mkF m 151 #[.val (.int p0), .val (.int p1), .val (.int p2), .val (.int p3), .val (.int p4), .val (.ref b1), .val (.ref b9), .val (.ref b12), .val (.ref b16), .val .null, .val (.int (1 : Int32)), .val (.ref b9)] [(.ref b9)])) (fun _ kgo => XS.aload X114.here hx rfl (hb hby at_149) rfl rfl kgo) ?_
            refine own_go (g' := (mkF m 153 #[.val (.int p0), .val (.int p1), .val (.int p2), .val (.int p3), .val (.int p4), .val (.ref b1), .val (.ref b9), .val (.ref b12), .val (.ref b16), .val (.ref b9), .val (.int (1 : Int32)), .val (.ref b9)] [])) (fun _ kgo => XS.astore X114.here hx rfl (hb hby at_151) rfl rfl (l' := #[.val (.int p0), .val (.int p1), .val (.int p2), .val (.int p3), .val (.int p4), .val (.ref b1), .val (.ref b9), .val (.ref b12), .val (.ref b16), .val (.ref b9), .val (.int (1 : Int32)), .val (.ref b9)]) rfl kgo) ?_
            refine own_go (g' := (mkF m 154 #[.val (.int p0), .val (.int p1), .val (.int p2), .val (.int p3), .val (.int p4), .val (.ref b1), .val (.ref b9), .val (.ref b12), .val (.ref b16), .val (.ref b9), .val (.int (1 : Int32)), .val (.ref b9)] [(.int (1 : Int32))])) (fun _ kgo => XS.iconst X114.here hx rfl (hb hby at_153) kgo) ?_
            refine own_go (g' := (mkF m 156 #[.val (.int p0), .val (.int p1), .val (.int p2), .val (.int p3), .val (.int p4), .val (.ref b1), .val (.ref b9), .val (.ref b12), .val (.ref b16), .val (.ref b9), .val (.int (1 : Int32)), .val (.ref b9)] [])) (fun _ kgo => XS.istore X114.here hx rfl (hb hby at_154) rfl (l' := #[.val (.int p0), .val (.int p1), .val (.int p2), .val (.int p3), .val (.int p4), .val (.ref b1), .val (.ref b9), .val (.ref b12), .val (.ref b16), .val (.ref b9), .val (.int (1 : Int32)), .val (.ref b9)]) rfl kgo) ?_
            refine own_go (g' := (mkF m 158 #[.val (.int p0), .val (.int p1), .val (.int p2), .val (.int p3), .val (.int p4), .val (.ref b1), .val (.ref b9), .val (.ref b12), .val (.ref b16), .val (.ref b9), .val (.int (1 : Int32)), .val (.ref b9)] [(.ref b9)])) (fun _ kgo => XS.aload X114.here hx rfl (hb hby at_156) rfl rfl kgo) ?_
            obtain ⟨v118, T118, L118, hQ118, X118, st118⟩ := own_callV X114 hx hZ (y := (⟨"com/example/restlint/restlint/document/MappingNode", "applied", "()Lcom/example/restlint/restlint/document/Node;"⟩ : MethodName)) (z := (⟨"com/example/restlint/restlint/document/MappingNode", "applied", "()Lcom/example/restlint/restlint/document/Node;"⟩ : MethodName)) hown (hw _ (List.mem_of_getElem? (i := 84) rfl)) (hw _ (List.mem_of_getElem? (i := 85) rfl)) (notFace_of_selects (args := #[]) (mvT hZ (hw _ (List.mem_of_getElem? (i := 87) rfl)))) (hw _ (List.mem_of_getElem? (i := 87) rfl)) (hw _ (List.mem_of_getElem? (i := 86) rfl)) (hw _ (List.mem_of_getElem? (i := 35) rfl)) (hw _ (List.mem_of_getElem? (i := 88) rfl)) ⟨by decide, by decide⟩ (a := b9) (argsL := []) (app_rr l Z a0 hw b9 ap114 b9 T114.heap q114_1 q114_2) rfl q114_0 (g := (mkF m 158 #[.val (.int p0), .val (.int p1), .val (.int p2), .val (.int p3), .val (.int p4), .val (.ref b1), .val (.ref b9), .val (.ref b12), .val (.ref b16), .val (.ref b9), .val (.int (1 : Int32)), .val (.ref b9)] [(.ref b9)])) rfl (by rw [hml]; rfl) (rest := []) (lenOf pd0_3 rfl) rfl (hb hby at_158) (W := 0) (by show 2 * 0 + _ ≤ _; exact Nat.le_of_eq rfl) (by decide) (by decide) (by decide) (by decide)
            obtain ⟨rfl, e118, rfl⟩ := hQ118
            have N118 := Fr.app N114 (Fr.nil n0)
            refine own_go (g' := (mkF m 161 #[.val (.int p0), .val (.int p1), .val (.int p2), .val (.int p3), .val (.int p4), .val (.ref b1), .val (.ref b9), .val (.ref b12), .val (.ref b16), .val (.ref b9), .val (.int (1 : Int32)), .val (.ref b9)] [(.ref b9)])) (st118) ?_
            refine own_go (g' := (mkF m 163 #[.val (.int p0), .val (.int p1), .val (.int p2), .val (.int p3), .val (.int p4), .val (.ref b1), .val (.ref b9), .val (.ref b12), .val (.ref b16), .val (.ref b9), .val (.int (1 : Int32)), .val (.ref b9)] [(.ref b9), (.ref b9)])) (fun _ kgo => XS.aload X118.here hx rfl (hb hby at_161) rfl rfl kgo) ?_
            refine own_go (g' := (mkF m 166 #[.val (.int p0), .val (.int p1), .val (.int p2), .val (.int p3), .val (.int p4), .val (.ref b1), .val (.ref b9), .val (.ref b12), .val (.ref b16), .val (.ref b9), .val (.int (1 : Int32)), .val (.ref b9)] [])) (fun _ kgo => Jvm.RoadKit.acmp (g := (mkF m 163 #[.val (.int p0), .val (.int p1), .val (.int p2), .val (.int p3), .val (.int p4), .val (.ref b1), .val (.ref b9), .val (.ref b12), .val (.ref b16), .val (.ref b9), .val (.int (1 : Int32)), .val (.ref b9)] [(.ref b9), (.ref b9)])) X118 hx rfl rfl rfl (pc0 := 163) (pc' := 166) (same := true) rfl (hb hby at_163) rfl (decide_eq_true rfl) (by decide) (by decide) kgo) ?_
            refine own_go (g' := (mkF m 168 #[.val (.int p0), .val (.int p1), .val (.int p2), .val (.int p3), .val (.int p4), .val (.ref b1), .val (.ref b9), .val (.ref b12), .val (.ref b16), .val (.ref b9), .val (.int (1 : Int32)), .val (.ref b9)] [(.ref b9)])) (fun _ kgo => XS.aload X118.here hx rfl (hb hby at_166) rfl rfl kgo) ?_
            obtain ⟨v119, T119, L119, hQ119, X119, st119⟩ := own_callV X118 hx hZ (y := (⟨"com/example/restlint/restlint/document/MappingNode", "appliesReference", "()Z"⟩ : MethodName)) (z := (⟨"com/example/restlint/restlint/document/MappingNode", "appliesReference", "()Z"⟩ : MethodName)) hown (hw _ (List.mem_of_getElem? (i := 128) rfl)) (hw _ (List.mem_of_getElem? (i := 129) rfl)) (notFace_of_selects (args := #[]) (mvT hZ (hw _ (List.mem_of_getElem? (i := 131) rfl)))) (hw _ (List.mem_of_getElem? (i := 131) rfl)) (hw _ (List.mem_of_getElem? (i := 130) rfl)) (hw _ (List.mem_of_getElem? (i := 35) rfl)) (hw _ (List.mem_of_getElem? (i := 132) rfl)) ⟨by decide, by decide⟩ (a := b9) (argsL := []) (apl_r l Z a0 hw b9 ap114 T114.heap q114_1) e118 q114_0 (g := (mkF m 168 #[.val (.int p0), .val (.int p1), .val (.int p2), .val (.int p3), .val (.int p4), .val (.ref b1), .val (.ref b9), .val (.ref b12), .val (.ref b16), .val (.ref b9), .val (.int (1 : Int32)), .val (.ref b9)] [(.ref b9)])) rfl (by rw [hml]; rfl) (rest := []) (lenOf pd0_4 rfl) rfl (hb hby at_168) (W := 0) (by show 2 * 0 + _ ≤ _; exact Nat.le_of_eq rfl) (by decide) (by decide) (by decide) (by decide)
            obtain ⟨rfl, e119, rfl⟩ := hQ119
            have N119 := Fr.app N118 (Fr.nil n0)
            refine own_go (g' := (mkF m 171 #[.val (.int p0), .val (.int p1), .val (.int p2), .val (.int p3), .val (.int p4), .val (.ref b1), .val (.ref b9), .val (.ref b12), .val (.ref b16), .val (.ref b9), .val (.int (1 : Int32)), .val (.ref b9)] [(.int (1 : Int32))])) (st119) ?_
            refine own_go (g' := (mkF m 173 #[.val (.int p0), .val (.int p1), .val (.int p2), .val (.int p3), .val (.int p4), .val (.ref b1), .val (.ref b9), .val (.ref b12), .val (.ref b16), .val (.ref b9), .val (.int (1 : Int32)), .val (.ref b9)] [(.int (1 : Int32)), (.int (1 : Int32))])) (fun _ kgo => XS.iload X119.here hx rfl (hb hby at_171) rfl kgo) ?_
            refine own_go (g' := (mkF m 176 #[.val (.int p0), .val (.int p1), .val (.int p2), .val (.int p3), .val (.int p4), .val (.ref b1), .val (.ref b9), .val (.ref b12), .val (.ref b16), .val (.ref b9), .val (.int (1 : Int32)), .val (.ref b9)] [])) (fun _ kgo => XS.icmpNo X119.here hx rfl (hb hby at_173) rfl (teq (by decide)).2 kgo) ?_
            refine own_go (g' := (mkF m 178 #[.val (.int p0), .val (.int p1), .val (.int p2), .val (.int p3), .val (.int p4), .val (.ref b1), .val (.ref b9), .val (.ref b12), .val (.ref b16), .val (.ref b9), .val (.int (1 : Int32)), .val (.ref b9)] [(.ref b12)])) (fun _ kgo => XS.aload X119.here hx rfl (hb hby at_176) rfl rfl kgo) ?_
            have fx121 : Fld Z T114.heap b12 "com/example/restlint/restlint/document/MappingNode" "applied" "Lcom/example/restlint/restlint/document/MappingNode$Applied;" .null := (Fld.keep (Fld.keep (Fld.keep (Fld.ext E19 (Fld.ext E16 q14_1)) Kq21 (ninS ne_b12_b16 nin0)) Kq73 (ninS (Ne.symm ne_b9_b12) nin0)) Kq114 (ninS (Ne.symm ne_b9_b12) nin0))
            have fx122 : Exa Z T114.heap b12 "com/example/restlint/restlint/document/MappingNode" := (Exa.keep fx116 Kq114)
            obtain ⟨v120, T120, L120, hQ120, X120, st120⟩ := own_callV X119 hx hZ (y := (⟨"com/example/restlint/restlint/document/MappingNode", "applied", "()Lcom/example/restlint/restlint/document/Node;"⟩ : MethodName)) (z := (⟨"com/example/restlint/restlint/document/MappingNode", "applied", "()Lcom/example/restlint/restlint/document/Node;"⟩ : MethodName)) hown (hw _ (List.mem_of_getElem? (i := 84) rfl)) (hw _ (List.mem_of_getElem? (i := 85) rfl)) (notFace_of_selects (args := #[]) (mvT hZ (hw _ (List.mem_of_getElem? (i := 87) rfl)))) (hw _ (List.mem_of_getElem? (i := 87) rfl)) (hw _ (List.mem_of_getElem? (i := 86) rfl)) (hw _ (List.mem_of_getElem? (i := 35) rfl)) (hw _ (List.mem_of_getElem? (i := 88) rfl)) ⟨by decide, by decide⟩ (a := b12) (argsL := []) (app_n l Z a0 hw b12 T114.heap fx121) e119 fx122 (g := (mkF m 178 #[.val (.int p0), .val (.int p1), .val (.int p2), .val (.int p3), .val (.int p4), .val (.ref b1), .val (.ref b9), .val (.ref b12), .val (.ref b16), .val (.ref b9), .val (.int (1 : Int32)), .val (.ref b9)] [(.ref b12)])) rfl (by rw [hml]; rfl) (rest := []) (lenOf pd0_3 rfl) rfl (hb hby at_178) (W := 0) (by show 2 * 0 + _ ≤ _; exact Nat.le_of_eq rfl) (by decide) (by decide) (by decide) (by decide)
            obtain ⟨rfl, e120, rfl⟩ := hQ120
            have N120 := Fr.app N119 (Fr.nil n0)
            refine own_go (g' := (mkF m 181 #[.val (.int p0), .val (.int p1), .val (.int p2), .val (.int p3), .val (.int p4), .val (.ref b1), .val (.ref b9), .val (.ref b12), .val (.ref b16), .val (.ref b9), .val (.int (1 : Int32)), .val (.ref b9)] [.null])) (st120) ?_
            refine own_go (g' := (mkF m 184 #[.val (.int p0), .val (.int p1), .val (.int p2), .val (.int p3), .val (.int p4), .val (.ref b1), .val (.ref b9), .val (.ref b12), .val (.ref b16), .val (.ref b9), .val (.int (1 : Int32)), .val (.ref b9)] [])) (fun _ kgo => XS.ifnonnullNo X120.here hx rfl (hb hby at_181) rfl kgo) ?_
            refine own_go (g' := (mkF m 185 #[.val (.int p0), .val (.int p1), .val (.int p2), .val (.int p3), .val (.int p4), .val (.ref b1), .val (.ref b9), .val (.ref b12), .val (.ref b16), .val (.ref b9), .val (.int (1 : Int32)), .val (.ref b9)] [(.int (1 : Int32))])) (fun _ kgo => XS.iconst X120.here hx rfl (hb hby at_184) kgo) ?_
            refine own_go (g' := (mkF m 189 #[.val (.int p0), .val (.int p1), .val (.int p2), .val (.int p3), .val (.int p4), .val (.ref b1), .val (.ref b9), .val (.ref b12), .val (.ref b16), .val (.ref b9), .val (.int (1 : Int32)), .val (.ref b9)] [(.int (1 : Int32))])) (fun _ kgo => XS.goto X120.here hx rfl (pc0 := 185) (pc' := 189) rfl (hb hby at_185) (by decide) (by decide) kgo) ?_
            refine own_retNW X120 hx hS19 e120 hk114 .boolean Bd.returns Bd.notSynchronized (by simp) (hb hby at_189) (by decide) (by decide) ?_
            show QQ _ T120.heap _
            rw [e120]
            rw [← hQQ]
            exact ⟨rfl, N120⟩
      ·
        obtain ⟨v123, T123, L123, hQ123, X123, st123⟩ := own_callS X26 hx hZ (y := (⟨"com/example/restlint/restlint/document/MappingNodeAppliedPinLaw", "pick", "(ILcom/example/restlint/restlint/document/Node;Lcom/example/restlint/restlint/document/Node;Lcom/example/restlint/restlint/document/Node;)Lcom/example/restlint/restlint/document/Node;"⟩ : MethodName)) hown (hw _ (List.mem_of_getElem? (i := 91) rfl)) (hw _ (List.mem_of_getElem? (i := 92) rfl)) (hw _ (List.mem_of_getElem? (i := 93) rfl)) (hw _ (List.mem_of_getElem? (i := 94) rfl)) ⟨by decide, by decide⟩ (argsL := [(.int p0), (.ref b16), (.ref b12), (.ref b9)]) (pick1 l Z a0 hw p0 b16 b12 b9 T21.heap hk_p0) e26 (g := (mkF m 93 #[.val (.int p0), .val (.int p1), .val (.int p2), .val (.int p3), .val (.int p4), .val (.ref b1), .val (.ref b9), .val (.ref b12), .val (.ref b16), .val .null, .val (.int (0 : Int32)), .unset] [(.ref b9), (.ref b12), (.ref b16), (.int p0)])) rfl (by rw [hml]; rfl) (rest := []) (lenOf pd0_5 rfl) rfl (hb hby at_93) (W := 0) (by show 2 * 0 + _ ≤ _; exact Nat.le_of_eq rfl) (by decide) (by decide) (by decide) (by decide)
        obtain ⟨rfl, e123, rfl⟩ := hQ123
        have N123 := Fr.app N26 (Fr.nil n0)
        refine own_go (g' := (mkF m 96 #[.val (.int p0), .val (.int p1), .val (.int p2), .val (.int p3), .val (.int p4), .val (.ref b1), .val (.ref b9), .val (.ref b12), .val (.ref b16), .val .null, .val (.int (0 : Int32)), .unset] [(.ref b16)])) (st123) ?_
        refine own_go (g' := (mkF m 98 #[.val (.int p0), .val (.int p1), .val (.int p2), .val (.int p3), .val (.int p4), .val (.ref b1), .val (.ref b9), .val (.ref b12), .val (.ref b16), .val .null, .val (.int (0 : Int32)), .val (.ref b16)] [])) (fun _ kgo => XS.astore X123.here hx rfl (hb hby at_96) rfl rfl (l' := #[.val (.int p0), .val (.int p1), .val (.int p2), .val (.int p3), .val (.int p4), .val (.ref b1), .val (.ref b9), .val (.ref b12), .val (.ref b16), .val .null, .val (.int (0 : Int32)), .val (.ref b16)]) rfl kgo) ?_
        refine own_go (g' := (mkF m 100 #[.val (.int p0), .val (.int p1), .val (.int p2), .val (.int p3), .val (.int p4), .val (.ref b1), .val (.ref b9), .val (.ref b12), .val (.ref b16), .val .null, .val (.int (0 : Int32)), .val (.ref b16)] [(.ref b9)])) (fun _ kgo => XS.aload X123.here hx rfl (hb hby at_98) rfl rfl kgo) ?_
        refine own_go (g' := (mkF m 102 #[.val (.int p0), .val (.int p1), .val (.int p2), .val (.int p3), .val (.int p4), .val (.ref b1), .val (.ref b9), .val (.ref b12), .val (.ref b16), .val .null, .val (.int (0 : Int32)), .val (.ref b16)] [(.ref b16), (.ref b9)])) (fun _ kgo => XS.aload X123.here hx rfl (hb hby at_100) rfl rfl kgo) ?_
        obtain ⟨v124, T124, L124, hQ124, X124, st124⟩ := own_callV X123 hx hZ (y := (⟨"com/example/restlint/restlint/document/MappingNode", "applyReference", "(Lcom/example/restlint/restlint/document/Node;)V"⟩ : MethodName)) (z := (⟨"com/example/restlint/restlint/document/MappingNode", "applyReference", "(Lcom/example/restlint/restlint/document/Node;)V"⟩ : MethodName)) hown (hw _ (List.mem_of_getElem? (i := 95) rfl)) (hw _ (List.mem_of_getElem? (i := 96) rfl)) (notFace_of_selects (args := #[]) (mvT hZ (hw _ (List.mem_of_getElem? (i := 98) rfl)))) (hw _ (List.mem_of_getElem? (i := 98) rfl)) (hw _ (List.mem_of_getElem? (i := 97) rfl)) (hw _ (List.mem_of_getElem? (i := 35) rfl)) (hw _ (List.mem_of_getElem? (i := 99) rfl)) ⟨by decide, by decide⟩ (a := b9) (argsL := [(.ref b16)]) (apr_rn l Z a0 hw b9 b16 T21.heap n0 Z21 ge_b9 fx28 fx27) e123 fx28 (g := (mkF m 102 #[.val (.int p0), .val (.int p1), .val (.int p2), .val (.int p3), .val (.int p4), .val (.ref b1), .val (.ref b9), .val (.ref b12), .val (.ref b16), .val .null, .val (.int (0 : Int32)), .val (.ref b16)] [(.ref b16), (.ref b9)])) rfl (by rw [hml]; rfl) (rest := []) (lenOf pd0_6 rfl) rfl (hb hby at_102) (W := 0) (by show 2 * 0 + _ ≤ _; exact Nat.le_of_eq rfl) (by decide) (by decide) (by decide) (by decide)
        obtain ⟨ap124, rfl, Nq124, Kq124, pr124_0, q124_0, q124_1, q124_2⟩ := hQ124
        have fx125 : Exa Z T21.heap b1 "com/example/restlint/restlint/document/Location" := (Exa.keep (Exa.ext E19 (Exa.ext E16 fx17)) Kq21)
        have ne_b1_ap124 : b1 ≠ ap124 := Nat.ne_of_lt (Nat.lt_of_lt_of_le fx125.lt pr124_0)
        have ne_b9_ap124 : b9 ≠ ap124 := Nat.ne_of_lt (Nat.lt_of_lt_of_le fx28.lt pr124_0)
        have fx126 : Exa Z T21.heap b12 "com/example/restlint/restlint/document/MappingNode" := (Exa.keep (Exa.ext E19 (Exa.ext E16 q14_0)) Kq21)
        have ne_b12_ap124 : b12 ≠ ap124 := Nat.ne_of_lt (Nat.lt_of_lt_of_le fx126.lt pr124_0)
        have ne_b16_ap124 : b16 ≠ ap124 := Nat.ne_of_lt (Nat.lt_of_lt_of_le q21_0.lt pr124_0)
        have ge_ap124 : n0 ≤ ap124 := Nat.le_trans Z21 pr124_0
        have N124 := Fr.app N123 Nq124
        have hk124 := Nat.le_trans hk21 Kq124.1
        have Z124 : n0 ≤ T124.heap.size := Nat.le_trans Z21 Kq124.1
        refine own_go (g' := (mkF m 105 #[.val (.int p0), .val (.int p1), .val (.int p2), .val (.int p3), .val (.int p4), .val (.ref b1), .val (.ref b9), .val (.ref b12), .val (.ref b16), .val .null, .val (.int (0 : Int32)), .val (.ref b16)] [])) (st124) ?_
        refine own_go (g' := (mkF m 107 #[.val (.int p0), .val (.int p1), .val (.int p2), .val (.int p3), .val (.int p4), .val (.ref b1), .val (.ref b9), .val (.ref b12), .val (.ref b16), .val .null, .val (.int (0 : Int32)), .val (.ref b16)] [(.ref b16)])) (fun _ kgo => XS.aload X124.here hx rfl (hb hby at_105) rfl rfl kgo) ?_
        refine own_go (g' := (mkF m 109 #[.val (.int p0), .val (.int p1), .val (.int p2), .val (.int p3), .val (.int p4), .val (.ref b1), .val (.ref b9), .val (.ref b12), .val (.ref b16), .val (.ref b16), .val (.int (0 : Int32)), .val (.ref b16)] [])) (fun _ kgo => XS.astore X124.here hx rfl (hb hby at_107) rfl rfl (l' := #[.val (.int p0), .val (.int p1), .val (.int p2), .val (.int p3), .val (.int p4), .val (.ref b1), .val (.ref b9), .val (.ref b12), .val (.ref b16), .val (.ref b16), .val (.int (0 : Int32)), .val (.ref b16)]) rfl kgo) ?_
        refine own_go (g' := (mkF m 110 #[.val (.int p0), .val (.int p1), .val (.int p2), .val (.int p3), .val (.int p4), .val (.ref b1), .val (.ref b9), .val (.ref b12), .val (.ref b16), .val (.ref b16), .val (.int (0 : Int32)), .val (.ref b16)] [(.int (1 : Int32))])) (fun _ kgo => XS.iconst X124.here hx rfl (hb hby at_109) kgo) ?_
        refine own_go (g' := (mkF m 112 #[.val (.int p0), .val (.int p1), .val (.int p2), .val (.int p3), .val (.int p4), .val (.ref b1), .val (.ref b9), .val (.ref b12), .val (.ref b16), .val (.ref b16), .val (.int (1 : Int32)), .val (.ref b16)] [])) (fun _ kgo => XS.istore X124.here hx rfl (hb hby at_110) rfl (l' := #[.val (.int p0), .val (.int p1), .val (.int p2), .val (.int p3), .val (.int p4), .val (.ref b1), .val (.ref b9), .val (.ref b12), .val (.ref b16), .val (.ref b16), .val (.int (1 : Int32)), .val (.ref b16)]) rfl kgo) ?_
        refine own_go (g' := (mkF m 114 #[.val (.int p0), .val (.int p1), .val (.int p2), .val (.int p3), .val (.int p4), .val (.ref b1), .val (.ref b9), .val (.ref b12), .val (.ref b16), .val (.ref b16), .val (.int (1 : Int32)), .val (.ref b16)] [(.ref b9)])) (fun _ kgo => XS.aload X124.here hx rfl (hb hby at_112) rfl rfl kgo) ?_
        obtain ⟨v127, T127, L127, hQ127, X127, st127⟩ := own_callV X124 hx hZ (y := (⟨"com/example/restlint/restlint/document/MappingNode", "applied", "()Lcom/example/restlint/restlint/document/Node;"⟩ : MethodName)) (z := (⟨"com/example/restlint/restlint/document/MappingNode", "applied", "()Lcom/example/restlint/restlint/document/Node;"⟩ : MethodName)) hown (hw _ (List.mem_of_getElem? (i := 84) rfl)) (hw _ (List.mem_of_getElem? (i := 85) rfl)) (notFace_of_selects (args := #[]) (mvT hZ (hw _ (List.mem_of_getElem? (i := 87) rfl)))) (hw _ (List.mem_of_getElem? (i := 87) rfl)) (hw _ (List.mem_of_getElem? (i := 86) rfl)) (hw _ (List.mem_of_getElem? (i := 35) rfl)) (hw _ (List.mem_of_getElem? (i := 88) rfl)) ⟨by decide, by decide⟩ (a := b9) (argsL := []) (app_rr l Z a0 hw b9 ap124 b16 T124.heap q124_1 q124_2) rfl q124_0 (g := (mkF m 114 #[.val (.int p0), .val (.int p1), .val (.int p2), .val (.int p3), .val (.int p4), .val (.ref b1), .val (.ref b9), .val (.ref b12), .val (.ref b16), .val (.ref b16), .val (.int (1 : Int32)), .val (.ref b16)] [(.ref b9)])) rfl (by rw [hml]; rfl) (rest := []) (lenOf pd0_3 rfl) rfl (hb hby at_114) (W := 0) (by show 2 * 0 + _ ≤ _; exact Nat.le_of_eq rfl) (by decide) (by decide) (by decide) (by decide)
        obtain ⟨rfl, e127, rfl⟩ := hQ127
        have N127 := Fr.app N124 (Fr.nil n0)
        refine own_go (g' := (mkF m 117 #[.val (.int p0), .val (.int p1), .val (.int p2), .val (.int p3), .val (.int p4), .val (.ref b1), .val (.ref b9), .val (.ref b12), .val (.ref b16), .val (.ref b16), .val (.int (1 : Int32)), .val (.ref b16)] [(.ref b16)])) (st127) ?_
        refine own_go (g' := (mkF m 119 #[.val (.int p0), .val (.int p1), .val (.int p2), .val (.int p3), .val (.int p4), .val (.ref b1), .val (.ref b9), .val (.ref b12), .val (.ref b16), .val (.ref b16), .val (.int (1 : Int32)), .val (.ref b16)] [(.ref b16), (.ref b16)])) (fun _ kgo => XS.aload X127.here hx rfl (hb hby at_117) rfl rfl kgo) ?_
        refine own_go (g' := (mkF m 124 #[.val (.int p0), .val (.int p1), .val (.int p2), .val (.int p3), .val (.int p4), .val (.ref b1), .val (.ref b9), .val (.ref b12), .val (.ref b16), .val (.ref b16), .val (.int (1 : Int32)), .val (.ref b16)] [])) (fun _ kgo => Jvm.RoadKit.acmp (g := (mkF m 119 #[.val (.int p0), .val (.int p1), .val (.int p2), .val (.int p3), .val (.int p4), .val (.ref b1), .val (.ref b9), .val (.ref b12), .val (.ref b16), .val (.ref b16), .val (.int (1 : Int32)), .val (.ref b16)] [(.ref b16), (.ref b16)])) X127 hx rfl rfl rfl (pc0 := 119) (pc' := 124) (same := true) rfl (hb hby at_119) rfl (decide_eq_true rfl) (by decide) (by decide) kgo) ?_
        refine own_go (g' := (mkF m 125 #[.val (.int p0), .val (.int p1), .val (.int p2), .val (.int p3), .val (.int p4), .val (.ref b1), .val (.ref b9), .val (.ref b12), .val (.ref b16), .val (.ref b16), .val (.int (1 : Int32)), .val (.ref b16)] [(.int p2)])) (fun _ kgo => XS.iloadN X127.here hx rfl (hb hby at_124) rfl kgo) ?_
        refine own_go (g' := (mkF m 126 #[.val (.int p0), .val (.int p1), .val (.int p2), .val (.int p3), .val (.int p4), .val (.ref b1), .val (.ref b9), .val (.ref b12), .val (.ref b16), .val (.ref b16), .val (.int (1 : Int32)), .val (.ref b16)] [(.int (2 : Int32)), (.int p2)])) (fun _ kgo => XS.iconst X127.here hx rfl (hb hby at_125) kgo) ?_
        refine own_go (g' := (mkF m 127 #[.val (.int p0), .val (.int p1), .val (.int p2), .val (.int p3), .val (.int p4), .val (.ref b1), .val (.ref b9), .val (.ref b12), .val (.ref b16), .val (.ref b16), .val (.int (1 : Int32)), .val (.ref b16)] [(.int (p2 &&& (2 : Int32)))])) (fun _ kgo => XS.iand X127.here hx rfl (hb hby at_126) rfl kgo) ?_
        by_cases hc128 : (p2 &&& (2 : Int32)) = (0 : Int32)
        ·
          refine own_go (g' := (mkF m 156 #[.val (.int p0), .val (.int p1), .val (.int p2), .val (.int p3), .val (.int p4), .val (.ref b1), .val (.ref b9), .val (.ref b12), .val (.ref b16), .val (.ref b16), .val (.int (1 : Int32)), .val (.ref b16)] [])) (fun _ kgo => XS.ifYes X127.here hx rfl (pc0 := 127) (pc' := 156) rfl (hb hby at_127) rfl ((if0 _ _).trans (teq hc128).1) (by decide) (by decide) kgo) ?_
          refine own_go (g' := (mkF m 158 #[.val (.int p0), .val (.int p1), .val (.int p2), .val (.int p3), .val (.int p4), .val (.ref b1), .val (.ref b9), .val (.ref b12), .val (.ref b16), .val (.ref b16), .val (.int (1 : Int32)), .val (.ref b16)] [(.ref b9)])) (fun _ kgo => XS.aload X127.here hx rfl (hb hby at_156) rfl rfl kgo) ?_
          obtain ⟨v129, T129, L129, hQ129, X129, st129⟩ := own_callV X127 hx hZ (y := (⟨"com/example/restlint/restlint/document/MappingNode", "applied", "()Lcom/example/restlint/restlint/document/Node;"⟩ : MethodName)) (z := (⟨"com/example/restlint/restlint/document/MappingNode", "applied", "()Lcom/example/restlint/restlint/document/Node;"⟩ : MethodName)) hown (hw _ (List.mem_of_getElem? (i := 84) rfl)) (hw _ (List.mem_of_getElem? (i := 85) rfl)) (notFace_of_selects (args := #[]) (mvT hZ (hw _ (List.mem_of_getElem? (i := 87) rfl)))) (hw _ (List.mem_of_getElem? (i := 87) rfl)) (hw _ (List.mem_of_getElem? (i := 86) rfl)) (hw _ (List.mem_of_getElem? (i := 35) rfl)) (hw _ (List.mem_of_getElem? (i := 88) rfl)) ⟨by decide, by decide⟩ (a := b9) (argsL := []) (app_rr l Z a0 hw b9 ap124 b16 T124.heap q124_1 q124_2) e127 q124_0 (g := (mkF m 158 #[.val (.int p0), .val (.int p1), .val (.int p2), .val (.int p3), .val (.int p4), .val (.ref b1), .val (.ref b9), .val (.ref b12), .val (.ref b16), .val (.ref b16), .val (.int (1 : Int32)), .val (.ref b16)] [(.ref b9)])) rfl (by rw [hml]; rfl) (rest := []) (lenOf pd0_3 rfl) rfl (hb hby at_158) (W := 0) (by show 2 * 0 + _ ≤ _; exact Nat.le_of_eq rfl) (by decide) (by decide) (by decide) (by decide)
          obtain ⟨rfl, e129, rfl⟩ := hQ129
          have N129 := Fr.app N127 (Fr.nil n0)
          refine own_go (g' := (mkF m 161 #[.val (.int p0), .val (.int p1), .val (.int p2), .val (.int p3), .val (.int p4), .val (.ref b1), .val (.ref b9), .val (.ref b12), .val (.ref b16), .val (.ref b16), .val (.int (1 : Int32)), .val (.ref b16)] [(.ref b16)])) (st129) ?_
          refine own_go (g' := (mkF m 163 #[.val (.int p0), .val (.int p1), .val (.int p2), .val (.int p3), .val (.int p4), .val (.ref b1), .val (.ref b9), .val (.ref b12), .val (.ref b16), .val (.ref b16), .val (.int (1 : Int32)), .val (.ref b16)] [(.ref b16), (.ref b16)])) (fun _ kgo => XS.aload X129.here hx rfl (hb hby at_161) rfl rfl kgo) ?_
          refine own_go (g' := (mkF m 166 #[.val (.int p0), .val (.int p1), .val (.int p2), .val (.int p3), .val (.int p4), .val (.ref b1), .val (.ref b9), .val (.ref b12), .val (.ref b16), .val (.ref b16), .val (.int (1 : Int32)), .val (.ref b16)] [])) (fun _ kgo => Jvm.RoadKit.acmp (g := (mkF m 163 #[.val (.int p0), .val (.int p1), .val (.int p2), .val (.int p3), .val (.int p4), .val (.ref b1), .val (.ref b9), .val (.ref b12), .val (.ref b16), .val (.ref b16), .val (.int (1 : Int32)), .val (.ref b16)] [(.ref b16), (.ref b16)])) X129 hx rfl rfl rfl (pc0 := 163) (pc' := 166) (same := true) rfl (hb hby at_163) rfl (decide_eq_true rfl) (by decide) (by decide) kgo) ?_
          refine own_go (g' := (mkF m 168 #[.val (.int p0), .val (.int p1), .val (.int p2), .val (.int p3), .val (.int p4), .val (.ref b1), .val (.ref b9), .val (.ref b12), .val (.ref b16), .val (.ref b16), .val (.int (1 : Int32)), .val (.ref b16)] [(.ref b9)])) (fun _ kgo => XS.aload X129.here hx rfl (hb hby at_166) rfl rfl kgo) ?_
          obtain ⟨v130, T130, L130, hQ130, X130, st130⟩ := own_callV X129 hx hZ (y := (⟨"com/example/restlint/restlint/document/MappingNode", "appliesReference", "()Z"⟩ : MethodName)) (z := (⟨"com/example/restlint/restlint/document/MappingNode", "appliesReference", "()Z"⟩ : MethodName)) hown (hw _ (List.mem_of_getElem? (i := 128) rfl)) (hw _ (List.mem_of_getElem? (i := 129) rfl)) (notFace_of_selects (args := #[]) (mvT hZ (hw _ (List.mem_of_getElem? (i := 131) rfl)))) (hw _ (List.mem_of_getElem? (i := 131) rfl)) (hw _ (List.mem_of_getElem? (i := 130) rfl)) (hw _ (List.mem_of_getElem? (i := 35) rfl)) (hw _ (List.mem_of_getElem? (i := 132) rfl)) ⟨by decide, by decide⟩ (a := b9) (argsL := []) (apl_r l Z a0 hw b9 ap124 T124.heap q124_1) e129 q124_0 (g := (mkF m 168 #[.val (.int p0), .val (.int p1), .val (.int p2), .val (.int p3), .val (.int p4), .val (.ref b1), .val (.ref b9), .val (.ref b12), .val (.ref b16), .val (.ref b16), .val (.int (1 : Int32)), .val (.ref b16)] [(.ref b9)])) rfl (by rw [hml]; rfl) (rest := []) (lenOf pd0_4 rfl) rfl (hb hby at_168) (W := 0) (by show 2 * 0 + _ ≤ _; exact Nat.le_of_eq rfl) (by decide) (by decide) (by decide) (by decide)
          obtain ⟨rfl, e130, rfl⟩ := hQ130
          have N130 := Fr.app N129 (Fr.nil n0)
          refine own_go (g' := (mkF m 171 #[.val (.int p0), .val (.int p1), .val (.int p2), .val (.int p3), .val (.int p4), .val (.ref b1), .val (.ref b9), .val (.ref b12), .val (.ref b16), .val (.ref b16), .val (.int (1 : Int32)), .val (.ref b16)] [(.int (1 : Int32))])) (st130) ?_
          refine own_go (g' := (mkF m 173 #[.val (.int p0), .val (.int p1), .val (.int p2), .val (.int p3), .val (.int p4), .val (.ref b1), .val (.ref b9), .val (.ref b12), .val (.ref b16), .val (.ref b16), .val (.int (1 : Int32)), .val (.ref b16)] [(.int (1 : Int32)), (.int (1 : Int32))])) (fun _ kgo => XS.iload X130.here hx rfl (hb hby at_171) rfl kgo) ?_
          refine own_go (g' := (mkF m 176 #[.val (.int p0), .val (.int p1), .val (.int p2), .val (.int p3), .val (.int p4), .val (.ref b1), .val (.ref b9), .val (.ref b12), .val (.ref b16), .val (.ref b16), .val (.int (1 : Int32)), .val (.ref b16)] [])) (fun _ kgo => XS.icmpNo X130.here hx rfl (hb hby at_173) rfl (teq (by decide)).2 kgo) ?_
          refine own_go (g' := (mkF m 178 #[.val (.int p0), .val (.int p1), .val (.int p2), .val (.int p3), .val (.int p4), .val (.ref b1), .val (.ref b9), .val (.ref b12), .val (.ref b16), .val (.ref b16), .val (.int (1 : Int32)), .val (.ref b16)] [(.ref b12)])) (fun _ kgo => XS.aload X130.here hx rfl (hb hby at_176) rfl rfl kgo) ?_
          have fx132 : Fld Z T124.heap b12 "com/example/restlint/restlint/document/MappingNode" "applied" "Lcom/example/restlint/restlint/document/MappingNode$Applied;" .null := (Fld.keep (Fld.keep (Fld.ext E19 (Fld.ext E16 q14_1)) Kq21 (ninS ne_b12_b16 nin0)) Kq124 (ninS (Ne.symm ne_b9_b12) nin0))
          have fx133 : Exa Z T124.heap b12 "com/example/restlint/restlint/document/MappingNode" := (Exa.keep fx126 Kq124)
          obtain ⟨v131, T131, L131, hQ131, X131, st131⟩ := own_callV X130 hx hZ (y := (⟨"com/example/restlint/restlint/document/MappingNode", "applied", "()Lcom/example/restlint/restlint/document/Node;"⟩ : MethodName)) (z := (⟨"com/example/restlint/restlint/document/MappingNode", "applied", "()Lcom/example/restlint/restlint/document/Node;"⟩ : MethodName)) hown (hw _ (List.mem_of_getElem? (i := 84) rfl)) (hw _ (List.mem_of_getElem? (i := 85) rfl)) (notFace_of_selects (args := #[]) (mvT hZ (hw _ (List.mem_of_getElem? (i := 87) rfl)))) (hw _ (List.mem_of_getElem? (i := 87) rfl)) (hw _ (List.mem_of_getElem? (i := 86) rfl)) (hw _ (List.mem_of_getElem? (i := 35) rfl)) (hw _ (List.mem_of_getElem? (i := 88) rfl)) ⟨by decide, by decide⟩ (a := b12) (argsL := []) (app_n l Z a0 hw b12 T124.heap fx132) e130 fx133 (g := (mkF m 178 #[.val (.int p0), .val (.int p1), .val (.int p2), .val (.int p3), .val (.int p4), .val (.ref b1), .val (.ref b9), .val (.ref b12), .val (.ref b16), .val (.ref b16), .val (.int (1 : Int32)), .val (.ref b16)] [(.ref b12)])) rfl (by rw [hml]; rfl) (rest := []) (lenOf pd0_3 rfl) rfl (hb hby at_178) (W := 0) (by show 2 * 0 + _ ≤ _; exact Nat.le_of_eq rfl) (by decide) (by decide) (by decide) (by decide)
          obtain ⟨rfl, e131, rfl⟩ := hQ131
          have N131 := Fr.app N130 (Fr.nil n0)
          refine own_go (g' := (mkF m 181 #[.val (.int p0), .val (.int p1), .val (.int p2), .val (.int p3), .val (.int p4), .val (.ref b1), .val (.ref b9), .val (.ref b12), .val (.ref b16), .val (.ref b16), .val (.int (1 : Int32)), .val (.ref b16)] [.null])) (st131) ?_
          refine own_go (g' := (mkF m 184 #[.val (.int p0), .val (.int p1), .val (.int p2), .val (.int p3), .val (.int p4), .val (.ref b1), .val (.ref b9), .val (.ref b12), .val (.ref b16), .val (.ref b16), .val (.int (1 : Int32)), .val (.ref b16)] [])) (fun _ kgo => XS.ifnonnullNo X131.here hx rfl (hb hby at_181) rfl kgo) ?_
          refine own_go (g' := (mkF m 185 #[.val (.int p0), .val (.int p1), .val (.int p2), .val (.int p3), .val (.int p4), .val (.ref b1), .val (.ref b9), .val (.ref b12), .val (.ref b16), .val (.ref b16), .val (.int (1 : Int32)), .val (.ref b16)] [(.int (1 : Int32))])) (fun _ kgo => XS.iconst X131.here hx rfl (hb hby at_184) kgo) ?_
          refine own_go (g' := (mkF m 189 #[.val (.int p0), .val (.int p1), .val (.int p2), .val (.int p3), .val (.int p4), .val (.ref b1), .val (.ref b9), .val (.ref b12), .val (.ref b16), .val (.ref b16), .val (.int (1 : Int32)), .val (.ref b16)] [(.int (1 : Int32))])) (fun _ kgo => XS.goto X131.here hx rfl (pc0 := 185) (pc' := 189) rfl (hb hby at_185) (by decide) (by decide) kgo) ?_
          refine own_retNW X131 hx hS19 e131 hk124 .boolean Bd.returns Bd.notSynchronized (by simp) (hb hby at_189) (by decide) (by decide) ?_
          show QQ _ T131.heap _
          rw [e131]
          rw [← hQQ]
          exact ⟨rfl, N131⟩
        ·
          refine own_go (g' := (mkF m 130 #[.val (.int p0), .val (.int p1), .val (.int p2), .val (.int p3), .val (.int p4), .val (.ref b1), .val (.ref b9), .val (.ref b12), .val (.ref b16), .val (.ref b16), .val (.int (1 : Int32)), .val (.ref b16)] [])) (fun _ kgo => XS.ifNo X127.here hx rfl (hb hby at_127) rfl ((if0 _ _).trans (feq hc128).1) kgo) ?_
          refine own_go (g' := (mkF m 131 #[.val (.int p0), .val (.int p1), .val (.int p2), .val (.int p3), .val (.int p4), .val (.ref b1), .val (.ref b9), .val (.ref b12), .val (.ref b16), .val (.ref b16), .val (.int (1 : Int32)), .val (.ref b16)] [(.int p1)])) (fun _ kgo => XS.iloadN X127.here hx rfl (hb hby at_130) rfl kgo) ?_
          refine own_go (g' := (mkF m 133 #[.val (.int p0), .val (.int p1), .val (.int p2), .val (.int p3), .val (.int p4), .val (.ref b1), .val (.ref b9), .val (.ref b12), .val (.ref b16), .val (.ref b16), .val (.int (1 : Int32)), .val (.ref b16)] [(.ref b16), (.int p1)])) (fun _ kgo => XS.aload X127.here hx rfl (hb hby at_131) rfl rfl kgo) ?_
          refine own_go (g' := (mkF m 135 #[.val (.int p0), .val (.int p1), .val (.int p2), .val (.int p3), .val (.int p4), .val (.ref b1), .val (.ref b9), .val (.ref b12), .val (.ref b16), .val (.ref b16), .val (.int (1 : Int32)), .val (.ref b16)] [(.ref b12), (.ref b16), (.int p1)])) (fun _ kgo => XS.aload X127.here hx rfl (hb hby at_133) rfl rfl kgo) ?_
          refine own_go (g' := (mkF m 137 #[.val (.int p0), .val (.int p1), .val (.int p2), .val (.int p3), .val (.int p4), .val (.ref b1), .val (.ref b9), .val (.ref b12), .val (.ref b16), .val (.ref b16), .val (.int (1 : Int32)), .val (.ref b16)] [(.ref b9), (.ref b12), (.ref b16), (.int p1)])) (fun _ kgo => XS.aload X127.here hx rfl (hb hby at_135) rfl rfl kgo) ?_
          rcases own_k4 p1 with hk_p1 | hk_p1 | hk_p1 | hk_p1
          ·
            obtain ⟨v134, T134, L134, hQ134, X134, st134⟩ := own_callS X127 hx hZ (y := (⟨"com/example/restlint/restlint/document/MappingNodeAppliedPinLaw", "pick", "(ILcom/example/restlint/restlint/document/Node;Lcom/example/restlint/restlint/document/Node;Lcom/example/restlint/restlint/document/Node;)Lcom/example/restlint/restlint/document/Node;"⟩ : MethodName)) hown (hw _ (List.mem_of_getElem? (i := 91) rfl)) (hw _ (List.mem_of_getElem? (i := 92) rfl)) (hw _ (List.mem_of_getElem? (i := 93) rfl)) (hw _ (List.mem_of_getElem? (i := 94) rfl)) ⟨by decide, by decide⟩ (argsL := [(.int p1), (.ref b16), (.ref b12), (.ref b9)]) (pick0 l Z a0 hw p1 b16 b12 b9 T124.heap hk_p1) e127 (g := (mkF m 137 #[.val (.int p0), .val (.int p1), .val (.int p2), .val (.int p3), .val (.int p4), .val (.ref b1), .val (.ref b9), .val (.ref b12), .val (.ref b16), .val (.ref b16), .val (.int (1 : Int32)), .val (.ref b16)] [(.ref b9), (.ref b12), (.ref b16), (.int p1)])) rfl (by rw [hml]; rfl) (rest := []) (lenOf pd0_5 rfl) rfl (hb hby at_137) (W := 0) (by show 2 * 0 + _ ≤ _; exact Nat.le_of_eq rfl) (by decide) (by decide) (by decide) (by decide)
            obtain ⟨rfl, e134, rfl⟩ := hQ134
            have N134 := Fr.app N127 (Fr.nil n0)
            refine own_go (g' := (mkF m 140 #[.val (.int p0), .val (.int p1), .val (.int p2), .val (.int p3), .val (.int p4), .val (.ref b1), .val (.ref b9), .val (.ref b12), .val (.ref b16), .val (.ref b16), .val (.int (1 : Int32)), .val (.ref b16)] [.null])) (st134) ?_
            refine own_go (g' := (mkF m 142 #[.val (.int p0), .val (.int p1), .val (.int p2), .val (.int p3), .val (.int p4), .val (.ref b1), .val (.ref b9), .val (.ref b12), .val (.ref b16), .val (.ref b16), .val (.int (1 : Int32)), .val .null] [])) (fun _ kgo => XS.astore X134.here hx rfl (hb hby at_140) rfl rfl (l' := #[.val (.int p0), .val (.int p1), .val (.int p2), .val (.int p3), .val (.int p4), .val (.ref b1), .val (.ref b9), .val (.ref b12), .val (.ref b16), .val (.ref b16), .val (.int (1 : Int32)), .val .null]) rfl kgo) ?_
            refine own_go (g' := (mkF m 144 #[.val (.int p0), .val (.int p1), .val (.int p2), .val (.int p3), .val (.int p4), .val (.ref b1), .val (.ref b9), .val (.ref b12), .val (.ref b16), .val (.ref b16), .val (.int (1 : Int32)), .val .null] [(.ref b9)])) (fun _ kgo => XS.aload X134.here hx rfl (hb hby at_142) rfl rfl kgo) ?_
            refine own_go (g' := (mkF m 146 #[.val (.int p0), .val (.int p1), .val (.int p2), .val (.int p3), .val (.int p4), .val (.ref b1), .val (.ref b9), .val (.ref b12), .val (.ref b16), .val (.ref b16), .val (.int (1 : Int32)), .val .null] [.null, (.ref b9)])) (fun _ kgo => XS.aload X134.here hx rfl (hb hby at_144) rfl rfl kgo) ?_
            obtain ⟨v135, T135, L135, hQ135, X135, st135⟩ := own_callV X134 hx hZ (y := (⟨"com/example/restlint/restlint/document/MappingNode", "applyReference", "(Lcom/example/restlint/restlint/document/Node;)V"⟩ : MethodName)) (z := (⟨"com/example/restlint/restlint/document/MappingNode", "applyReference", "(Lcom/example/restlint/restlint/document/Node;)V"⟩ : MethodName)) hown (hw _ (List.mem_of_getElem? (i := 95) rfl)) (hw _ (List.mem_of_getElem? (i := 96) rfl)) (notFace_of_selects (args := #[]) (mvT hZ (hw _ (List.mem_of_getElem? (i := 98) rfl)))) (hw _ (List.mem_of_getElem? (i := 98) rfl)) (hw _ (List.mem_of_getElem? (i := 97) rfl)) (hw _ (List.mem_of_getElem? (i := 35) rfl)) (hw _ (List.mem_of_getElem? (i := 99) rfl)) ⟨by decide, by decide⟩ (a := b9) (argsL := [.null]) (apr_nr l Z a0 hw b9 ap124 T124.heap n0 Z124 ge_b9 q124_0 q124_1) e134 q124_0 (g := (mkF m 146 #[.val (.int p0), .val (.int p1), .val (.int p2), .val (.int p3), .val (.int p4), .val (.ref b1), .val (.ref b9), .val (.ref b12), .val (.ref b16), .val (.ref b16), .val (.int (1 : Int32)), .val .null] [.null, (.ref b9)])) rfl (by rw [hml]; rfl) (rest := []) (lenOf pd0_6 rfl) rfl (hb hby at_146) (W := 0) (by show 2 * 0 + _ ≤ _; exact Nat.le_of_eq rfl) (by decide) (by decide) (by decide) (by decide)
            obtain ⟨ap135, rfl, Nq135, Kq135, pr135_0, q135_0, q135_1, q135_2⟩ := hQ135
            have fx136 : Exa Z T124.heap b1 "com/example/restlint/restlint/document/Location" := (Exa.keep fx125 Kq124)
            have ne_b1_ap135 : b1 ≠ ap135 := Nat.ne_of_lt (Nat.lt_of_lt_of_le fx136.lt pr135_0)
            have ne_b9_ap135 : b9 ≠ ap135 := Nat.ne_of_lt (Nat.lt_of_lt_of_le q124_0.lt pr135_0)
            have fx137 : Exa Z T124.heap b12 "com/example/restlint/restlint/document/MappingNode" := (Exa.keep fx126 Kq124)
            have ne_b12_ap135 : b12 ≠ ap135 := Nat.ne_of_lt (Nat.lt_of_lt_of_le fx137.lt pr135_0)
            have fx138 : Exa Z T124.heap b16 "com/example/restlint/restlint/document/ScalarNode" := (Exa.keep q21_0 Kq124)
            have ne_b16_ap135 : b16 ≠ ap135 := Nat.ne_of_lt (Nat.lt_of_lt_of_le fx138.lt pr135_0)
            have ne_ap124_ap135 : ap124 ≠ ap135 := Nat.ne_of_lt (Nat.lt_of_lt_of_le q124_2.lt pr135_0)
            have ge_ap135 : n0 ≤ ap135 := Nat.le_trans Z124 pr135_0
            have N135 := Fr.app N134 Nq135
            have hk135 := Nat.le_trans hk124 Kq135.1
            have Z135 : n0 ≤ T135.heap.size := Nat.le_trans Z124 Kq135.1
            refine own_go (g' := (mkF m 149 #[.val (.int p0), .val (.int p1), .val (.int p2), .val (.int p3), .val (.int p4), .val (.ref b1), .val (.ref b9), .val (.ref b12), .val (.ref b16), .val (.ref b16), .val (.int (1 : Int32)), .val .null] [])) (st135) ?_
            refine own_go (g' := (mkF m 151 #[.val (.int p0), .val (.int p1), .val (.int p2), .val (.int p3), .val (.int p4), .val (.ref b1), .val (.ref b9), .val (.ref b12), .val (.ref b16), .val (.ref b16), .val (.int (1 : Int32)), .val .null] [.null])) (fun _ kgo => XS.aload X135.here hx rfl (hb hby at_149) rfl rfl kgo) ?_
            refine own_go (g' := (mkF m 153 #[.val (.int p0), .val (.int p1), .val (.int p2), .val (.int p3), .val (.int p4), .val (.ref b1), .val (.ref b9), .val (.ref b12), .val (.ref b16), .val .null, .val (.int (1 : Int32)), .val .null] [])) (fun _ kgo => XS.astore X135.here hx rfl (hb hby at_151) rfl rfl (l' := #[.val (.int p0), .val (.int p1), .val (.int p2), .val (.int p3), .val (.int p4), .val (.ref b1), .val (.ref b9), .val (.ref b12), .val (.ref b16), .val .null, .val (.int (1 : Int32)), .val .null]) rfl kgo) ?_
            refine own_go (g' := (mkF m 154 #[.val (.int p0), .val (.int p1), .val (.int p2), .val (.int p3), .val (.int p4), .val (.ref b1), .val (.ref b9), .val (.ref b12), .val (.ref b16), .val .null, .val (.int (1 : Int32)), .val .null] [(.int (1 : Int32))])) (fun _ kgo => XS.iconst X135.here hx rfl (hb hby at_153) kgo) ?_
            refine own_go (g' := (mkF m 156 #[.val (.int p0), .val (.int p1), .val (.int p2), .val (.int p3), .val (.int p4), .val (.ref b1), .val (.ref b9), .val (.ref b12), .val (.ref b16), .val .null, .val (.int (1 : Int32)), .val .null] [])) (fun _ kgo => XS.istore X135.here hx rfl (hb hby at_154) rfl (l' := #[.val (.int p0), .val (.int p1), .val (.int p2), .val (.int p3), .val (.int p4), .val (.ref b1), .val (.ref b9), .val (.ref b12), .val (.ref b16), .val .null, .val (.int (1 : Int32)), .val .null]) rfl kgo) ?_
            refine own_go (g' := (mkF m 158 #[.val (.int p0), .val (.int p1), .val (.int p2), .val (.int p3), .val (.int p4), .val (.ref b1), .val (.ref b9), .val (.ref b12), .val (.ref b16), .val .null, .val (.int (1 : Int32)), .val .null] [(.ref b9)])) (fun _ kgo => XS.aload X135.here hx rfl (hb hby at_156) rfl rfl kgo) ?_
            obtain ⟨v139, T139, L139, hQ139, X139, st139⟩ := own_callV X135 hx hZ (y := (⟨"com/example/restlint/restlint/document/MappingNode", "applied", "()Lcom/example/restlint/restlint/document/Node;"⟩ : MethodName)) (z := (⟨"com/example/restlint/restlint/document/MappingNode", "applied", "()Lcom/example/restlint/restlint/document/Node;"⟩ : MethodName)) hown (hw _ (List.mem_of_getElem? (i := 84) rfl)) (hw _ (List.mem_of_getElem? (i := 85) rfl)) (notFace_of_selects (args := #[]) (mvT hZ (hw _ (List.mem_of_getElem? (i := 87) rfl)))) (hw _ (List.mem_of_getElem? (i := 87) rfl)) (hw _ (List.mem_of_getElem? (i := 86) rfl)) (hw _ (List.mem_of_getElem? (i := 35) rfl)) (hw _ (List.mem_of_getElem? (i := 88) rfl)) ⟨by decide, by decide⟩ (a := b9) (argsL := []) (app_rn l Z a0 hw b9 ap135 T135.heap q135_1 q135_2) rfl q135_0 (g := (mkF m 158 #[.val (.int p0), .val (.int p1), .val (.int p2), .val (.int p3), .val (.int p4), .val (.ref b1), .val (.ref b9), .val (.ref b12), .val (.ref b16), .val .null, .val (.int (1 : Int32)), .val .null] [(.ref b9)])) rfl (by rw [hml]; rfl) (rest := []) (lenOf pd0_3 rfl) rfl (hb hby at_158) (W := 0) (by show 2 * 0 + _ ≤ _; exact Nat.le_of_eq rfl) (by decide) (by decide) (by decide) (by decide)
            obtain ⟨rfl, e139, rfl⟩ := hQ139
            have N139 := Fr.app N135 (Fr.nil n0)
            refine own_go (g' := (mkF m 161 #[.val (.int p0), .val (.int p1), .val (.int p2), .val (.int p3), .val (.int p4), .val (.ref b1), .val (.ref b9), .val (.ref b12), .val (.ref b16), .val .null, .val (.int (1 : Int32)), .val .null] [.null])) (st139) ?_
            refine own_go (g' := (mkF m 163 #[.val (.int p0), .val (.int p1), .val (.int p2), .val (.int p3), .val (.int p4), .val (.ref b1), .val (.ref b9), .val (.ref b12), .val (.ref b16), .val .null, .val (.int (1 : Int32)), .val .null] [.null, .null])) (fun _ kgo => XS.aload X139.here hx rfl (hb hby at_161) rfl rfl kgo) ?_
            refine own_go (g' := (mkF m 166 #[.val (.int p0), .val (.int p1), .val (.int p2), .val (.int p3), .val (.int p4), .val (.ref b1), .val (.ref b9), .val (.ref b12), .val (.ref b16), .val .null, .val (.int (1 : Int32)), .val .null] [])) (fun _ kgo => Jvm.RoadKit.acmp (g := (mkF m 163 #[.val (.int p0), .val (.int p1), .val (.int p2), .val (.int p3), .val (.int p4), .val (.ref b1), .val (.ref b9), .val (.ref b12), .val (.ref b16), .val .null, .val (.int (1 : Int32)), .val .null] [.null, .null])) X139 hx rfl rfl rfl (pc0 := 163) (pc' := 166) (same := true) rfl (hb hby at_163) rfl (decide_eq_true rfl) (by decide) (by decide) kgo) ?_
            refine own_go (g' := (mkF m 168 #[.val (.int p0), .val (.int p1), .val (.int p2), .val (.int p3), .val (.int p4), .val (.ref b1), .val (.ref b9), .val (.ref b12), .val (.ref b16), .val .null, .val (.int (1 : Int32)), .val .null] [(.ref b9)])) (fun _ kgo => XS.aload X139.here hx rfl (hb hby at_166) rfl rfl kgo) ?_
            obtain ⟨v140, T140, L140, hQ140, X140, st140⟩ := own_callV X139 hx hZ (y := (⟨"com/example/restlint/restlint/document/MappingNode", "appliesReference", "()Z"⟩ : MethodName)) (z := (⟨"com/example/restlint/restlint/document/MappingNode", "appliesReference", "()Z"⟩ : MethodName)) hown (hw _ (List.mem_of_getElem? (i := 128) rfl)) (hw _ (List.mem_of_getElem? (i := 129) rfl)) (notFace_of_selects (args := #[]) (mvT hZ (hw _ (List.mem_of_getElem? (i := 131) rfl)))) (hw _ (List.mem_of_getElem? (i := 131) rfl)) (hw _ (List.mem_of_getElem? (i := 130) rfl)) (hw _ (List.mem_of_getElem? (i := 35) rfl)) (hw _ (List.mem_of_getElem? (i := 132) rfl)) ⟨by decide, by decide⟩ (a := b9) (argsL := []) (apl_r l Z a0 hw b9 ap135 T135.heap q135_1) e139 q135_0 (g := (mkF m 168 #[.val (.int p0), .val (.int p1), .val (.int p2), .val (.int p3), .val (.int p4), .val (.ref b1), .val (.ref b9), .val (.ref b12), .val (.ref b16), .val .null, .val (.int (1 : Int32)), .val .null] [(.ref b9)])) rfl (by rw [hml]; rfl) (rest := []) (lenOf pd0_4 rfl) rfl (hb hby at_168) (W := 0) (by show 2 * 0 + _ ≤ _; exact Nat.le_of_eq rfl) (by decide) (by decide) (by decide) (by decide)
            obtain ⟨rfl, e140, rfl⟩ := hQ140
            have N140 := Fr.app N139 (Fr.nil n0)
            refine own_go (g' := (mkF m 171 #[.val (.int p0), .val (.int p1), .val (.int p2), .val (.int p3), .val (.int p4), .val (.ref b1), .val (.ref b9), .val (.ref b12), .val (.ref b16), .val .null, .val (.int (1 : Int32)), .val .null] [(.int (1 : Int32))])) (st140) ?_
            refine own_go (g' := (mkF m 173 #[.val (.int p0), .val (.int p1), .val (.int p2), .val (.int p3), .val (.int p4), .val (.ref b1), .val (.ref b9), .val (.ref b12), .val (.ref b16), .val .null, .val (.int (1 : Int32)), .val .null] [(.int (1 : Int32)), (.int (1 : Int32))])) (fun _ kgo => XS.iload X140.here hx rfl (hb hby at_171) rfl kgo) ?_
            refine own_go (g' := (mkF m 176 #[.val (.int p0), .val (.int p1), .val (.int p2), .val (.int p3), .val (.int p4), .val (.ref b1), .val (.ref b9), .val (.ref b12), .val (.ref b16), .val .null, .val (.int (1 : Int32)), .val .null] [])) (fun _ kgo => XS.icmpNo X140.here hx rfl (hb hby at_173) rfl (teq (by decide)).2 kgo) ?_
            refine own_go (g' := (mkF m 178 #[.val (.int p0), .val (.int p1), .val (.int p2), .val (.int p3), .val (.int p4), .val (.ref b1), .val (.ref b9), .val (.ref b12), .val (.ref b16), .val .null, .val (.int (1 : Int32)), .val .null] [(.ref b12)])) (fun _ kgo => XS.aload X140.here hx rfl (hb hby at_176) rfl rfl kgo) ?_
            have fx142 : Fld Z T135.heap b12 "com/example/restlint/restlint/document/MappingNode" "applied" "Lcom/example/restlint/restlint/document/MappingNode$Applied;" .null := (Fld.keep (Fld.keep (Fld.keep (Fld.ext E19 (Fld.ext E16 q14_1)) Kq21 (ninS ne_b12_b16 nin0)) Kq124 (ninS (Ne.symm ne_b9_b12) nin0)) Kq135 (ninS (Ne.symm ne_b9_b12) nin0))
            have fx143 : Exa Z T135.heap b12 "com/example/restlint/restlint/document/MappingNode" := (Exa.keep fx137 Kq135)
            obtain ⟨v141, T141, L141, hQ141, X141, st141⟩ := own_callV X140 hx hZ (y := (⟨"com/example/restlint/restlint/document/MappingNode", "applied", "()Lcom/example/restlint/restlint/document/Node;"⟩ : MethodName)) (z := (⟨"com/example/restlint/restlint/document/MappingNode", "applied", "()Lcom/example/restlint/restlint/document/Node;"⟩ : MethodName)) hown (hw _ (List.mem_of_getElem? (i := 84) rfl)) (hw _ (List.mem_of_getElem? (i := 85) rfl)) (notFace_of_selects (args := #[]) (mvT hZ (hw _ (List.mem_of_getElem? (i := 87) rfl)))) (hw _ (List.mem_of_getElem? (i := 87) rfl)) (hw _ (List.mem_of_getElem? (i := 86) rfl)) (hw _ (List.mem_of_getElem? (i := 35) rfl)) (hw _ (List.mem_of_getElem? (i := 88) rfl)) ⟨by decide, by decide⟩ (a := b12) (argsL := []) (app_n l Z a0 hw b12 T135.heap fx142) e140 fx143 (g := (mkF m 178 #[.val (.int p0), .val (.int p1), .val (.int p2), .val (.int p3), .val (.int p4), .val (.ref b1), .val (.ref b9), .val (.ref b12), .val (.ref b16), .val .null, .val (.int (1 : Int32)), .val .null] [(.ref b12)])) rfl (by rw [hml]; rfl) (rest := []) (lenOf pd0_3 rfl) rfl (hb hby at_178) (W := 0) (by show 2 * 0 + _ ≤ _; exact Nat.le_of_eq rfl) (by decide) (by decide) (by decide) (by decide)
            obtain ⟨rfl, e141, rfl⟩ := hQ141
            have N141 := Fr.app N140 (Fr.nil n0)
            refine own_go (g' := (mkF m 181 #[.val (.int p0), .val (.int p1), .val (.int p2), .val (.int p3), .val (.int p4), .val (.ref b1), .val (.ref b9), .val (.ref b12), .val (.ref b16), .val .null, .val (.int (1 : Int32)), .val .null] [.null])) (st141) ?_
            refine own_go (g' := (mkF m 184 #[.val (.int p0), .val (.int p1), .val (.int p2), .val (.int p3), .val (.int p4), .val (.ref b1), .val (.ref b9), .val (.ref b12), .val (.ref b16), .val .null, .val (.int (1 : Int32)), .val .null] [])) (fun _ kgo => XS.ifnonnullNo X141.here hx rfl (hb hby at_181) rfl kgo) ?_
            refine own_go (g' := (mkF m 185 #[.val (.int p0), .val (.int p1), .val (.int p2), .val (.int p3), .val (.int p4), .val (.ref b1), .val (.ref b9), .val (.ref b12), .val (.ref b16), .val .null, .val (.int (1 : Int32)), .val .null] [(.int (1 : Int32))])) (fun _ kgo => XS.iconst X141.here hx rfl (hb hby at_184) kgo) ?_
            refine own_go (g' := (mkF m 189 #[.val (.int p0), .val (.int p1), .val (.int p2), .val (.int p3), .val (.int p4), .val (.ref b1), .val (.ref b9), .val (.ref b12), .val (.ref b16), .val .null, .val (.int (1 : Int32)), .val .null] [(.int (1 : Int32))])) (fun _ kgo => XS.goto X141.here hx rfl (pc0 := 185) (pc' := 189) rfl (hb hby at_185) (by decide) (by decide) kgo) ?_
            refine own_retNW X141 hx hS19 e141 hk135 .boolean Bd.returns Bd.notSynchronized (by simp) (hb hby at_189) (by decide) (by decide) ?_
            show QQ _ T141.heap _
            rw [e141]
            rw [← hQQ]
            exact ⟨rfl, N141⟩
          ·
            obtain ⟨v144, T144, L144, hQ144, X144, st144⟩ := own_callS X127 hx hZ (y := (⟨"com/example/restlint/restlint/document/MappingNodeAppliedPinLaw", "pick", "(ILcom/example/restlint/restlint/document/Node;Lcom/example/restlint/restlint/document/Node;Lcom/example/restlint/restlint/document/Node;)Lcom/example/restlint/restlint/document/Node;"⟩ : MethodName)) hown (hw _ (List.mem_of_getElem? (i := 91) rfl)) (hw _ (List.mem_of_getElem? (i := 92) rfl)) (hw _ (List.mem_of_getElem? (i := 93) rfl)) (hw _ (List.mem_of_getElem? (i := 94) rfl)) ⟨by decide, by decide⟩ (argsL := [(.int p1), (.ref b16), (.ref b12), (.ref b9)]) (pick1 l Z a0 hw p1 b16 b12 b9 T124.heap hk_p1) e127 (g := (mkF m 137 #[.val (.int p0), .val (.int p1), .val (.int p2), .val (.int p3), .val (.int p4), .val (.ref b1), .val (.ref b9), .val (.ref b12), .val (.ref b16), .val (.ref b16), .val (.int (1 : Int32)), .val (.ref b16)] [(.ref b9), (.ref b12), (.ref b16), (.int p1)])) rfl (by rw [hml]; rfl) (rest := []) (lenOf pd0_5 rfl) rfl (hb hby at_137) (W := 0) (by show 2 * 0 + _ ≤ _; exact Nat.le_of_eq rfl) (by decide) (by decide) (by decide) (by decide)
            obtain ⟨rfl, e144, rfl⟩ := hQ144
            have N144 := Fr.app N127 (Fr.nil n0)
            refine own_go (g' := (mkF m 140 #[.val (.int p0), .val (.int p1), .val (.int p2), .val (.int p3), .val (.int p4), .val (.ref b1), .val (.ref b9), .val (.ref b12), .val (.ref b16), .val (.ref b16), .val (.int (1 : Int32)), .val (.ref b16)] [(.ref b16)])) (st144) ?_
            refine own_go (g' := (mkF m 142 #[.val (.int p0), .val (.int p1), .val (.int p2), .val (.int p3), .val (.int p4), .val (.ref b1), .val (.ref b9), .val (.ref b12), .val (.ref b16), .val (.ref b16), .val (.int (1 : Int32)), .val (.ref b16)] [])) (fun _ kgo => XS.astore X144.here hx rfl (hb hby at_140) rfl rfl (l' := #[.val (.int p0), .val (.int p1), .val (.int p2), .val (.int p3), .val (.int p4), .val (.ref b1), .val (.ref b9), .val (.ref b12), .val (.ref b16), .val (.ref b16), .val (.int (1 : Int32)), .val (.ref b16)]) rfl kgo) ?_
            refine own_go (g' := (mkF m 144 #[.val (.int p0), .val (.int p1), .val (.int p2), .val (.int p3), .val (.int p4), .val (.ref b1), .val (.ref b9), .val (.ref b12), .val (.ref b16), .val (.ref b16), .val (.int (1 : Int32)), .val (.ref b16)] [(.ref b9)])) (fun _ kgo => XS.aload X144.here hx rfl (hb hby at_142) rfl rfl kgo) ?_
            refine own_go (g' := (mkF m 146 #[.val (.int p0), .val (.int p1), .val (.int p2), .val (.int p3), .val (.int p4), .val (.ref b1), .val (.ref b9), .val (.ref b12), .val (.ref b16), .val (.ref b16), .val (.int (1 : Int32)), .val (.ref b16)] [(.ref b16), (.ref b9)])) (fun _ kgo => XS.aload X144.here hx rfl (hb hby at_144) rfl rfl kgo) ?_
            obtain ⟨v145, T145, L145, hQ145, X145, st145⟩ := own_callV X144 hx hZ (y := (⟨"com/example/restlint/restlint/document/MappingNode", "applyReference", "(Lcom/example/restlint/restlint/document/Node;)V"⟩ : MethodName)) (z := (⟨"com/example/restlint/restlint/document/MappingNode", "applyReference", "(Lcom/example/restlint/restlint/document/Node;)V"⟩ : MethodName)) hown (hw _ (List.mem_of_getElem? (i := 95) rfl)) (hw _ (List.mem_of_getElem? (i := 96) rfl)) (notFace_of_selects (args := #[]) (mvT hZ (hw _ (List.mem_of_getElem? (i := 98) rfl)))) (hw _ (List.mem_of_getElem? (i := 98) rfl)) (hw _ (List.mem_of_getElem? (i := 97) rfl)) (hw _ (List.mem_of_getElem? (i := 35) rfl)) (hw _ (List.mem_of_getElem? (i := 99) rfl)) ⟨by decide, by decide⟩ (a := b9) (argsL := [(.ref b16)]) (apr_rr l Z a0 hw b9 b16 ap124 T124.heap n0 Z124 ge_b9 q124_0 q124_1) e144 q124_0 (g := (mkF m 146 #[.val (.int p0), .val (.int p1), .val (.int p2), .val (.int p3), .val (.int p4), .val (.ref b1), .val (.ref b9), .val (.ref b12), .val (.ref b16), .val (.ref b16), .val (.int (1 : Int32)), .val (.ref b16)] [(.ref b16), (.ref b9)])) rfl (by rw [hml]; rfl) (rest := []) (lenOf pd0_6 rfl) rfl (hb hby at_146) (W := 0) (by show 2 * 0 + _ ≤ _; exact Nat.le_of_eq rfl) (by decide) (by decide) (by decide) (by decide)
            obtain ⟨ap145, rfl, Nq145, Kq145, pr145_0, q145_0, q145_1, q145_2⟩ := hQ145
            have fx146 : Exa Z T124.heap b1 "com/example/restlint/restlint/document/Location" := (Exa.keep fx125 Kq124)
            have ne_b1_ap145 : b1 ≠ ap145 := Nat.ne_of_lt (Nat.lt_of_lt_of_le fx146.lt pr145_0)
            have ne_b9_ap145 : b9 ≠ ap145 := Nat.ne_of_lt (Nat.lt_of_lt_of_le q124_0.lt pr145_0)
            have fx147 : Exa Z T124.heap b12 "com/example/restlint/restlint/document/MappingNode" := (Exa.keep fx126 Kq124)
            have ne_b12_ap145 : b12 ≠ ap145 := Nat.ne_of_lt (Nat.lt_of_lt_of_le fx147.lt pr145_0)
            have fx148 : Exa Z T124.heap b16 "com/example/restlint/restlint/document/ScalarNode" := (Exa.keep q21_0 Kq124)
            have ne_b16_ap145 : b16 ≠ ap145 := Nat.ne_of_lt (Nat.lt_of_lt_of_le fx148.lt pr145_0)
            have ne_ap124_ap145 : ap124 ≠ ap145 := Nat.ne_of_lt (Nat.lt_of_lt_of_le q124_2.lt pr145_0)
            have ge_ap145 : n0 ≤ ap145 := Nat.le_trans Z124 pr145_0
            have N145 := Fr.app N144 Nq145
            have hk145 := Nat.le_trans hk124 Kq145.1
            have Z145 : n0 ≤ T145.heap.size := Nat.le_trans Z124 Kq145.1
            refine own_go (g' := (mkF m 149 #[.val (.int p0), .val (.int p1), .val (.int p2), .val (.int p3), .val (.int p4), .val (.ref b1), .val (.ref b9), .val (.ref b12), .val (.ref b16), .val (.ref b16), .val (.int (1 : Int32)), .val (.ref b16)] [])) (st145) ?_
            refine own_go (g' := (mkF m 151 #[.val (.int p0), .val (.int p1), .val (.int p2), .val (.int p3), .val (.int p4), .val (.ref b1), .val (.ref b9), .val (.ref b12), .val (.ref b16), .val (.ref b16), .val (.int (1 : Int32)), .val (.ref b16)] [(.ref b16)])) (fun _ kgo => XS.aload X145.here hx rfl (hb hby at_149) rfl rfl kgo) ?_
            refine own_go (g' := (mkF m 153 #[.val (.int p0), .val (.int p1), .val (.int p2), .val (.int p3), .val (.int p4), .val (.ref b1), .val (.ref b9), .val (.ref b12), .val (.ref b16), .val (.ref b16), .val (.int (1 : Int32)), .val (.ref b16)] [])) (fun _ kgo => XS.astore X145.here hx rfl (hb hby at_151) rfl rfl (l' := #[.val (.int p0), .val (.int p1), .val (.int p2), .val (.int p3), .val (.int p4), .val (.ref b1), .val (.ref b9), .val (.ref b12), .val (.ref b16), .val (.ref b16), .val (.int (1 : Int32)), .val (.ref b16)]) rfl kgo) ?_
            refine own_go (g' := (mkF m 154 #[.val (.int p0), .val (.int p1), .val (.int p2), .val (.int p3), .val (.int p4), .val (.ref b1), .val (.ref b9), .val (.ref b12), .val (.ref b16), .val (.ref b16), .val (.int (1 : Int32)), .val (.ref b16)] [(.int (1 : Int32))])) (fun _ kgo => XS.iconst X145.here hx rfl (hb hby at_153) kgo) ?_
            refine own_go (g' := (mkF m 156 #[.val (.int p0), .val (.int p1), .val (.int p2), .val (.int p3), .val (.int p4), .val (.ref b1), .val (.ref b9), .val (.ref b12), .val (.ref b16), .val (.ref b16), .val (.int (1 : Int32)), .val (.ref b16)] [])) (fun _ kgo => XS.istore X145.here hx rfl (hb hby at_154) rfl (l' := #[.val (.int p0), .val (.int p1), .val (.int p2), .val (.int p3), .val (.int p4), .val (.ref b1), .val (.ref b9), .val (.ref b12), .val (.ref b16), .val (.ref b16), .val (.int (1 : Int32)), .val (.ref b16)]) rfl kgo) ?_
            refine own_go (g' := (mkF m 158 #[.val (.int p0), .val (.int p1), .val (.int p2), .val (.int p3), .val (.int p4), .val (.ref b1), .val (.ref b9), .val (.ref b12), .val (.ref b16), .val (.ref b16), .val (.int (1 : Int32)), .val (.ref b16)] [(.ref b9)])) (fun _ kgo => XS.aload X145.here hx rfl (hb hby at_156) rfl rfl kgo) ?_
            obtain ⟨v149, T149, L149, hQ149, X149, st149⟩ := own_callV X145 hx hZ (y := (⟨"com/example/restlint/restlint/document/MappingNode", "applied", "()Lcom/example/restlint/restlint/document/Node;"⟩ : MethodName)) (z := (⟨"com/example/restlint/restlint/document/MappingNode", "applied", "()Lcom/example/restlint/restlint/document/Node;"⟩ : MethodName)) hown (hw _ (List.mem_of_getElem? (i := 84) rfl)) (hw _ (List.mem_of_getElem? (i := 85) rfl)) (notFace_of_selects (args := #[]) (mvT hZ (hw _ (List.mem_of_getElem? (i := 87) rfl)))) (hw _ (List.mem_of_getElem? (i := 87) rfl)) (hw _ (List.mem_of_getElem? (i := 86) rfl)) (hw _ (List.mem_of_getElem? (i := 35) rfl)) (hw _ (List.mem_of_getElem? (i := 88) rfl)) ⟨by decide, by decide⟩ (a := b9) (argsL := []) (app_rr l Z a0 hw b9 ap145 b16 T145.heap q145_1 q145_2) rfl q145_0 (g := (mkF m 158 #[.val (.int p0), .val (.int p1), .val (.int p2), .val (.int p3), .val (.int p4), .val (.ref b1), .val (.ref b9), .val (.ref b12), .val (.ref b16), .val (.ref b16), .val (.int (1 : Int32)), .val (.ref b16)] [(.ref b9)])) rfl (by rw [hml]; rfl) (rest := []) (lenOf pd0_3 rfl) rfl (hb hby at_158) (W := 0) (by show 2 * 0 + _ ≤ _; exact Nat.le_of_eq rfl) (by decide) (by decide) (by decide) (by decide)
            obtain ⟨rfl, e149, rfl⟩ := hQ149
            have N149 := Fr.app N145 (Fr.nil n0)
            refine own_go (g' := (mkF m 161 #[.val (.int p0), .val (.int p1), .val (.int p2), .val (.int p3), .val (.int p4), .val (.ref b1), .val (.ref b9), .val (.ref b12), .val (.ref b16), .val (.ref b16), .val (.int (1 : Int32)), .val (.ref b16)] [(.ref b16)])) (st149) ?_
            refine own_go (g' := (mkF m 163 #[.val (.int p0), .val (.int p1), .val (.int p2), .val (.int p3), .val (.int p4), .val (.ref b1), .val (.ref b9), .val (.ref b12), .val (.ref b16), .val (.ref b16), .val (.int (1 : Int32)), .val (.ref b16)] [(.ref b16), (.ref b16)])) (fun _ kgo => XS.aload X149.here hx rfl (hb hby at_161) rfl rfl kgo) ?_
            refine own_go (g' := (mkF m 166 #[.val (.int p0), .val (.int p1), .val (.int p2), .val (.int p3), .val (.int p4), .val (.ref b1), .val (.ref b9), .val (.ref b12), .val (.ref b16), .val (.ref b16), .val (.int (1 : Int32)), .val (.ref b16)] [])) (fun _ kgo => Jvm.RoadKit.acmp (g := (mkF m 163 #[.val (.int p0), .val (.int p1), .val (.int p2), .val (.int p3), .val (.int p4), .val (.ref b1), .val (.ref b9), .val (.ref b12), .val (.ref b16), .val (.ref b16), .val (.int (1 : Int32)), .val (.ref b16)] [(.ref b16), (.ref b16)])) X149 hx rfl rfl rfl (pc0 := 163) (pc' := 166) (same := true) rfl (hb hby at_163) rfl (decide_eq_true rfl) (by decide) (by decide) kgo) ?_
            refine own_go (g' := (mkF m 168 #[.val (.int p0), .val (.int p1), .val (.int p2), .val (.int p3), .val (.int p4), .val (.ref b1), .val (.ref b9), .val (.ref b12), .val (.ref b16), .val (.ref b16), .val (.int (1 : Int32)), .val (.ref b16)] [(.ref b9)])) (fun _ kgo => XS.aload X149.here hx rfl (hb hby at_166) rfl rfl kgo) ?_
            obtain ⟨v150, T150, L150, hQ150, X150, st150⟩ := own_callV X149 hx hZ (y := (⟨"com/example/restlint/restlint/document/MappingNode", "appliesReference", "()Z"⟩ : MethodName)) (z := (⟨"com/example/restlint/restlint/document/MappingNode", "appliesReference", "()Z"⟩ : MethodName)) hown (hw _ (List.mem_of_getElem? (i := 128) rfl)) (hw _ (List.mem_of_getElem? (i := 129) rfl)) (notFace_of_selects (args := #[]) (mvT hZ (hw _ (List.mem_of_getElem? (i := 131) rfl)))) (hw _ (List.mem_of_getElem? (i := 131) rfl)) (hw _ (List.mem_of_getElem? (i := 130) rfl)) (hw _ (List.mem_of_getElem? (i := 35) rfl)) (hw _ (List.mem_of_getElem? (i := 132) rfl)) ⟨by decide, by decide⟩ (a := b9) (argsL := []) (apl_r l Z a0 hw b9 ap145 T145.heap q145_1) e149 q145_0 (g := (mkF m 168 #[.val (.int p0), .val (.int p1), .val (.int p2), .val (.int p3), .val (.int p4), .val (.ref b1), .val (.ref b9), .val (.ref b12), .val (.ref b16), .val (.ref b16), .val (.int (1 : Int32)), .val (.ref b16)] [(.ref b9)])) rfl (by rw [hml]; rfl) (rest := []) (lenOf pd0_4 rfl) rfl (hb hby at_168) (W := 0) (by show 2 * 0 + _ ≤ _; exact Nat.le_of_eq rfl) (by decide) (by decide) (by decide) (by decide)
            obtain ⟨rfl, e150, rfl⟩ := hQ150
            have N150 := Fr.app N149 (Fr.nil n0)
            refine own_go (g' := (mkF m 171 #[.val (.int p0), .val (.int p1), .val (.int p2), .val (.int p3), .val (.int p4), .val (.ref b1), .val (.ref b9), .val (.ref b12), .val (.ref b16), .val (.ref b16), .val (.int (1 : Int32)), .val (.ref b16)] [(.int (1 : Int32))])) (st150) ?_
            refine own_go (g' := (mkF m 173 #[.val (.int p0), .val (.int p1), .val (.int p2), .val (.int p3), .val (.int p4), .val (.ref b1), .val (.ref b9), .val (.ref b12), .val (.ref b16), .val (.ref b16), .val (.int (1 : Int32)), .val (.ref b16)] [(.int (1 : Int32)), (.int (1 : Int32))])) (fun _ kgo => XS.iload X150.here hx rfl (hb hby at_171) rfl kgo) ?_
            refine own_go (g' := (mkF m 176 #[.val (.int p0), .val (.int p1), .val (.int p2), .val (.int p3), .val (.int p4), .val (.ref b1), .val (.ref b9), .val (.ref b12), .val (.ref b16), .val (.ref b16), .val (.int (1 : Int32)), .val (.ref b16)] [])) (fun _ kgo => XS.icmpNo X150.here hx rfl (hb hby at_173) rfl (teq (by decide)).2 kgo) ?_
            refine own_go (g' := (mkF m 178 #[.val (.int p0), .val (.int p1), .val (.int p2), .val (.int p3), .val (.int p4), .val (.ref b1), .val (.ref b9), .val (.ref b12), .val (.ref b16), .val (.ref b16), .val (.int (1 : Int32)), .val (.ref b16)] [(.ref b12)])) (fun _ kgo => XS.aload X150.here hx rfl (hb hby at_176) rfl rfl kgo) ?_
            have fx152 : Fld Z T145.heap b12 "com/example/restlint/restlint/document/MappingNode" "applied" "Lcom/example/restlint/restlint/document/MappingNode$Applied;" .null := (Fld.keep (Fld.keep (Fld.keep (Fld.ext E19 (Fld.ext E16 q14_1)) Kq21 (ninS ne_b12_b16 nin0)) Kq124 (ninS (Ne.symm ne_b9_b12) nin0)) Kq145 (ninS (Ne.symm ne_b9_b12) nin0))
            have fx153 : Exa Z T145.heap b12 "com/example/restlint/restlint/document/MappingNode" := (Exa.keep fx147 Kq145)
            obtain ⟨v151, T151, L151, hQ151, X151, st151⟩ := own_callV X150 hx hZ (y := (⟨"com/example/restlint/restlint/document/MappingNode", "applied", "()Lcom/example/restlint/restlint/document/Node;"⟩ : MethodName)) (z := (⟨"com/example/restlint/restlint/document/MappingNode", "applied", "()Lcom/example/restlint/restlint/document/Node;"⟩ : MethodName)) hown (hw _ (List.mem_of_getElem? (i := 84) rfl)) (hw _ (List.mem_of_getElem? (i := 85) rfl)) (notFace_of_selects (args := #[]) (mvT hZ (hw _ (List.mem_of_getElem? (i := 87) rfl)))) (hw _ (List.mem_of_getElem? (i := 87) rfl)) (hw _ (List.mem_of_getElem? (i := 86) rfl)) (hw _ (List.mem_of_getElem? (i := 35) rfl)) (hw _ (List.mem_of_getElem? (i := 88) rfl)) ⟨by decide, by decide⟩ (a := b12) (argsL := []) (app_n l Z a0 hw b12 T145.heap fx152) e150 fx153 (g := (mkF m 178 #[.val (.int p0), .val (.int p1), .val (.int p2), .val (.int p3), .val (.int p4), .val (.ref b1), .val (.ref b9), .val (.ref b12), .val (.ref b16), .val (.ref b16), .val (.int (1 : Int32)), .val (.ref b16)] [(.ref b12)])) rfl (by rw [hml]; rfl) (rest := []) (lenOf pd0_3 rfl) rfl (hb hby at_178) (W := 0) (by show 2 * 0 + _ ≤ _; exact Nat.le_of_eq rfl) (by decide) (by decide) (by decide) (by decide)
            obtain ⟨rfl, e151, rfl⟩ := hQ151
            have N151 := Fr.app N150 (Fr.nil n0)
            refine own_go (g' := (mkF m 181 #[.val (.int p0), .val (.int p1), .val (.int p2), .val (.int p3), .val (.int p4), .val (.ref b1), .val (.ref b9), .val (.ref b12), .val (.ref b16), .val (.ref b16), .val (.int (1 : Int32)), .val (.ref b16)] [.null])) (st151) ?_
            refine own_go (g' := (mkF m 184 #[.val (.int p0), .val (.int p1), .val (.int p2), .val (.int p3), .val (.int p4), .val (.ref b1), .val (.ref b9), .val (.ref b12), .val (.ref b16), .val (.ref b16), .val (.int (1 : Int32)), .val (.ref b16)] [])) (fun _ kgo => XS.ifnonnullNo X151.here hx rfl (hb hby at_181) rfl kgo) ?_
            refine own_go (g' := (mkF m 185 #[.val (.int p0), .val (.int p1), .val (.int p2), .val (.int p3), .val (.int p4), .val (.ref b1), .val (.ref b9), .val (.ref b12), .val (.ref b16), .val (.ref b16), .val (.int (1 : Int32)), .val (.ref b16)] [(.int (1 : Int32))])) (fun _ kgo => XS.iconst X151.here hx rfl (hb hby at_184) kgo) ?_
            refine own_go (g' := (mkF m 189 #[.val (.int p0), .val (.int p1), .val (.int p2), .val (.int p3), .val (.int p4), .val (.ref b1), .val (.ref b9), .val (.ref b12), .val (.ref b16), .val (.ref b16), .val (.int (1 : Int32)), .val (.ref b16)] [(.int (1 : Int32))])) (fun _ kgo => XS.goto X151.here hx rfl (pc0 := 185) (pc' := 189) rfl (hb hby at_185) (by decide) (by decide) kgo) ?_
            refine own_retNW X151 hx hS19 e151 hk145 .boolean Bd.returns Bd.notSynchronized (by simp) (hb hby at_189) (by decide) (by decide) ?_
            show QQ _ T151.heap _
            rw [e151]
            rw [← hQQ]
            exact ⟨rfl, N151⟩
          ·
            obtain ⟨v154, T154, L154, hQ154, X154, st154⟩ := own_callS X127 hx hZ (y := (⟨"com/example/restlint/restlint/document/MappingNodeAppliedPinLaw", "pick", "(ILcom/example/restlint/restlint/document/Node;Lcom/example/restlint/restlint/document/Node;Lcom/example/restlint/restlint/document/Node;)Lcom/example/restlint/restlint/document/Node;"⟩ : MethodName)) hown (hw _ (List.mem_of_getElem? (i := 91) rfl)) (hw _ (List.mem_of_getElem? (i := 92) rfl)) (hw _ (List.mem_of_getElem? (i := 93) rfl)) (hw _ (List.mem_of_getElem? (i := 94) rfl)) ⟨by decide, by decide⟩ (argsL := [(.int p1), (.ref b16), (.ref b12), (.ref b9)]) (pick2 l Z a0 hw p1 b16 b12 b9 T124.heap hk_p1) e127 (g := (mkF m 137 #[.val (.int p0), .val (.int p1), .val (.int p2), .val (.int p3), .val (.int p4), .val (.ref b1), .val (.ref b9), .val (.ref b12), .val (.ref b16), .val (.ref b16), .val (.int (1 : Int32)), .val (.ref b16)] [(.ref b9), (.ref b12), (.ref b16), (.int p1)])) rfl (by rw [hml]; rfl) (rest := []) (lenOf pd0_5 rfl) rfl (hb hby at_137) (W := 0) (by show 2 * 0 + _ ≤ _; exact Nat.le_of_eq rfl) (by decide) (by decide) (by decide) (by decide)
            obtain ⟨rfl, e154, rfl⟩ := hQ154
            have N154 := Fr.app N127 (Fr.nil n0)
            refine own_go (g' := (mkF m 140 #[.val (.int p0), .val (.int p1), .val (.int p2), .val (.int p3), .val (.int p4), .val (.ref b1), .val (.ref b9), .val (.ref b12), .val (.ref b16), .val (.ref b16), .val (.int (1 : Int32)), .val (.ref b16)] [(.ref b12)])) (st154) ?_
            refine own_go (g' := (mkF m 142 #[.val (.int p0), .val (.int p1), .val (.int p2), .val (.int p3), .val (.int p4), .val (.ref b1), .val (.ref b9), .val (.ref b12), .val (.ref b16), .val (.ref b16), .val (.int (1 : Int32)), .val (.ref b12)] [])) (fun _ kgo => XS.astore X154.here hx rfl (hb hby at_140) rfl rfl (l' := #[.val (.int p0), .val (.int p1), .val (.int p2), .val (.int p3), .val (.int p4), .val (.ref b1), .val (.ref b9), .val (.ref b12), .val (.ref b16), .val (.ref b16), .val (.int (1 : Int32)), .val (.ref b12)]) rfl kgo) ?_
            refine own_go (g' := (mkF m 144 #[.val (.int p0), .val (.int p1), .val (.int p2), .val (.int p3), .val (.int p4), .val (.ref b1), .val (.ref b9), .val (.ref b12), .val (.ref b16), .val (.ref b16), .val (.int (1 : Int32)), .val (.ref b12)] [(.ref b9)])) (fun _ kgo => XS.aload X154.here hx rfl (hb hby at_142) rfl rfl kgo) ?_
            refine own_go (g' := (mkF m 146 #[.val (.int p0), .val (.int p1), .val (.int p2), .val (.int p3), .val (.int p4), .val (.ref b1), .val (.ref b9), .val (.ref b12), .val (.ref b16), .val (.ref b16), .val (.int (1 : Int32)), .val (.ref b12)] [(.ref b12), (.ref b9)])) (fun _ kgo => XS.aload X154.here hx rfl (hb hby at_144) rfl rfl kgo) ?_
            obtain ⟨v155, T155, L155, hQ155, X155, st155⟩ := own_callV X154 hx hZ (y := (⟨"com/example/restlint/restlint/document/MappingNode", "applyReference", "(Lcom/example/restlint/restlint/document/Node;)V"⟩ : MethodName)) (z := (⟨"com/example/restlint/restlint/document/MappingNode", "applyReference", "(Lcom/example/restlint/restlint/document/Node;)V"⟩ : MethodName)) hown (hw _ (List.mem_of_getElem? (i := 95) rfl)) (hw _ (List.mem_of_getElem? (i := 96) rfl)) (notFace_of_selects (args := #[]) (mvT hZ (hw _ (List.mem_of_getElem? (i := 98) rfl)))) (hw _ (List.mem_of_getElem? (i := 98) rfl)) (hw _ (List.mem_of_getElem? (i := 97) rfl)) (hw _ (List.mem_of_getElem? (i := 35) rfl)) (hw _ (List.mem_of_getElem? (i := 99) rfl)) ⟨by decide, by decide⟩ (a := b9) (argsL := [(.ref b12)]) (apr_rr l Z a0 hw b9 b12 ap124 T124.heap n0 Z124 ge_b9 q124_0 q124_1) e154 q124_0 (g := (mkF m 146 #[.val (.int p0), .val (.int p1), .val (.int p2), .val (.int p3), .val (.int p4), .val (.ref b1), .val (.ref b9), .val (.ref b12), .val (.ref b16), .val (.ref b16), .val (.int (1 : Int32)), .val (.ref b12)] [(.ref b12), (.ref b9)])) rfl (by rw [hml]; rfl) (rest := []) (lenOf pd0_6 rfl) rfl (hb hby at_146) (W := 0) (by show 2 * 0 + _ ≤ _; exact Nat.le_of_eq rfl) (by decide) (by decide) (by decide) (by decide)
            obtain ⟨ap155, rfl, Nq155, Kq155, pr155_0, q155_0, q155_1, q155_2⟩ := hQ155
            have fx156 : Exa Z T124.heap b1 "com/example/restlint/restlint/document/Location" := (Exa.keep fx125 Kq124)
            have ne_b1_ap155 : b1 ≠ ap155 := Nat.ne_of_lt (Nat.lt_of_lt_of_le fx156.lt pr155_0)
            have ne_b9_ap155 : b9 ≠ ap155 := Nat.ne_of_lt (Nat.lt_of_lt_of_le q124_0.lt pr155_0)
            have fx157 : Exa Z T124.heap b12 "com/example/restlint/restlint/document/MappingNode" := (Exa.keep fx126 Kq124)
            have ne_b12_ap155 : b12 ≠ ap155 := Nat.ne_of_lt (Nat.lt_of_lt_of_le fx157.lt pr155_0)
            have fx158 : Exa Z T124.heap b16 "com/example/restlint/restlint/document/ScalarNode" := (Exa.keep q21_0 Kq124)
            have ne_b16_ap155 : b16 ≠ ap155 := Nat.ne_of_lt (Nat.lt_of_lt_of_le fx158.lt pr155_0)
            have ne_ap124_ap155 : ap124 ≠ ap155 := Nat.ne_of_lt (Nat.lt_of_lt_of_le q124_2.lt pr155_0)
            have ge_ap155 : n0 ≤ ap155 := Nat.le_trans Z124 pr155_0
            have N155 := Fr.app N154 Nq155
            have hk155 := Nat.le_trans hk124 Kq155.1
            have Z155 : n0 ≤ T155.heap.size := Nat.le_trans Z124 Kq155.1
            refine own_go (g' := (mkF m 149 #[.val (.int p0), .val (.int p1), .val (.int p2), .val (.int p3), .val (.int p4), .val (.ref b1), .val (.ref b9), .val (.ref b12), .val (.ref b16), .val (.ref b16), .val (.int (1 : Int32)), .val (.ref b12)] [])) (st155) ?_
            refine own_go (g' := (mkF m 151 #[.val (.int p0), .val (.int p1), .val (.int p2), .val (.int p3), .val (.int p4), .val (.ref b1), .val (.ref b9), .val (.ref b12), .val (.ref b16), .val (.ref b16), .val (.int (1 : Int32)), .val (.ref b12)] [(.ref b12)])) (fun _ kgo => XS.aload X155.here hx rfl (hb hby at_149) rfl rfl kgo) ?_
            refine own_go (g' := (mkF m 153 #[.val (.int p0), .val (.int p1), .val (.int p2), .val (.int p3), .val (.int p4), .val (.ref b1), .val (.ref b9), .val (.ref b12), .val (.ref b16), .val (.ref b12), .val (.int (1 : Int32)), .val (.ref b12)] [])) (fun _ kgo => XS.astore X155.here hx rfl (hb hby at_151) rfl rfl (l' := #[.val (.int p0), .val (.int p1), .val (.int p2), .val (.int p3), .val (.int p4), .val (.ref b1), .val (.ref b9), .val (.ref b12), .val (.ref b16), .val (.ref b12), .val (.int (1 : Int32)), .val (.ref b12)]) rfl kgo) ?_
            refine own_go (g' := (mkF m 154 #[.val (.int p0), .val (.int p1), .val (.int p2), .val (.int p3), .val (.int p4), .val (.ref b1), .val (.ref b9), .val (.ref b12), .val (.ref b16), .val (.ref b12), .val (.int (1 : Int32)), .val (.ref b12)] [(.int (1 : Int32))])) (fun _ kgo => XS.iconst X155.here hx rfl (hb hby at_153) kgo) ?_
            refine own_go (g' := (mkF m 156 #[.val (.int p0), .val (.int p1), .val (.int p2), .val (.int p3), .val (.int p4), .val (.ref b1), .val (.ref b9), .val (.ref b12), .val (.ref b16), .val (.ref b12), .val (.int (1 : Int32)), .val (.ref b12)] [])) (fun _ kgo => XS.istore X155.here hx rfl (hb hby at_154) rfl (l' := #[.val (.int p0), .val (.int p1), .val (.int p2), .val (.int p3), .val (.int p4), .val (.ref b1), .val (.ref b9), .val (.ref b12), .val (.ref b16), .val (.ref b12), .val (.int (1 : Int32)), .val (.ref b12)]) rfl kgo) ?_
            refine own_go (g' := (mkF m 158 #[.val (.int p0), .val (.int p1), .val (.int p2), .val (.int p3), .val (.int p4), .val (.ref b1), .val (.ref b9), .val (.ref b12), .val (.ref b16), .val (.ref b12), .val (.int (1 : Int32)), .val (.ref b12)] [(.ref b9)])) (fun _ kgo => XS.aload X155.here hx rfl (hb hby at_156) rfl rfl kgo) ?_
            obtain ⟨v159, T159, L159, hQ159, X159, st159⟩ := own_callV X155 hx hZ (y := (⟨"com/example/restlint/restlint/document/MappingNode", "applied", "()Lcom/example/restlint/restlint/document/Node;"⟩ : MethodName)) (z := (⟨"com/example/restlint/restlint/document/MappingNode", "applied", "()Lcom/example/restlint/restlint/document/Node;"⟩ : MethodName)) hown (hw _ (List.mem_of_getElem? (i := 84) rfl)) (hw _ (List.mem_of_getElem? (i := 85) rfl)) (notFace_of_selects (args := #[]) (mvT hZ (hw _ (List.mem_of_getElem? (i := 87) rfl)))) (hw _ (List.mem_of_getElem? (i := 87) rfl)) (hw _ (List.mem_of_getElem? (i := 86) rfl)) (hw _ (List.mem_of_getElem? (i := 35) rfl)) (hw _ (List.mem_of_getElem? (i := 88) rfl)) ⟨by decide, by decide⟩ (a := b9) (argsL := []) (app_rr l Z a0 hw b9 ap155 b12 T155.heap q155_1 q155_2) rfl q155_0 (g := (mkF m 158 #[.val (.int p0), .val (.int p1), .val (.int p2), .val (.int p3), .val (.int p4), .val (.ref b1), .val (.ref b9), .val (.ref b12), .val (.ref b16), .val (.ref b12), .val (.int (1 : Int32)), .val (.ref b12)] [(.ref b9)])) rfl (by rw [hml]; rfl) (rest := []) (lenOf pd0_3 rfl) rfl (hb hby at_158) (W := 0) (by show 2 * 0 + _ ≤ _; exact Nat.le_of_eq rfl) (by decide) (by decide) (by decide) (by decide)
            obtain ⟨rfl, e159, rfl⟩ := hQ159
            have N159 := Fr.app N155 (Fr.nil n0)
            refine own_go (g' := (mkF m 161 #[.val (.int p0), .val (.int p1), .val (.int p2), .val (.int p3), .val (.int p4), .val (.ref b1), .val (.ref b9), .val (.ref b12), .val (.ref b16), .val (.ref b12), .val (.int (1 : Int32)), .val (.ref b12)] [(.ref b12)])) (st159) ?_
            refine own_go (g' := (mkF m 163 #[.val (.int p0), .val (.int p1), .val (.int p2), .val (.int p3), .val (.int p4), .val (.ref b1), .val (.ref b9), .val (.ref b12), .val (.ref b16), .val (.ref b12), .val (.int (1 : Int32)), .val (.ref b12)] [(.ref b12), (.ref b12)])) (fun _ kgo => XS.aload X159.here hx rfl (hb hby at_161) rfl rfl kgo) ?_
            refine own_go (g' := (mkF m 166 #[.val (.int p0), .val (.int p1), .val (.int p2), .val (.int p3), .val (.int p4), .val (.ref b1), .val (.ref b9), .val (.ref b12), .val (.ref b16), .val (.ref b12), .val (.int (1 : Int32)), .val (.ref b12)] [])) (fun _ kgo => Jvm.RoadKit.acmp (g := (mkF m 163 #[.val (.int p0), .val (.int p1), .val (.int p2), .val (.int p3), .val (.int p4), .val (.ref b1), .val (.ref b9), .val (.ref b12), .val (.ref b16), .val (.ref b12), .val (.int (1 : Int32)), .val (.ref b12)] [(.ref b12), (.ref b12)])) X159 hx rfl rfl rfl (pc0 := 163) (pc' := 166) (same := true) rfl (hb hby at_163) rfl (decide_eq_true rfl) (by decide) (by decide) kgo) ?_
            refine own_go (g' := (mkF m 168 #[.val (.int p0), .val (.int p1), .val (.int p2), .val (.int p3), .val (.int p4), .val (.ref b1), .val (.ref b9), .val (.ref b12), .val (.ref b16), .val (.ref b12), .val (.int (1 : Int32)), .val (.ref b12)] [(.ref b9)])) (fun _ kgo => XS.aload X159.here hx rfl (hb hby at_166) rfl rfl kgo) ?_
            obtain ⟨v160, T160, L160, hQ160, X160, st160⟩ := own_callV X159 hx hZ (y := (⟨"com/example/restlint/restlint/document/MappingNode", "appliesReference", "()Z"⟩ : MethodName)) (z := (⟨"com/example/restlint/restlint/document/MappingNode", "appliesReference", "()Z"⟩ : MethodName)) hown (hw _ (List.mem_of_getElem? (i := 128) rfl)) (hw _ (List.mem_of_getElem? (i := 129) rfl)) (notFace_of_selects (args := #[]) (mvT hZ (hw _ (List.mem_of_getElem? (i := 131) rfl)))) (hw _ (List.mem_of_getElem? (i := 131) rfl)) (hw _ (List.mem_of_getElem? (i := 130) rfl)) (hw _ (List.mem_of_getElem? (i := 35) rfl)) (hw _ (List.mem_of_getElem? (i := 132) rfl)) ⟨by decide, by decide⟩ (a := b9) (argsL := []) (apl_r l Z a0 hw b9 ap155 T155.heap q155_1) e159 q155_0 (g := (mkF m 168 #[.val (.int p0), .val (.int p1), .val (.int p2), .val (.int p3), .val (.int p4), .val (.ref b1), .val (.ref b9), .val (.ref b12), .val (.ref b16), .val (.ref b12), .val (.int (1 : Int32)), .val (.ref b12)] [(.ref b9)])) rfl (by rw [hml]; rfl) (rest := []) (lenOf pd0_4 rfl) rfl (hb hby at_168) (W := 0) (by show 2 * 0 + _ ≤ _; exact Nat.le_of_eq rfl) (by decide) (by decide) (by decide) (by decide)
            obtain ⟨rfl, e160, rfl⟩ := hQ160
            have N160 := Fr.app N159 (Fr.nil n0)
            refine own_go (g' := (mkF m 171 #[.val (.int p0), .val (.int p1), .val (.int p2), .val (.int p3), .val (.int p4), .val (.ref b1), .val (.ref b9), .val (.ref b12), .val (.ref b16), .val (.ref b12), .val (.int (1 : Int32)), .val (.ref b12)] [(.int (1 : Int32))])) (st160) ?_
            refine own_go (g' := (mkF m 173 #[.val (.int p0), .val (.int p1), .val (.int p2), .val (.int p3), .val (.int p4), .val (.ref b1), .val (.ref b9), .val (.ref b12), .val (.ref b16), .val (.ref b12), .val (.int (1 : Int32)), .val (.ref b12)] [(.int (1 : Int32)), (.int (1 : Int32))])) (fun _ kgo => XS.iload X160.here hx rfl (hb hby at_171) rfl kgo) ?_
            refine own_go (g' := (mkF m 176 #[.val (.int p0), .val (.int p1), .val (.int p2), .val (.int p3), .val (.int p4), .val (.ref b1), .val (.ref b9), .val (.ref b12), .val (.ref b16), .val (.ref b12), .val (.int (1 : Int32)), .val (.ref b12)] [])) (fun _ kgo => XS.icmpNo X160.here hx rfl (hb hby at_173) rfl (teq (by decide)).2 kgo) ?_
            refine own_go (g' := (mkF m 178 #[.val (.int p0), .val (.int p1), .val (.int p2), .val (.int p3), .val (.int p4), .val (.ref b1), .val (.ref b9), .val (.ref b12), .val (.ref b16), .val (.ref b12), .val (.int (1 : Int32)), .val (.ref b12)] [(.ref b12)])) (fun _ kgo => XS.aload X160.here hx rfl (hb hby at_176) rfl rfl kgo) ?_
            have fx162 : Fld Z T155.heap b12 "com/example/restlint/restlint/document/MappingNode" "applied" "Lcom/example/restlint/restlint/document/MappingNode$Applied;" .null := (Fld.keep (Fld.keep (Fld.keep (Fld.ext E19 (Fld.ext E16 q14_1)) Kq21 (ninS ne_b12_b16 nin0)) Kq124 (ninS (Ne.symm ne_b9_b12) nin0)) Kq155 (ninS (Ne.symm ne_b9_b12) nin0))
            have fx163 : Exa Z T155.heap b12 "com/example/restlint/restlint/document/MappingNode" := (Exa.keep fx157 Kq155)
            obtain ⟨v161, T161, L161, hQ161, X161, st161⟩ := own_callV X160 hx hZ (y := (⟨"com/example/restlint/restlint/document/MappingNode", "applied", "()Lcom/example/restlint/restlint/document/Node;"⟩ : MethodName)) (z := (⟨"com/example/restlint/restlint/document/MappingNode", "applied", "()Lcom/example/restlint/restlint/document/Node;"⟩ : MethodName)) hown (hw _ (List.mem_of_getElem? (i := 84) rfl)) (hw _ (List.mem_of_getElem? (i := 85) rfl)) (notFace_of_selects (args := #[]) (mvT hZ (hw _ (List.mem_of_getElem? (i := 87) rfl)))) (hw _ (List.mem_of_getElem? (i := 87) rfl)) (hw _ (List.mem_of_getElem? (i := 86) rfl)) (hw _ (List.mem_of_getElem? (i := 35) rfl)) (hw _ (List.mem_of_getElem? (i := 88) rfl)) ⟨by decide, by decide⟩ (a := b12) (argsL := []) (app_n l Z a0 hw b12 T155.heap fx162) e160 fx163 (g := (mkF m 178 #[.val (.int p0), .val (.int p1), .val (.int p2), .val (.int p3), .val (.int p4), .val (.ref b1), .val (.ref b9), .val (.ref b12), .val (.ref b16), .val (.ref b12), .val (.int (1 : Int32)), .val (.ref b12)] [(.ref b12)])) rfl (by rw [hml]; rfl) (rest := []) (lenOf pd0_3 rfl) rfl (hb hby at_178) (W := 0) (by show 2 * 0 + _ ≤ _; exact Nat.le_of_eq rfl) (by decide) (by decide) (by decide) (by decide)
            obtain ⟨rfl, e161, rfl⟩ := hQ161
            have N161 := Fr.app N160 (Fr.nil n0)
            refine own_go (g' := (mkF m 181 #[.val (.int p0), .val (.int p1), .val (.int p2), .val (.int p3), .val (.int p4), .val (.ref b1), .val (.ref b9), .val (.ref b12), .val (.ref b16), .val (.ref b12), .val (.int (1 : Int32)), .val (.ref b12)] [.null])) (st161) ?_
            refine own_go (g' := (mkF m 184 #[.val (.int p0), .val (.int p1), .val (.int p2), .val (.int p3), .val (.int p4), .val (.ref b1), .val (.ref b9), .val (.ref b12), .val (.ref b16), .val (.ref b12), .val (.int (1 : Int32)), .val (.ref b12)] [])) (fun _ kgo => XS.ifnonnullNo X161.here hx rfl (hb hby at_181) rfl kgo) ?_
            refine own_go (g' := (mkF m 185 #[.val (.int p0), .val (.int p1), .val (.int p2), .val (.int p3), .val (.int p4), .val (.ref b1), .val (.ref b9), .val (.ref b12), .val (.ref b16), .val (.ref b12), .val (.int (1 : Int32)), .val (.ref b12)] [(.int (1 : Int32))])) (fun _ kgo => XS.iconst X161.here hx rfl (hb hby at_184) kgo) ?_
            refine own_go (g' := (mkF m 189 #[.val (.int p0), .val (.int p1), .val (.int p2), .val (.int p3), .val (.int p4), .val (.ref b1), .val (.ref b9), .val (.ref b12), .val (.ref b16), .val (.ref b12), .val (.int (1 : Int32)), .val (.ref b12)] [(.int (1 : Int32))])) (fun _ kgo => XS.goto X161.here hx rfl (pc0 := 185) (pc' := 189) rfl (hb hby at_185) (by decide) (by decide) kgo) ?_
            refine own_retNW X161 hx hS19 e161 hk155 .boolean Bd.returns Bd.notSynchronized (by simp) (hb hby at_189) (by decide) (by decide) ?_
            show QQ _ T161.heap _
            rw [e161]
            rw [← hQQ]
            exact ⟨rfl, N161⟩
          ·
            obtain ⟨v164, T164, L164, hQ164, X164, st164⟩ := own_callS X127 hx hZ (y := (⟨"com/example/restlint/restlint/document/MappingNodeAppliedPinLaw", "pick", "(ILcom/example/restlint/restlint/document/Node;Lcom/example/restlint/restlint/document/Node;Lcom/example/restlint/restlint/document/Node;)Lcom/example/restlint/restlint/document/Node;"⟩ : MethodName)) hown (hw _ (List.mem_of_getElem? (i := 91) rfl)) (hw _ (List.mem_of_getElem? (i := 92) rfl)) (hw _ (List.mem_of_getElem? (i := 93) rfl)) (hw _ (List.mem_of_getElem? (i := 94) rfl)) ⟨by decide, by decide⟩ (argsL := [(.int p1), (.ref b16), (.ref b12), (.ref b9)]) (pick3 l Z a0 hw p1 b16 b12 b9 T124.heap hk_p1) e127 (g := (mkF m 137 #[.val (.int p0), .val (.int p1), .val (.int p2), .val (.int p3), .val (.int p4), .val (.ref b1), .val (.ref b9), .val (.ref b12), .val (.ref b16), .val (.ref b16), .val (.int (1 : Int32)), .val (.ref b16)] [(.ref b9), (.ref b12), (.ref b16), (.int p1)])) rfl (by rw [hml]; rfl) (rest := []) (lenOf pd0_5 rfl) rfl (hb hby at_137) (W := 0) (by show 2 * 0 + _ ≤ _; exact Nat.le_of_eq rfl) (by decide) (by decide) (by decide) (by decide)
            obtain ⟨rfl, e164, rfl⟩ := hQ164
            have N164 := Fr.app N127 (Fr.nil n0)
            refine own_go (g' := (mkF m 140 #[.val (.int p0), .val (.int p1), .val (.int p2), .val (.int p3), .val (.int p4), .val (.ref b1), .val (.ref b9), .val (.ref b12), .val (.ref b16), .val (.ref b16), .val (.int (1 : Int32)), .val (.ref b16)] [(.ref b9)])) (st164) ?_
            refine own_go (g' := (mkF m 142 #[.val (.int p0), .val (.int p1), .val (.int p2), .val (.int p3), .val (.int p4), .val (.ref b1), .val (.ref b9), .val (.ref b12), .val (.ref b16), .val (.ref b16), .val (.int (1 : Int32)), .val (.ref b9)] [])) (fun _ kgo => XS.astore X164.here hx rfl (hb hby at_140) rfl rfl (l' := #[.val (.int p0), .val (.int p1), .val (.int p2), .val (.int p3), .val (.int p4), .val (.ref b1), .val (.ref b9), .val (.ref b12), .val (.ref b16), .val (.ref b16), .val (.int (1 : Int32)), .val (.ref b9)]) rfl kgo) ?_
            refine own_go (g' := (mkF m 144 #[.val (.int p0), .val (.int p1), .val (.int p2), .val (.int p3), .val (.int p4), .val (.ref b1), .val (.ref b9), .val (.ref b12), .val (.ref b16), .val (.ref b16), .val (.int (1 : Int32)), .val (.ref b9)] [(.ref b9)])) (fun _ kgo => XS.aload X164.here hx rfl (hb hby at_142) rfl rfl kgo) ?_
            refine own_go (g' := (mkF m 146 #[.val (.int p0), .val (.int p1), .val (.int p2), .val (.int p3), .val (.int p4), .val (.ref b1), .val (.ref b9), .val (.ref b12), .val (.ref b16), .val (.ref b16), .val (.int (1 : Int32)), .val (.ref b9)] [(.ref b9), (.ref b9)])) (fun _ kgo => XS.aload X164.here hx rfl (hb hby at_144) rfl rfl kgo) ?_
            obtain ⟨v165, T165, L165, hQ165, X165, st165⟩ := own_callV X164 hx hZ (y := (⟨"com/example/restlint/restlint/document/MappingNode", "applyReference", "(Lcom/example/restlint/restlint/document/Node;)V"⟩ : MethodName)) (z := (⟨"com/example/restlint/restlint/document/MappingNode", "applyReference", "(Lcom/example/restlint/restlint/document/Node;)V"⟩ : MethodName)) hown (hw _ (List.mem_of_getElem? (i := 95) rfl)) (hw _ (List.mem_of_getElem? (i := 96) rfl)) (notFace_of_selects (args := #[]) (mvT hZ (hw _ (List.mem_of_getElem? (i := 98) rfl)))) (hw _ (List.mem_of_getElem? (i := 98) rfl)) (hw _ (List.mem_of_getElem? (i := 97) rfl)) (hw _ (List.mem_of_getElem? (i := 35) rfl)) (hw _ (List.mem_of_getElem? (i := 99) rfl)) ⟨by decide, by decide⟩ (a := b9) (argsL := [(.ref b9)]) (apr_rr l Z a0 hw b9 b9 ap124 T124.heap n0 Z124 ge_b9 q124_0 q124_1) e164 q124_0 (g := (mkF m 146 #[.val (.int p0), .val (.int p1), .val (.int p2), .val (.int p3), .val (.int p4), .val (.ref b1), .val (.ref b9), .val (.ref b12), .val (.ref b16), .val (.ref b16), .val (.int (1 : Int32)), .val (.ref b9)] [(.ref b9), (.ref b9)])) rfl (by rw [hml]; rfl) (rest := []) (lenOf pd0_6 rfl) rfl (hb hby at_146) (W := 0) (by show 2 * 0 + _ ≤ _; exact Nat.le_of_eq rfl) (by decide) (by decide) (by decide) (by decide)
            obtain ⟨ap165, rfl, Nq165, Kq165, pr165_0, q165_0, q165_1, q165_2⟩ := hQ165
            have fx166 : Exa Z T124.heap b1 "com/example/restlint/restlint/document/Location" := (Exa.keep fx125 Kq124)
            have ne_b1_ap165 : b1 ≠ ap165 := Nat.ne_of_lt (Nat.lt_of_lt_of_le fx166.lt pr165_0)
            have ne_b9_ap165 : b9 ≠ ap165 := Nat.ne_of_lt (Nat.lt_of_lt_of_le q124_0.lt pr165_0)
            have fx167 : Exa Z T124.heap b12 "com/example/restlint/restlint/document/MappingNode" := (Exa.keep fx126 Kq124)
            have ne_b12_ap165 : b12 ≠ ap165 := Nat.ne_of_lt (Nat.lt_of_lt_of_le fx167.lt pr165_0)
            have fx168 : Exa Z T124.heap b16 "com/example/restlint/restlint/document/ScalarNode" := (Exa.keep q21_0 Kq124)
            have ne_b16_ap165 : b16 ≠ ap165 := Nat.ne_of_lt (Nat.lt_of_lt_of_le fx168.lt pr165_0)
            have ne_ap124_ap165 : ap124 ≠ ap165 := Nat.ne_of_lt (Nat.lt_of_lt_of_le q124_2.lt pr165_0)
            have ge_ap165 : n0 ≤ ap165 := Nat.le_trans Z124 pr165_0
            have N165 := Fr.app N164 Nq165
            have hk165 := Nat.le_trans hk124 Kq165.1
            have Z165 : n0 ≤ T165.heap.size := Nat.le_trans Z124 Kq165.1
            refine own_go (g' := (mkF m 149 #[.val (.int p0), .val (.int p1), .val (.int p2), .val (.int p3), .val (.int p4), .val (.ref b1), .val (.ref b9), .val (.ref b12), .val (.ref b16), .val (.ref b16), .val (.int (1 : Int32)), .val (.ref b9)] [])) (st165) ?_
            refine own_go (g' := (mkF m 151 #[.val (.int p0), .val (.int p1), .val (.int p2), .val (.int p3), .val (.int p4), .val (.ref b1), .val (.ref b9), .val (.ref b12), .val (.ref b16), .val (.ref b16), .val (.int (1 : Int32)), .val (.ref b9)] [(.ref b9)])) (fun _ kgo => XS.aload X165.here hx rfl (hb hby at_149) rfl rfl kgo) ?_
            refine own_go (g' := (mkF m 153 #[.val (.int p0), .val (.int p1), .val (.int p2), .val (.int p3), .val (.int p4), .val (.ref b1), .val (.ref b9), .val (.ref b12), .val (.ref b16), .val (.ref b9), .val (.int (1 : Int32)), .val (.ref b9)] [])) (fun _ kgo => XS.astore X165.here hx rfl (hb hby at_151) rfl rfl (l' := #[.val (.int p0), .val (.int p1), .val (.int p2), .val (.int p3), .val (.int p4), .val (.ref b1), .val (.ref b9), .val (.ref b12), .val (.ref b16), .val (.ref b9), .val (.int (1 : Int32)), .val (.ref b9)]) rfl kgo) ?_
            refine own_go (g' := (mkF m 154 #[.val (.int p0), .val (.int p1), .val (.int p2), .val (.int p3), .val (.int p4), .val (.ref b1), .val (.ref b9), .val (.ref b12), .val (.ref b16), .val (.ref b9), .val (.int (1 : Int32)), .val (.ref b9)] [(.int (1 : Int32))])) (fun _ kgo => XS.iconst X165.here hx rfl (hb hby at_153) kgo) ?_
            refine own_go (g' := (mkF m 156 #[.val (.int p0), .val (.int p1), .val (.int p2), .val (.int p3), .val (.int p4), .val (.ref b1), .val (.ref b9), .val (.ref b12), .val (.ref b16), .val (.ref b9), .val (.int (1 : Int32)), .val (.ref b9)] [])) (fun _ kgo => XS.istore X165.here hx rfl (hb hby at_154) rfl (l' := #[.val (.int p0), .val (.int p1), .val (.int p2), .val (.int p3), .val (.int p4), .val (.ref b1), .val (.ref b9), .val (.ref b12), .val (.ref b16), .val (.ref b9), .val (.int (1 : Int32)), .val (.ref b9)]) rfl kgo) ?_
            refine own_go (g' := (mkF m 158 #[.val (.int p0), .val (.int p1), .val (.int p2), .val (.int p3), .val (.int p4), .val (.ref b1), .val (.ref b9), .val (.ref b12), .val (.ref b16), .val (.ref b9), .val (.int (1 : Int32)), .val (.ref b9)] [(.ref b9)])) (fun _ kgo => XS.aload X165.here hx rfl (hb hby at_156) rfl rfl kgo) ?_
            obtain ⟨v169, T169, L169, hQ169, X169, st169⟩ := own_callV X165 hx hZ (y := (⟨"com/example/restlint/restlint/document/MappingNode", "applied", "()Lcom/example/restlint/restlint/document/Node;"⟩ : MethodName)) (z := (⟨"com/example/restlint/restlint/document/MappingNode", "applied", "()Lcom/example/restlint/restlint/document/Node;"⟩ : MethodName)) hown (hw _ (List.mem_of_getElem? (i := 84) rfl)) (hw _ (List.mem_of_getElem? (i := 85) rfl)) (notFace_of_selects (args := #[]) (mvT hZ (hw _ (List.mem_of_getElem? (i := 87) rfl)))) (hw _ (List.mem_of_getElem? (i := 87) rfl)) (hw _ (List.mem_of_getElem? (i := 86) rfl)) (hw _ (List.mem_of_getElem? (i := 35) rfl)) (hw _ (List.mem_of_getElem? (i := 88) rfl)) ⟨by decide, by decide⟩ (a := b9) (argsL := []) (app_rr l Z a0 hw b9 ap165 b9 T165.heap q165_1 q165_2) rfl q165_0 (g := (mkF m 158 #[.val (.int p0), .val (.int p1), .val (.int p2), .val (.int p3), .val (.int p4), .val (.ref b1), .val (.ref b9), .val (.ref b12), .val (.ref b16), .val (.ref b9), .val (.int (1 : Int32)), .val (.ref b9)] [(.ref b9)])) rfl (by rw [hml]; rfl) (rest := []) (lenOf pd0_3 rfl) rfl (hb hby at_158) (W := 0) (by show 2 * 0 + _ ≤ _; exact Nat.le_of_eq rfl) (by decide) (by decide) (by decide) (by decide)
            obtain ⟨rfl, e169, rfl⟩ := hQ169
            have N169 := Fr.app N165 (Fr.nil n0)
            refine own_go (g' := (mkF m 161 #[.val (.int p0), .val (.int p1), .val (.int p2), .val (.int p3), .val (.int p4), .val (.ref b1), .val (.ref b9), .val (.ref b12), .val (.ref b16), .val (.ref b9), .val (.int (1 : Int32)), .val (.ref b9)] [(.ref b9)])) (st169) ?_
            refine own_go (g' := (mkF m 163 #[.val (.int p0), .val (.int p1), .val (.int p2), .val (.int p3), .val (.int p4), .val (.ref b1), .val (.ref b9), .val (.ref b12), .val (.ref b16), .val (.ref b9), .val (.int (1 : Int32)), .val (.ref b9)] [(.ref b9), (.ref b9)])) (fun _ kgo => XS.aload X169.here hx rfl (hb hby at_161) rfl rfl kgo) ?_
            refine own_go (g' := (mkF m 166 #[.val (.int p0), .val (.int p1), .val (.int p2), .val (.int p3), .val (.int p4), .val (.ref b1), .val (.ref b9), .val (.ref b12), .val (.ref b16), .val (.ref b9), .val (.int (1 : Int32)), .val (.ref b9)] [])) (fun _ kgo => Jvm.RoadKit.acmp (g := (mkF m 163 #[.val (.int p0), .val (.int p1), .val (.int p2), .val (.int p3), .val (.int p4), .val (.ref b1), .val (.ref b9), .val (.ref b12), .val (.ref b16), .val (.ref b9), .val (.int (1 : Int32)), .val (.ref b9)] [(.ref b9), (.ref b9)])) X169 hx rfl rfl rfl (pc0 := 163) (pc' := 166) (same := true) rfl (hb hby at_163) rfl (decide_eq_true rfl) (by decide) (by decide) kgo) ?_
            refine own_go (g' := (mkF m 168 #[.val (.int p0), .val (.int p1), .val (.int p2), .val (.int p3), .val (.int p4), .val (.ref b1), .val (.ref b9), .val (.ref b12), .val (.ref b16), .val (.ref b9), .val (.int (1 : Int32)), .val (.ref b9)] [(.ref b9)])) (fun _ kgo => XS.aload X169.here hx rfl (hb hby at_166) rfl rfl kgo) ?_
            obtain ⟨v170, T170, L170, hQ170, X170, st170⟩ := own_callV X169 hx hZ (y := (⟨"com/example/restlint/restlint/document/MappingNode", "appliesReference", "()Z"⟩ : MethodName)) (z := (⟨"com/example/restlint/restlint/document/MappingNode", "appliesReference", "()Z"⟩ : MethodName)) hown (hw _ (List.mem_of_getElem? (i := 128) rfl)) (hw _ (List.mem_of_getElem? (i := 129) rfl)) (notFace_of_selects (args := #[]) (mvT hZ (hw _ (List.mem_of_getElem? (i := 131) rfl)))) (hw _ (List.mem_of_getElem? (i := 131) rfl)) (hw _ (List.mem_of_getElem? (i := 130) rfl)) (hw _ (List.mem_of_getElem? (i := 35) rfl)) (hw _ (List.mem_of_getElem? (i := 132) rfl)) ⟨by decide, by decide⟩ (a := b9) (argsL := []) (apl_r l Z a0 hw b9 ap165 T165.heap q165_1) e169 q165_0 (g := (mkF m 168 #[.val (.int p0), .val (.int p1), .val (.int p2), .val (.int p3), .val (.int p4), .val (.ref b1), .val (.ref b9), .val (.ref b12), .val (.ref b16), .val (.ref b9), .val (.int (1 : Int32)), .val (.ref b9)] [(.ref b9)])) rfl (by rw [hml]; rfl) (rest := []) (lenOf pd0_4 rfl) rfl (hb hby at_168) (W := 0) (by show 2 * 0 + _ ≤ _; exact Nat.le_of_eq rfl) (by decide) (by decide) (by decide) (by decide)
            obtain ⟨rfl, e170, rfl⟩ := hQ170
            have N170 := Fr.app N169 (Fr.nil n0)
            refine own_go (g' := (mkF m 171 #[.val (.int p0), .val (.int p1), .val (.int p2), .val (.int p3), .val (.int p4), .val (.ref b1), .val (.ref b9), .val (.ref b12), .val (.ref b16), .val (.ref b9), .val (.int (1 : Int32)), .val (.ref b9)] [(.int (1 : Int32))])) (st170) ?_
            refine own_go (g' := (mkF m 173 #[.val (.int p0), .val (.int p1), .val (.int p2), .val (.int p3), .val (.int p4), .val (.ref b1), .val (.ref b9), .val (.ref b12), .val (.ref b16), .val (.ref b9), .val (.int (1 : Int32)), .val (.ref b9)] [(.int (1 : Int32)), (.int (1 : Int32))])) (fun _ kgo => XS.iload X170.here hx rfl (hb hby at_171) rfl kgo) ?_
            refine own_go (g' := (mkF m 176 #[.val (.int p0), .val (.int p1), .val (.int p2), .val (.int p3), .val (.int p4), .val (.ref b1), .val (.ref b9), .val (.ref b12), .val (.ref b16), .val (.ref b9), .val (.int (1 : Int32)), .val (.ref b9)] [])) (fun _ kgo => XS.icmpNo X170.here hx rfl (hb hby at_173) rfl (teq (by decide)).2 kgo) ?_
            refine own_go (g' := (mkF m 178 #[.val (.int p0), .val (.int p1), .val (.int p2), .val (.int p3), .val (.int p4), .val (.ref b1), .val (.ref b9), .val (.ref b12), .val (.ref b16), .val (.ref b9), .val (.int (1 : Int32)), .val (.ref b9)] [(.ref b12)])) (fun _ kgo => XS.aload X170.here hx rfl (hb hby at_176) rfl rfl kgo) ?_
            have fx172 : Fld Z T165.heap b12 "com/example/restlint/restlint/document/MappingNode" "applied" "Lcom/example/restlint/restlint/document/MappingNode$Applied;" .null := (Fld.keep (Fld.keep (Fld.keep (Fld.ext E19 (Fld.ext E16 q14_1)) Kq21 (ninS ne_b12_b16 nin0)) Kq124 (ninS (Ne.symm ne_b9_b12) nin0)) Kq165 (ninS (Ne.symm ne_b9_b12) nin0))
            have fx173 : Exa Z T165.heap b12 "com/example/restlint/restlint/document/MappingNode" := (Exa.keep fx167 Kq165)
            obtain ⟨v171, T171, L171, hQ171, X171, st171⟩ := own_callV X170 hx hZ (y := (⟨"com/example/restlint/restlint/document/MappingNode", "applied", "()Lcom/example/restlint/restlint/document/Node;"⟩ : MethodName)) (z := (⟨"com/example/restlint/restlint/document/MappingNode", "applied", "()Lcom/example/restlint/restlint/document/Node;"⟩ : MethodName)) hown (hw _ (List.mem_of_getElem? (i := 84) rfl)) (hw _ (List.mem_of_getElem? (i := 85) rfl)) (notFace_of_selects (args := #[]) (mvT hZ (hw _ (List.mem_of_getElem? (i := 87) rfl)))) (hw _ (List.mem_of_getElem? (i := 87) rfl)) (hw _ (List.mem_of_getElem? (i := 86) rfl)) (hw _ (List.mem_of_getElem? (i := 35) rfl)) (hw _ (List.mem_of_getElem? (i := 88) rfl)) ⟨by decide, by decide⟩ (a := b12) (argsL := []) (app_n l Z a0 hw b12 T165.heap fx172) e170 fx173 (g := (mkF m 178 #[.val (.int p0), .val (.int p1), .val (.int p2), .val (.int p3), .val (.int p4), .val (.ref b1), .val (.ref b9), .val (.ref b12), .val (.ref b16), .val (.ref b9), .val (.int (1 : Int32)), .val (.ref b9)] [(.ref b12)])) rfl (by rw [hml]; rfl) (rest := []) (lenOf pd0_3 rfl) rfl (hb hby at_178) (W := 0) (by show 2 * 0 + _ ≤ _; exact Nat.le_of_eq rfl) (by decide) (by decide) (by decide) (by decide)
            obtain ⟨rfl, e171, rfl⟩ := hQ171
            have N171 := Fr.app N170 (Fr.nil n0)
            refine own_go (g' := (mkF m 181 #[.val (.int p0), .val (.int p1), .val (.int p2), .val (.int p3), .val (.int p4), .val (.ref b1), .val (.ref b9), .val (.ref b12), .val (.ref b16), .val (.ref b9), .val (.int (1 : Int32)), .val (.ref b9)] [.null])) (st171) ?_
            refine own_go (g' := (mkF m 184 #[.val (.int p0), .val (.int p1), .val (.int p2), .val (.int p3), .val (.int p4), .val (.ref b1), .val (.ref b9), .val (.ref b12), .val (.ref b16), .val (.ref b9), .val (.int (1 : Int32)), .val (.ref b9)] [])) (fun _ kgo => XS.ifnonnullNo X171.here hx rfl (hb hby at_181) rfl kgo) ?_
            refine own_go (g' := (mkF m 185 #[.val (.int p0), .val (.int p1), .val (.int p2), .val (.int p3), .val (.int p4), .val (.ref b1), .val (.ref b9), .val (.ref b12), .val (.ref b16), .val (.ref b9), .val (.int (1 : Int32)), .val (.ref b9)] [(.int (1 : Int32))])) (fun _ kgo => XS.iconst X171.here hx rfl (hb hby at_184) kgo) ?_
            refine own_go (g' := (mkF m 189 #[.val (.int p0), .val (.int p1), .val (.int p2), .val (.int p3), .val (.int p4), .val (.ref b1), .val (.ref b9), .val (.ref b12), .val (.ref b16), .val (.ref b9), .val (.int (1 : Int32)), .val (.ref b9)] [(.int (1 : Int32))])) (fun _ kgo => XS.goto X171.here hx rfl (pc0 := 185) (pc' := 189) rfl (hb hby at_185) (by decide) (by decide) kgo) ?_
            refine own_retNW X171 hx hS19 e171 hk165 .boolean Bd.returns Bd.notSynchronized (by simp) (hb hby at_189) (by decide) (by decide) ?_
            show QQ _ T171.heap _
            rw [e171]
            rw [← hQQ]
            exact ⟨rfl, N171⟩
      ·
        obtain ⟨v174, T174, L174, hQ174, X174, st174⟩ := own_callS X26 hx hZ (y := (⟨"com/example/restlint/restlint/document/MappingNodeAppliedPinLaw", "pick", "(ILcom/example/restlint/restlint/document/Node;Lcom/example/restlint/restlint/document/Node;Lcom/example/restlint/restlint/document/Node;)Lcom/example/restlint/restlint/document/Node;"⟩ : MethodName)) hown (hw _ (List.mem_of_getElem? (i := 91) rfl)) (hw _ (List.mem_of_getElem? (i := 92) rfl)) (hw _ (List.mem_of_getElem? (i := 93) rfl)) (hw _ (List.mem_of_getElem? (i := 94) rfl)) ⟨by decide, by decide⟩ (argsL := [(.int p0), (.ref b16), (.ref b12), (.ref b9)]) (pick2 l Z a0 hw p0 b16 b12 b9 T21.heap hk_p0) e26 (g := (mkF m 93 #[.val (.int p0), .val (.int p1), .val (.int p2), .val (.int p3), .val (.int p4), .val (.ref b1), .val (.ref b9), .val (.ref b12), .val (.ref b16), .val .null, .val (.int (0 : Int32)), .unset] [(.ref b9), (.ref b12), (.ref b16), (.int p0)])) rfl (by rw [hml]; rfl) (rest := []) (lenOf pd0_5 rfl) rfl (hb hby at_93) (W := 0) (by show 2 * 0 + _ ≤ _; exact Nat.le_of_eq rfl) (by decide) (by decide) (by decide) (by decide)
        obtain ⟨rfl, e174, rfl⟩ := hQ174
        have N174 := Fr.app N26 (Fr.nil n0)
        refine own_go (g' := (mkF m 96 #[.val (.int p0), .val (.int p1), .val (.int p2), .val (.int p3), .val (.int p4), .val (.ref b1), .val (.ref b9), .val (.ref b12), .val (.ref b16), .val .null, .val (.int (0 : Int32)), .unset] [(.ref b12)])) (st174) ?_
        refine own_go (g' := (mkF m 98 #[.val (.int p0), .val (.int p1), .val (.int p2), .val (.int p3), .val (.int p4), .val (.ref b1), .val (.ref b9), .val (.ref b12), .val (.ref b16), .val .null, .val (.int (0 : Int32)), .val (.ref b12)] [])) (fun _ kgo => XS.astore X174.here hx rfl (hb hby at_96) rfl rfl (l' := #[.val (.int p0), .val (.int p1), .val (.int p2), .val (.int p3), .val (.int p4), .val (.ref b1), .val (.ref b9), .val (.ref b12), .val (.ref b16), .val .null, .val (.int (0 : Int32)), .val (.ref b12)]) rfl kgo) ?_
        refine own_go (g' := (mkF m 100 #[.val (.int p0), .val (.int p1), .val (.int p2), .val (.int p3), .val (.int p4), .val (.ref b1), .val (.ref b9), .val (.ref b12), .val (.ref b16), .val .null, .val (.int (0 : Int32)), .val (.ref b12)] [(.ref b9)])) (fun _ kgo => XS.aload X174.here hx rfl (hb hby at_98) rfl rfl kgo) ?_
        refine own_go (g' := (mkF m 102 #[.val (.int p0), .val (.int p1), .val (.int p2), .val (.int p3), .val (.int p4), .val (.ref b1), .val (.ref b9), .val (.ref b12), .val (.ref b16), .val .null, .val (.int (0 : Int32)), .val (.ref b12)] [(.ref b12), (.ref b9)])) (fun _ kgo => XS.aload X174.here hx rfl (hb hby at_100) rfl rfl kgo) ?_
        obtain ⟨v175, T175, L175, hQ175, X175, st175⟩ := own_callV X174 hx hZ (y := (⟨"com/example/restlint/restlint/document/MappingNode", "applyReference", "(Lcom/example/restlint/restlint/document/Node;)V"⟩ : MethodName)) (z := (⟨"com/example/restlint/restlint/document/MappingNode", "applyReference", "(Lcom/example/restlint/restlint/document/Node;)V"⟩ : MethodName)) hown (hw _ (List.mem_of_getElem? (i := 95) rfl)) (hw _ (List.mem_of_getElem? (i := 96) rfl)) (notFace_of_selects (args := #[]) (mvT hZ (hw _ (List.mem_of_getElem? (i := 98) rfl)))) (hw _ (List.mem_of_getElem? (i := 98) rfl)) (hw _ (List.mem_of_getElem? (i := 97) rfl)) (hw _ (List.mem_of_getElem? (i := 35) rfl)) (hw _ (List.mem_of_getElem? (i := 99) rfl)) ⟨by decide, by decide⟩ (a := b9) (argsL := [(.ref b12)]) (apr_rn l Z a0 hw b9 b12 T21.heap n0 Z21 ge_b9 fx28 fx27) e174 fx28 (g := (mkF m 102 #[.val (.int p0), .val (.int p1), .val (.int p2), .val (.int p3), .val (.int p4), .val (.ref b1), .val (.ref b9), .val (.ref b12), .val (.ref b16), .val .null, .val (.int (0 : Int32)), .val (.ref b12)] [(.ref b12), (.ref b9)])) rfl (by rw [hml]; rfl) (rest := []) (lenOf pd0_6 rfl) rfl (hb hby at_102) (W := 0) (by show 2 * 0 + _ ≤ _; exact Nat.le_of_eq rfl) (by decide) (by decide) (by decide) (by decide)
        obtain ⟨ap175, rfl, Nq175, Kq175, pr175_0, q175_0, q175_1, q175_2⟩ := hQ175
        have fx176 : Exa Z T21.heap b1 "com/example/restlint/restlint/document/Location" := (Exa.keep (Exa.ext E19 (Exa.ext E16 fx17)) Kq21)
        have ne_b1_ap175 : b1 ≠ ap175 := Nat.ne_of_lt (Nat.lt_of_lt_of_le fx176.lt pr175_0)
        have ne_b9_ap175 : b9 ≠ ap175 := Nat.ne_of_lt (Nat.lt_of_lt_of_le fx28.lt pr175_0)
        have fx177 : Exa Z T21.heap b12 "com/example/restlint/restlint/document/MappingNode" := (Exa.keep (Exa.ext E19 (Exa.ext E16 q14_0)) Kq21)
        have ne_b12_ap175 : b12 ≠ ap175 := Nat.ne_of_lt (Nat.lt_of_lt_of_le fx177.lt pr175_0)
        have ne_b16_ap175 : b16 ≠ ap175 := Nat.ne_of_lt (Nat.lt_of_lt_of_le q21_0.lt pr175_0)
        have ge_ap175 : n0 ≤ ap175 := Nat.le_trans Z21 pr175_0
        have N175 := Fr.app N174 Nq175
        have hk175 := Nat.le_trans hk21 Kq175.1
        have Z175 : n0 ≤ T175.heap.size := Nat.le_trans Z21 Kq175.1
        refine own_go (g' := (mkF m 105 #[.val (.int p0), .val (.int p1), .val (.int p2), .val (.int p3), .val (.int p4), .val (.ref b1), .val (.ref b9), .val (.ref b12), .val (.ref b16), .val .null, .val (.int (0 : Int32)), .val (.ref b12)] [])) (st175) ?_
        refine own_go (g' := (mkF m 107 #[.val (.int p0), .val (.int p1), .val (.int p2), .val (.int p3), .val (.int p4), .val (.ref b1), .val (.ref b9), .val (.ref b12), .val (.ref b16), .val .null, .val (.int (0 : Int32)), .val (.ref b12)] [(.ref b12)])) (fun _ kgo => XS.aload X175.here hx rfl (hb hby at_105) rfl rfl kgo) ?_
        refine own_go (g' := (mkF m 109 #[.val (.int p0), .val (.int p1), .val (.int p2), .val (.int p3), .val (.int p4), .val (.ref b1), .val (.ref b9), .val (.ref b12), .val (.ref b16), .val (.ref b12), .val (.int (0 : Int32)), .val (.ref b12)] [])) (fun _ kgo => XS.astore X175.here hx rfl (hb hby at_107) rfl rfl (l' := #[.val (.int p0), .val (.int p1), .val (.int p2), .val (.int p3), .val (.int p4), .val (.ref b1), .val (.ref b9), .val (.ref b12), .val (.ref b16), .val (.ref b12), .val (.int (0 : Int32)), .val (.ref b12)]) rfl kgo) ?_
        refine own_go (g' := (mkF m 110 #[.val (.int p0), .val (.int p1), .val (.int p2), .val (.int p3), .val (.int p4), .val (.ref b1), .val (.ref b9), .val (.ref b12), .val (.ref b16), .val (.ref b12), .val (.int (0 : Int32)), .val (.ref b12)] [(.int (1 : Int32))])) (fun _ kgo => XS.iconst X175.here hx rfl (hb hby at_109) kgo) ?_
        refine own_go (g' := (mkF m 112 #[.val (.int p0), .val (.int p1), .val (.int p2), .val (.int p3), .val (.int p4), .val (.ref b1), .val (.ref b9), .val (.ref b12), .val (.ref b16), .val (.ref b12), .val (.int (1 : Int32)), .val (.ref b12)] [])) (fun _ kgo => XS.istore X175.here hx rfl (hb hby at_110) rfl (l' := #[.val (.int p0), .val (.int p1), .val (.int p2), .val (.int p3), .val (.int p4), .val (.ref b1), .val (.ref b9), .val (.ref b12), .val (.ref b16), .val (.ref b12), .val (.int (1 : Int32)), .val (.ref b12)]) rfl kgo) ?_
        refine own_go (g' := (mkF m 114 #[.val (.int p0), .val (.int p1), .val (.int p2), .val (.int p3), .val (.int p4), .val (.ref b1), .val (.ref b9), .val (.ref b12), .val (.ref b16), .val (.ref b12), .val (.int (1 : Int32)), .val (.ref b12)] [(.ref b9)])) (fun _ kgo => XS.aload X175.here hx rfl (hb hby at_112) rfl rfl kgo) ?_
        obtain ⟨v178, T178, L178, hQ178, X178, st178⟩ := own_callV X175 hx hZ (y := (⟨"com/example/restlint/restlint/document/MappingNode", "applied", "()Lcom/example/restlint/restlint/document/Node;"⟩ : MethodName)) (z := (⟨"com/example/restlint/restlint/document/MappingNode", "applied", "()Lcom/example/restlint/restlint/document/Node;"⟩ : MethodName)) hown (hw _ (List.mem_of_getElem? (i := 84) rfl)) (hw _ (List.mem_of_getElem? (i := 85) rfl)) (notFace_of_selects (args := #[]) (mvT hZ (hw _ (List.mem_of_getElem? (i := 87) rfl)))) (hw _ (List.mem_of_getElem? (i := 87) rfl)) (hw _ (List.mem_of_getElem? (i := 86) rfl)) (hw _ (List.mem_of_getElem? (i := 35) rfl)) (hw _ (List.mem_of_getElem? (i := 88) rfl)) ⟨by decide, by decide⟩ (a := b9) (argsL := []) (app_rr l Z a0 hw b9 ap175 b12 T175.heap q175_1 q175_2) rfl q175_0 (g := (mkF m 114 #[.val (.int p0), .val (.int p1), .val (.int p2), .val (.int p3), .val (.int p4), .val (.ref b1), .val (.ref b9), .val (.ref b12), .val (.ref b16), .val (.ref b12), .val (.int (1 : Int32)), .val (.ref b12)] [(.ref b9)])) rfl (by rw [hml]; rfl) (rest := []) (lenOf pd0_3 rfl) rfl (hb hby at_114) (W := 0) (by show 2 * 0 + _ ≤ _; exact Nat.le_of_eq rfl) (by decide) (by decide) (by decide) (by decide)
        obtain ⟨rfl, e178, rfl⟩ := hQ178
        have N178 := Fr.app N175 (Fr.nil n0)
        refine own_go (g' := (mkF m 117 #[.val (.int p0), .val (.int p1), .val (.int p2), .val (.int p3), .val (.int p4), .val (.ref b1), .val (.ref b9), .val (.ref b12), .val (.ref b16), .val (.ref b12), .val (.int (1 : Int32)), .val (.ref b12)] [(.ref b12)])) (st178) ?_
        refine own_go (g' := (mkF m 119 #[.val (.int p0), .val (.int p1), .val (.int p2), .val (.int p3), .val (.int p4), .val (.ref b1), .val (.ref b9), .val (.ref b12), .val (.ref b16), .val (.ref b12), .val (.int (1 : Int32)), .val (.ref b12)] [(.ref b12), (.ref b12)])) (fun _ kgo => XS.aload X178.here hx rfl (hb hby at_117) rfl rfl kgo) ?_
        refine own_go (g' := (mkF m 124 #[.val (.int p0), .val (.int p1), .val (.int p2), .val (.int p3), .val (.int p4), .val (.ref b1), .val (.ref b9), .val (.ref b12), .val (.ref b16), .val (.ref b12), .val (.int (1 : Int32)), .val (.ref b12)] [])) (fun _ kgo => Jvm.RoadKit.acmp (g := (mkF m 119 #[.val (.int p0), .val (.int p1), .val (.int p2), .val (.int p3), .val (.int p4), .val (.ref b1), .val (.ref b9), .val (.ref b12), .val (.ref b16), .val (.ref b12), .val (.int (1 : Int32)), .val (.ref b12)] [(.ref b12), (.ref b12)])) X178 hx rfl rfl rfl (pc0 := 119) (pc' := 124) (same := true) rfl (hb hby at_119) rfl (decide_eq_true rfl) (by decide) (by decide) kgo) ?_
        refine own_go (g' := (mkF m 125 #[.val (.int p0), .val (.int p1), .val (.int p2), .val (.int p3), .val (.int p4), .val (.ref b1), .val (.ref b9), .val (.ref b12), .val (.ref b16), .val (.ref b12), .val (.int (1 : Int32)), .val (.ref b12)] [(.int p2)])) (fun _ kgo => XS.iloadN X178.here hx rfl (hb hby at_124) rfl kgo) ?_
        refine own_go (g' := (mkF m 126 #[.val (.int p0), .val (.int p1), .val (.int p2), .val (.int p3), .val (.int p4), .val (.ref b1), .val (.ref b9), .val (.ref b12), .val (.ref b16), .val (.ref b12), .val (.int (1 : Int32)), .val (.ref b12)] [(.int (2 : Int32)), (.int p2)])) (fun _ kgo => XS.iconst X178.here hx rfl (hb hby at_125) kgo) ?_
        refine own_go (g' := (mkF m 127 #[.val (.int p0), .val (.int p1), .val (.int p2), .val (.int p3), .val (.int p4), .val (.ref b1), .val (.ref b9), .val (.ref b12), .val (.ref b16), .val (.ref b12), .val (.int (1 : Int32)), .val (.ref b12)] [(.int (p2 &&& (2 : Int32)))])) (fun _ kgo => XS.iand X178.here hx rfl (hb hby at_126) rfl kgo) ?_
        by_cases hc179 : (p2 &&& (2 : Int32)) = (0 : Int32)
        ·
          refine own_go (g' := (mkF m 156 #[.val (.int p0), .val (.int p1), .val (.int p2), .val (.int p3), .val (.int p4), .val (.ref b1), .val (.ref b9), .val (.ref b12), .val (.ref b16), .val (.ref b12), .val (.int (1 : Int32)), .val (.ref b12)] [])) (fun _ kgo => XS.ifYes X178.here hx rfl (pc0 := 127) (pc' := 156) rfl (hb hby at_127) rfl ((if0 _ _).trans (teq hc179).1) (by decide) (by decide) kgo) ?_
          refine own_go (g' := (mkF m 158 #[.val (.int p0), .val (.int p1), .val (.int p2), .val (.int p3), .val (.int p4), .val (.ref b1), .val (.ref b9), .val (.ref b12), .val (.ref b16), .val (.ref b12), .val (.int (1 : Int32)), .val (.ref b12)] [(.ref b9)])) (fun _ kgo => XS.aload X178.here hx rfl (hb hby at_156) rfl rfl kgo) ?_
          obtain ⟨v180, T180, L180, hQ180, X180, st180⟩ := own_callV X178 hx hZ (y := (⟨"com/example/restlint/restlint/document/MappingNode", "applied", "()Lcom/example/restlint/restlint/document/Node;"⟩ : MethodName)) (z := (⟨"com/example/restlint/restlint/document/MappingNode", "applied", "()Lcom/example/restlint/restlint/document/Node;"⟩ : MethodName)) hown (hw _ (List.mem_of_getElem? (i := 84) rfl)) (hw _ (List.mem_of_getElem? (i := 85) rfl)) (notFace_of_selects (args := #[]) (mvT hZ (hw _ (List.mem_of_getElem? (i := 87) rfl)))) (hw _ (List.mem_of_getElem? (i := 87) rfl)) (hw _ (List.mem_of_getElem? (i := 86) rfl)) (hw _ (List.mem_of_getElem? (i := 35) rfl)) (hw _ (List.mem_of_getElem? (i := 88) rfl)) ⟨by decide, by decide⟩ (a := b9) (argsL := []) (app_rr l Z a0 hw b9 ap175 b12 T175.heap q175_1 q175_2) e178 q175_0 (g := (mkF m 158 #[.val (.int p0), .val (.int p1), .val (.int p2), .val (.int p3), .val (.int p4), .val (.ref b1), .val (.ref b9), .val (.ref b12), .val (.ref b16), .val (.ref b12), .val (.int (1 : Int32)), .val (.ref b12)] [(.ref b9)])) rfl (by rw [hml]; rfl) (rest := []) (lenOf pd0_3 rfl) rfl (hb hby at_158) (W := 0) (by show 2 * 0 + _ ≤ _; exact Nat.le_of_eq rfl) (by decide) (by decide) (by decide) (by decide)
          obtain ⟨rfl, e180, rfl⟩ := hQ180
          have N180 := Fr.app N178 (Fr.nil n0)
          refine own_go (g' := (mkF m 161 #[.val (.int p0), .val (.int p1), .val (.int p2), .val (.int p3), .val (.int p4), .val (.ref b1), .val (.ref b9), .val (.ref b12), .val (.ref b16), .val (.ref b12), .val (.int (1 : Int32)), .val (.ref b12)] [(.ref b12)])) (st180) ?_
          refine own_go (g' := (mkF m 163 #[.val (.int p0), .val (.int p1), .val (.int p2), .val (.int p3), .val (.int p4), .val (.ref b1), .val (.ref b9), .val (.ref b12), .val (.ref b16), .val (.ref b12), .val (.int (1 : Int32)), .val (.ref b12)] [(.ref b12), (.ref b12)])) (fun _ kgo => XS.aload X180.here hx rfl (hb hby at_161) rfl rfl kgo) ?_
          refine own_go (g' := (mkF m 166 #[.val (.int p0), .val (.int p1), .val (.int p2), .val (.int p3), .val (.int p4), .val (.ref b1), .val (.ref b9), .val (.ref b12), .val (.ref b16), .val (.ref b12), .val (.int (1 : Int32)), .val (.ref b12)] [])) (fun _ kgo => Jvm.RoadKit.acmp (g := (mkF m 163 #[.val (.int p0), .val (.int p1), .val (.int p2), .val (.int p3), .val (.int p4), .val (.ref b1), .val (.ref b9), .val (.ref b12), .val (.ref b16), .val (.ref b12), .val (.int (1 : Int32)), .val (.ref b12)] [(.ref b12), (.ref b12)])) X180 hx rfl rfl rfl (pc0 := 163) (pc' := 166) (same := true) rfl (hb hby at_163) rfl (decide_eq_true rfl) (by decide) (by decide) kgo) ?_
          refine own_go (g' := (mkF m 168 #[.val (.int p0), .val (.int p1), .val (.int p2), .val (.int p3), .val (.int p4), .val (.ref b1), .val (.ref b9), .val (.ref b12), .val (.ref b16), .val (.ref b12), .val (.int (1 : Int32)), .val (.ref b12)] [(.ref b9)])) (fun _ kgo => XS.aload X180.here hx rfl (hb hby at_166) rfl rfl kgo) ?_
          obtain ⟨v181, T181, L181, hQ181, X181, st181⟩ := own_callV X180 hx hZ (y := (⟨"com/example/restlint/restlint/document/MappingNode", "appliesReference", "()Z"⟩ : MethodName)) (z := (⟨"com/example/restlint/restlint/document/MappingNode", "appliesReference", "()Z"⟩ : MethodName)) hown (hw _ (List.mem_of_getElem? (i := 128) rfl)) (hw _ (List.mem_of_getElem? (i := 129) rfl)) (notFace_of_selects (args := #[]) (mvT hZ (hw _ (List.mem_of_getElem? (i := 131) rfl)))) (hw _ (List.mem_of_getElem? (i := 131) rfl)) (hw _ (List.mem_of_getElem? (i := 130) rfl)) (hw _ (List.mem_of_getElem? (i := 35) rfl)) (hw _ (List.mem_of_getElem? (i := 132) rfl)) ⟨by decide, by decide⟩ (a := b9) (argsL := []) (apl_r l Z a0 hw b9 ap175 T175.heap q175_1) e180 q175_0 (g := (mkF m 168 #[.val (.int p0), .val (.int p1), .val (.int p2), .val (.int p3), .val (.int p4), .val (.ref b1), .val (.ref b9), .val (.ref b12), .val (.ref b16), .val (.ref b12), .val (.int (1 : Int32)), .val (.ref b12)] [(.ref b9)])) rfl (by rw [hml]; rfl) (rest := []) (lenOf pd0_4 rfl) rfl (hb hby at_168) (W := 0) (by show 2 * 0 + _ ≤ _; exact Nat.le_of_eq rfl) (by decide) (by decide) (by decide) (by decide)
          obtain ⟨rfl, e181, rfl⟩ := hQ181
          have N181 := Fr.app N180 (Fr.nil n0)
          refine own_go (g' := (mkF m 171 #[.val (.int p0), .val (.int p1), .val (.int p2), .val (.int p3), .val (.int p4), .val (.ref b1), .val (.ref b9), .val (.ref b12), .val (.ref b16), .val (.ref b12), .val (.int (1 : Int32)), .val (.ref b12)] [(.int (1 : Int32))])) (st181) ?_
          refine own_go (g' := (mkF m 173 #[.val (.int p0), .val (.int p1), .val (.int p2), .val (.int p3), .val (.int p4), .val (.ref b1), .val (.ref b9), .val (.ref b12), .val (.ref b16), .val (.ref b12), .val (.int (1 : Int32)), .val (.ref b12)] [(.int (1 : Int32)), (.int (1 : Int32))])) (fun _ kgo => XS.iload X181.here hx rfl (hb hby at_171) rfl kgo) ?_
          refine own_go (g' := (mkF m 176 #[.val (.int p0), .val (.int p1), .val (.int p2), .val (.int p3), .val (.int p4), .val (.ref b1), .val (.ref b9), .val (.ref b12), .val (.ref b16), .val (.ref b12), .val (.int (1 : Int32)), .val (.ref b12)] [])) (fun _ kgo => XS.icmpNo X181.here hx rfl (hb hby at_173) rfl (teq (by decide)).2 kgo) ?_
          refine own_go (g' := (mkF m 178 #[.val (.int p0), .val (.int p1), .val (.int p2), .val (.int p3), .val (.int p4), .val (.ref b1), .val (.ref b9), .val (.ref b12), .val (.ref b16), .val (.ref b12), .val (.int (1 : Int32)), .val (.ref b12)] [(.ref b12)])) (fun _ kgo => XS.aload X181.here hx rfl (hb hby at_176) rfl rfl kgo) ?_
          have fx183 : Fld Z T175.heap b12 "com/example/restlint/restlint/document/MappingNode" "applied" "Lcom/example/restlint/restlint/document/MappingNode$Applied;" .null := (Fld.keep (Fld.keep (Fld.ext E19 (Fld.ext E16 q14_1)) Kq21 (ninS ne_b12_b16 nin0)) Kq175 (ninS (Ne.symm ne_b9_b12) nin0))
          have fx184 : Exa Z T175.heap b12 "com/example/restlint/restlint/document/MappingNode" := (Exa.keep fx177 Kq175)
          obtain ⟨v182, T182, L182, hQ182, X182, st182⟩ := own_callV X181 hx hZ (y := (⟨"com/example/restlint/restlint/document/MappingNode", "applied", "()Lcom/example/restlint/restlint/document/Node;"⟩ : MethodName)) (z := (⟨"com/example/restlint/restlint/document/MappingNode", "applied", "()Lcom/example/restlint/restlint/document/Node;"⟩ : MethodName)) hown (hw _ (List.mem_of_getElem? (i := 84) rfl)) (hw _ (List.mem_of_getElem? (i := 85) rfl)) (notFace_of_selects (args := #[]) (mvT hZ (hw _ (List.mem_of_getElem? (i := 87) rfl)))) (hw _ (List.mem_of_getElem? (i := 87) rfl)) (hw _ (List.mem_of_getElem? (i := 86) rfl)) (hw _ (List.mem_of_getElem? (i := 35) rfl)) (hw _ (List.mem_of_getElem? (i := 88) rfl)) ⟨by decide, by decide⟩ (a := b12) (argsL := []) (app_n l Z a0 hw b12 T175.heap fx183) e181 fx184 (g := (mkF m 178 #[.val (.int p0), .val (.int p1), .val (.int p2), .val (.int p3), .val (.int p4), .val (.ref b1), .val (.ref b9), .val (.ref b12), .val (.ref b16), .val (.ref b12), .val (.int (1 : Int32)), .val (.ref b12)] [(.ref b12)])) rfl (by rw [hml]; rfl) (rest := []) (lenOf pd0_3 rfl) rfl (hb hby at_178) (W := 0) (by show 2 * 0 + _ ≤ _; exact Nat.le_of_eq rfl) (by decide) (by decide) (by decide) (by decide)
          obtain ⟨rfl, e182, rfl⟩ := hQ182
          have N182 := Fr.app N181 (Fr.nil n0)
          refine own_go (g' := (mkF m 181 #[.val (.int p0), .val (.int p1), .val (.int p2), .val (.int p3), .val (.int p4), .val (.ref b1), .val (.ref b9), .val (.ref b12), .val (.ref b16), .val (.ref b12), .val (.int (1 : Int32)), .val (.ref b12)] [.null])) (st182) ?_
          refine own_go (g' := (mkF m 184 #[.val (.int p0), .val (.int p1), .val (.int p2), .val (.int p3), .val (.int p4), .val (.ref b1), .val (.ref b9), .val (.ref b12), .val (.ref b16), .val (.ref b12), .val (.int (1 : Int32)), .val (.ref b12)] [])) (fun _ kgo => XS.ifnonnullNo X182.here hx rfl (hb hby at_181) rfl kgo) ?_
          refine own_go (g' := (mkF m 185 #[.val (.int p0), .val (.int p1), .val (.int p2), .val (.int p3), .val (.int p4), .val (.ref b1), .val (.ref b9), .val (.ref b12), .val (.ref b16), .val (.ref b12), .val (.int (1 : Int32)), .val (.ref b12)] [(.int (1 : Int32))])) (fun _ kgo => XS.iconst X182.here hx rfl (hb hby at_184) kgo) ?_
          refine own_go (g' := (mkF m 189 #[.val (.int p0), .val (.int p1), .val (.int p2), .val (.int p3), .val (.int p4), .val (.ref b1), .val (.ref b9), .val (.ref b12), .val (.ref b16), .val (.ref b12), .val (.int (1 : Int32)), .val (.ref b12)] [(.int (1 : Int32))])) (fun _ kgo => XS.goto X182.here hx rfl (pc0 := 185) (pc' := 189) rfl (hb hby at_185) (by decide) (by decide) kgo) ?_
          refine own_retNW X182 hx hS19 e182 hk175 .boolean Bd.returns Bd.notSynchronized (by simp) (hb hby at_189) (by decide) (by decide) ?_
          show QQ _ T182.heap _
          rw [e182]
          rw [← hQQ]
          exact ⟨rfl, N182⟩
        ·
          refine own_go (g' := (mkF m 130 #[.val (.int p0), .val (.int p1), .val (.int p2), .val (.int p3), .val (.int p4), .val (.ref b1), .val (.ref b9), .val (.ref b12), .val (.ref b16), .val (.ref b12), .val (.int (1 : Int32)), .val (.ref b12)] [])) (fun _ kgo => XS.ifNo X178.here hx rfl (hb hby at_127) rfl ((if0 _ _).trans (feq hc179).1) kgo) ?_
          refine own_go (g' := (mkF m 131 #[.val (.int p0), .val (.int p1), .val (.int p2), .val (.int p3), .val (.int p4), .val (.ref b1), .val (.ref b9), .val (.ref b12), .val (.ref b16), .val (.ref b12), .val (.int (1 : Int32)), .val (.ref b12)] [(.int p1)])) (fun _ kgo => XS.iloadN X178.here hx rfl (hb hby at_130) rfl kgo) ?_
          refine own_go (g' := (mkF m 133 #[.val (.int p0), .val (.int p1), .val (.int p2), .val (.int p3), .val (.int p4), .val (.ref b1), .val (.ref b9), .val (.ref b12), .val (.ref b16), .val (.ref b12), .val (.int (1 : Int32)), .val (.ref b12)] [(.ref b16), (.int p1)])) (fun _ kgo => XS.aload X178.here hx rfl (hb hby at_131) rfl rfl kgo) ?_
          refine own_go (g' := (mkF m 135 #[.val (.int p0), .val (.int p1), .val (.int p2), .val (.int p3), .val (.int p4), .val (.ref b1), .val (.ref b9), .val (.ref b12), .val (.ref b16), .val (.ref b12), .val (.int (1 : Int32)), .val (.ref b12)] [(.ref b12), (.ref b16), (.int p1)])) (fun _ kgo => XS.aload X178.here hx rfl (hb hby at_133) rfl rfl kgo) ?_
          refine own_go (g' := (mkF m 137 #[.val (.int p0), .val (.int p1), .val (.int p2), .val (.int p3), .val (.int p4), .val (.ref b1), .val (.ref b9), .val (.ref b12), .val (.ref b16), .val (.ref b12), .val (.int (1 : Int32)), .val (.ref b12)] [(.ref b9), (.ref b12), (.ref b16), (.int p1)])) (fun _ kgo => XS.aload X178.here hx rfl (hb hby at_135) rfl rfl kgo) ?_
          rcases own_k4 p1 with hk_p1 | hk_p1 | hk_p1 | hk_p1
          ·
            obtain ⟨v185, T185, L185, hQ185, X185, st185⟩ := own_callS X178 hx hZ (y := (⟨"com/example/restlint/restlint/document/MappingNodeAppliedPinLaw", "pick", "(ILcom/example/restlint/restlint/document/Node;Lcom/example/restlint/restlint/document/Node;Lcom/example/restlint/restlint/document/Node;)Lcom/example/restlint/restlint/document/Node;"⟩ : MethodName)) hown (hw _ (List.mem_of_getElem? (i := 91) rfl)) (hw _ (List.mem_of_getElem? (i := 92) rfl)) (hw _ (List.mem_of_getElem? (i := 93) rfl)) (hw _ (List.mem_of_getElem? (i := 94) rfl)) ⟨by decide, by decide⟩ (argsL := [(.int p1), (.ref b16), (.ref b12), (.ref b9)]) (pick0 l Z a0 hw p1 b16 b12 b9 T175.heap hk_p1) e178 (g := (mkF m 137 #[.val (.int p0), .val (.int p1), .val (.int p2), .val (.int p3), .val (.int p4), .val (.ref b1), .val (.ref b9), .val (.ref b12), .val (.ref b16), .val (.ref b12), .val (.int (1 : Int32)), .val (.ref b12)] [(.ref b9), (.ref b12), (.ref b16), (.int p1)])) rfl (by rw [hml]; rfl) (rest := []) (lenOf pd0_5 rfl) rfl (hb hby at_137) (W := 0) (by show 2 * 0 + _ ≤ _; exact Nat.le_of_eq rfl) (by decide) (by decide) (by decide) (by decide)
            obtain ⟨rfl, e185, rfl⟩ := hQ185
            have N185 := Fr.app N178 (Fr.nil n0)
            refine own_go (g' := (mkF m 140 #[.val (.int p0), .val (.int p1), .val (.int p2), .val (.int p3), .val (.int p4), .val (.ref b1), .val (.ref b9), .val (.ref b12), .val (.ref b16), .val (.ref b12), .val (.int (1 : Int32)), .val (.ref b12)] [.null])) (st185) ?_
            refine own_go (g' := (mkF m 142 #[.val (.int p0), .val (.int p1), .val (.int p2), .val (.int p3), .val (.int p4), .val (.ref b1), .val (.ref b9), .val (.ref b12), .val (.ref b16), .val (.ref b12), .val (.int (1 : Int32)), .val .null] [])) (fun _ kgo => XS.astore X185.here hx rfl (hb hby at_140) rfl rfl (l' := #[.val (.int p0), .val (.int p1), .val (.int p2), .val (.int p3), .val (.int p4), .val (.ref b1), .val (.ref b9), .val (.ref b12), .val (.ref b16), .val (.ref b12), .val (.int (1 : Int32)), .val .null]) rfl kgo) ?_
            refine own_go (g' := (mkF m 144 #[.val (.int p0), .val (.int p1), .val (.int p2), .val (.int p3), .val (.int p4), .val (.ref b1), .val (.ref b9), .val (.ref b12), .val (.ref b16), .val (.ref b12), .val (.int (1 : Int32)), .val .null] [(.ref b9)])) (fun _ kgo => XS.aload X185.here hx rfl (hb hby at_142) rfl rfl kgo) ?_
            refine own_go (g' := (mkF m 146 #[.val (.int p0), .val (.int p1), .val (.int p2), .val (.int p3), .val (.int p4), .val (.ref b1), .val (.ref b9), .val (.ref b12), .val (.ref b16), .val (.ref b12), .val (.int (1 : Int32)), .val .null] [.null, (.ref b9)])) (fun _ kgo => XS.aload X185.here hx rfl (hb hby at_144) rfl rfl kgo) ?_
            obtain ⟨v186, T186, L186, hQ186, X186, st186⟩ := own_callV X185 hx hZ (y := (⟨"com/example/restlint/restlint/document/MappingNode", "applyReference", "(Lcom/example/restlint/restlint/document/Node;)V"⟩ : MethodName)) (z := (⟨"com/example/restlint/restlint/document/MappingNode", "applyReference", "(Lcom/example/restlint/restlint/document/Node;)V"⟩ : MethodName)) hown (hw _ (List.mem_of_getElem? (i := 95) rfl)) (hw _ (List.mem_of_getElem? (i := 96) rfl)) (notFace_of_selects (args := #[]) (mvT hZ (hw _ (List.mem_of_getElem? (i := 98) rfl)))) (hw _ (List.mem_of_getElem? (i := 98) rfl)) (hw _ (List.mem_of_getElem? (i := 97) rfl)) (hw _ (List.mem_of_getElem? (i := 35) rfl)) (hw _ (List.mem_of_getElem? (i := 99) rfl)) ⟨by decide, by decide⟩ (a := b9) (argsL := [.null]) (apr_nr l Z a0 hw b9 ap175 T175.heap n0 Z175 ge_b9 q175_0 q175_1) e185 q175_0 (g := (mkF m 146 #[.val (.int p0), .val (.int p1), .val (.int p2), .val (.int p3), .val (.int p4), .val (.ref b1), .val (.ref b9), .val (.ref b12), .val (.ref b16), .val (.ref b12), .val (.int (1 : Int32)), .val .null] [.null, (.ref b9)])) rfl (by rw [hml]; rfl) (rest := []) (lenOf pd0_6 rfl) rfl (hb hby at_146) (W := 0) (by show 2 * 0 + _ ≤ _; exact Nat.le_of_eq rfl) (by decide) (by decide) (by decide) (by decide)
            obtain ⟨ap186, rfl, Nq186, Kq186, pr186_0, q186_0, q186_1, q186_2⟩ := hQ186
            have fx187 : Exa Z T175.heap b1 "com/example/restlint/restlint/document/Location" := (Exa.keep fx176 Kq175)
            have ne_b1_ap186 : b1 ≠ ap186 := Nat.ne_of_lt (Nat.lt_of_lt_of_le fx187.lt pr186_0)
            have ne_b9_ap186 : b9 ≠ ap186 := Nat.ne_of_lt (Nat.lt_of_lt_of_le q175_0.lt pr186_0)
            have fx188 : Exa Z T175.heap b12 "com/example/restlint/restlint/document/MappingNode" := (Exa.keep fx177 Kq175)
            have ne_b12_ap186 : b12 ≠ ap186 := Nat.ne_of_lt (Nat.lt_of_lt_of_le fx188.lt pr186_0)
            have fx189 : Exa Z T175.heap b16 "com/example/restlint/restlint/document/ScalarNode" := (Exa.keep q21_0 Kq175)
            have ne_b16_ap186 : b16 ≠ ap186 := Nat.ne_of_lt (Nat.lt_of_lt_of_le fx189.lt pr186_0)
            have ne_ap175_ap186 : ap175 ≠ ap186 := Nat.ne_of_lt (Nat.lt_of_lt_of_le q175_2.lt pr186_0)
            have ge_ap186 : n0 ≤ ap186 := Nat.le_trans Z175 pr186_0
            have N186 := Fr.app N185 Nq186
            have hk186 := Nat.le_trans hk175 Kq186.1
            have Z186 : n0 ≤ T186.heap.size := Nat.le_trans Z175 Kq186.1
            refine own_go (g' := (mkF m 149 #[.val (.int p0), .val (.int p1), .val (.int p2), .val (.int p3), .val (.int p4), .val (.ref b1), .val (.ref b9), .val (.ref b12), .val (.ref b16), .val (.ref b12), .val (.int (1 : Int32)), .val .null] [])) (st186) ?_
            refine own_go (g' := (mkF m 151 #[.val (.int p0), .val (.int p1), .val (.int p2), .val (.int p3), .val (.int p4), .val (.ref b1), .val (.ref b9), .val (.ref b12), .val (.ref b16), .val (.ref b12), .val (.int (1 : Int32)), .val .null] [.null])) (fun _ kgo => XS.aload X186.here hx rfl (hb hby at_149) rfl rfl kgo) ?_
            refine own_go (g' := (mkF m 153 #[.val (.int p0), .val (.int p1), .val (.int p2), .val (.int p3), .val (.int p4), .val (.ref b1), .val (.ref b9), .val (.ref b12), .val (.ref b16), .val .null, .val (.int (1 : Int32)), .val .null] [])) (fun _ kgo => XS.astore X186.here hx rfl (hb hby at_151) rfl rfl (l' := #[.val (.int p0), .val (.int p1), .val (.int p2), .val (.int p3), .val (.int p4), .val (.ref b1), .val (.ref b9), .val (.ref b12), .val (.ref b16), .val .null, .val (.int (1 : Int32)), .val .null]) rfl kgo) ?_
            refine own_go (g' := (mkF m 154 #[.val (.int p0), .val (.int p1), .val (.int p2), .val (.int p3), .val (.int p4), .val (.ref b1), .val (.ref b9), .val (.ref b12), .val (.ref b16), .val .null, .val (.int (1 : Int32)), .val .null] [(.int (1 : Int32))])) (fun _ kgo => XS.iconst X186.here hx rfl (hb hby at_153) kgo) ?_
            refine own_go (g' := (mkF m 156 #[.val (.int p0), .val (.int p1), .val (.int p2), .val (.int p3), .val (.int p4), .val (.ref b1), .val (.ref b9), .val (.ref b12), .val (.ref b16), .val .null, .val (.int (1 : Int32)), .val .null] [])) (fun _ kgo => XS.istore X186.here hx rfl (hb hby at_154) rfl (l' := #[.val (.int p0), .val (.int p1), .val (.int p2), .val (.int p3), .val (.int p4), .val (.ref b1), .val (.ref b9), .val (.ref b12), .val (.ref b16), .val .null, .val (.int (1 : Int32)), .val .null]) rfl kgo) ?_
            refine own_go (g' := (mkF m 158 #[.val (.int p0), .val (.int p1), .val (.int p2), .val (.int p3), .val (.int p4), .val (.ref b1), .val (.ref b9), .val (.ref b12), .val (.ref b16), .val .null, .val (.int (1 : Int32)), .val .null] [(.ref b9)])) (fun _ kgo => XS.aload X186.here hx rfl (hb hby at_156) rfl rfl kgo) ?_
            obtain ⟨v190, T190, L190, hQ190, X190, st190⟩ := own_callV X186 hx hZ (y := (⟨"com/example/restlint/restlint/document/MappingNode", "applied", "()Lcom/example/restlint/restlint/document/Node;"⟩ : MethodName)) (z := (⟨"com/example/restlint/restlint/document/MappingNode", "applied", "()Lcom/example/restlint/restlint/document/Node;"⟩ : MethodName)) hown (hw _ (List.mem_of_getElem? (i := 84) rfl)) (hw _ (List.mem_of_getElem? (i := 85) rfl)) (notFace_of_selects (args := #[]) (mvT hZ (hw _ (List.mem_of_getElem? (i := 87) rfl)))) (hw _ (List.mem_of_getElem? (i := 87) rfl)) (hw _ (List.mem_of_getElem? (i := 86) rfl)) (hw _ (List.mem_of_getElem? (i := 35) rfl)) (hw _ (List.mem_of_getElem? (i := 88) rfl)) ⟨by decide, by decide⟩ (a := b9) (argsL := []) (app_rn l Z a0 hw b9 ap186 T186.heap q186_1 q186_2) rfl q186_0 (g := (mkF m 158 #[.val (.int p0), .val (.int p1), .val (.int p2), .val (.int p3), .val (.int p4), .val (.ref b1), .val (.ref b9), .val (.ref b12), .val (.ref b16), .val .null, .val (.int (1 : Int32)), .val .null] [(.ref b9)])) rfl (by rw [hml]; rfl) (rest := []) (lenOf pd0_3 rfl) rfl (hb hby at_158) (W := 0) (by show 2 * 0 + _ ≤ _; exact Nat.le_of_eq rfl) (by decide) (by decide) (by decide) (by decide)
            obtain ⟨rfl, e190, rfl⟩ := hQ190
            have N190 := Fr.app N186 (Fr.nil n0)
            refine own_go (g' := (mkF m 161 #[.val (.int p0), .val (.int p1), .val (.int p2), .val (.int p3), .val (.int p4), .val (.ref b1), .val (.ref b9), .val (.ref b12), .val (.ref b16), .val .null, .val (.int (1 : Int32)), .val .null] [.null])) (st190) ?_
            refine own_go (g' := (mkF m 163 #[.val (.int p0), .val (.int p1), .val (.int p2), .val (.int p3), .val (.int p4), .val (.ref b1), .val (.ref b9), .val (.ref b12), .val (.ref b16), .val .null, .val (.int (1 : Int32)), .val .null] [.null, .null])) (fun _ kgo => XS.aload X190.here hx rfl (hb hby at_161) rfl rfl kgo) ?_
            refine own_go (g' := (mkF m 166 #[.val (.int p0), .val (.int p1), .val (.int p2), .val (.int p3), .val (.int p4), .val (.ref b1), .val (.ref b9), .val (.ref b12), .val (.ref b16), .val .null, .val (.int (1 : Int32)), .val .null] [])) (fun _ kgo => Jvm.RoadKit.acmp (g := (mkF m 163 #[.val (.int p0), .val (.int p1), .val (.int p2), .val (.int p3), .val (.int p4), .val (.ref b1), .val (.ref b9), .val (.ref b12), .val (.ref b16), .val .null, .val (.int (1 : Int32)), .val .null] [.null, .null])) X190 hx rfl rfl rfl (pc0 := 163) (pc' := 166) (same := true) rfl (hb hby at_163) rfl (decide_eq_true rfl) (by decide) (by decide) kgo) ?_
            refine own_go (g' := (mkF m 168 #[.val (.int p0), .val (.int p1), .val (.int p2), .val (.int p3), .val (.int p4), .val (.ref b1), .val (.ref b9), .val (.ref b12), .val (.ref b16), .val .null, .val (.int (1 : Int32)), .val .null] [(.ref b9)])) (fun _ kgo => XS.aload X190.here hx rfl (hb hby at_166) rfl rfl kgo) ?_
            obtain ⟨v191, T191, L191, hQ191, X191, st191⟩ := own_callV X190 hx hZ (y := (⟨"com/example/restlint/restlint/document/MappingNode", "appliesReference", "()Z"⟩ : MethodName)) (z := (⟨"com/example/restlint/restlint/document/MappingNode", "appliesReference", "()Z"⟩ : MethodName)) hown (hw _ (List.mem_of_getElem? (i := 128) rfl)) (hw _ (List.mem_of_getElem? (i := 129) rfl)) (notFace_of_selects (args := #[]) (mvT hZ (hw _ (List.mem_of_getElem? (i := 131) rfl)))) (hw _ (List.mem_of_getElem? (i := 131) rfl)) (hw _ (List.mem_of_getElem? (i := 130) rfl)) (hw _ (List.mem_of_getElem? (i := 35) rfl)) (hw _ (List.mem_of_getElem? (i := 132) rfl)) ⟨by decide, by decide⟩ (a := b9) (argsL := []) (apl_r l Z a0 hw b9 ap186 T186.heap q186_1) e190 q186_0 (g := (mkF m 168 #[.val (.int p0), .val (.int p1), .val (.int p2), .val (.int p3), .val (.int p4), .val (.ref b1), .val (.ref b9), .val (.ref b12), .val (.ref b16), .val .null, .val (.int (1 : Int32)), .val .null] [(.ref b9)])) rfl (by rw [hml]; rfl) (rest := []) (lenOf pd0_4 rfl) rfl (hb hby at_168) (W := 0) (by show 2 * 0 + _ ≤ _; exact Nat.le_of_eq rfl) (by decide) (by decide) (by decide) (by decide)
            obtain ⟨rfl, e191, rfl⟩ := hQ191
            have N191 := Fr.app N190 (Fr.nil n0)
            refine own_go (g' := (mkF m 171 #[.val (.int p0), .val (.int p1), .val (.int p2), .val (.int p3), .val (.int p4), .val (.ref b1), .val (.ref b9), .val (.ref b12), .val (.ref b16), .val .null, .val (.int (1 : Int32)), .val .null] [(.int (1 : Int32))])) (st191) ?_
            refine own_go (g' := (mkF m 173 #[.val (.int p0), .val (.int p1), .val (.int p2), .val (.int p3), .val (.int p4), .val (.ref b1), .val (.ref b9), .val (.ref b12), .val (.ref b16), .val .null, .val (.int (1 : Int32)), .val .null] [(.int (1 : Int32)), (.int (1 : Int32))])) (fun _ kgo => XS.iload X191.here hx rfl (hb hby at_171) rfl kgo) ?_
            refine own_go (g' := (mkF m 176 #[.val (.int p0), .val (.int p1), .val (.int p2), .val (.int p3), .val (.int p4), .val (.ref b1), .val (.ref b9), .val (.ref b12), .val (.ref b16), .val .null, .val (.int (1 : Int32)), .val .null] [])) (fun _ kgo => XS.icmpNo X191.here hx rfl (hb hby at_173) rfl (teq (by decide)).2 kgo) ?_
            refine own_go (g' := (mkF m 178 #[.val (.int p0), .val (.int p1), .val (.int p2), .val (.int p3), .val (.int p4), .val (.ref b1), .val (.ref b9), .val (.ref b12), .val (.ref b16), .val .null, .val (.int (1 : Int32)), .val .null] [(.ref b12)])) (fun _ kgo => XS.aload X191.here hx rfl (hb hby at_176) rfl rfl kgo) ?_
            have fx193 : Fld Z T186.heap b12 "com/example/restlint/restlint/document/MappingNode" "applied" "Lcom/example/restlint/restlint/document/MappingNode$Applied;" .null := (Fld.keep (Fld.keep (Fld.keep (Fld.ext E19 (Fld.ext E16 q14_1)) Kq21 (ninS ne_b12_b16 nin0)) Kq175 (ninS (Ne.symm ne_b9_b12) nin0)) Kq186 (ninS (Ne.symm ne_b9_b12) nin0))
            have fx194 : Exa Z T186.heap b12 "com/example/restlint/restlint/document/MappingNode" := (Exa.keep fx188 Kq186)
            obtain ⟨v192, T192, L192, hQ192, X192, st192⟩ := own_callV X191 hx hZ (y := (⟨"com/example/restlint/restlint/document/MappingNode", "applied", "()Lcom/example/restlint/restlint/document/Node;"⟩ : MethodName)) (z := (⟨"com/example/restlint/restlint/document/MappingNode", "applied", "()Lcom/example/restlint/restlint/document/Node;"⟩ : MethodName)) hown (hw _ (List.mem_of_getElem? (i := 84) rfl)) (hw _ (List.mem_of_getElem? (i := 85) rfl)) (notFace_of_selects (args := #[]) (mvT hZ (hw _ (List.mem_of_getElem? (i := 87) rfl)))) (hw _ (List.mem_of_getElem? (i := 87) rfl)) (hw _ (List.mem_of_getElem? (i := 86) rfl)) (hw _ (List.mem_of_getElem? (i := 35) rfl)) (hw _ (List.mem_of_getElem? (i := 88) rfl)) ⟨by decide, by decide⟩ (a := b12) (argsL := []) (app_n l Z a0 hw b12 T186.heap fx193) e191 fx194 (g := (mkF m 178 #[.val (.int p0), .val (.int p1), .val (.int p2), .val (.int p3), .val (.int p4), .val (.ref b1), .val (.ref b9), .val (.ref b12), .val (.ref b16), .val .null, .val (.int (1 : Int32)), .val .null] [(.ref b12)])) rfl (by rw [hml]; rfl) (rest := []) (lenOf pd0_3 rfl) rfl (hb hby at_178) (W := 0) (by show 2 * 0 + _ ≤ _; exact Nat.le_of_eq rfl) (by decide) (by decide) (by decide) (by decide)
            obtain ⟨rfl, e192, rfl⟩ := hQ192
            have N192 := Fr.app N191 (Fr.nil n0)
            refine own_go (g' := (mkF m 181 #[.val (.int p0), .val (.int p1), .val (.int p2), .val (.int p3), .val (.int p4), .val (.ref b1), .val (.ref b9), .val (.ref b12), .val (.ref b16), .val .null, .val (.int (1 : Int32)), .val .null] [.null])) (st192) ?_
            refine own_go (g' := (mkF m 184 #[.val (.int p0), .val (.int p1), .val (.int p2), .val (.int p3), .val (.int p4), .val (.ref b1), .val (.ref b9), .val (.ref b12), .val (.ref b16), .val .null, .val (.int (1 : Int32)), .val .null] [])) (fun _ kgo => XS.ifnonnullNo X192.here hx rfl (hb hby at_181) rfl kgo) ?_
            refine own_go (g' := (mkF m 185 #[.val (.int p0), .val (.int p1), .val (.int p2), .val (.int p3), .val (.int p4), .val (.ref b1), .val (.ref b9), .val (.ref b12), .val (.ref b16), .val .null, .val (.int (1 : Int32)), .val .null] [(.int (1 : Int32))])) (fun _ kgo => XS.iconst X192.here hx rfl (hb hby at_184) kgo) ?_
            refine own_go (g' := (mkF m 189 #[.val (.int p0), .val (.int p1), .val (.int p2), .val (.int p3), .val (.int p4), .val (.ref b1), .val (.ref b9), .val (.ref b12), .val (.ref b16), .val .null, .val (.int (1 : Int32)), .val .null] [(.int (1 : Int32))])) (fun _ kgo => XS.goto X192.here hx rfl (pc0 := 185) (pc' := 189) rfl (hb hby at_185) (by decide) (by decide) kgo) ?_
            refine own_retNW X192 hx hS19 e192 hk186 .boolean Bd.returns Bd.notSynchronized (by simp) (hb hby at_189) (by decide) (by decide) ?_
            show QQ _ T192.heap _
            rw [e192]
            rw [← hQQ]
            exact ⟨rfl, N192⟩
          ·
            obtain ⟨v195, T195, L195, hQ195, X195, st195⟩ := own_callS X178 hx hZ (y := (⟨"com/example/restlint/restlint/document/MappingNodeAppliedPinLaw", "pick", "(ILcom/example/restlint/restlint/document/Node;Lcom/example/restlint/restlint/document/Node;Lcom/example/restlint/restlint/document/Node;)Lcom/example/restlint/restlint/document/Node;"⟩ : MethodName)) hown (hw _ (List.mem_of_getElem? (i := 91) rfl)) (hw _ (List.mem_of_getElem? (i := 92) rfl)) (hw _ (List.mem_of_getElem? (i := 93) rfl)) (hw _ (List.mem_of_getElem? (i := 94) rfl)) ⟨by decide, by decide⟩ (argsL := [(.int p1), (.ref b16), (.ref b12), (.ref b9)]) (pick1 l Z a0 hw p1 b16 b12 b9 T175.heap hk_p1) e178 (g := (mkF m 137 #[.val (.int p0), .val (.int p1), .val (.int p2), .val (.int p3), .val (.int p4), .val (.ref b1), .val (.ref b9), .val (.ref b12), .val (.ref b16), .val (.ref b12), .val (.int (1 : Int32)), .val (.ref b12)] [(.ref b9), (.ref b12), (.ref b16), (.int p1)])) rfl (by rw [hml]; rfl) (rest := []) (lenOf pd0_5 rfl) rfl (hb hby at_137) (W := 0) (by show 2 * 0 + _ ≤ _; exact Nat.le_of_eq rfl) (by decide) (by decide) (by decide) (by decide)
            obtain ⟨rfl, e195, rfl⟩ := hQ195
            have N195 := Fr.app N178 (Fr.nil n0)
            refine own_go (g' := (mkF m 140 #[.val (.int p0), .val (.int p1), .val (.int p2), .val (.int p3), .val (.int p4), .val (.ref b1), .val (.ref b9), .val (.ref b12), .val (.ref b16), .val (.ref b12), .val (.int (1 : Int32)), .val (.ref b12)] [(.ref b16)])) (st195) ?_
            refine own_go (g' := (mkF m 142 #[.val (.int p0), .val (.int p1), .val (.int p2), .val (.int p3), .val (.int p4), .val (.ref b1), .val (.ref b9), .val (.ref b12), .val (.ref b16), .val (.ref b12), .val (.int (1 : Int32)), .val (.ref b16)] [])) (fun _ kgo => XS.astore X195.here hx rfl (hb hby at_140) rfl rfl (l' := #[.val (.int p0), .val (.int p1), .val (.int p2), .val (.int p3), .val (.int p4), .val (.ref b1), .val (.ref b9), .val (.ref b12), .val (.ref b16), .val (.ref b12), .val (.int (1 : Int32)), .val (.ref b16)]) rfl kgo) ?_
            refine own_go (g' := (mkF m 144 #[.val (.int p0), .val (.int p1), .val (.int p2), .val (.int p3), .val (.int p4), .val (.ref b1), .val (.ref b9), .val (.ref b12), .val (.ref b16), .val (.ref b12), .val (.int (1 : Int32)), .val (.ref b16)] [(.ref b9)])) (fun _ kgo => XS.aload X195.here hx rfl (hb hby at_142) rfl rfl kgo) ?_
            refine own_go (g' := (mkF m 146 #[.val (.int p0), .val (.int p1), .val (.int p2), .val (.int p3), .val (.int p4), .val (.ref b1), .val (.ref b9), .val (.ref b12), .val (.ref b16), .val (.ref b12), .val (.int (1 : Int32)), .val (.ref b16)] [(.ref b16), (.ref b9)])) (fun _ kgo => XS.aload X195.here hx rfl (hb hby at_144) rfl rfl kgo) ?_
            obtain ⟨v196, T196, L196, hQ196, X196, st196⟩ := own_callV X195 hx hZ (y := (⟨"com/example/restlint/restlint/document/MappingNode", "applyReference", "(Lcom/example/restlint/restlint/document/Node;)V"⟩ : MethodName)) (z := (⟨"com/example/restlint/restlint/document/MappingNode", "applyReference", "(Lcom/example/restlint/restlint/document/Node;)V"⟩ : MethodName)) hown (hw _ (List.mem_of_getElem? (i := 95) rfl)) (hw _ (List.mem_of_getElem? (i := 96) rfl)) (notFace_of_selects (args := #[]) (mvT hZ (hw _ (List.mem_of_getElem? (i := 98) rfl)))) (hw _ (List.mem_of_getElem? (i := 98) rfl)) (hw _ (List.mem_of_getElem? (i := 97) rfl)) (hw _ (List.mem_of_getElem? (i := 35) rfl)) (hw _ (List.mem_of_getElem? (i := 99) rfl)) ⟨by decide, by decide⟩ (a := b9) (argsL := [(.ref b16)]) (apr_rr l Z a0 hw b9 b16 ap175 T175.heap n0 Z175 ge_b9 q175_0 q175_1) e195 q175_0 (g := (mkF m 146 #[.val (.int p0), .val (.int p1), .val (.int p2), .val (.int p3), .val (.int p4), .val (.ref b1), .val (.ref b9), .val (.ref b12), .val (.ref b16), .val (.ref b12), .val (.int (1 : Int32)), .val (.ref b16)] [(.ref b16), (.ref b9)])) rfl (by rw [hml]; rfl) (rest := []) (lenOf pd0_6 rfl) rfl (hb hby at_146) (W := 0) (by show 2 * 0 + _ ≤ _; exact Nat.le_of_eq rfl) (by decide) (by decide) (by decide) (by decide)
            obtain ⟨ap196, rfl, Nq196, Kq196, pr196_0, q196_0, q196_1, q196_2⟩ := hQ196
            have fx197 : Exa Z T175.heap b1 "com/example/restlint/restlint/document/Location" := (Exa.keep fx176 Kq175)
            have ne_b1_ap196 : b1 ≠ ap196 := Nat.ne_of_lt (Nat.lt_of_lt_of_le fx197.lt pr196_0)
            have ne_b9_ap196 : b9 ≠ ap196 := Nat.ne_of_lt (Nat.lt_of_lt_of_le q175_0.lt pr196_0)
            have fx198 : Exa Z T175.heap b12 "com/example/restlint/restlint/document/MappingNode" := (Exa.keep fx177 Kq175)
            have ne_b12_ap196 : b12 ≠ ap196 := Nat.ne_of_lt (Nat.lt_of_lt_of_le fx198.lt pr196_0)
            have fx199 : Exa Z T175.heap b16 "com/example/restlint/restlint/document/ScalarNode" := (Exa.keep q21_0 Kq175)
            have ne_b16_ap196 : b16 ≠ ap196 := Nat.ne_of_lt (Nat.lt_of_lt_of_le fx199.lt pr196_0)
            have ne_ap175_ap196 : ap175 ≠ ap196 := Nat.ne_of_lt (Nat.lt_of_lt_of_le q175_2.lt pr196_0)
            have ge_ap196 : n0 ≤ ap196 := Nat.le_trans Z175 pr196_0
            have N196 := Fr.app N195 Nq196
            have hk196 := Nat.le_trans hk175 Kq196.1
            have Z196 : n0 ≤ T196.heap.size := Nat.le_trans Z175 Kq196.1
            refine own_go (g' := (mkF m 149 #[.val (.int p0), .val (.int p1), .val (.int p2), .val (.int p3), .val (.int p4), .val (.ref b1), .val (.ref b9), .val (.ref b12), .val (.ref b16), .val (.ref b12), .val (.int (1 : Int32)), .val (.ref b16)] [])) (st196) ?_
            refine own_go (g' := (mkF m 151 #[.val (.int p0), .val (.int p1), .val (.int p2), .val (.int p3), .val (.int p4), .val (.ref b1), .val (.ref b9), .val (.ref b12), .val (.ref b16), .val (.ref b12), .val (.int (1 : Int32)), .val (.ref b16)] [(.ref b16)])) (fun _ kgo => XS.aload X196.here hx rfl (hb hby at_149) rfl rfl kgo) ?_
            refine own_go (g' := (mkF m 153 #[.val (.int p0), .val (.int p1), .val (.int p2), .val (.int p3), .val (.int p4), .val (.ref b1), .val (.ref b9), .val (.ref b12), .val (.ref b16), .val (.ref b16), .val (.int (1 : Int32)), .val (.ref b16)] [])) (fun _ kgo => XS.astore X196.here hx rfl (hb hby at_151) rfl rfl (l' := #[.val (.int p0), .val (.int p1), .val (.int p2), .val (.int p3), .val (.int p4), .val (.ref b1), .val (.ref b9), .val (.ref b12), .val (.ref b16), .val (.ref b16), .val (.int (1 : Int32)), .val (.ref b16)]) rfl kgo) ?_
            refine own_go (g' := (mkF m 154 #[.val (.int p0), .val (.int p1), .val (.int p2), .val (.int p3), .val (.int p4), .val (.ref b1), .val (.ref b9), .val (.ref b12), .val (.ref b16), .val (.ref b16), .val (.int (1 : Int32)), .val (.ref b16)] [(.int (1 : Int32))])) (fun _ kgo => XS.iconst X196.here hx rfl (hb hby at_153) kgo) ?_
            refine own_go (g' := (mkF m 156 #[.val (.int p0), .val (.int p1), .val (.int p2), .val (.int p3), .val (.int p4), .val (.ref b1), .val (.ref b9), .val (.ref b12), .val (.ref b16), .val (.ref b16), .val (.int (1 : Int32)), .val (.ref b16)] [])) (fun _ kgo => XS.istore X196.here hx rfl (hb hby at_154) rfl (l' := #[.val (.int p0), .val (.int p1), .val (.int p2), .val (.int p3), .val (.int p4), .val (.ref b1), .val (.ref b9), .val (.ref b12), .val (.ref b16), .val (.ref b16), .val (.int (1 : Int32)), .val (.ref b16)]) rfl kgo) ?_
            refine own_go (g' := (mkF m 158 #[.val (.int p0), .val (.int p1), .val (.int p2), .val (.int p3), .val (.int p4), .val (.ref b1), .val (.ref b9), .val (.ref b12), .val (.ref b16), .val (.ref b16), .val (.int (1 : Int32)), .val (.ref b16)] [(.ref b9)])) (fun _ kgo => XS.aload X196.here hx rfl (hb hby at_156) rfl rfl kgo) ?_
            obtain ⟨v200, T200, L200, hQ200, X200, st200⟩ := own_callV X196 hx hZ (y := (⟨"com/example/restlint/restlint/document/MappingNode", "applied", "()Lcom/example/restlint/restlint/document/Node;"⟩ : MethodName)) (z := (⟨"com/example/restlint/restlint/document/MappingNode", "applied", "()Lcom/example/restlint/restlint/document/Node;"⟩ : MethodName)) hown (hw _ (List.mem_of_getElem? (i := 84) rfl)) (hw _ (List.mem_of_getElem? (i := 85) rfl)) (notFace_of_selects (args := #[]) (mvT hZ (hw _ (List.mem_of_getElem? (i := 87) rfl)))) (hw _ (List.mem_of_getElem? (i := 87) rfl)) (hw _ (List.mem_of_getElem? (i := 86) rfl)) (hw _ (List.mem_of_getElem? (i := 35) rfl)) (hw _ (List.mem_of_getElem? (i := 88) rfl)) ⟨by decide, by decide⟩ (a := b9) (argsL := []) (app_rr l Z a0 hw b9 ap196 b16 T196.heap q196_1 q196_2) rfl q196_0 (g := (mkF m 158 #[.val (.int p0), .val (.int p1), .val (.int p2), .val (.int p3), .val (.int p4), .val (.ref b1), .val (.ref b9), .val (.ref b12), .val (.ref b16), .val (.ref b16), .val (.int (1 : Int32)), .val (.ref b16)] [(.ref b9)])) rfl (by rw [hml]; rfl) (rest := []) (lenOf pd0_3 rfl) rfl (hb hby at_158) (W := 0) (by show 2 * 0 + _ ≤ _; exact Nat.le_of_eq rfl) (by decide) (by decide) (by decide) (by decide)
            obtain ⟨rfl, e200, rfl⟩ := hQ200
            have N200 := Fr.app N196 (Fr.nil n0)
            refine own_go (g' := (mkF m 161 #[.val (.int p0), .val (.int p1), .val (.int p2), .val (.int p3), .val (.int p4), .val (.ref b1), .val (.ref b9), .val (.ref b12), .val (.ref b16), .val (.ref b16), .val (.int (1 : Int32)), .val (.ref b16)] [(.ref b16)])) (st200) ?_
            refine own_go (g' := (mkF m 163 #[.val (.int p0), .val (.int p1), .val (.int p2), .val (.int p3), .val (.int p4), .val (.ref b1), .val (.ref b9), .val (.ref b12), .val (.ref b16), .val (.ref b16), .val (.int (1 : Int32)), .val (.ref b16)] [(.ref b16), (.ref b16)])) (fun _ kgo => XS.aload X200.here hx rfl (hb hby at_161) rfl rfl kgo) ?_
            refine own_go (g' := (mkF m 166 #[.val (.int p0), .val (.int p1), .val (.int p2), .val (.int p3), .val (.int p4), .val (.ref b1), .val (.ref b9), .val (.ref b12), .val (.ref b16), .val (.ref b16), .val (.int (1 : Int32)), .val (.ref b16)] [])) (fun _ kgo => Jvm.RoadKit.acmp (g := (mkF m 163 #[.val (.int p0), .val (.int p1), .val (.int p2), .val (.int p3), .val (.int p4), .val (.ref b1), .val (.ref b9), .val (.ref b12), .val (.ref b16), .val (.ref b16), .val (.int (1 : Int32)), .val (.ref b16)] [(.ref b16), (.ref b16)])) X200 hx rfl rfl rfl (pc0 := 163) (pc' := 166) (same := true) rfl (hb hby at_163) rfl (decide_eq_true rfl) (by decide) (by decide) kgo) ?_
            refine own_go (g' := (mkF m 168 #[.val (.int p0), .val (.int p1), .val (.int p2), .val (.int p3), .val (.int p4), .val (.ref b1), .val (.ref b9), .val (.ref b12), .val (.ref b16), .val (.ref b16), .val (.int (1 : Int32)), .val (.ref b16)] [(.ref b9)])) (fun _ kgo => XS.aload X200.here hx rfl (hb hby at_166) rfl rfl kgo) ?_
            obtain ⟨v201, T201, L201, hQ201, X201, st201⟩ := own_callV X200 hx hZ (y := (⟨"com/example/restlint/restlint/document/MappingNode", "appliesReference", "()Z"⟩ : MethodName)) (z := (⟨"com/example/restlint/restlint/document/MappingNode", "appliesReference", "()Z"⟩ : MethodName)) hown (hw _ (List.mem_of_getElem? (i := 128) rfl)) (hw _ (List.mem_of_getElem? (i := 129) rfl)) (notFace_of_selects (args := #[]) (mvT hZ (hw _ (List.mem_of_getElem? (i := 131) rfl)))) (hw _ (List.mem_of_getElem? (i := 131) rfl)) (hw _ (List.mem_of_getElem? (i := 130) rfl)) (hw _ (List.mem_of_getElem? (i := 35) rfl)) (hw _ (List.mem_of_getElem? (i := 132) rfl)) ⟨by decide, by decide⟩ (a := b9) (argsL := []) (apl_r l Z a0 hw b9 ap196 T196.heap q196_1) e200 q196_0 (g := (mkF m 168 #[.val (.int p0), .val (.int p1), .val (.int p2), .val (.int p3), .val (.int p4), .val (.ref b1), .val (.ref b9), .val (.ref b12), .val (.ref b16), .val (.ref b16), .val (.int (1 : Int32)), .val (.ref b16)] [(.ref b9)])) rfl (by rw [hml]; rfl) (rest := []) (lenOf pd0_4 rfl) rfl (hb hby at_168) (W := 0) (by show 2 * 0 + _ ≤ _; exact Nat.le_of_eq rfl) (by decide) (by decide) (by decide) (by decide)
            obtain ⟨rfl, e201, rfl⟩ := hQ201
            have N201 := Fr.app N200 (Fr.nil n0)
            refine own_go (g' := (mkF m 171 #[.val (.int p0), .val (.int p1), .val (.int p2), .val (.int p3), .val (.int p4), .val (.ref b1), .val (.ref b9), .val (.ref b12), .val (.ref b16), .val (.ref b16), .val (.int (1 : Int32)), .val (.ref b16)] [(.int (1 : Int32))])) (st201) ?_
            refine own_go (g' := (mkF m 173 #[.val (.int p0), .val (.int p1), .val (.int p2), .val (.int p3), .val (.int p4), .val (.ref b1), .val (.ref b9), .val (.ref b12), .val (.ref b16), .val (.ref b16), .val (.int (1 : Int32)), .val (.ref b16)] [(.int (1 : Int32)), (.int (1 : Int32))])) (fun _ kgo => XS.iload X201.here hx rfl (hb hby at_171) rfl kgo) ?_
            refine own_go (g' := (mkF m 176 #[.val (.int p0), .val (.int p1), .val (.int p2), .val (.int p3), .val (.int p4), .val (.ref b1), .val (.ref b9), .val (.ref b12), .val (.ref b16), .val (.ref b16), .val (.int (1 : Int32)), .val (.ref b16)] [])) (fun _ kgo => XS.icmpNo X201.here hx rfl (hb hby at_173) rfl (teq (by decide)).2 kgo) ?_
            refine own_go (g' := (mkF m 178 #[.val (.int p0), .val (.int p1), .val (.int p2), .val (.int p3), .val (.int p4), .val (.ref b1), .val (.ref b9), .val (.ref b12), .val (.ref b16), .val (.ref b16), .val (.int (1 : Int32)), .val (.ref b16)] [(.ref b12)])) (fun _ kgo => XS.aload X201.here hx rfl (hb hby at_176) rfl rfl kgo) ?_
            have fx203 : Fld Z T196.heap b12 "com/example/restlint/restlint/document/MappingNode" "applied" "Lcom/example/restlint/restlint/document/MappingNode$Applied;" .null := (Fld.keep (Fld.keep (Fld.keep (Fld.ext E19 (Fld.ext E16 q14_1)) Kq21 (ninS ne_b12_b16 nin0)) Kq175 (ninS (Ne.symm ne_b9_b12) nin0)) Kq196 (ninS (Ne.symm ne_b9_b12) nin0))
            have fx204 : Exa Z T196.heap b12 "com/example/restlint/restlint/document/MappingNode" := (Exa.keep fx198 Kq196)
            obtain ⟨v202, T202, L202, hQ202, X202, st202⟩ := own_callV X201 hx hZ (y := (⟨"com/example/restlint/restlint/document/MappingNode", "applied", "()Lcom/example/restlint/restlint/document/Node;"⟩ : MethodName)) (z := (⟨"com/example/restlint/restlint/document/MappingNode", "applied", "()Lcom/example/restlint/restlint/document/Node;"⟩ : MethodName)) hown (hw _ (List.mem_of_getElem? (i := 84) rfl)) (hw _ (List.mem_of_getElem? (i := 85) rfl)) (notFace_of_selects (args := #[]) (mvT hZ (hw _ (List.mem_of_getElem? (i := 87) rfl)))) (hw _ (List.mem_of_getElem? (i := 87) rfl)) (hw _ (List.mem_of_getElem? (i := 86) rfl)) (hw _ (List.mem_of_getElem? (i := 35) rfl)) (hw _ (List.mem_of_getElem? (i := 88) rfl)) ⟨by decide, by decide⟩ (a := b12) (argsL := []) (app_n l Z a0 hw b12 T196.heap fx203) e201 fx204 (g := (mkF m 178 #[.val (.int p0), .val (.int p1), .val (.int p2), .val (.int p3), .val (.int p4), .val (.ref b1), .val (.ref b9), .val (.ref b12), .val (.ref b16), .val (.ref b16), .val (.int (1 : Int32)), .val (.ref b16)] [(.ref b12)])) rfl (by rw [hml]; rfl) (rest := []) (lenOf pd0_3 rfl) rfl (hb hby at_178) (W := 0) (by show 2 * 0 + _ ≤ _; exact Nat.le_of_eq rfl) (by decide) (by decide) (by decide) (by decide)
            obtain ⟨rfl, e202, rfl⟩ := hQ202
            have N202 := Fr.app N201 (Fr.nil n0)
            refine own_go (g' := (mkF m 181 #[.val (.int p0), .val (.int p1), .val (.int p2), .val (.int p3), .val (.int p4), .val (.ref b1), .val (.ref b9), .val (.ref b12), .val (.ref b16), .val (.ref b16), .val (.int (1 : Int32)), .val (.ref b16)] [.null])) (st202) ?_
            refine own_go (g' := (mkF m 184 #[.val (.int p0), .val (.int p1), .val (.int p2), .val (.int p3), .val (.int p4), .val (.ref b1), .val (.ref b9), .val (.ref b12), .val (.ref b16), .val (.ref b16), .val (.int (1 : Int32)), .val (.ref b16)] [])) (fun _ kgo => XS.ifnonnullNo X202.here hx rfl (hb hby at_181) rfl kgo) ?_
            refine own_go (g' := (mkF m 185 #[.val (.int p0), .val (.int p1), .val (.int p2), .val (.int p3), .val (.int p4), .val (.ref b1), .val (.ref b9), .val (.ref b12), .val (.ref b16), .val (.ref b16), .val (.int (1 : Int32)), .val (.ref b16)] [(.int (1 : Int32))])) (fun _ kgo => XS.iconst X202.here hx rfl (hb hby at_184) kgo) ?_
            refine own_go (g' := (mkF m 189 #[.val (.int p0), .val (.int p1), .val (.int p2), .val (.int p3), .val (.int p4), .val (.ref b1), .val (.ref b9), .val (.ref b12), .val (.ref b16), .val (.ref b16), .val (.int (1 : Int32)), .val (.ref b16)] [(.int (1 : Int32))])) (fun _ kgo => XS.goto X202.here hx rfl (pc0 := 185) (pc' := 189) rfl (hb hby at_185) (by decide) (by decide) kgo) ?_
            refine own_retNW X202 hx hS19 e202 hk196 .boolean Bd.returns Bd.notSynchronized (by simp) (hb hby at_189) (by decide) (by decide) ?_
            show QQ _ T202.heap _
            rw [e202]
            rw [← hQQ]
            exact ⟨rfl, N202⟩
          ·
            obtain ⟨v205, T205, L205, hQ205, X205, st205⟩ := own_callS X178 hx hZ (y := (⟨"com/example/restlint/restlint/document/MappingNodeAppliedPinLaw", "pick", "(ILcom/example/restlint/restlint/document/Node;Lcom/example/restlint/restlint/document/Node;Lcom/example/restlint/restlint/document/Node;)Lcom/example/restlint/restlint/document/Node;"⟩ : MethodName)) hown (hw _ (List.mem_of_getElem? (i := 91) rfl)) (hw _ (List.mem_of_getElem? (i := 92) rfl)) (hw _ (List.mem_of_getElem? (i := 93) rfl)) (hw _ (List.mem_of_getElem? (i := 94) rfl)) ⟨by decide, by decide⟩ (argsL := [(.int p1), (.ref b16), (.ref b12), (.ref b9)]) (pick2 l Z a0 hw p1 b16 b12 b9 T175.heap hk_p1) e178 (g := (mkF m 137 #[.val (.int p0), .val (.int p1), .val (.int p2), .val (.int p3), .val (.int p4), .val (.ref b1), .val (.ref b9), .val (.ref b12), .val (.ref b16), .val (.ref b12), .val (.int (1 : Int32)), .val (.ref b12)] [(.ref b9), (.ref b12), (.ref b16), (.int p1)])) rfl (by rw [hml]; rfl) (rest := []) (lenOf pd0_5 rfl) rfl (hb hby at_137) (W := 0) (by show 2 * 0 + _ ≤ _; exact Nat.le_of_eq rfl) (by decide) (by decide) (by decide) (by decide)
            obtain ⟨rfl, e205, rfl⟩ := hQ205
            have N205 := Fr.app N178 (Fr.nil n0)
            refine own_go (g' := (mkF m 140 #[.val (.int p0), .val (.int p1), .val (.int p2), .val (.int p3), .val (.int p4), .val (.ref b1), .val (.ref b9), .val (.ref b12), .val (.ref b16), .val (.ref b12), .val (.int (1 : Int32)), .val (.ref b12)] [(.ref b12)])) (st205) ?_
            refine own_go (g' := (mkF m 142 #[.val (.int p0), .val (.int p1), .val (.int p2), .val (.int p3), .val (.int p4), .val (.ref b1), .val (.ref b9), .val (.ref b12), .val (.ref b16), .val (.ref b12), .val (.int (1 : Int32)), .val (.ref b12)] [])) (fun _ kgo => XS.astore X205.here hx rfl (hb hby at_140) rfl rfl (l' := #[.val (.int p0), .val (.int p1), .val (.int p2), .val (.int p3), .val (.int p4), .val (.ref b1), .val (.ref b9), .val (.ref b12), .val (.ref b16), .val (.ref b12), .val (.int (1 : Int32)), .val (.ref b12)]) rfl kgo) ?_
            refine own_go (g' := (mkF m 144 #[.val (.int p0), .val (.int p1), .val (.int p2), .val (.int p3), .val (.int p4), .val (.ref b1), .val (.ref b9), .val (.ref b12), .val (.ref b16), .val (.ref b12), .val (.int (1 : Int32)), .val (.ref b12)] [(.ref b9)])) (fun _ kgo => XS.aload X205.here hx rfl (hb hby at_142) rfl rfl kgo) ?_
            refine own_go (g' := (mkF m 146 #[.val (.int p0), .val (.int p1), .val (.int p2), .val (.int p3), .val (.int p4), .val (.ref b1), .val (.ref b9), .val (.ref b12), .val (.ref b16), .val (.ref b12), .val (.int (1 : Int32)), .val (.ref b12)] [(.ref b12), (.ref b9)])) (fun _ kgo => XS.aload X205.here hx rfl (hb hby at_144) rfl rfl kgo) ?_
            obtain ⟨v206, T206, L206, hQ206, X206, st206⟩ := own_callV X205 hx hZ (y := (⟨"com/example/restlint/restlint/document/MappingNode", "applyReference", "(Lcom/example/restlint/restlint/document/Node;)V"⟩ : MethodName)) (z := (⟨"com/example/restlint/restlint/document/MappingNode", "applyReference", "(Lcom/example/restlint/restlint/document/Node;)V"⟩ : MethodName)) hown (hw _ (List.mem_of_getElem? (i := 95) rfl)) (hw _ (List.mem_of_getElem? (i := 96) rfl)) (notFace_of_selects (args := #[]) (mvT hZ (hw _ (List.mem_of_getElem? (i := 98) rfl)))) (hw _ (List.mem_of_getElem? (i := 98) rfl)) (hw _ (List.mem_of_getElem? (i := 97) rfl)) (hw _ (List.mem_of_getElem? (i := 35) rfl)) (hw _ (List.mem_of_getElem? (i := 99) rfl)) ⟨by decide, by decide⟩ (a := b9) (argsL := [(.ref b12)]) (apr_rr l Z a0 hw b9 b12 ap175 T175.heap n0 Z175 ge_b9 q175_0 q175_1) e205 q175_0 (g := (mkF m 146 #[.val (.int p0), .val (.int p1), .val (.int p2), .val (.int p3), .val (.int p4), .val (.ref b1), .val (.ref b9), .val (.ref b12), .val (.ref b16), .val (.ref b12), .val (.int (1 : Int32)), .val (.ref b12)] [(.ref b12), (.ref b9)])) rfl (by rw [hml]; rfl) (rest := []) (lenOf pd0_6 rfl) rfl (hb hby at_146) (W := 0) (by show 2 * 0 + _ ≤ _; exact Nat.le_of_eq rfl) (by decide) (by decide) (by decide) (by decide)
            obtain ⟨ap206, rfl, Nq206, Kq206, pr206_0, q206_0, q206_1, q206_2⟩ := hQ206
            have fx207 : Exa Z T175.heap b1 "com/example/restlint/restlint/document/Location" := (Exa.keep fx176 Kq175)
            have ne_b1_ap206 : b1 ≠ ap206 := Nat.ne_of_lt (Nat.lt_of_lt_of_le fx207.lt pr206_0)
            have ne_b9_ap206 : b9 ≠ ap206 := Nat.ne_of_lt (Nat.lt_of_lt_of_le q175_0.lt pr206_0)
            have fx208 : Exa Z T175.heap b12 "com/example/restlint/restlint/document/MappingNode" := (Exa.keep fx177 Kq175)
            have ne_b12_ap206 : b12 ≠ ap206 := Nat.ne_of_lt (Nat.lt_of_lt_of_le fx208.lt pr206_0)
            have fx209 : Exa Z T175.heap b16 "com/example/restlint/restlint/document/ScalarNode" := (Exa.keep q21_0 Kq175)
            have ne_b16_ap206 : b16 ≠ ap206 := Nat.ne_of_lt (Nat.lt_of_lt_of_le fx209.lt pr206_0)
            have ne_ap175_ap206 : ap175 ≠ ap206 := Nat.ne_of_lt (Nat.lt_of_lt_of_le q175_2.lt pr206_0)
            have ge_ap206 : n0 ≤ ap206 := Nat.le_trans Z175 pr206_0
            have N206 := Fr.app N205 Nq206
            have hk206 := Nat.le_trans hk175 Kq206.1
            have Z206 : n0 ≤ T206.heap.size := Nat.le_trans Z175 Kq206.1
            refine own_go (g' := (mkF m 149 #[.val (.int p0), .val (.int p1), .val (.int p2), .val (.int p3), .val (.int p4), .val (.ref b1), .val (.ref b9), .val (.ref b12), .val (.ref b16), .val (.ref b12), .val (.int (1 : Int32)), .val (.ref b12)] [])) (st206) ?_
            refine own_go (g' := (mkF m 151 #[.val (.int p0), .val (.int p1), .val (.int p2), .val (.int p3), .val (.int p4), .val (.ref b1), .val (.ref b9), .val (.ref b12), .val (.ref b16), .val (.ref b12), .val (.int (1 : Int32)), .val (.ref b12)] [(.ref b12)])) (fun _ kgo => XS.aload X206.here hx rfl (hb hby at_149) rfl rfl kgo) ?_
            refine own_go (g' := (mkF m 153 #[.val (.int p0), .val (.int p1), .val (.int p2), .val (.int p3), .val (.int p4), .val (.ref b1), .val (.ref b9), .val (.ref b12), .val (.ref b16), .val (.ref b12), .val (.int (1 : Int32)), .val (.ref b12)] [])) (fun _ kgo => XS.astore X206.here hx rfl (hb hby at_151) rfl rfl (l' := #[.val (.int p0), .val (.int p1), .val (.int p2), .val (.int p3), .val (.int p4), .val (.ref b1), .val (.ref b9), .val (.ref b12), .val (.ref b16), .val (.ref b12), .val (.int (1 : Int32)), .val (.ref b12)]) rfl kgo) ?_
            refine own_go (g' := (mkF m 154 #[.val (.int p0), .val (.int p1), .val (.int p2), .val (.int p3), .val (.int p4), .val (.ref b1), .val (.ref b9), .val (.ref b12), .val (.ref b16), .val (.ref b12), .val (.int (1 : Int32)), .val (.ref b12)] [(.int (1 : Int32))])) (fun _ kgo => XS.iconst X206.here hx rfl (hb hby at_153) kgo) ?_
            refine own_go (g' := (mkF m 156 #[.val (.int p0), .val (.int p1), .val (.int p2), .val (.int p3), .val (.int p4), .val (.ref b1), .val (.ref b9), .val (.ref b12), .val (.ref b16), .val (.ref b12), .val (.int (1 : Int32)), .val (.ref b12)] [])) (fun _ kgo => XS.istore X206.here hx rfl (hb hby at_154) rfl (l' := #[.val (.int p0), .val (.int p1), .val (.int p2), .val (.int p3), .val (.int p4), .val (.ref b1), .val (.ref b9), .val (.ref b12), .val (.ref b16), .val (.ref b12), .val (.int (1 : Int32)), .val (.ref b12)]) rfl kgo) ?_
            refine own_go (g' := (mkF m 158 #[.val (.int p0), .val (.int p1), .val (.int p2), .val (.int p3), .val (.int p4), .val (.ref b1), .val (.ref b9), .val (.ref b12), .val (.ref b16), .val (.ref b12), .val (.int (1 : Int32)), .val (.ref b12)] [(.ref b9)])) (fun _ kgo => XS.aload X206.here hx rfl (hb hby at_156) rfl rfl kgo) ?_
            obtain ⟨v210, T210, L210, hQ210, X210, st210⟩ := own_callV X206 hx hZ (y := (⟨"com/example/restlint/restlint/document/MappingNode", "applied", "()Lcom/example/restlint/restlint/document/Node;"⟩ : MethodName)) (z := (⟨"com/example/restlint/restlint/document/MappingNode", "applied", "()Lcom/example/restlint/restlint/document/Node;"⟩ : MethodName)) hown (hw _ (List.mem_of_getElem? (i := 84) rfl)) (hw _ (List.mem_of_getElem? (i := 85) rfl)) (notFace_of_selects (args := #[]) (mvT hZ (hw _ (List.mem_of_getElem? (i := 87) rfl)))) (hw _ (List.mem_of_getElem? (i := 87) rfl)) (hw _ (List.mem_of_getElem? (i := 86) rfl)) (hw _ (List.mem_of_getElem? (i := 35) rfl)) (hw _ (List.mem_of_getElem? (i := 88) rfl)) ⟨by decide, by decide⟩ (a := b9) (argsL := []) (app_rr l Z a0 hw b9 ap206 b12 T206.heap q206_1 q206_2) rfl q206_0 (g := (mkF m 158 #[.val (.int p0), .val (.int p1), .val (.int p2), .val (.int p3), .val (.int p4), .val (.ref b1), .val (.ref b9), .val (.ref b12), .val (.ref b16), .val (.ref b12), .val (.int (1 : Int32)), .val (.ref b12)] [(.ref b9)])) rfl (by rw [hml]; rfl) (rest := []) (lenOf pd0_3 rfl) rfl (hb hby at_158) (W := 0) (by show 2 * 0 + _ ≤ _; exact Nat.le_of_eq rfl) (by decide) (by decide) (by decide) (by decide)
            obtain ⟨rfl, e210, rfl⟩ := hQ210
            have N210 := Fr.app N206 (Fr.nil n0)
            refine own_go (g' := (mkF m 161 #[.val (.int p0), .val (.int p1), .val (.int p2), .val (.int p3), .val (.int p4), .val (.ref b1), .val (.ref b9), .val (.ref b12), .val (.ref b16), .val (.ref b12), .val (.int (1 : Int32)), .val (.ref b12)] [(.ref b12)])) (st210) ?_
            refine own_go (g' := (mkF m 163 #[.val (.int p0), .val (.int p1), .val (.int p2), .val (.int p3), .val (.int p4), .val (.ref b1), .val (.ref b9), .val (.ref b12), .val (.ref b16), .val (.ref b12), .val (.int (1 : Int32)), .val (.ref b12)] [(.ref b12), (.ref b12)])) (fun _ kgo => XS.aload X210.here hx rfl (hb hby at_161) rfl rfl kgo) ?_
            refine own_go (g' := (mkF m 166 #[.val (.int p0), .val (.int p1), .val (.int p2), .val (.int p3), .val (.int p4), .val (.ref b1), .val (.ref b9), .val (.ref b12), .val (.ref b16), .val (.ref b12), .val (.int (1 : Int32)), .val (.ref b12)] [])) (fun _ kgo => Jvm.RoadKit.acmp (g := (mkF m 163 #[.val (.int p0), .val (.int p1), .val (.int p2), .val (.int p3), .val (.int p4), .val (.ref b1), .val (.ref b9), .val (.ref b12), .val (.ref b16), .val (.ref b12), .val (.int (1 : Int32)), .val (.ref b12)] [(.ref b12), (.ref b12)])) X210 hx rfl rfl rfl (pc0 := 163) (pc' := 166) (same := true) rfl (hb hby at_163) rfl (decide_eq_true rfl) (by decide) (by decide) kgo) ?_
            refine own_go (g' := (mkF m 168 #[.val (.int p0), .val (.int p1), .val (.int p2), .val (.int p3), .val (.int p4), .val (.ref b1), .val (.ref b9), .val (.ref b12), .val (.ref b16), .val (.ref b12), .val (.int (1 : Int32)), .val (.ref b12)] [(.ref b9)])) (fun _ kgo => XS.aload X210.here hx rfl (hb hby at_166) rfl rfl kgo) ?_
            obtain ⟨v211, T211, L211, hQ211, X211, st211⟩ := own_callV X210 hx hZ (y := (⟨"com/example/restlint/restlint/document/MappingNode", "appliesReference", "()Z"⟩ : MethodName)) (z := (⟨"com/example/restlint/restlint/document/MappingNode", "appliesReference", "()Z"⟩ : MethodName)) hown (hw _ (List.mem_of_getElem? (i := 128) rfl)) (hw _ (List.mem_of_getElem? (i := 129) rfl)) (notFace_of_selects (args := #[]) (mvT hZ (hw _ (List.mem_of_getElem? (i := 131) rfl)))) (hw _ (List.mem_of_getElem? (i := 131) rfl)) (hw _ (List.mem_of_getElem? (i := 130) rfl)) (hw _ (List.mem_of_getElem? (i := 35) rfl)) (hw _ (List.mem_of_getElem? (i := 132) rfl)) ⟨by decide, by decide⟩ (a := b9) (argsL := []) (apl_r l Z a0 hw b9 ap206 T206.heap q206_1) e210 q206_0 (g := (mkF m 168 #[.val (.int p0), .val (.int p1), .val (.int p2), .val (.int p3), .val (.int p4), .val (.ref b1), .val (.ref b9), .val (.ref b12), .val (.ref b16), .val (.ref b12), .val (.int (1 : Int32)), .val (.ref b12)] [(.ref b9)])) rfl (by rw [hml]; rfl) (rest := []) (lenOf pd0_4 rfl) rfl (hb hby at_168) (W := 0) (by show 2 * 0 + _ ≤ _; exact Nat.le_of_eq rfl) (by decide) (by decide) (by decide) (by decide)
            obtain ⟨rfl, e211, rfl⟩ := hQ211
            have N211 := Fr.app N210 (Fr.nil n0)
            refine own_go (g' := (mkF m 171 #[.val (.int p0), .val (.int p1), .val (.int p2), .val (.int p3), .val (.int p4), .val (.ref b1), .val (.ref b9), .val (.ref b12), .val (.ref b16), .val (.ref b12), .val (.int (1 : Int32)), .val (.ref b12)] [(.int (1 : Int32))])) (st211) ?_
            refine own_go (g' := (mkF m 173 #[.val (.int p0), .val (.int p1), .val (.int p2), .val (.int p3), .val (.int p4), .val (.ref b1), .val (.ref b9), .val (.ref b12), .val (.ref b16), .val (.ref b12), .val (.int (1 : Int32)), .val (.ref b12)] [(.int (1 : Int32)), (.int (1 : Int32))])) (fun _ kgo => XS.iload X211.here hx rfl (hb hby at_171) rfl kgo) ?_
            refine own_go (g' := (mkF m 176 #[.val (.int p0), .val (.int p1), .val (.int p2), .val (.int p3), .val (.int p4), .val (.ref b1), .val (.ref b9), .val (.ref b12), .val (.ref b16), .val (.ref b12), .val (.int (1 : Int32)), .val (.ref b12)] [])) (fun _ kgo => XS.icmpNo X211.here hx rfl (hb hby at_173) rfl (teq (by decide)).2 kgo) ?_
            refine own_go (g' := (mkF m 178 #[.val (.int p0), .val (.int p1), .val (.int p2), .val (.int p3), .val (.int p4), .val (.ref b1), .val (.ref b9), .val (.ref b12), .val (.ref b16), .val (.ref b12), .val (.int (1 : Int32)), .val (.ref b12)] [(.ref b12)])) (fun _ kgo => XS.aload X211.here hx rfl (hb hby at_176) rfl rfl kgo) ?_
            have fx213 : Fld Z T206.heap b12 "com/example/restlint/restlint/document/MappingNode" "applied" "Lcom/example/restlint/restlint/document/MappingNode$Applied;" .null := (Fld.keep (Fld.keep (Fld.keep (Fld.ext E19 (Fld.ext E16 q14_1)) Kq21 (ninS ne_b12_b16 nin0)) Kq175 (ninS (Ne.symm ne_b9_b12) nin0)) Kq206 (ninS (Ne.symm ne_b9_b12) nin0))
            have fx214 : Exa Z T206.heap b12 "com/example/restlint/restlint/document/MappingNode" := (Exa.keep fx208 Kq206)
            obtain ⟨v212, T212, L212, hQ212, X212, st212⟩ := own_callV X211 hx hZ (y := (⟨"com/example/restlint/restlint/document/MappingNode", "applied", "()Lcom/example/restlint/restlint/document/Node;"⟩ : MethodName)) (z := (⟨"com/example/restlint/restlint/document/MappingNode", "applied", "()Lcom/example/restlint/restlint/document/Node;"⟩ : MethodName)) hown (hw _ (List.mem_of_getElem? (i := 84) rfl)) (hw _ (List.mem_of_getElem? (i := 85) rfl)) (notFace_of_selects (args := #[]) (mvT hZ (hw _ (List.mem_of_getElem? (i := 87) rfl)))) (hw _ (List.mem_of_getElem? (i := 87) rfl)) (hw _ (List.mem_of_getElem? (i := 86) rfl)) (hw _ (List.mem_of_getElem? (i := 35) rfl)) (hw _ (List.mem_of_getElem? (i := 88) rfl)) ⟨by decide, by decide⟩ (a := b12) (argsL := []) (app_n l Z a0 hw b12 T206.heap fx213) e211 fx214 (g := (mkF m 178 #[.val (.int p0), .val (.int p1), .val (.int p2), .val (.int p3), .val (.int p4), .val (.ref b1), .val (.ref b9), .val (.ref b12), .val (.ref b16), .val (.ref b12), .val (.int (1 : Int32)), .val (.ref b12)] [(.ref b12)])) rfl (by rw [hml]; rfl) (rest := []) (lenOf pd0_3 rfl) rfl (hb hby at_178) (W := 0) (by show 2 * 0 + _ ≤ _; exact Nat.le_of_eq rfl) (by decide) (by decide) (by decide) (by decide)
            obtain ⟨rfl, e212, rfl⟩ := hQ212
            have N212 := Fr.app N211 (Fr.nil n0)
            refine own_go (g' := (mkF m 181 #[.val (.int p0), .val (.int p1), .val (.int p2), .val (.int p3), .val (.int p4), .val (.ref b1), .val (.ref b9), .val (.ref b12), .val (.ref b16), .val (.ref b12), .val (.int (1 : Int32)), .val (.ref b12)] [.null])) (st212) ?_
            refine own_go (g' := (mkF m 184 #[.val (.int p0), .val (.int p1), .val (.int p2), .val (.int p3), .val (.int p4), .val (.ref b1), .val (.ref b9), .val (.ref b12), .val (.ref b16), .val (.ref b12), .val (.int (1 : Int32)), .val (.ref b12)] [])) (fun _ kgo => XS.ifnonnullNo X212.here hx rfl (hb hby at_181) rfl kgo) ?_
            refine own_go (g' := (mkF m 185 #[.val (.int p0), .val (.int p1), .val (.int p2), .val (.int p3), .val (.int p4), .val (.ref b1), .val (.ref b9), .val (.ref b12), .val (.ref b16), .val (.ref b12), .val (.int (1 : Int32)), .val (.ref b12)] [(.int (1 : Int32))])) (fun _ kgo => XS.iconst X212.here hx rfl (hb hby at_184) kgo) ?_
            refine own_go (g' := (mkF m 189 #[.val (.int p0), .val (.int p1), .val (.int p2), .val (.int p3), .val (.int p4), .val (.ref b1), .val (.ref b9), .val (.ref b12), .val (.ref b16), .val (.ref b12), .val (.int (1 : Int32)), .val (.ref b12)] [(.int (1 : Int32))])) (fun _ kgo => XS.goto X212.here hx rfl (pc0 := 185) (pc' := 189) rfl (hb hby at_185) (by decide) (by decide) kgo) ?_
            refine own_retNW X212 hx hS19 e212 hk206 .boolean Bd.returns Bd.notSynchronized (by simp) (hb hby at_189) (by decide) (by decide) ?_
            show QQ _ T212.heap _
            rw [e212]
            rw [← hQQ]
            exact ⟨rfl, N212⟩
          ·
            obtain ⟨v215, T215, L215, hQ215, X215, st215⟩ := own_callS X178 hx hZ (y := (⟨"com/example/restlint/restlint/document/MappingNodeAppliedPinLaw", "pick", "(ILcom/example/restlint/restlint/document/Node;Lcom/example/restlint/restlint/document/Node;Lcom/example/restlint/restlint/document/Node;)Lcom/example/restlint/restlint/document/Node;"⟩ : MethodName)) hown (hw _ (List.mem_of_getElem? (i := 91) rfl)) (hw _ (List.mem_of_getElem? (i := 92) rfl)) (hw _ (List.mem_of_getElem? (i := 93) rfl)) (hw _ (List.mem_of_getElem? (i := 94) rfl)) ⟨by decide, by decide⟩ (argsL := [(.int p1), (.ref b16), (.ref b12), (.ref b9)]) (pick3 l Z a0 hw p1 b16 b12 b9 T175.heap hk_p1) e178 (g := (mkF m 137 #[.val (.int p0), .val (.int p1), .val (.int p2), .val (.int p3), .val (.int p4), .val (.ref b1), .val (.ref b9), .val (.ref b12), .val (.ref b16), .val (.ref b12), .val (.int (1 : Int32)), .val (.ref b12)] [(.ref b9), (.ref b12), (.ref b16), (.int p1)])) rfl (by rw [hml]; rfl) (rest := []) (lenOf pd0_5 rfl) rfl (hb hby at_137) (W := 0) (by show 2 * 0 + _ ≤ _; exact Nat.le_of_eq rfl) (by decide) (by decide) (by decide) (by decide)
            obtain ⟨rfl, e215, rfl⟩ := hQ215
            have N215 := Fr.app N178 (Fr.nil n0)
            refine own_go (g' := (mkF m 140 #[.val (.int p0), .val (.int p1), .val (.int p2), .val (.int p3), .val (.int p4), .val (.ref b1), .val (.ref b9), .val (.ref b12), .val (.ref b16), .val (.ref b12), .val (.int (1 : Int32)), .val (.ref b12)] [(.ref b9)])) (st215) ?_
            refine own_go (g' := (mkF m 142 #[.val (.int p0), .val (.int p1), .val (.int p2), .val (.int p3), .val (.int p4), .val (.ref b1), .val (.ref b9), .val (.ref b12), .val (.ref b16), .val (.ref b12), .val (.int (1 : Int32)), .val (.ref b9)] [])) (fun _ kgo => XS.astore X215.here hx rfl (hb hby at_140) rfl rfl (l' := #[.val (.int p0), .val (.int p1), .val (.int p2), .val (.int p3), .val (.int p4), .val (.ref b1), .val (.ref b9), .val (.ref b12), .val (.ref b16), .val (.ref b12), .val (.int (1 : Int32)), .val (.ref b9)]) rfl kgo) ?_
            refine own_go (g' := (mkF m 144 #[.val (.int p0), .val (.int p1), .val (.int p2), .val (.int p3), .val (.int p4), .val (.ref b1), .val (.ref b9), .val (.ref b12), .val (.ref b16), .val (.ref b12), .val (.int (1 : Int32)), .val (.ref b9)] [(.ref b9)])) (fun _ kgo => XS.aload X215.here hx rfl (hb hby at_142) rfl rfl kgo) ?_
            refine own_go (g' := (mkF m 146 #[.val (.int p0), .val (.int p1), .val (.int p2), .val (.int p3), .val (.int p4), .val (.ref b1), .val (.ref b9), .val (.ref b12), .val (.ref b16), .val (.ref b12), .val (.int (1 : Int32)), .val (.ref b9)] [(.ref b9), (.ref b9)])) (fun _ kgo => XS.aload X215.here hx rfl (hb hby at_144) rfl rfl kgo) ?_
            obtain ⟨v216, T216, L216, hQ216, X216, st216⟩ := own_callV X215 hx hZ (y := (⟨"com/example/restlint/restlint/document/MappingNode", "applyReference", "(Lcom/example/restlint/restlint/document/Node;)V"⟩ : MethodName)) (z := (⟨"com/example/restlint/restlint/document/MappingNode", "applyReference", "(Lcom/example/restlint/restlint/document/Node;)V"⟩ : MethodName)) hown (hw _ (List.mem_of_getElem? (i := 95) rfl)) (hw _ (List.mem_of_getElem? (i := 96) rfl)) (notFace_of_selects (args := #[]) (mvT hZ (hw _ (List.mem_of_getElem? (i := 98) rfl)))) (hw _ (List.mem_of_getElem? (i := 98) rfl)) (hw _ (List.mem_of_getElem? (i := 97) rfl)) (hw _ (List.mem_of_getElem? (i := 35) rfl)) (hw _ (List.mem_of_getElem? (i := 99) rfl)) ⟨by decide, by decide⟩ (a := b9) (argsL := [(.ref b9)]) (apr_rr l Z a0 hw b9 b9 ap175 T175.heap n0 Z175 ge_b9 q175_0 q175_1) e215 q175_0 (g := (mkF m 146 #[.val (.int p0), .val (.int p1), .val (.int p2), .val (.int p3), .val (.int p4), .val (.ref b1), .val (.ref b9), .val (.ref b12), .val (.ref b16), .val (.ref b12), .val (.int (1 : Int32)), .val (.ref b9)] [(.ref b9), (.ref b9)])) rfl (by rw [hml]; rfl) (rest := []) (lenOf pd0_6 rfl) rfl (hb hby at_146) (W := 0) (by show 2 * 0 + _ ≤ _; exact Nat.le_of_eq rfl) (by decide) (by decide) (by decide) (by decide)
            obtain ⟨ap216, rfl, Nq216, Kq216, pr216_0, q216_0, q216_1, q216_2⟩ := hQ216
            have fx217 : Exa Z T175.heap b1 "com/example/restlint/restlint/document/Location" := (Exa.keep fx176 Kq175)
            have ne_b1_ap216 : b1 ≠ ap216 := Nat.ne_of_lt (Nat.lt_of_lt_of_le fx217.lt pr216_0)
            have ne_b9_ap216 : b9 ≠ ap216 := Nat.ne_of_lt (Nat.lt_of_lt_of_le q175_0.lt pr216_0)
            have fx218 : Exa Z T175.heap b12 "com/example/restlint/restlint/document/MappingNode" := (Exa.keep fx177 Kq175)
            have ne_b12_ap216 : b12 ≠ ap216 := Nat.ne_of_lt (Nat.lt_of_lt_of_le fx218.lt pr216_0)
            have fx219 : Exa Z T175.heap b16 "com/example/restlint/restlint/document/ScalarNode" := (Exa.keep q21_0 Kq175)
            have ne_b16_ap216 : b16 ≠ ap216 := Nat.ne_of_lt (Nat.lt_of_lt_of_le fx219.lt pr216_0)
            have ne_ap175_ap216 : ap175 ≠ ap216 := Nat.ne_of_lt (Nat.lt_of_lt_of_le q175_2.lt pr216_0)
            have ge_ap216 : n0 ≤ ap216 := Nat.le_trans Z175 pr216_0
            have N216 := Fr.app N215 Nq216
            have hk216 := Nat.le_trans hk175 Kq216.1
            have Z216 : n0 ≤ T216.heap.size := Nat.le_trans Z175 Kq216.1
            refine own_go (g' := (mkF m 149 #[.val (.int p0), .val (.int p1), .val (.int p2), .val (.int p3), .val (.int p4), .val (.ref b1), .val (.ref b9), .val (.ref b12), .val (.ref b16), .val (.ref b12), .val (.int (1 : Int32)), .val (.ref b9)] [])) (st216) ?_
            refine own_go (g' := (mkF m 151 #[.val (.int p0), .val (.int p1), .val (.int p2), .val (.int p3), .val (.int p4), .val (.ref b1), .val (.ref b9), .val (.ref b12), .val (.ref b16), .val (.ref b12), .val (.int (1 : Int32)), .val (.ref b9)] [(.ref b9)])) (fun _ kgo => XS.aload X216.here hx rfl (hb hby at_149) rfl rfl kgo) ?_
            refine own_go (g' := (mkF m 153 #[.val (.int p0), .val (.int p1), .val (.int p2), .val (.int p3), .val (.int p4), .val (.ref b1), .val (.ref b9), .val (.ref b12), .val (.ref b16), .val (.ref b9), .val (.int (1 : Int32)), .val (.ref b9)] [])) (fun _ kgo => XS.astore X216.here hx rfl (hb hby at_151) rfl rfl (l' := #[.val (.int p0), .val (.int p1), .val (.int p2), .val (.int p3), .val (.int p4), .val (.ref b1), .val (.ref b9), .val (.ref b12), .val (.ref b16), .val (.ref b9), .val (.int (1 : Int32)), .val (.ref b9)]) rfl kgo) ?_
            refine own_go (g' := (mkF m 154 #[.val (.int p0), .val (.int p1), .val (.int p2), .val (.int p3), .val (.int p4), .val (.ref b1), .val (.ref b9), .val (.ref b12), .val (.ref b16), .val (.ref b9), .val (.int (1 : Int32)), .val (.ref b9)] [(.int (1 : Int32))])) (fun _ kgo => XS.iconst X216.here hx rfl (hb hby at_153) kgo) ?_
            refine own_go (g' := (mkF m 156 #[.val (.int p0), .val (.int p1), .val (.int p2), .val (.int p3), .val (.int p4), .val (.ref b1), .val (.ref b9), .val (.ref b12), .val (.ref b16), .val (.ref b9), .val (.int (1 : Int32)), .val (.ref b9)] [])) (fun _ kgo => XS.istore X216.here hx rfl (hb hby at_154) rfl (l' := #[.val (.int p0), .val (.int p1), .val (.int p2), .val (.int p3), .val (.int p4), .val (.ref b1), .val (.ref b9), .val (.ref b12), .val (.ref b16), .val (.ref b9), .val (.int (1 : Int32)), .val (.ref b9)]) rfl kgo) ?_
            refine own_go (g' := (mkF m 158 #[.val (.int p0), .val (.int p1), .val (.int p2), .val (.int p3), .val (.int p4), .val (.ref b1), .val (.ref b9), .val (.ref b12), .val (.ref b16), .val (.ref b9), .val (.int (1 : Int32)), .val (.ref b9)] [(.ref b9)])) (fun _ kgo => XS.aload X216.here hx rfl (hb hby at_156) rfl rfl kgo) ?_
            obtain ⟨v220, T220, L220, hQ220, X220, st220⟩ := own_callV X216 hx hZ (y := (⟨"com/example/restlint/restlint/document/MappingNode", "applied", "()Lcom/example/restlint/restlint/document/Node;"⟩ : MethodName)) (z := (⟨"com/example/restlint/restlint/document/MappingNode", "applied", "()Lcom/example/restlint/restlint/document/Node;"⟩ : MethodName)) hown (hw _ (List.mem_of_getElem? (i := 84) rfl)) (hw _ (List.mem_of_getElem? (i := 85) rfl)) (notFace_of_selects (args := #[]) (mvT hZ (hw _ (List.mem_of_getElem? (i := 87) rfl)))) (hw _ (List.mem_of_getElem? (i := 87) rfl)) (hw _ (List.mem_of_getElem? (i := 86) rfl)) (hw _ (List.mem_of_getElem? (i := 35) rfl)) (hw _ (List.mem_of_getElem? (i := 88) rfl)) ⟨by decide, by decide⟩ (a := b9) (argsL := []) (app_rr l Z a0 hw b9 ap216 b9 T216.heap q216_1 q216_2) rfl q216_0 (g := (mkF m 158 #[.val (.int p0), .val (.int p1), .val (.int p2), .val (.int p3), .val (.int p4), .val (.ref b1), .val (.ref b9), .val (.ref b12), .val (.ref b16), .val (.ref b9), .val (.int (1 : Int32)), .val (.ref b9)] [(.ref b9)])) rfl (by rw [hml]; rfl) (rest := []) (lenOf pd0_3 rfl) rfl (hb hby at_158) (W := 0) (by show 2 * 0 + _ ≤ _; exact Nat.le_of_eq rfl) (by decide) (by decide) (by decide) (by decide)
            obtain ⟨rfl, e220, rfl⟩ := hQ220
            have N220 := Fr.app N216 (Fr.nil n0)
            refine own_go (g' := (mkF m 161 #[.val (.int p0), .val (.int p1), .val (.int p2), .val (.int p3), .val (.int p4), .val (.ref b1), .val (.ref b9), .val (.ref b12), .val (.ref b16), .val (.ref b9), .val (.int (1 : Int32)), .val (.ref b9)] [(.ref b9)])) (st220) ?_
            refine own_go (g' := (mkF m 163 #[.val (.int p0), .val (.int p1), .val (.int p2), .val (.int p3), .val (.int p4), .val (.ref b1), .val (.ref b9), .val (.ref b12), .val (.ref b16), .val (.ref b9), .val (.int (1 : Int32)), .val (.ref b9)] [(.ref b9), (.ref b9)])) (fun _ kgo => XS.aload X220.here hx rfl (hb hby at_161) rfl rfl kgo) ?_
            refine own_go (g' := (mkF m 166 #[.val (.int p0), .val (.int p1), .val (.int p2), .val (.int p3), .val (.int p4), .val (.ref b1), .val (.ref b9), .val (.ref b12), .val (.ref b16), .val (.ref b9), .val (.int (1 : Int32)), .val (.ref b9)] [])) (fun _ kgo => Jvm.RoadKit.acmp (g := (mkF m 163 #[.val (.int p0), .val (.int p1), .val (.int p2), .val (.int p3), .val (.int p4), .val (.ref b1), .val (.ref b9), .val (.ref b12), .val (.ref b16), .val (.ref b9), .val (.int (1 : Int32)), .val (.ref b9)] [(.ref b9), (.ref b9)])) X220 hx rfl rfl rfl (pc0 := 163) (pc' := 166) (same := true) rfl (hb hby at_163) rfl (decide_eq_true rfl) (by decide) (by decide) kgo) ?_
            refine own_go (g' := (mkF m 168 #[.val (.int p0), .val (.int p1), .val (.int p2), .val (.int p3), .val (.int p4), .val (.ref b1), .val (.ref b9), .val (.ref b12), .val (.ref b16), .val (.ref b9), .val (.int (1 : Int32)), .val (.ref b9)] [(.ref b9)])) (fun _ kgo => XS.aload X220.here hx rfl (hb hby at_166) rfl rfl kgo) ?_
            obtain ⟨v221, T221, L221, hQ221, X221, st221⟩ := own_callV X220 hx hZ (y := (⟨"com/example/restlint/restlint/document/MappingNode", "appliesReference", "()Z"⟩ : MethodName)) (z := (⟨"com/example/restlint/restlint/document/MappingNode", "appliesReference", "()Z"⟩ : MethodName)) hown (hw _ (List.mem_of_getElem? (i := 128) rfl)) (hw _ (List.mem_of_getElem? (i := 129) rfl)) (notFace_of_selects (args := #[]) (mvT hZ (hw _ (List.mem_of_getElem? (i := 131) rfl)))) (hw _ (List.mem_of_getElem? (i := 131) rfl)) (hw _ (List.mem_of_getElem? (i := 130) rfl)) (hw _ (List.mem_of_getElem? (i := 35) rfl)) (hw _ (List.mem_of_getElem? (i := 132) rfl)) ⟨by decide, by decide⟩ (a := b9) (argsL := []) (apl_r l Z a0 hw b9 ap216 T216.heap q216_1) e220 q216_0 (g := (mkF m 168 #[.val (.int p0), .val (.int p1), .val (.int p2), .val (.int p3), .val (.int p4), .val (.ref b1), .val (.ref b9), .val (.ref b12), .val (.ref b16), .val (.ref b9), .val (.int (1 : Int32)), .val (.ref b9)] [(.ref b9)])) rfl (by rw [hml]; rfl) (rest := []) (lenOf pd0_4 rfl) rfl (hb hby at_168) (W := 0) (by show 2 * 0 + _ ≤ _; exact Nat.le_of_eq rfl) (by decide) (by decide) (by decide) (by decide)
            obtain ⟨rfl, e221, rfl⟩ := hQ221
            have N221 := Fr.app N220 (Fr.nil n0)
            refine own_go (g' := (mkF m 171 #[.val (.int p0), .val (.int p1), .val (.int p2), .val (.int p3), .val (.int p4), .val (.ref b1), .val (.ref b9), .val (.ref b12), .val (.ref b16), .val (.ref b9), .val (.int (1 : Int32)), .val (.ref b9)] [(.int (1 : Int32))])) (st221) ?_
            refine own_go (g' := (mkF m 173 #[.val (.int p0), .val (.int p1), .val (.int p2), .val (.int p3), .val (.int p4), .val (.ref b1), .val (.ref b9), .val (.ref b12), .val (.ref b16), .val (.ref b9), .val (.int (1 : Int32)), .val (.ref b9)] [(.int (1 : Int32)), (.int (1 : Int32))])) (fun _ kgo => XS.iload X221.here hx rfl (hb hby at_171) rfl kgo) ?_
            refine own_go (g' := (mkF m 176 #[.val (.int p0), .val (.int p1), .val (.int p2), .val (.int p3), .val (.int p4), .val (.ref b1), .val (.ref b9), .val (.ref b12), .val (.ref b16), .val (.ref b9), .val (.int (1 : Int32)), .val (.ref b9)] [])) (fun _ kgo => XS.icmpNo X221.here hx rfl (hb hby at_173) rfl (teq (by decide)).2 kgo) ?_
            refine own_go (g' := (mkF m 178 #[.val (.int p0), .val (.int p1), .val (.int p2), .val (.int p3), .val (.int p4), .val (.ref b1), .val (.ref b9), .val (.ref b12), .val (.ref b16), .val (.ref b9), .val (.int (1 : Int32)), .val (.ref b9)] [(.ref b12)])) (fun _ kgo => XS.aload X221.here hx rfl (hb hby at_176) rfl rfl kgo) ?_
            have fx223 : Fld Z T216.heap b12 "com/example/restlint/restlint/document/MappingNode" "applied" "Lcom/example/restlint/restlint/document/MappingNode$Applied;" .null := (Fld.keep (Fld.keep (Fld.keep (Fld.ext E19 (Fld.ext E16 q14_1)) Kq21 (ninS ne_b12_b16 nin0)) Kq175 (ninS (Ne.symm ne_b9_b12) nin0)) Kq216 (ninS (Ne.symm ne_b9_b12) nin0))
            have fx224 : Exa Z T216.heap b12 "com/example/restlint/restlint/document/MappingNode" := (Exa.keep fx218 Kq216)
            obtain ⟨v222, T222, L222, hQ222, X222, st222⟩ := own_callV X221 hx hZ (y := (⟨"com/example/restlint/restlint/document/MappingNode", "applied", "()Lcom/example/restlint/restlint/document/Node;"⟩ : MethodName)) (z := (⟨"com/example/restlint/restlint/document/MappingNode", "applied", "()Lcom/example/restlint/restlint/document/Node;"⟩ : MethodName)) hown (hw _ (List.mem_of_getElem? (i := 84) rfl)) (hw _ (List.mem_of_getElem? (i := 85) rfl)) (notFace_of_selects (args := #[]) (mvT hZ (hw _ (List.mem_of_getElem? (i := 87) rfl)))) (hw _ (List.mem_of_getElem? (i := 87) rfl)) (hw _ (List.mem_of_getElem? (i := 86) rfl)) (hw _ (List.mem_of_getElem? (i := 35) rfl)) (hw _ (List.mem_of_getElem? (i := 88) rfl)) ⟨by decide, by decide⟩ (a := b12) (argsL := []) (app_n l Z a0 hw b12 T216.heap fx223) e221 fx224 (g := (mkF m 178 #[.val (.int p0), .val (.int p1), .val (.int p2), .val (.int p3), .val (.int p4), .val (.ref b1), .val (.ref b9), .val (.ref b12), .val (.ref b16), .val (.ref b9), .val (.int (1 : Int32)), .val (.ref b9)] [(.ref b12)])) rfl (by rw [hml]; rfl) (rest := []) (lenOf pd0_3 rfl) rfl (hb hby at_178) (W := 0) (by show 2 * 0 + _ ≤ _; exact Nat.le_of_eq rfl) (by decide) (by decide) (by decide) (by decide)
            obtain ⟨rfl, e222, rfl⟩ := hQ222
            have N222 := Fr.app N221 (Fr.nil n0)
            refine own_go (g' := (mkF m 181 #[.val (.int p0), .val (.int p1), .val (.int p2), .val (.int p3), .val (.int p4), .val (.ref b1), .val (.ref b9), .val (.ref b12), .val (.ref b16), .val (.ref b9), .val (.int (1 : Int32)), .val (.ref b9)] [.null])) (st222) ?_
            refine own_go (g' := (mkF m 184 #[.val (.int p0), .val (.int p1), .val (.int p2), .val (.int p3), .val (.int p4), .val (.ref b1), .val (.ref b9), .val (.ref b12), .val (.ref b16), .val (.ref b9), .val (.int (1 : Int32)), .val (.ref b9)] [])) (fun _ kgo => XS.ifnonnullNo X222.here hx rfl (hb hby at_181) rfl kgo) ?_
            refine own_go (g' := (mkF m 185 #[.val (.int p0), .val (.int p1), .val (.int p2), .val (.int p3), .val (.int p4), .val (.ref b1), .val (.ref b9), .val (.ref b12), .val (.ref b16), .val (.ref b9), .val (.int (1 : Int32)), .val (.ref b9)] [(.int (1 : Int32))])) (fun _ kgo => XS.iconst X222.here hx rfl (hb hby at_184) kgo) ?_
            refine own_go (g' := (mkF m 189 #[.val (.int p0), .val (.int p1), .val (.int p2), .val (.int p3), .val (.int p4), .val (.ref b1), .val (.ref b9), .val (.ref b12), .val (.ref b16), .val (.ref b9), .val (.int (1 : Int32)), .val (.ref b9)] [(.int (1 : Int32))])) (fun _ kgo => XS.goto X222.here hx rfl (pc0 := 185) (pc' := 189) rfl (hb hby at_185) (by decide) (by decide) kgo) ?_
            refine own_retNW X222 hx hS19 e222 hk216 .boolean Bd.returns Bd.notSynchronized (by simp) (hb hby at_189) (by decide) (by decide) ?_
            show QQ _ T222.heap _
            rw [e222]
            rw [← hQQ]
            exact ⟨rfl, N222⟩
      ·
        obtain ⟨v225, T225, L225, hQ225, X225, st225⟩ := own_callS X26 hx hZ (y := (⟨"com/example/restlint/restlint/document/MappingNodeAppliedPinLaw", "pick", "(ILcom/example/restlint/restlint/document/Node;Lcom/example/restlint/restlint/document/Node;Lcom/example/restlint/restlint/document/Node;)Lcom/example/restlint/restlint/document/Node;"⟩ : MethodName)) hown (hw _ (List.mem_of_getElem? (i := 91) rfl)) (hw _ (List.mem_of_getElem? (i := 92) rfl)) (hw _ (List.mem_of_getElem? (i := 93) rfl)) (hw _ (List.mem_of_getElem? (i := 94) rfl)) ⟨by decide, by decide⟩ (argsL := [(.int p0), (.ref b16), (.ref b12), (.ref b9)]) (pick3 l Z a0 hw p0 b16 b12 b9 T21.heap hk_p0) e26 (g := (mkF m 93 #[.val (.int p0), .val (.int p1), .val (.int p2), .val (.int p3), .val (.int p4), .val (.ref b1), .val (.ref b9), .val (.ref b12), .val (.ref b16), .val .null, .val (.int (0 : Int32)), .unset] [(.ref b9), (.ref b12), (.ref b16), (.int p0)])) rfl (by rw [hml]; rfl) (rest := []) (lenOf pd0_5 rfl) rfl (hb hby at_93) (W := 0) (by show 2 * 0 + _ ≤ _; exact Nat.le_of_eq rfl) (by decide) (by decide) (by decide) (by decide)
        obtain ⟨rfl, e225, rfl⟩ := hQ225
        have N225 := Fr.app N26 (Fr.nil n0)
        refine own_go (g' := (mkF m 96 #[.val (.int p0), .val (.int p1), .val (.int p2), .val (.int p3), .val (.int p4), .val (.ref b1), .val (.ref b9), .val (.ref b12), .val (.ref b16), .val .null, .val (.int (0 : Int32)), .unset] [(.ref b9)])) (st225) ?_
        refine own_go (g' := (mkF m 98 #[.val (.int p0), .val (.int p1), .val (.int p2), .val (.int p3), .val (.int p4), .val (.ref b1), .val (.ref b9), .val (.ref b12), .val (.ref b16), .val .null, .val (.int (0 : Int32)), .val (.ref b9)] [])) (fun _ kgo => XS.astore X225.here hx rfl (hb hby at_96) rfl rfl (l' := #[.val (.int p0), .val (.int p1), .val (.int p2), .val (.int p3), .val (.int p4), .val (.ref b1), .val (.ref b9), .val (.ref b12), .val (.ref b16), .val .null, .val (.int (0 : Int32)), .val (.ref b9)]) rfl kgo) ?_
        refine own_go (g' := (mkF m 100 #[.val (.int p0), .val (.int p1), .val (.int p2), .val (.int p3), .val (.int p4), .val (.ref b1), .val (.ref b9), .val (.ref b12), .val (.ref b16), .val .null, .val (.int (0 : Int32)), .val (.ref b9)] [(.ref b9)])) (fun _ kgo => XS.aload X225.here hx rfl (hb hby at_98) rfl rfl kgo) ?_
        refine own_go (g' := (mkF m 102 #[.val (.int p0), .val (.int p1), .val (.int p2), .val (.int p3), .val (.int p4), .val (.ref b1), .val (.ref b9), .val (.ref b12), .val (.ref b16), .val .null, .val (.int (0 : Int32)), .val (.ref b9)] [(.ref b9), (.ref b9)])) (fun _ kgo => XS.aload X225.here hx rfl (hb hby at_100) rfl rfl kgo) ?_
        obtain ⟨v226, T226, L226, hQ226, X226, st226⟩ := own_callV X225 hx hZ (y := (⟨"com/example/restlint/restlint/document/MappingNode", "applyReference", "(Lcom/example/restlint/restlint/document/Node;)V"⟩ : MethodName)) (z := (⟨"com/example/restlint/restlint/document/MappingNode", "applyReference", "(Lcom/example/restlint/restlint/document/Node;)V"⟩ : MethodName)) hown (hw _ (List.mem_of_getElem? (i := 95) rfl)) (hw _ (List.mem_of_getElem? (i := 96) rfl)) (notFace_of_selects (args := #[]) (mvT hZ (hw _ (List.mem_of_getElem? (i := 98) rfl)))) (hw _ (List.mem_of_getElem? (i := 98) rfl)) (hw _ (List.mem_of_getElem? (i := 97) rfl)) (hw _ (List.mem_of_getElem? (i := 35) rfl)) (hw _ (List.mem_of_getElem? (i := 99) rfl)) ⟨by decide, by decide⟩ (a := b9) (argsL := [(.ref b9)]) (apr_rn l Z a0 hw b9 b9 T21.heap n0 Z21 ge_b9 fx28 fx27) e225 fx28 (g := (mkF m 102 #[.val (.int p0), .val (.int p1), .val (.int p2), .val (.int p3), .val (.int p4), .val (.ref b1), .val (.ref b9), .val (.ref b12), .val (.ref b16), .val .null, .val (.int (0 : Int32)), .val (.ref b9)] [(.ref b9), (.ref b9)])) rfl (by rw [hml]; rfl) (rest := []) (lenOf pd0_6 rfl) rfl (hb hby at_102) (W := 0) (by show 2 * 0 + _ ≤ _; exact Nat.le_of_eq rfl) (by decide) (by decide) (by decide) (by decide)
        obtain ⟨ap226, rfl, Nq226, Kq226, pr226_0, q226_0, q226_1, q226_2⟩ := hQ226
        have fx227 : Exa Z T21.heap b1 "com/example/restlint/restlint/document/Location" := (Exa.keep (Exa.ext E19 (Exa.ext E16 fx17)) Kq21)
        have ne_b1_ap226 : b1 ≠ ap226 := Nat.ne_of_lt (Nat.lt_of_lt_of_le fx227.lt pr226_0)
        have ne_b9_ap226 : b9 ≠ ap226 := Nat.ne_of_lt (Nat.lt_of_lt_of_le fx28.lt pr226_0)
        have fx228 : Exa Z T21.heap b12 "com/example/restlint/restlint/document/MappingNode" := (Exa.keep (Exa.ext E19 (Exa.ext E16 q14_0)) Kq21)
        have ne_b12_ap226 : b12 ≠ ap226 := Nat.ne_of_lt (Nat.lt_of_lt_of_le fx228.lt pr226_0)
        have ne_b16_ap226 : b16 ≠ ap226 := Nat.ne_of_lt (Nat.lt_of_lt_of_le q21_0.lt pr226_0)
        have ge_ap226 : n0 ≤ ap226 := Nat.le_trans Z21 pr226_0
        have N226 := Fr.app N225 Nq226
        have hk226 := Nat.le_trans hk21 Kq226.1
        have Z226 : n0 ≤ T226.heap.size := Nat.le_trans Z21 Kq226.1
        refine own_go (g' := (mkF m 105 #[.val (.int p0), .val (.int p1), .val (.int p2), .val (.int p3), .val (.int p4), .val (.ref b1), .val (.ref b9), .val (.ref b12), .val (.ref b16), .val .null, .val (.int (0 : Int32)), .val (.ref b9)] [])) (st226) ?_
        refine own_go (g' := (mkF m 107 #[.val (.int p0), .val (.int p1), .val (.int p2), .val (.int p3), .val (.int p4), .val (.ref b1), .val (.ref b9), .val (.ref b12), .val (.ref b16), .val .null, .val (.int (0 : Int32)), .val (.ref b9)] [(.ref b9)])) (fun _ kgo => XS.aload X226.here hx rfl (hb hby at_105) rfl rfl kgo) ?_
        refine own_go (g' := (mkF m 109 #[.val (.int p0), .val (.int p1), .val (.int p2), .val (.int p3), .val (.int p4), .val (.ref b1), .val (.ref b9), .val (.ref b12), .val (.ref b16), .val (.ref b9), .val (.int (0 : Int32)), .val (.ref b9)] [])) (fun _ kgo => XS.astore X226.here hx rfl (hb hby at_107) rfl rfl (l' := #[.val (.int p0), .val (.int p1), .val (.int p2), .val (.int p3), .val (.int p4), .val (.ref b1), .val (.ref b9), .val (.ref b12), .val (.ref b16), .val (.ref b9), .val (.int (0 : Int32)), .val (.ref b9)]) rfl kgo) ?_
        refine own_go (g' := (mkF m 110 #[.val (.int p0), .val (.int p1), .val (.int p2), .val (.int p3), .val (.int p4), .val (.ref b1), .val (.ref b9), .val (.ref b12), .val (.ref b16), .val (.ref b9), .val (.int (0 : Int32)), .val (.ref b9)] [(.int (1 : Int32))])) (fun _ kgo => XS.iconst X226.here hx rfl (hb hby at_109) kgo) ?_
        refine own_go (g' := (mkF m 112 #[.val (.int p0), .val (.int p1), .val (.int p2), .val (.int p3), .val (.int p4), .val (.ref b1), .val (.ref b9), .val (.ref b12), .val (.ref b16), .val (.ref b9), .val (.int (1 : Int32)), .val (.ref b9)] [])) (fun _ kgo => XS.istore X226.here hx rfl (hb hby at_110) rfl (l' := #[.val (.int p0), .val (.int p1), .val (.int p2), .val (.int p3), .val (.int p4), .val (.ref b1), .val (.ref b9), .val (.ref b12), .val (.ref b16), .val (.ref b9), .val (.int (1 : Int32)), .val (.ref b9)]) rfl kgo) ?_
        refine own_go (g' := (mkF m 114 #[.val (.int p0), .val (.int p1), .val (.int p2), .val (.int p3), .val (.int p4), .val (.ref b1), .val (.ref b9), .val (.ref b12), .val (.ref b16), .val (.ref b9), .val (.int (1 : Int32)), .val (.ref b9)] [(.ref b9)])) (fun _ kgo => XS.aload X226.here hx rfl (hb hby at_112) rfl rfl kgo) ?_
        obtain ⟨v229, T229, L229, hQ229, X229, st229⟩ := own_callV X226 hx hZ (y := (⟨"com/example/restlint/restlint/document/MappingNode", "applied", "()Lcom/example/restlint/restlint/document/Node;"⟩ : MethodName)) (z := (⟨"com/example/restlint/restlint/document/MappingNode", "applied", "()Lcom/example/restlint/restlint/document/Node;"⟩ : MethodName)) hown (hw _ (List.mem_of_getElem? (i := 84) rfl)) (hw _ (List.mem_of_getElem? (i := 85) rfl)) (notFace_of_selects (args := #[]) (mvT hZ (hw _ (List.mem_of_getElem? (i := 87) rfl)))) (hw _ (List.mem_of_getElem? (i := 87) rfl)) (hw _ (List.mem_of_getElem? (i := 86) rfl)) (hw _ (List.mem_of_getElem? (i := 35) rfl)) (hw _ (List.mem_of_getElem? (i := 88) rfl)) ⟨by decide, by decide⟩ (a := b9) (argsL := []) (app_rr l Z a0 hw b9 ap226 b9 T226.heap q226_1 q226_2) rfl q226_0 (g := (mkF m 114 #[.val (.int p0), .val (.int p1), .val (.int p2), .val (.int p3), .val (.int p4), .val (.ref b1), .val (.ref b9), .val (.ref b12), .val (.ref b16), .val (.ref b9), .val (.int (1 : Int32)), .val (.ref b9)] [(.ref b9)])) rfl (by rw [hml]; rfl) (rest := []) (lenOf pd0_3 rfl) rfl (hb hby at_114) (W := 0) (by show 2 * 0 + _ ≤ _; exact Nat.le_of_eq rfl) (by decide) (by decide) (by decide) (by decide)
        obtain ⟨rfl, e229, rfl⟩ := hQ229
        have N229 := Fr.app N226 (Fr.nil n0)
        refine own_go (g' := (mkF m 117 #[.val (.int p0), .val (.int p1), .val (.int p2), .val (.int p3), .val (.int p4), .val (.ref b1), .val (.ref b9), .val (.ref b12), .val (.ref b16), .val (.ref b9), .val (.int (1 : Int32)), .val (.ref b9)] [(.ref b9)])) (st229) ?_
        refine own_go (g' := (mkF m 119 #[.val (.int p0), .val (.int p1), .val (.int p2), .val (.int p3), .val (.int p4), .val (.ref b1), .val (.ref b9), .val (.ref b12), .val (.ref b16), .val (.ref b9), .val (.int (1 : Int32)), .val (.ref b9)] [(.ref b9), (.ref b9)])) (fun _ kgo => XS.aload X229.here hx rfl (hb hby at_117) rfl rfl kgo) ?_
        refine own_go (g' := (mkF m 124 #[.val (.int p0), .val (.int p1), .val (.int p2), .val (.int p3), .val (.int p4), .val (.ref b1), .val (.ref b9), .val (.ref b12), .val (.ref b16), .val (.ref b9), .val (.int (1 : Int32)), .val (.ref b9)] [])) (fun _ kgo => Jvm.RoadKit.acmp (g := (mkF m 119 #[.val (.int p0), .val (.int p1), .val (.int p2), .val (.int p3), .val (.int p4), .val (.ref b1), .val (.ref b9), .val (.ref b12), .val (.ref b16), .val (.ref b9), .val (.int (1 : Int32)), .val (.ref b9)] [(.ref b9), (.ref b9)])) X229 hx rfl rfl rfl (pc0 := 119) (pc' := 124) (same := true) rfl (hb hby at_119) rfl (decide_eq_true rfl) (by decide) (by decide) kgo) ?_
        refine own_go (g' := (mkF m 125 #[.val (.int p0), .val (.int p1), .val (.int p2), .val (.int p3), .val (.int p4), .val (.ref b1), .val (.ref b9), .val (.ref b12), .val (.ref b16), .val (.ref b9), .val (.int (1 : Int32)), .val (.ref b9)] [(.int p2)])) (fun _ kgo => XS.iloadN X229.here hx rfl (hb hby at_124) rfl kgo) ?_
        refine own_go (g' := (mkF m 126 #[.val (.int p0), .val (.int p1), .val (.int p2), .val (.int p3), .val (.int p4), .val (.ref b1), .val (.ref b9), .val (.ref b12), .val (.ref b16), .val (.ref b9), .val (.int (1 : Int32)), .val (.ref b9)] [(.int (2 : Int32)), (.int p2)])) (fun _ kgo => XS.iconst X229.here hx rfl (hb hby at_125) kgo) ?_
        refine own_go (g' := (mkF m 127 #[.val (.int p0), .val (.int p1), .val (.int p2), .val (.int p3), .val (.int p4), .val (.ref b1), .val (.ref b9), .val (.ref b12), .val (.ref b16), .val (.ref b9), .val (.int (1 : Int32)), .val (.ref b9)] [(.int (p2 &&& (2 : Int32)))])) (fun _ kgo => XS.iand X229.here hx rfl (hb hby at_126) rfl kgo) ?_
        by_cases hc230 : (p2 &&& (2 : Int32)) = (0 : Int32)
        ·
          refine own_go (g' := (mkF m 156 #[.val (.int p0), .val (.int p1), .val (.int p2), .val (.int p3), .val (.int p4), .val (.ref b1), .val (.ref b9), .val (.ref b12), .val (.ref b16), .val (.ref b9), .val (.int (1 : Int32)), .val (.ref b9)] [])) (fun _ kgo => XS.ifYes X229.here hx rfl (pc0 := 127) (pc' := 156) rfl (hb hby at_127) rfl ((if0 _ _).trans (teq hc230).1) (by decide) (by decide) kgo) ?_
          refine own_go (g' := (mkF m 158 #[.val (.int p0), .val (.int p1), .val (.int p2), .val (.int p3), .val (.int p4), .val (.ref b1), .val (.ref b9), .val (.ref b12), .val (.ref b16), .val (.ref b9), .val (.int (1 : Int32)), .val (.ref b9)] [(.ref b9)])) (fun _ kgo => XS.aload X229.here hx rfl (hb hby at_156) rfl rfl kgo) ?_
          obtain ⟨v231, T231, L231, hQ231, X231, st231⟩ := own_callV X229 hx hZ (y := (⟨"com/example/restlint/restlint/document/MappingNode", "applied", "()Lcom/example/restlint/restlint/document/Node;"⟩ : MethodName)) (z := (⟨"com/example/restlint/restlint/document/MappingNode", "applied", "()Lcom/example/restlint/restlint/document/Node;"⟩ : MethodName)) hown (hw _ (List.mem_of_getElem? (i := 84) rfl)) (hw _ (List.mem_of_getElem? (i := 85) rfl)) (notFace_of_selects (args := #[]) (mvT hZ (hw _ (List.mem_of_getElem? (i := 87) rfl)))) (hw _ (List.mem_of_getElem? (i := 87) rfl)) (hw _ (List.mem_of_getElem? (i := 86) rfl)) (hw _ (List.mem_of_getElem? (i := 35) rfl)) (hw _ (List.mem_of_getElem? (i := 88) rfl)) ⟨by decide, by decide⟩ (a := b9) (argsL := []) (app_rr l Z a0 hw b9 ap226 b9 T226.heap q226_1 q226_2) e229 q226_0 (g := (mkF m 158 #[.val (.int p0), .val (.int p1), .val (.int p2), .val (.int p3), .val (.int p4), .val (.ref b1), .val (.ref b9), .val (.ref b12), .val (.ref b16), .val (.ref b9), .val (.int (1 : Int32)), .val (.ref b9)] [(.ref b9)])) rfl (by rw [hml]; rfl) (rest := []) (lenOf pd0_3 rfl) rfl (hb hby at_158) (W := 0) (by show 2 * 0 + _ ≤ _; exact Nat.le_of_eq rfl) (by decide) (by decide) (by decide) (by decide)
          obtain ⟨rfl, e231, rfl⟩ := hQ231
          have N231 := Fr.app N229 (Fr.nil n0)
          refine own_go (g' := (mkF m 161 #[.val (.int p0), .val (.int p1), .val (.int p2), .val (.int p3), .val (.int p4), .val (.ref b1), .val (.ref b9), .val (.ref b12), .val (.ref b16), .val (.ref b9), .val (.int (1 : Int32)), .val (.ref b9)] [(.ref b9)])) (st231) ?_
          refine own_go (g' := (mkF m 163 #[.val (.int p0), .val (.int p1), .val (.int p2), .val (.int p3), .val (.int p4), .val (.ref b1), .val (.ref b9), .val (.ref b12), .val (.ref b16), .val (.ref b9), .val (.int (1 : Int32)), .val (.ref b9)] [(.ref b9), (.ref b9)])) (fun _ kgo => XS.aload X231.here hx rfl (hb hby at_161) rfl rfl kgo) ?_
          refine own_go (g' := (mkF m 166 #[.val (.int p0), .val (.int p1), .val (.int p2), .val (.int p3), .val (.int p4), .val (.ref b1), .val (.ref b9), .val (.ref b12), .val (.ref b16), .val (.ref b9), .val (.int (1 : Int32)), .val (.ref b9)] [])) (fun _ kgo => Jvm.RoadKit.acmp (g := (mkF m 163 #[.val (.int p0), .val (.int p1), .val (.int p2), .val (.int p3), .val (.int p4), .val (.ref b1), .val (.ref b9), .val (.ref b12), .val (.ref b16), .val (.ref b9), .val (.int (1 : Int32)), .val (.ref b9)] [(.ref b9), (.ref b9)])) X231 hx rfl rfl rfl (pc0 := 163) (pc' := 166) (same := true) rfl (hb hby at_163) rfl (decide_eq_true rfl) (by decide) (by decide) kgo) ?_
          refine own_go (g' := (mkF m 168 #[.val (.int p0), .val (.int p1), .val (.int p2), .val (.int p3), .val (.int p4), .val (.ref b1), .val (.ref b9), .val (.ref b12), .val (.ref b16), .val (.ref b9), .val (.int (1 : Int32)), .val (.ref b9)] [(.ref b9)])) (fun _ kgo => XS.aload X231.here hx rfl (hb hby at_166) rfl rfl kgo) ?_
          obtain ⟨v232, T232, L232, hQ232, X232, st232⟩ := own_callV X231 hx hZ (y := (⟨"com/example/restlint/restlint/document/MappingNode", "appliesReference", "()Z"⟩ : MethodName)) (z := (⟨"com/example/restlint/restlint/document/MappingNode", "appliesReference", "()Z"⟩ : MethodName)) hown (hw _ (List.mem_of_getElem? (i := 128) rfl)) (hw _ (List.mem_of_getElem? (i := 129) rfl)) (notFace_of_selects (args := #[]) (mvT hZ (hw _ (List.mem_of_getElem? (i := 131) rfl)))) (hw _ (List.mem_of_getElem? (i := 131) rfl)) (hw _ (List.mem_of_getElem? (i := 130) rfl)) (hw _ (List.mem_of_getElem? (i := 35) rfl)) (hw _ (List.mem_of_getElem? (i := 132) rfl)) ⟨by decide, by decide⟩ (a := b9) (argsL := []) (apl_r l Z a0 hw b9 ap226 T226.heap q226_1) e231 q226_0 (g := (mkF m 168 #[.val (.int p0), .val (.int p1), .val (.int p2), .val (.int p3), .val (.int p4), .val (.ref b1), .val (.ref b9), .val (.ref b12), .val (.ref b16), .val (.ref b9), .val (.int (1 : Int32)), .val (.ref b9)] [(.ref b9)])) rfl (by rw [hml]; rfl) (rest := []) (lenOf pd0_4 rfl) rfl (hb hby at_168) (W := 0) (by show 2 * 0 + _ ≤ _; exact Nat.le_of_eq rfl) (by decide) (by decide) (by decide) (by decide)
          obtain ⟨rfl, e232, rfl⟩ := hQ232
          have N232 := Fr.app N231 (Fr.nil n0)
          refine own_go (g' := (mkF m 171 #[.val (.int p0), .val (.int p1), .val (.int p2), .val (.int p3), .val (.int p4), .val (.ref b1), .val (.ref b9), .val (.ref b12), .val (.ref b16), .val (.ref b9), .val (.int (1 : Int32)), .val (.ref b9)] [(.int (1 : Int32))])) (st232) ?_
          refine own_go (g' := (mkF m 173 #[.val (.int p0), .val (.int p1), .val (.int p2), .val (.int p3), .val (.int p4), .val (.ref b1), .val (.ref b9), .val (.ref b12), .val (.ref b16), .val (.ref b9), .val (.int (1 : Int32)), .val (.ref b9)] [(.int (1 : Int32)), (.int (1 : Int32))])) (fun _ kgo => XS.iload X232.here hx rfl (hb hby at_171) rfl kgo) ?_
          refine own_go (g' := (mkF m 176 #[.val (.int p0), .val (.int p1), .val (.int p2), .val (.int p3), .val (.int p4), .val (.ref b1), .val (.ref b9), .val (.ref b12), .val (.ref b16), .val (.ref b9), .val (.int (1 : Int32)), .val (.ref b9)] [])) (fun _ kgo => XS.icmpNo X232.here hx rfl (hb hby at_173) rfl (teq (by decide)).2 kgo) ?_
          refine own_go (g' := (mkF m 178 #[.val (.int p0), .val (.int p1), .val (.int p2), .val (.int p3), .val (.int p4), .val (.ref b1), .val (.ref b9), .val (.ref b12), .val (.ref b16), .val (.ref b9), .val (.int (1 : Int32)), .val (.ref b9)] [(.ref b12)])) (fun _ kgo => XS.aload X232.here hx rfl (hb hby at_176) rfl rfl kgo) ?_
          have fx234 : Fld Z T226.heap b12 "com/example/restlint/restlint/document/MappingNode" "applied" "Lcom/example/restlint/restlint/document/MappingNode$Applied;" .null := (Fld.keep (Fld.keep (Fld.ext E19 (Fld.ext E16 q14_1)) Kq21 (ninS ne_b12_b16 nin0)) Kq226 (ninS (Ne.symm ne_b9_b12) nin0))
          have fx235 : Exa Z T226.heap b12 "com/example/restlint/restlint/document/MappingNode" := (Exa.keep fx228 Kq226)
          obtain ⟨v233, T233, L233, hQ233, X233, st233⟩ := own_callV X232 hx hZ (y := (⟨"com/example/restlint/restlint/document/MappingNode", "applied", "()Lcom/example/restlint/restlint/document/Node;"⟩ : MethodName)) (z := (⟨"com/example/restlint/restlint/document/MappingNode", "applied", "()Lcom/example/restlint/restlint/document/Node;"⟩ : MethodName)) hown (hw _ (List.mem_of_getElem? (i := 84) rfl)) (hw _ (List.mem_of_getElem? (i := 85) rfl)) (notFace_of_selects (args := #[]) (mvT hZ (hw _ (List.mem_of_getElem? (i := 87) rfl)))) (hw _ (List.mem_of_getElem? (i := 87) rfl)) (hw _ (List.mem_of_getElem? (i := 86) rfl)) (hw _ (List.mem_of_getElem? (i := 35) rfl)) (hw _ (List.mem_of_getElem? (i := 88) rfl)) ⟨by decide, by decide⟩ (a := b12) (argsL := []) (app_n l Z a0 hw b12 T226.heap fx234) e232 fx235 (g := (mkF m 178 #[.val (.int p0), .val (.int p1), .val (.int p2), .val (.int p3), .val (.int p4), .val (.ref b1), .val (.ref b9), .val (.ref b12), .val (.ref b16), .val (.ref b9), .val (.int (1 : Int32)), .val (.ref b9)] [(.ref b12)])) rfl (by rw [hml]; rfl) (rest := []) (lenOf pd0_3 rfl) rfl (hb hby at_178) (W := 0) (by show 2 * 0 + _ ≤ _; exact Nat.le_of_eq rfl) (by decide) (by decide) (by decide) (by decide)
          obtain ⟨rfl, e233, rfl⟩ := hQ233
          have N233 := Fr.app N232 (Fr.nil n0)
          refine own_go (g' := (mkF m 181 #[.val (.int p0), .val (.int p1), .val (.int p2), .val (.int p3), .val (.int p4), .val (.ref b1), .val (.ref b9), .val (.ref b12), .val (.ref b16), .val (.ref b9), .val (.int (1 : Int32)), .val (.ref b9)] [.null])) (st233) ?_
          refine own_go (g' := (mkF m 184 #[.val (.int p0), .val (.int p1), .val (.int p2), .val (.int p3), .val (.int p4), .val (.ref b1), .val (.ref b9), .val (.ref b12), .val (.ref b16), .val (.ref b9), .val (.int (1 : Int32)), .val (.ref b9)] [])) (fun _ kgo => XS.ifnonnullNo X233.here hx rfl (hb hby at_181) rfl kgo) ?_
          refine own_go (g' := (mkF m 185 #[.val (.int p0), .val (.int p1), .val (.int p2), .val (.int p3), .val (.int p4), .val (.ref b1), .val (.ref b9), .val (.ref b12), .val (.ref b16), .val (.ref b9), .val (.int (1 : Int32)), .val (.ref b9)] [(.int (1 : Int32))])) (fun _ kgo => XS.iconst X233.here hx rfl (hb hby at_184) kgo) ?_
          refine own_go (g' := (mkF m 189 #[.val (.int p0), .val (.int p1), .val (.int p2), .val (.int p3), .val (.int p4), .val (.ref b1), .val (.ref b9), .val (.ref b12), .val (.ref b16), .val (.ref b9), .val (.int (1 : Int32)), .val (.ref b9)] [(.int (1 : Int32))])) (fun _ kgo => XS.goto X233.here hx rfl (pc0 := 185) (pc' := 189) rfl (hb hby at_185) (by decide) (by decide) kgo) ?_
          refine own_retNW X233 hx hS19 e233 hk226 .boolean Bd.returns Bd.notSynchronized (by simp) (hb hby at_189) (by decide) (by decide) ?_
          show QQ _ T233.heap _
          rw [e233]
          rw [← hQQ]
          exact ⟨rfl, N233⟩
        ·
          refine own_go (g' := (mkF m 130 #[.val (.int p0), .val (.int p1), .val (.int p2), .val (.int p3), .val (.int p4), .val (.ref b1), .val (.ref b9), .val (.ref b12), .val (.ref b16), .val (.ref b9), .val (.int (1 : Int32)), .val (.ref b9)] [])) (fun _ kgo => XS.ifNo X229.here hx rfl (hb hby at_127) rfl ((if0 _ _).trans (feq hc230).1) kgo) ?_
          refine own_go (g' := (mkF m 131 #[.val (.int p0), .val (.int p1), .val (.int p2), .val (.int p3), .val (.int p4), .val (.ref b1), .val (.ref b9), .val (.ref b12), .val (.ref b16), .val (.ref b9), .val (.int (1 : Int32)), .val (.ref b9)] [(.int p1)])) (fun _ kgo => XS.iloadN X229.here hx rfl (hb hby at_130) rfl kgo) ?_
          refine own_go (g' := (mkF m 133 #[.val (.int p0), .val (.int p1), .val (.int p2), .val (.int p3), .val (.int p4), .val (.ref b1), .val (.ref b9), .val (.ref b12), .val (.ref b16), .val (.ref b9), .val (.int (1 : Int32)), .val (.ref b9)] [(.ref b16), (.int p1)])) (fun _ kgo => XS.aload X229.here hx rfl (hb hby at_131) rfl rfl kgo) ?_
          refine own_go (g' := (mkF m 135 #[.val (.int p0), .val (.int p1), .val (.int p2), .val (.int p3), .val (.int p4), .val (.ref b1), .val (.ref b9), .val (.ref b12), .val (.ref b16), .val (.ref b9), .val (.int (1 : Int32)), .val (.ref b9)] [(.ref b12), (.ref b16), (.int p1)])) (fun _ kgo => XS.aload X229.here hx rfl (hb hby at_133) rfl rfl kgo) ?_
          refine own_go (g' := (mkF m 137 #[.val (.int p0), .val (.int p1), .val (.int p2), .val (.int p3), .val (.int p4), .val (.ref b1), .val (.ref b9), .val (.ref b12), .val (.ref b16), .val (.ref b9), .val (.int (1 : Int32)), .val (.ref b9)] [(.ref b9), (.ref b12), (.ref b16), (.int p1)])) (fun _ kgo => XS.aload X229.here hx rfl (hb hby at_135) rfl rfl kgo) ?_
          rcases own_k4 p1 with hk_p1 | hk_p1 | hk_p1 | hk_p1
          ·
            obtain ⟨v236, T236, L236, hQ236, X236, st236⟩ := own_callS X229 hx hZ (y := (⟨"com/example/restlint/restlint/document/MappingNodeAppliedPinLaw", "pick", "(ILcom/example/restlint/restlint/document/Node;Lcom/example/restlint/restlint/document/Node;Lcom/example/restlint/restlint/document/Node;)Lcom/example/restlint/restlint/document/Node;"⟩ : MethodName)) hown (hw _ (List.mem_of_getElem? (i := 91) rfl)) (hw _ (List.mem_of_getElem? (i := 92) rfl)) (hw _ (List.mem_of_getElem? (i := 93) rfl)) (hw _ (List.mem_of_getElem? (i := 94) rfl)) ⟨by decide, by decide⟩ (argsL := [(.int p1), (.ref b16), (.ref b12), (.ref b9)]) (pick0 l Z a0 hw p1 b16 b12 b9 T226.heap hk_p1) e229 (g := (mkF m 137 #[.val (.int p0), .val (.int p1), .val (.int p2), .val (.int p3), .val (.int p4), .val (.ref b1), .val (.ref b9), .val (.ref b12), .val (.ref b16), .val (.ref b9), .val (.int (1 : Int32)), .val (.ref b9)] [(.ref b9), (.ref b12), (.ref b16), (.int p1)])) rfl (by rw [hml]; rfl) (rest := []) (lenOf pd0_5 rfl) rfl (hb hby at_137) (W := 0) (by show 2 * 0 + _ ≤ _; exact Nat.le_of_eq rfl) (by decide) (by decide) (by decide) (by decide)
            obtain ⟨rfl, e236, rfl⟩ := hQ236
            have N236 := Fr.app N229 (Fr.nil n0)
            refine own_go (g' := (mkF m 140 #[.val (.int p0), .val (.int p1), .val (.int p2), .val (.int p3), .val (.int p4), .val (.ref b1), .val (.ref b9), .val (.ref b12), .val (.ref b16), .val (.ref b9), .val (.int (1 : Int32)), .val (.ref b9)] [.null])) (st236) ?_
            refine own_go (g' := (mkF m 142 #[.val (.int p0), .val (.int p1), .val (.int p2), .val (.int p3), .val (.int p4), .val (.ref b1), .val (.ref b9), .val (.ref b12), .val (.ref b16), .val (.ref b9), .val (.int (1 : Int32)), .val .null] [])) (fun _ kgo => XS.astore X236.here hx rfl (hb hby at_140) rfl rfl (l' := #[.val (.int p0), .val (.int p1), .val (.int p2), .val (.int p3), .val (.int p4), .val (.ref b1), .val (.ref b9), .val (.ref b12), .val (.ref b16), .val (.ref b9), .val (.int (1 : Int32)), .val .null]) rfl kgo) ?_
            refine own_go (g' := (mkF m 144 #[.val (.int p0), .val (.int p1), .val (.int p2), .val (.int p3), .val (.int p4), .val (.ref b1), .val (.ref b9), .val (.ref b12), .val (.ref b16), .val (.ref b9), .val (.int (1 : Int32)), .val .null] [(.ref b9)])) (fun _ kgo => XS.aload X236.here hx rfl (hb hby at_142) rfl rfl kgo) ?_
            refine own_go (g' := (mkF m 146 #[.val (.int p0), .val (.int p1), .val (.int p2), .val (.int p3), .val (.int p4), .val (.ref b1), .val (.ref b9), .val (.ref b12), .val (.ref b16), .val (.ref b9), .val (.int (1 : Int32)), .val .null] [.null, (.ref b9)])) (fun _ kgo => XS.aload X236.here hx rfl (hb hby at_144) rfl rfl kgo) ?_
            obtain ⟨v237, T237, L237, hQ237, X237, st237⟩ := own_callV X236 hx hZ (y := (⟨"com/example/restlint/restlint/document/MappingNode", "applyReference", "(Lcom/example/restlint/restlint/document/Node;)V"⟩ : MethodName)) (z := (⟨"com/example/restlint/restlint/document/MappingNode", "applyReference", "(Lcom/example/restlint/restlint/document/Node;)V"⟩ : MethodName)) hown (hw _ (List.mem_of_getElem? (i := 95) rfl)) (hw _ (List.mem_of_getElem? (i := 96) rfl)) (notFace_of_selects (args := #[]) (mvT hZ (hw _ (List.mem_of_getElem? (i := 98) rfl)))) (hw _ (List.mem_of_getElem? (i := 98) rfl)) (hw _ (List.mem_of_getElem? (i := 97) rfl)) (hw _ (List.mem_of_getElem? (i := 35) rfl)) (hw _ (List.mem_of_getElem? (i := 99) rfl)) ⟨by decide, by decide⟩ (a := b9) (argsL := [.null]) (apr_nr l Z a0 hw b9 ap226 T226.heap n0 Z226 ge_b9 q226_0 q226_1) e236 q226_0 (g := (mkF m 146 #[.val (.int p0), .val (.int p1), .val (.int p2), .val (.int p3), .val (.int p4), .val (.ref b1), .val (.ref b9), .val (.ref b12), .val (.ref b16), .val (.ref b9), .val (.int (1 : Int32)), .val .null] [.null, (.ref b9)])) rfl (by rw [hml]; rfl) (rest := []) (lenOf pd0_6 rfl) rfl (hb hby at_146) (W := 0) (by show 2 * 0 + _ ≤ _; exact Nat.le_of_eq rfl) (by decide) (by decide) (by decide) (by decide)
            obtain ⟨ap237, rfl, Nq237, Kq237, pr237_0, q237_0, q237_1, q237_2⟩ := hQ237
            have fx238 : Exa Z T226.heap b1 "com/example/restlint/restlint/document/Location" := (Exa.keep fx227 Kq226)
            have ne_b1_ap237 : b1 ≠ ap237 := Nat.ne_of_lt (Nat.lt_of_lt_of_le fx238.lt pr237_0)
            have ne_b9_ap237 : b9 ≠ ap237 := Nat.ne_of_lt (Nat.lt_of_lt_of_le q226_0.lt pr237_0)
            have fx239 : Exa Z T226.heap b12 "com/example/restlint/restlint/document/MappingNode" := (Exa.keep fx228 Kq226)
            have ne_b12_ap237 : b12 ≠ ap237 := Nat.ne_of_lt (Nat.lt_of_lt_of_le fx239.lt pr237_0)
            have fx240 : Exa Z T226.heap b16 "com/example/restlint/restlint/document/ScalarNode" := (Exa.keep q21_0 Kq226)
            have ne_b16_ap237 : b16 ≠ ap237 := Nat.ne_of_lt (Nat.lt_of_lt_of_le fx240.lt pr237_0)
            have ne_ap226_ap237 : ap226 ≠ ap237 := Nat.ne_of_lt (Nat.lt_of_lt_of_le q226_2.lt pr237_0)
            have ge_ap237 : n0 ≤ ap237 := Nat.le_trans Z226 pr237_0
            have N237 := Fr.app N236 Nq237
            have hk237 := Nat.le_trans hk226 Kq237.1
            have Z237 : n0 ≤ T237.heap.size := Nat.le_trans Z226 Kq237.1
            refine own_go (g' := (mkF m 149 #[.val (.int p0), .val (.int p1), .val (.int p2), .val (.int p3), .val (.int p4), .val (.ref b1), .val (.ref b9), .val (.ref b12), .val (.ref b16), .val (.ref b9), .val (.int (1 : Int32)), .val .null] [])) (st237) ?_
            refine own_go (g' := (mkF m 151 #[.val (.int p0), .val (.int p1), .val (.int p2), .val (.int p3), .val (.int p4), .val (.ref b1), .val (.ref b9), .val (.ref b12), .val (.ref b16), .val (.ref b9), .val (.int (1 : Int32)), .val .null] [.null])) (fun _ kgo => XS.aload X237.here hx rfl (hb hby at_149) rfl rfl kgo) ?_
            refine own_go (g' := (mkF m 153 #[.val (.int p0), .val (.int p1), .val (.int p2), .val (.int p3), .val (.int p4), .val (.ref b1), .val (.ref b9), .val (.ref b12), .val (.ref b16), .val .null, .val (.int (1 : Int32)), .val .null] [])) (fun _ kgo => XS.astore X237.here hx rfl (hb hby at_151) rfl rfl (l' := #[.val (.int p0), .val (.int p1), .val (.int p2), .val (.int p3), .val (.int p4), .val (.ref b1), .val (.ref b9), .val (.ref b12), .val (.ref b16), .val .null, .val (.int (1 : Int32)), .val .null]) rfl kgo) ?_
            refine own_go (g' := (mkF m 154 #[.val (.int p0), .val (.int p1), .val (.int p2), .val (.int p3), .val (.int p4), .val (.ref b1), .val (.ref b9), .val (.ref b12), .val (.ref b16), .val .null, .val (.int (1 : Int32)), .val .null] [(.int (1 : Int32))])) (fun _ kgo => XS.iconst X237.here hx rfl (hb hby at_153) kgo) ?_
            refine own_go (g' := (mkF m 156 #[.val (.int p0), .val (.int p1), .val (.int p2), .val (.int p3), .val (.int p4), .val (.ref b1), .val (.ref b9), .val (.ref b12), .val (.ref b16), .val .null, .val (.int (1 : Int32)), .val .null] [])) (fun _ kgo => XS.istore X237.here hx rfl (hb hby at_154) rfl (l' := #[.val (.int p0), .val (.int p1), .val (.int p2), .val (.int p3), .val (.int p4), .val (.ref b1), .val (.ref b9), .val (.ref b12), .val (.ref b16), .val .null, .val (.int (1 : Int32)), .val .null]) rfl kgo) ?_
            refine own_go (g' := (mkF m 158 #[.val (.int p0), .val (.int p1), .val (.int p2), .val (.int p3), .val (.int p4), .val (.ref b1), .val (.ref b9), .val (.ref b12), .val (.ref b16), .val .null, .val (.int (1 : Int32)), .val .null] [(.ref b9)])) (fun _ kgo => XS.aload X237.here hx rfl (hb hby at_156) rfl rfl kgo) ?_
            obtain ⟨v241, T241, L241, hQ241, X241, st241⟩ := own_callV X237 hx hZ (y := (⟨"com/example/restlint/restlint/document/MappingNode", "applied", "()Lcom/example/restlint/restlint/document/Node;"⟩ : MethodName)) (z := (⟨"com/example/restlint/restlint/document/MappingNode", "applied", "()Lcom/example/restlint/restlint/document/Node;"⟩ : MethodName)) hown (hw _ (List.mem_of_getElem? (i := 84) rfl)) (hw _ (List.mem_of_getElem? (i := 85) rfl)) (notFace_of_selects (args := #[]) (mvT hZ (hw _ (List.mem_of_getElem? (i := 87) rfl)))) (hw _ (List.mem_of_getElem? (i := 87) rfl)) (hw _ (List.mem_of_getElem? (i := 86) rfl)) (hw _ (List.mem_of_getElem? (i := 35) rfl)) (hw _ (List.mem_of_getElem? (i := 88) rfl)) ⟨by decide, by decide⟩ (a := b9) (argsL := []) (app_rn l Z a0 hw b9 ap237 T237.heap q237_1 q237_2) rfl q237_0 (g := (mkF m 158 #[.val (.int p0), .val (.int p1), .val (.int p2), .val (.int p3), .val (.int p4), .val (.ref b1), .val (.ref b9), .val (.ref b12), .val (.ref b16), .val .null, .val (.int (1 : Int32)), .val .null] [(.ref b9)])) rfl (by rw [hml]; rfl) (rest := []) (lenOf pd0_3 rfl) rfl (hb hby at_158) (W := 0) (by show 2 * 0 + _ ≤ _; exact Nat.le_of_eq rfl) (by decide) (by decide) (by decide) (by decide)
            obtain ⟨rfl, e241, rfl⟩ := hQ241
            have N241 := Fr.app N237 (Fr.nil n0)
            refine own_go (g' := (mkF m 161 #[.val (.int p0), .val (.int p1), .val (.int p2), .val (.int p3), .val (.int p4), .val (.ref b1), .val (.ref b9), .val (.ref b12), .val (.ref b16), .val .null, .val (.int (1 : Int32)), .val .null] [.null])) (st241) ?_
            refine own_go (g' := (mkF m 163 #[.val (.int p0), .val (.int p1), .val (.int p2), .val (.int p3), .val (.int p4), .val (.ref b1), .val (.ref b9), .val (.ref b12), .val (.ref b16), .val .null, .val (.int (1 : Int32)), .val .null] [.null, .null])) (fun _ kgo => XS.aload X241.here hx rfl (hb hby at_161) rfl rfl kgo) ?_
            refine own_go (g' := (mkF m 166 #[.val (.int p0), .val (.int p1), .val (.int p2), .val (.int p3), .val (.int p4), .val (.ref b1), .val (.ref b9), .val (.ref b12), .val (.ref b16), .val .null, .val (.int (1 : Int32)), .val .null] [])) (fun _ kgo => Jvm.RoadKit.acmp (g := (mkF m 163 #[.val (.int p0), .val (.int p1), .val (.int p2), .val (.int p3), .val (.int p4), .val (.ref b1), .val (.ref b9), .val (.ref b12), .val (.ref b16), .val .null, .val (.int (1 : Int32)), .val .null] [.null, .null])) X241 hx rfl rfl rfl (pc0 := 163) (pc' := 166) (same := true) rfl (hb hby at_163) rfl (decide_eq_true rfl) (by decide) (by decide) kgo) ?_
            refine own_go (g' := (mkF m 168 #[.val (.int p0), .val (.int p1), .val (.int p2), .val (.int p3), .val (.int p4), .val (.ref b1), .val (.ref b9), .val (.ref b12), .val (.ref b16), .val .null, .val (.int (1 : Int32)), .val .null] [(.ref b9)])) (fun _ kgo => XS.aload X241.here hx rfl (hb hby at_166) rfl rfl kgo) ?_
            obtain ⟨v242, T242, L242, hQ242, X242, st242⟩ := own_callV X241 hx hZ (y := (⟨"com/example/restlint/restlint/document/MappingNode", "appliesReference", "()Z"⟩ : MethodName)) (z := (⟨"com/example/restlint/restlint/document/MappingNode", "appliesReference", "()Z"⟩ : MethodName)) hown (hw _ (List.mem_of_getElem? (i := 128) rfl)) (hw _ (List.mem_of_getElem? (i := 129) rfl)) (notFace_of_selects (args := #[]) (mvT hZ (hw _ (List.mem_of_getElem? (i := 131) rfl)))) (hw _ (List.mem_of_getElem? (i := 131) rfl)) (hw _ (List.mem_of_getElem? (i := 130) rfl)) (hw _ (List.mem_of_getElem? (i := 35) rfl)) (hw _ (List.mem_of_getElem? (i := 132) rfl)) ⟨by decide, by decide⟩ (a := b9) (argsL := []) (apl_r l Z a0 hw b9 ap237 T237.heap q237_1) e241 q237_0 (g := (mkF m 168 #[.val (.int p0), .val (.int p1), .val (.int p2), .val (.int p3), .val (.int p4), .val (.ref b1), .val (.ref b9), .val (.ref b12), .val (.ref b16), .val .null, .val (.int (1 : Int32)), .val .null] [(.ref b9)])) rfl (by rw [hml]; rfl) (rest := []) (lenOf pd0_4 rfl) rfl (hb hby at_168) (W := 0) (by show 2 * 0 + _ ≤ _; exact Nat.le_of_eq rfl) (by decide) (by decide) (by decide) (by decide)
            obtain ⟨rfl, e242, rfl⟩ := hQ242
            have N242 := Fr.app N241 (Fr.nil n0)
            refine own_go (g' := (mkF m 171 #[.val (.int p0), .val (.int p1), .val (.int p2), .val (.int p3), .val (.int p4), .val (.ref b1), .val (.ref b9), .val (.ref b12), .val (.ref b16), .val .null, .val (.int (1 : Int32)), .val .null] [(.int (1 : Int32))])) (st242) ?_
            refine own_go (g' := (mkF m 173 #[.val (.int p0), .val (.int p1), .val (.int p2), .val (.int p3), .val (.int p4), .val (.ref b1), .val (.ref b9), .val (.ref b12), .val (.ref b16), .val .null, .val (.int (1 : Int32)), .val .null] [(.int (1 : Int32)), (.int (1 : Int32))])) (fun _ kgo => XS.iload X242.here hx rfl (hb hby at_171) rfl kgo) ?_
            refine own_go (g' := (mkF m 176 #[.val (.int p0), .val (.int p1), .val (.int p2), .val (.int p3), .val (.int p4), .val (.ref b1), .val (.ref b9), .val (.ref b12), .val (.ref b16), .val .null, .val (.int (1 : Int32)), .val .null] [])) (fun _ kgo => XS.icmpNo X242.here hx rfl (hb hby at_173) rfl (teq (by decide)).2 kgo) ?_
            refine own_go (g' := (mkF m 178 #[.val (.int p0), .val (.int p1), .val (.int p2), .val (.int p3), .val (.int p4), .val (.ref b1), .val (.ref b9), .val (.ref b12), .val (.ref b16), .val .null, .val (.int (1 : Int32)), .val .null] [(.ref b12)])) (fun _ kgo => XS.aload X242.here hx rfl (hb hby at_176) rfl rfl kgo) ?_
            have fx244 : Fld Z T237.heap b12 "com/example/restlint/restlint/document/MappingNode" "applied" "Lcom/example/restlint/restlint/document/MappingNode$Applied;" .null := (Fld.keep (Fld.keep (Fld.keep (Fld.ext E19 (Fld.ext E16 q14_1)) Kq21 (ninS ne_b12_b16 nin0)) Kq226 (ninS (Ne.symm ne_b9_b12) nin0)) Kq237 (ninS (Ne.symm ne_b9_b12) nin0))
            have fx245 : Exa Z T237.heap b12 "com/example/restlint/restlint/document/MappingNode" := (Exa.keep fx239 Kq237)
            obtain ⟨v243, T243, L243, hQ243, X243, st243⟩ := own_callV X242 hx hZ (y := (⟨"com/example/restlint/restlint/document/MappingNode", "applied", "()Lcom/example/restlint/restlint/document/Node;"⟩ : MethodName)) (z := (⟨"com/example/restlint/restlint/document/MappingNode", "applied", "()Lcom/example/restlint/restlint/document/Node;"⟩ : MethodName)) hown (hw _ (List.mem_of_getElem? (i := 84) rfl)) (hw _ (List.mem_of_getElem? (i := 85) rfl)) (notFace_of_selects (args := #[]) (mvT hZ (hw _ (List.mem_of_getElem? (i := 87) rfl)))) (hw _ (List.mem_of_getElem? (i := 87) rfl)) (hw _ (List.mem_of_getElem? (i := 86) rfl)) (hw _ (List.mem_of_getElem? (i := 35) rfl)) (hw _ (List.mem_of_getElem? (i := 88) rfl)) ⟨by decide, by decide⟩ (a := b12) (argsL := []) (app_n l Z a0 hw b12 T237.heap fx244) e242 fx245 (g := (mkF m 178 #[.val (.int p0), .val (.int p1), .val (.int p2), .val (.int p3), .val (.int p4), .val (.ref b1), .val (.ref b9), .val (.ref b12), .val (.ref b16), .val .null, .val (.int (1 : Int32)), .val .null] [(.ref b12)])) rfl (by rw [hml]; rfl) (rest := []) (lenOf pd0_3 rfl) rfl (hb hby at_178) (W := 0) (by show 2 * 0 + _ ≤ _; exact Nat.le_of_eq rfl) (by decide) (by decide) (by decide) (by decide)
            obtain ⟨rfl, e243, rfl⟩ := hQ243
            have N243 := Fr.app N242 (Fr.nil n0)
            refine own_go (g' := (mkF m 181 #[.val (.int p0), .val (.int p1), .val (.int p2), .val (.int p3), .val (.int p4), .val (.ref b1), .val (.ref b9), .val (.ref b12), .val (.ref b16), .val .null, .val (.int (1 : Int32)), .val .null] [.null])) (st243) ?_
            refine own_go (g' := (mkF m 184 #[.val (.int p0), .val (.int p1), .val (.int p2), .val (.int p3), .val (.int p4), .val (.ref b1), .val (.ref b9), .val (.ref b12), .val (.ref b16), .val .null, .val (.int (1 : Int32)), .val .null] [])) (fun _ kgo => XS.ifnonnullNo X243.here hx rfl (hb hby at_181) rfl kgo) ?_
            refine own_go (g' := (mkF m 185 #[.val (.int p0), .val (.int p1), .val (.int p2), .val (.int p3), .val (.int p4), .val (.ref b1), .val (.ref b9), .val (.ref b12), .val (.ref b16), .val .null, .val (.int (1 : Int32)), .val .null] [(.int (1 : Int32))])) (fun _ kgo => XS.iconst X243.here hx rfl (hb hby at_184) kgo) ?_
            refine own_go (g' := (mkF m 189 #[.val (.int p0), .val (.int p1), .val (.int p2), .val (.int p3), .val (.int p4), .val (.ref b1), .val (.ref b9), .val (.ref b12), .val (.ref b16), .val .null, .val (.int (1 : Int32)), .val .null] [(.int (1 : Int32))])) (fun _ kgo => XS.goto X243.here hx rfl (pc0 := 185) (pc' := 189) rfl (hb hby at_185) (by decide) (by decide) kgo) ?_
            refine own_retNW X243 hx hS19 e243 hk237 .boolean Bd.returns Bd.notSynchronized (by simp) (hb hby at_189) (by decide) (by decide) ?_
            show QQ _ T243.heap _
            rw [e243]
            rw [← hQQ]
            exact ⟨rfl, N243⟩
          ·
            obtain ⟨v246, T246, L246, hQ246, X246, st246⟩ := own_callS X229 hx hZ (y := (⟨"com/example/restlint/restlint/document/MappingNodeAppliedPinLaw", "pick", "(ILcom/example/restlint/restlint/document/Node;Lcom/example/restlint/restlint/document/Node;Lcom/example/restlint/restlint/document/Node;)Lcom/example/restlint/restlint/document/Node;"⟩ : MethodName)) hown (hw _ (List.mem_of_getElem? (i := 91) rfl)) (hw _ (List.mem_of_getElem? (i := 92) rfl)) (hw _ (List.mem_of_getElem? (i := 93) rfl)) (hw _ (List.mem_of_getElem? (i := 94) rfl)) ⟨by decide, by decide⟩ (argsL := [(.int p1), (.ref b16), (.ref b12), (.ref b9)]) (pick1 l Z a0 hw p1 b16 b12 b9 T226.heap hk_p1) e229 (g := (mkF m 137 #[.val (.int p0), .val (.int p1), .val (.int p2), .val (.int p3), .val (.int p4), .val (.ref b1), .val (.ref b9), .val (.ref b12), .val (.ref b16), .val (.ref b9), .val (.int (1 : Int32)), .val (.ref b9)] [(.ref b9), (.ref b12), (.ref b16), (.int p1)])) rfl (by rw [hml]; rfl) (rest := []) (lenOf pd0_5 rfl) rfl (hb hby at_137) (W := 0) (by show 2 * 0 + _ ≤ _; exact Nat.le_of_eq rfl) (by decide) (by decide) (by decide) (by decide)
            obtain ⟨rfl, e246, rfl⟩ := hQ246
            have N246 := Fr.app N229 (Fr.nil n0)
            refine own_go (g' := (mkF m 140 #[.val (.int p0), .val (.int p1), .val (.int p2), .val (.int p3), .val (.int p4), .val (.ref b1), .val (.ref b9), .val (.ref b12), .val (.ref b16), .val (.ref b9), .val (.int (1 : Int32)), .val (.ref b9)] [(.ref b16)])) (st246) ?_
            refine own_go (g' := (mkF m 142 #[.val (.int p0), .val (.int p1), .val (.int p2), .val (.int p3), .val (.int p4), .val (.ref b1), .val (.ref b9), .val (.ref b12), .val (.ref b16), .val (.ref b9), .val (.int (1 : Int32)), .val (.ref b16)] [])) (fun _ kgo => XS.astore X246.here hx rfl (hb hby at_140) rfl rfl (l' := #[.val (.int p0), .val (.int p1), .val (.int p2), .val (.int p3), .val (.int p4), .val (.ref b1), .val (.ref b9), .val (.ref b12), .val (.ref b16), .val (.ref b9), .val (.int (1 : Int32)), .val (.ref b16)]) rfl kgo) ?_
            refine own_go (g' := (mkF m 144 #[.val (.int p0), .val (.int p1), .val (.int p2), .val (.int p3), .val (.int p4), .val (.ref b1), .val (.ref b9), .val (.ref b12), .val (.ref b16), .val (.ref b9), .val (.int (1 : Int32)), .val (.ref b16)] [(.ref b9)])) (fun _ kgo => XS.aload X246.here hx rfl (hb hby at_142) rfl rfl kgo) ?_
            refine own_go (g' := (mkF m 146 #[.val (.int p0), .val (.int p1), .val (.int p2), .val (.int p3), .val (.int p4), .val (.ref b1), .val (.ref b9), .val (.ref b12), .val (.ref b16), .val (.ref b9), .val (.int (1 : Int32)), .val (.ref b16)] [(.ref b16), (.ref b9)])) (fun _ kgo => XS.aload X246.here hx rfl (hb hby at_144) rfl rfl kgo) ?_
            obtain ⟨v247, T247, L247, hQ247, X247, st247⟩ := own_callV X246 hx hZ (y := (⟨"com/example/restlint/restlint/document/MappingNode", "applyReference", "(Lcom/example/restlint/restlint/document/Node;)V"⟩ : MethodName)) (z := (⟨"com/example/restlint/restlint/document/MappingNode", "applyReference", "(Lcom/example/restlint/restlint/document/Node;)V"⟩ : MethodName)) hown (hw _ (List.mem_of_getElem? (i := 95) rfl)) (hw _ (List.mem_of_getElem? (i := 96) rfl)) (notFace_of_selects (args := #[]) (mvT hZ (hw _ (List.mem_of_getElem? (i := 98) rfl)))) (hw _ (List.mem_of_getElem? (i := 98) rfl)) (hw _ (List.mem_of_getElem? (i := 97) rfl)) (hw _ (List.mem_of_getElem? (i := 35) rfl)) (hw _ (List.mem_of_getElem? (i := 99) rfl)) ⟨by decide, by decide⟩ (a := b9) (argsL := [(.ref b16)]) (apr_rr l Z a0 hw b9 b16 ap226 T226.heap n0 Z226 ge_b9 q226_0 q226_1) e246 q226_0 (g := (mkF m 146 #[.val (.int p0), .val (.int p1), .val (.int p2), .val (.int p3), .val (.int p4), .val (.ref b1), .val (.ref b9), .val (.ref b12), .val (.ref b16), .val (.ref b9), .val (.int (1 : Int32)), .val (.ref b16)] [(.ref b16), (.ref b9)])) rfl (by rw [hml]; rfl) (rest := []) (lenOf pd0_6 rfl) rfl (hb hby at_146) (W := 0) (by show 2 * 0 + _ ≤ _; exact Nat.le_of_eq rfl) (by decide) (by decide) (by decide) (by decide)
            obtain ⟨ap247, rfl, Nq247, Kq247, pr247_0, q247_0, q247_1, q247_2⟩ := hQ247
            have fx248 : Exa Z T226.heap b1 "com/example/restlint/restlint/document/Location" := (Exa.keep fx227 Kq226)
            have ne_b1_ap247 : b1 ≠ ap247 := Nat.ne_of_lt (Nat.lt_of_lt_of_le fx248.lt pr247_0)
            have ne_b9_ap247 : b9 ≠ ap247 := Nat.ne_of_lt (Nat.lt_of_lt_of_le q226_0.lt pr247_0)
            have fx249 : Exa Z T226.heap b12 "com/example/restlint/restlint/document/MappingNode" := (Exa.keep fx228 Kq226)
            have ne_b12_ap247 : b12 ≠ ap247 := Nat.ne_of_lt (Nat.lt_of_lt_of_le fx249.lt pr247_0)
            have fx250 : Exa Z T226.heap b16 "com/example/restlint/restlint/document/ScalarNode" := (Exa.keep q21_0 Kq226)
            have ne_b16_ap247 : b16 ≠ ap247 := Nat.ne_of_lt (Nat.lt_of_lt_of_le fx250.lt pr247_0)
            have ne_ap226_ap247 : ap226 ≠ ap247 := Nat.ne_of_lt (Nat.lt_of_lt_of_le q226_2.lt pr247_0)
            have ge_ap247 : n0 ≤ ap247 := Nat.le_trans Z226 pr247_0
            have N247 := Fr.app N246 Nq247
            have hk247 := Nat.le_trans hk226 Kq247.1
            have Z247 : n0 ≤ T247.heap.size := Nat.le_trans Z226 Kq247.1
            refine own_go (g' := (mkF m 149 #[.val (.int p0), .val (.int p1), .val (.int p2), .val (.int p3), .val (.int p4), .val (.ref b1), .val (.ref b9), .val (.ref b12), .val (.ref b16), .val (.ref b9), .val (.int (1 : Int32)), .val (.ref b16)] [])) (st247) ?_
            refine own_go (g' := (mkF m 151 #[.val (.int p0), .val (.int p1), .val (.int p2), .val (.int p3), .val (.int p4), .val (.ref b1), .val (.ref b9), .val (.ref b12), .val (.ref b16), .val (.ref b9), .val (.int (1 : Int32)), .val (.ref b16)] [(.ref b16)])) (fun _ kgo => XS.aload X247.here hx rfl (hb hby at_149) rfl rfl kgo) ?_
            refine own_go (g' := (mkF m 153 #[.val (.int p0), .val (.int p1), .val (.int p2), .val (.int p3), .val (.int p4), .val (.ref b1), .val (.ref b9), .val (.ref b12), .val (.ref b16), .val (.ref b16), .val (.int (1 : Int32)), .val (.ref b16)] [])) (fun _ kgo => XS.astore X247.here hx rfl (hb hby at_151) rfl rfl (l' := #[.val (.int p0), .val (.int p1), .val (.int p2), .val (.int p3), .val (.int p4), .val (.ref b1), .val (.ref b9), .val (.ref b12), .val (.ref b16), .val (.ref b16), .val (.int (1 : Int32)), .val (.ref b16)]) rfl kgo) ?_
            refine own_go (g' := (mkF m 154 #[.val (.int p0), .val (.int p1), .val (.int p2), .val (.int p3), .val (.int p4), .val (.ref b1), .val (.ref b9), .val (.ref b12), .val (.ref b16), .val (.ref b16), .val (.int (1 : Int32)), .val (.ref b16)] [(.int (1 : Int32))])) (fun _ kgo => XS.iconst X247.here hx rfl (hb hby at_153) kgo) ?_
            refine own_go (g' := (mkF m 156 #[.val (.int p0), .val (.int p1), .val (.int p2), .val (.int p3), .val (.int p4), .val (.ref b1), .val (.ref b9), .val (.ref b12), .val (.ref b16), .val (.ref b16), .val (.int (1 : Int32)), .val (.ref b16)] [])) (fun _ kgo => XS.istore X247.here hx rfl (hb hby at_154) rfl (l' := #[.val (.int p0), .val (.int p1), .val (.int p2), .val (.int p3), .val (.int p4), .val (.ref b1), .val (.ref b9), .val (.ref b12), .val (.ref b16), .val (.ref b16), .val (.int (1 : Int32)), .val (.ref b16)]) rfl kgo) ?_
            refine own_go (g' := (mkF m 158 #[.val (.int p0), .val (.int p1), .val (.int p2), .val (.int p3), .val (.int p4), .val (.ref b1), .val (.ref b9), .val (.ref b12), .val (.ref b16), .val (.ref b16), .val (.int (1 : Int32)), .val (.ref b16)] [(.ref b9)])) (fun _ kgo => XS.aload X247.here hx rfl (hb hby at_156) rfl rfl kgo) ?_
            obtain ⟨v251, T251, L251, hQ251, X251, st251⟩ := own_callV X247 hx hZ (y := (⟨"com/example/restlint/restlint/document/MappingNode", "applied", "()Lcom/example/restlint/restlint/document/Node;"⟩ : MethodName)) (z := (⟨"com/example/restlint/restlint/document/MappingNode", "applied", "()Lcom/example/restlint/restlint/document/Node;"⟩ : MethodName)) hown (hw _ (List.mem_of_getElem? (i := 84) rfl)) (hw _ (List.mem_of_getElem? (i := 85) rfl)) (notFace_of_selects (args := #[]) (mvT hZ (hw _ (List.mem_of_getElem? (i := 87) rfl)))) (hw _ (List.mem_of_getElem? (i := 87) rfl)) (hw _ (List.mem_of_getElem? (i := 86) rfl)) (hw _ (List.mem_of_getElem? (i := 35) rfl)) (hw _ (List.mem_of_getElem? (i := 88) rfl)) ⟨by decide, by decide⟩ (a := b9) (argsL := []) (app_rr l Z a0 hw b9 ap247 b16 T247.heap q247_1 q247_2) rfl q247_0 (g := (mkF m 158 #[.val (.int p0), .val (.int p1), .val (.int p2), .val (.int p3), .val (.int p4), .val (.ref b1), .val (.ref b9), .val (.ref b12), .val (.ref b16), .val (.ref b16), .val (.int (1 : Int32)), .val (.ref b16)] [(.ref b9)])) rfl (by rw [hml]; rfl) (rest := []) (lenOf pd0_3 rfl) rfl (hb hby at_158) (W := 0) (by show 2 * 0 + _ ≤ _; exact Nat.le_of_eq rfl) (by decide) (by decide) (by decide) (by decide)
            obtain ⟨rfl, e251, rfl⟩ := hQ251
            have N251 := Fr.app N247 (Fr.nil n0)
            refine own_go (g' := (mkF m 161 #[.val (.int p0), .val (.int p1), .val (.int p2), .val (.int p3), .val (.int p4), .val (.ref b1), .val (.ref b9), .val (.ref b12), .val (.ref b16), .val (.ref b16), .val (.int (1 : Int32)), .val (.ref b16)] [(.ref b16)])) (st251) ?_
            refine own_go (g' := (mkF m 163 #[.val (.int p0), .val (.int p1), .val (.int p2), .val (.int p3), .val (.int p4), .val (.ref b1), .val (.ref b9), .val (.ref b12), .val (.ref b16), .val (.ref b16), .val (.int (1 : Int32)), .val (.ref b16)] [(.ref b16), (.ref b16)])) (fun _ kgo => XS.aload X251.here hx rfl (hb hby at_161) rfl rfl kgo) ?_
            refine own_go (g' := (mkF m 166 #[.val (.int p0), .val (.int p1), .val (.int p2), .val (.int p3), .val (.int p4), .val (.ref b1), .val (.ref b9), .val (.ref b12), .val (.ref b16), .val (.ref b16), .val (.int (1 : Int32)), .val (.ref b16)] [])) (fun _ kgo => Jvm.RoadKit.acmp (g := (mkF m 163 #[.val (.int p0), .val (.int p1), .val (.int p2), .val (.int p3), .val (.int p4), .val (.ref b1), .val (.ref b9), .val (.ref b12), .val (.ref b16), .val (.ref b16), .val (.int (1 : Int32)), .val (.ref b16)] [(.ref b16), (.ref b16)])) X251 hx rfl rfl rfl (pc0 := 163) (pc' := 166) (same := true) rfl (hb hby at_163) rfl (decide_eq_true rfl) (by decide) (by decide) kgo) ?_
            refine own_go (g' := (mkF m 168 #[.val (.int p0), .val (.int p1), .val (.int p2), .val (.int p3), .val (.int p4), .val (.ref b1), .val (.ref b9), .val (.ref b12), .val (.ref b16), .val (.ref b16), .val (.int (1 : Int32)), .val (.ref b16)] [(.ref b9)])) (fun _ kgo => XS.aload X251.here hx rfl (hb hby at_166) rfl rfl kgo) ?_
            obtain ⟨v252, T252, L252, hQ252, X252, st252⟩ := own_callV X251 hx hZ (y := (⟨"com/example/restlint/restlint/document/MappingNode", "appliesReference", "()Z"⟩ : MethodName)) (z := (⟨"com/example/restlint/restlint/document/MappingNode", "appliesReference", "()Z"⟩ : MethodName)) hown (hw _ (List.mem_of_getElem? (i := 128) rfl)) (hw _ (List.mem_of_getElem? (i := 129) rfl)) (notFace_of_selects (args := #[]) (mvT hZ (hw _ (List.mem_of_getElem? (i := 131) rfl)))) (hw _ (List.mem_of_getElem? (i := 131) rfl)) (hw _ (List.mem_of_getElem? (i := 130) rfl)) (hw _ (List.mem_of_getElem? (i := 35) rfl)) (hw _ (List.mem_of_getElem? (i := 132) rfl)) ⟨by decide, by decide⟩ (a := b9) (argsL := []) (apl_r l Z a0 hw b9 ap247 T247.heap q247_1) e251 q247_0 (g := (mkF m 168 #[.val (.int p0), .val (.int p1), .val (.int p2), .val (.int p3), .val (.int p4), .val (.ref b1), .val (.ref b9), .val (.ref b12), .val (.ref b16), .val (.ref b16), .val (.int (1 : Int32)), .val (.ref b16)] [(.ref b9)])) rfl (by rw [hml]; rfl) (rest := []) (lenOf pd0_4 rfl) rfl (hb hby at_168) (W := 0) (by show 2 * 0 + _ ≤ _; exact Nat.le_of_eq rfl) (by decide) (by decide) (by decide) (by decide)
            obtain ⟨rfl, e252, rfl⟩ := hQ252
            have N252 := Fr.app N251 (Fr.nil n0)
            refine own_go (g' := (mkF m 171 #[.val (.int p0), .val (.int p1), .val (.int p2), .val (.int p3), .val (.int p4), .val (.ref b1), .val (.ref b9), .val (.ref b12), .val (.ref b16), .val (.ref b16), .val (.int (1 : Int32)), .val (.ref b16)] [(.int (1 : Int32))])) (st252) ?_
            refine own_go (g' := (mkF m 173 #[.val (.int p0), .val (.int p1), .val (.int p2), .val (.int p3), .val (.int p4), .val (.ref b1), .val (.ref b9), .val (.ref b12), .val (.ref b16), .val (.ref b16), .val (.int (1 : Int32)), .val (.ref b16)] [(.int (1 : Int32)), (.int (1 : Int32))])) (fun _ kgo => XS.iload X252.here hx rfl (hb hby at_171) rfl kgo) ?_
            refine own_go (g' := (mkF m 176 #[.val (.int p0), .val (.int p1), .val (.int p2), .val (.int p3), .val (.int p4), .val (.ref b1), .val (.ref b9), .val (.ref b12), .val (.ref b16), .val (.ref b16), .val (.int (1 : Int32)), .val (.ref b16)] [])) (fun _ kgo => XS.icmpNo X252.here hx rfl (hb hby at_173) rfl (teq (by decide)).2 kgo) ?_
            refine own_go (g' := (mkF m 178 #[.val (.int p0), .val (.int p1), .val (.int p2), .val (.int p3), .val (.int p4), .val (.ref b1), .val (.ref b9), .val (.ref b12), .val (.ref b16), .val (.ref b16), .val (.int (1 : Int32)), .val (.ref b16)] [(.ref b12)])) (fun _ kgo => XS.aload X252.here hx rfl (hb hby at_176) rfl rfl kgo) ?_
            have fx254 : Fld Z T247.heap b12 "com/example/restlint/restlint/document/MappingNode" "applied" "Lcom/example/restlint/restlint/document/MappingNode$Applied;" .null := (Fld.keep (Fld.keep (Fld.keep (Fld.ext E19 (Fld.ext E16 q14_1)) Kq21 (ninS ne_b12_b16 nin0)) Kq226 (ninS (Ne.symm ne_b9_b12) nin0)) Kq247 (ninS (Ne.symm ne_b9_b12) nin0))
            have fx255 : Exa Z T247.heap b12 "com/example/restlint/restlint/document/MappingNode" := (Exa.keep fx249 Kq247)
            obtain ⟨v253, T253, L253, hQ253, X253, st253⟩ := own_callV X252 hx hZ (y := (⟨"com/example/restlint/restlint/document/MappingNode", "applied", "()Lcom/example/restlint/restlint/document/Node;"⟩ : MethodName)) (z := (⟨"com/example/restlint/restlint/document/MappingNode", "applied", "()Lcom/example/restlint/restlint/document/Node;"⟩ : MethodName)) hown (hw _ (List.mem_of_getElem? (i := 84) rfl)) (hw _ (List.mem_of_getElem? (i := 85) rfl)) (notFace_of_selects (args := #[]) (mvT hZ (hw _ (List.mem_of_getElem? (i := 87) rfl)))) (hw _ (List.mem_of_getElem? (i := 87) rfl)) (hw _ (List.mem_of_getElem? (i := 86) rfl)) (hw _ (List.mem_of_getElem? (i := 35) rfl)) (hw _ (List.mem_of_getElem? (i := 88) rfl)) ⟨by decide, by decide⟩ (a := b12) (argsL := []) (app_n l Z a0 hw b12 T247.heap fx254) e252 fx255 (g := (mkF m 178 #[.val (.int p0), .val (.int p1), .val (.int p2), .val (.int p3), .val (.int p4), .val (.ref b1), .val (.ref b9), .val (.ref b12), .val (.ref b16), .val (.ref b16), .val (.int (1 : Int32)), .val (.ref b16)] [(.ref b12)])) rfl (by rw [hml]; rfl) (rest := []) (lenOf pd0_3 rfl) rfl (hb hby at_178) (W := 0) (by show 2 * 0 + _ ≤ _; exact Nat.le_of_eq rfl) (by decide) (by decide) (by decide) (by decide)
            obtain ⟨rfl, e253, rfl⟩ := hQ253
            have N253 := Fr.app N252 (Fr.nil n0)
            refine own_go (g' := (mkF m 181 #[.val (.int p0), .val (.int p1), .val (.int p2), .val (.int p3), .val (.int p4), .val (.ref b1), .val (.ref b9), .val (.ref b12), .val (.ref b16), .val (.ref b16), .val (.int (1 : Int32)), .val (.ref b16)] [.null])) (st253) ?_
            refine own_go (g' := (mkF m 184 #[.val (.int p0), .val (.int p1), .val (.int p2), .val (.int p3), .val (.int p4), .val (.ref b1), .val (.ref b9), .val (.ref b12), .val (.ref b16), .val (.ref b16), .val (.int (1 : Int32)), .val (.ref b16)] [])) (fun _ kgo => XS.ifnonnullNo X253.here hx rfl (hb hby at_181) rfl kgo) ?_
            refine own_go (g' := (mkF m 185 #[.val (.int p0), .val (.int p1), .val (.int p2), .val (.int p3), .val (.int p4), .val (.ref b1), .val (.ref b9), .val (.ref b12), .val (.ref b16), .val (.ref b16), .val (.int (1 : Int32)), .val (.ref b16)] [(.int (1 : Int32))])) (fun _ kgo => XS.iconst X253.here hx rfl (hb hby at_184) kgo) ?_
            refine own_go (g' := (mkF m 189 #[.val (.int p0), .val (.int p1), .val (.int p2), .val (.int p3), .val (.int p4), .val (.ref b1), .val (.ref b9), .val (.ref b12), .val (.ref b16), .val (.ref b16), .val (.int (1 : Int32)), .val (.ref b16)] [(.int (1 : Int32))])) (fun _ kgo => XS.goto X253.here hx rfl (pc0 := 185) (pc' := 189) rfl (hb hby at_185) (by decide) (by decide) kgo) ?_
            refine own_retNW X253 hx hS19 e253 hk247 .boolean Bd.returns Bd.notSynchronized (by simp) (hb hby at_189) (by decide) (by decide) ?_
            show QQ _ T253.heap _
            rw [e253]
            rw [← hQQ]
            exact ⟨rfl, N253⟩
          ·
            obtain ⟨v256, T256, L256, hQ256, X256, st256⟩ := own_callS X229 hx hZ (y := (⟨"com/example/restlint/restlint/document/MappingNodeAppliedPinLaw", "pick", "(ILcom/example/restlint/restlint/document/Node;Lcom/example/restlint/restlint/document/Node;Lcom/example/restlint/restlint/document/Node;)Lcom/example/restlint/restlint/document/Node;"⟩ : MethodName)) hown (hw _ (List.mem_of_getElem? (i := 91) rfl)) (hw _ (List.mem_of_getElem? (i := 92) rfl)) (hw _ (List.mem_of_getElem? (i := 93) rfl)) (hw _ (List.mem_of_getElem? (i := 94) rfl)) ⟨by decide, by decide⟩ (argsL := [(.int p1), (.ref b16), (.ref b12), (.ref b9)]) (pick2 l Z a0 hw p1 b16 b12 b9 T226.heap hk_p1) e229 (g := (mkF m 137 #[.val (.int p0), .val (.int p1), .val (.int p2), .val (.int p3), .val (.int p4), .val (.ref b1), .val (.ref b9), .val (.ref b12), .val (.ref b16), .val (.ref b9), .val (.int (1 : Int32)), .val (.ref b9)] [(.ref b9), (.ref b12), (.ref b16), (.int p1)])) rfl (by rw [hml]; rfl) (rest := []) (lenOf pd0_5 rfl) rfl (hb hby at_137) (W := 0) (by show 2 * 0 + _ ≤ _; exact Nat.le_of_eq rfl) (by decide) (by decide) (by decide) (by decide)
            obtain ⟨rfl, e256, rfl⟩ := hQ256
            have N256 := Fr.app N229 (Fr.nil n0)
            refine own_go (g' := (mkF m 140 #[.val (.int p0), .val (.int p1), .val (.int p2), .val (.int p3), .val (.int p4), .val (.ref b1), .val (.ref b9), .val (.ref b12), .val (.ref b16), .val (.ref b9), .val (.int (1 : Int32)), .val (.ref b9)] [(.ref b12)])) (st256) ?_
            refine own_go (g' := (mkF m 142 #[.val (.int p0), .val (.int p1), .val (.int p2), .val (.int p3), .val (.int p4), .val (.ref b1), .val (.ref b9), .val (.ref b12), .val (.ref b16), .val (.ref b9), .val (.int (1 : Int32)), .val (.ref b12)] [])) (fun _ kgo => XS.astore X256.here hx rfl (hb hby at_140) rfl rfl (l' := #[.val (.int p0), .val (.int p1), .val (.int p2), .val (.int p3), .val (.int p4), .val (.ref b1), .val (.ref b9), .val (.ref b12), .val (.ref b16), .val (.ref b9), .val (.int (1 : Int32)), .val (.ref b12)]) rfl kgo) ?_
            refine own_go (g' := (mkF m 144 #[.val (.int p0), .val (.int p1), .val (.int p2), .val (.int p3), .val (.int p4), .val (.ref b1), .val (.ref b9), .val (.ref b12), .val (.ref b16), .val (.ref b9), .val (.int (1 : Int32)), .val (.ref b12)] [(.ref b9)])) (fun _ kgo => XS.aload X256.here hx rfl (hb hby at_142) rfl rfl kgo) ?_
            refine own_go (g' := (mkF m 146 #[.val (.int p0), .val (.int p1), .val (.int p2), .val (.int p3), .val (.int p4), .val (.ref b1), .val (.ref b9), .val (.ref b12), .val (.ref b16), .val (.ref b9), .val (.int (1 : Int32)), .val (.ref b12)] [(.ref b12), (.ref b9)])) (fun _ kgo => XS.aload X256.here hx rfl (hb hby at_144) rfl rfl kgo) ?_
            obtain ⟨v257, T257, L257, hQ257, X257, st257⟩ := own_callV X256 hx hZ (y := (⟨"com/example/restlint/restlint/document/MappingNode", "applyReference", "(Lcom/example/restlint/restlint/document/Node;)V"⟩ : MethodName)) (z := (⟨"com/example/restlint/restlint/document/MappingNode", "applyReference", "(Lcom/example/restlint/restlint/document/Node;)V"⟩ : MethodName)) hown (hw _ (List.mem_of_getElem? (i := 95) rfl)) (hw _ (List.mem_of_getElem? (i := 96) rfl)) (notFace_of_selects (args := #[]) (mvT hZ (hw _ (List.mem_of_getElem? (i := 98) rfl)))) (hw _ (List.mem_of_getElem? (i := 98) rfl)) (hw _ (List.mem_of_getElem? (i := 97) rfl)) (hw _ (List.mem_of_getElem? (i := 35) rfl)) (hw _ (List.mem_of_getElem? (i := 99) rfl)) ⟨by decide, by decide⟩ (a := b9) (argsL := [(.ref b12)]) (apr_rr l Z a0 hw b9 b12 ap226 T226.heap n0 Z226 ge_b9 q226_0 q226_1) e256 q226_0 (g := (mkF m 146 #[.val (.int p0), .val (.int p1), .val (.int p2), .val (.int p3), .val (.int p4), .val (.ref b1), .val (.ref b9), .val (.ref b12), .val (.ref b16), .val (.ref b9), .val (.int (1 : Int32)), .val (.ref b12)] [(.ref b12), (.ref b9)])) rfl (by rw [hml]; rfl) (rest := []) (lenOf pd0_6 rfl) rfl (hb hby at_146) (W := 0) (by show 2 * 0 + _ ≤ _; exact Nat.le_of_eq rfl) (by decide) (by decide) (by decide) (by decide)
            obtain ⟨ap257, rfl, Nq257, Kq257, pr257_0, q257_0, q257_1, q257_2⟩ := hQ257
            have fx258 : Exa Z T226.heap b1 "com/example/restlint/restlint/document/Location" := (Exa.keep fx227 Kq226)
            have ne_b1_ap257 : b1 ≠ ap257 := Nat.ne_of_lt (Nat.lt_of_lt_of_le fx258.lt pr257_0)
            have ne_b9_ap257 : b9 ≠ ap257 := Nat.ne_of_lt (Nat.lt_of_lt_of_le q226_0.lt pr257_0)
            have fx259 : Exa Z T226.heap b12 "com/example/restlint/restlint/document/MappingNode" := (Exa.keep fx228 Kq226)
            have ne_b12_ap257 : b12 ≠ ap257 := Nat.ne_of_lt (Nat.lt_of_lt_of_le fx259.lt pr257_0)
            have fx260 : Exa Z T226.heap b16 "com/example/restlint/restlint/document/ScalarNode" := (Exa.keep q21_0 Kq226)
            have ne_b16_ap257 : b16 ≠ ap257 := Nat.ne_of_lt (Nat.lt_of_lt_of_le fx260.lt pr257_0)
            have ne_ap226_ap257 : ap226 ≠ ap257 := Nat.ne_of_lt (Nat.lt_of_lt_of_le q226_2.lt pr257_0)
            have ge_ap257 : n0 ≤ ap257 := Nat.le_trans Z226 pr257_0
            have N257 := Fr.app N256 Nq257
            have hk257 := Nat.le_trans hk226 Kq257.1
            have Z257 : n0 ≤ T257.heap.size := Nat.le_trans Z226 Kq257.1
            refine own_go (g' := (mkF m 149 #[.val (.int p0), .val (.int p1), .val (.int p2), .val (.int p3), .val (.int p4), .val (.ref b1), .val (.ref b9), .val (.ref b12), .val (.ref b16), .val (.ref b9), .val (.int (1 : Int32)), .val (.ref b12)] [])) (st257) ?_
            refine own_go (g' := (mkF m 151 #[.val (.int p0), .val (.int p1), .val (.int p2), .val (.int p3), .val (.int p4), .val (.ref b1), .val (.ref b9), .val (.ref b12), .val (.ref b16), .val (.ref b9), .val (.int (1 : Int32)), .val (.ref b12)] [(.ref b12)])) (fun _ kgo => XS.aload X257.here hx rfl (hb hby at_149) rfl rfl kgo) ?_
            refine own_go (g' := (mkF m 153 #[.val (.int p0), .val (.int p1), .val (.int p2), .val (.int p3), .val (.int p4), .val (.ref b1), .val (.ref b9), .val (.ref b12), .val (.ref b16), .val (.ref b12), .val (.int (1 : Int32)), .val (.ref b12)] [])) (fun _ kgo => XS.astore X257.here hx rfl (hb hby at_151) rfl rfl (l' := #[.val (.int p0), .val (.int p1), .val (.int p2), .val (.int p3), .val (.int p4), .val (.ref b1), .val (.ref b9), .val (.ref b12), .val (.ref b16), .val (.ref b12), .val (.int (1 : Int32)), .val (.ref b12)]) rfl kgo) ?_
            refine own_go (g' := (mkF m 154 #[.val (.int p0), .val (.int p1), .val (.int p2), .val (.int p3), .val (.int p4), .val (.ref b1), .val (.ref b9), .val (.ref b12), .val (.ref b16), .val (.ref b12), .val (.int (1 : Int32)), .val (.ref b12)] [(.int (1 : Int32))])) (fun _ kgo => XS.iconst X257.here hx rfl (hb hby at_153) kgo) ?_
            refine own_go (g' := (mkF m 156 #[.val (.int p0), .val (.int p1), .val (.int p2), .val (.int p3), .val (.int p4), .val (.ref b1), .val (.ref b9), .val (.ref b12), .val (.ref b16), .val (.ref b12), .val (.int (1 : Int32)), .val (.ref b12)] [])) (fun _ kgo => XS.istore X257.here hx rfl (hb hby at_154) rfl (l' := #[.val (.int p0), .val (.int p1), .val (.int p2), .val (.int p3), .val (.int p4), .val (.ref b1), .val (.ref b9), .val (.ref b12), .val (.ref b16), .val (.ref b12), .val (.int (1 : Int32)), .val (.ref b12)]) rfl kgo) ?_
            refine own_go (g' := (mkF m 158 #[.val (.int p0), .val (.int p1), .val (.int p2), .val (.int p3), .val (.int p4), .val (.ref b1), .val (.ref b9), .val (.ref b12), .val (.ref b16), .val (.ref b12), .val (.int (1 : Int32)), .val (.ref b12)] [(.ref b9)])) (fun _ kgo => XS.aload X257.here hx rfl (hb hby at_156) rfl rfl kgo) ?_
            obtain ⟨v261, T261, L261, hQ261, X261, st261⟩ := own_callV X257 hx hZ (y := (⟨"com/example/restlint/restlint/document/MappingNode", "applied", "()Lcom/example/restlint/restlint/document/Node;"⟩ : MethodName)) (z := (⟨"com/example/restlint/restlint/document/MappingNode", "applied", "()Lcom/example/restlint/restlint/document/Node;"⟩ : MethodName)) hown (hw _ (List.mem_of_getElem? (i := 84) rfl)) (hw _ (List.mem_of_getElem? (i := 85) rfl)) (notFace_of_selects (args := #[]) (mvT hZ (hw _ (List.mem_of_getElem? (i := 87) rfl)))) (hw _ (List.mem_of_getElem? (i := 87) rfl)) (hw _ (List.mem_of_getElem? (i := 86) rfl)) (hw _ (List.mem_of_getElem? (i := 35) rfl)) (hw _ (List.mem_of_getElem? (i := 88) rfl)) ⟨by decide, by decide⟩ (a := b9) (argsL := []) (app_rr l Z a0 hw b9 ap257 b12 T257.heap q257_1 q257_2) rfl q257_0 (g := (mkF m 158 #[.val (.int p0), .val (.int p1), .val (.int p2), .val (.int p3), .val (.int p4), .val (.ref b1), .val (.ref b9), .val (.ref b12), .val (.ref b16), .val (.ref b12), .val (.int (1 : Int32)), .val (.ref b12)] [(.ref b9)])) rfl (by rw [hml]; rfl) (rest := []) (lenOf pd0_3 rfl) rfl (hb hby at_158) (W := 0) (by show 2 * 0 + _ ≤ _; exact Nat.le_of_eq rfl) (by decide) (by decide) (by decide) (by decide)
            obtain ⟨rfl, e261, rfl⟩ := hQ261
            have N261 := Fr.app N257 (Fr.nil n0)
            refine own_go (g' := (mkF m 161 #[.val (.int p0), .val (.int p1), .val (.int p2), .val (.int p3), .val (.int p4), .val (.ref b1), .val (.ref b9), .val (.ref b12), .val (.ref b16), .val (.ref b12), .val (.int (1 : Int32)), .val (.ref b12)] [(.ref b12)])) (st261) ?_
            refine own_go (g' := (mkF m 163 #[.val (.int p0), .val (.int p1), .val (.int p2), .val (.int p3), .val (.int p4), .val (.ref b1), .val (.ref b9), .val (.ref b12), .val (.ref b16), .val (.ref b12), .val (.int (1 : Int32)), .val (.ref b12)] [(.ref b12), (.ref b12)])) (fun _ kgo => XS.aload X261.here hx rfl (hb hby at_161) rfl rfl kgo) ?_
            refine own_go (g' := (mkF m 166 #[.val (.int p0), .val (.int p1), .val (.int p2), .val (.int p3), .val (.int p4), .val (.ref b1), .val (.ref b9), .val (.ref b12), .val (.ref b16), .val (.ref b12), .val (.int (1 : Int32)), .val (.ref b12)] [])) (fun _ kgo => Jvm.RoadKit.acmp (g := (mkF m 163 #[.val (.int p0), .val (.int p1), .val (.int p2), .val (.int p3), .val (.int p4), .val (.ref b1), .val (.ref b9), .val (.ref b12), .val (.ref b16), .val (.ref b12), .val (.int (1 : Int32)), .val (.ref b12)] [(.ref b12), (.ref b12)])) X261 hx rfl rfl rfl (pc0 := 163) (pc' := 166) (same := true) rfl (hb hby at_163) rfl (decide_eq_true rfl) (by decide) (by decide) kgo) ?_
            refine own_go (g' := (mkF m 168 #[.val (.int p0), .val (.int p1), .val (.int p2), .val (.int p3), .val (.int p4), .val (.ref b1), .val (.ref b9), .val (.ref b12), .val (.ref b16), .val (.ref b12), .val (.int (1 : Int32)), .val (.ref b12)] [(.ref b9)])) (fun _ kgo => XS.aload X261.here hx rfl (hb hby at_166) rfl rfl kgo) ?_
            obtain ⟨v262, T262, L262, hQ262, X262, st262⟩ := own_callV X261 hx hZ (y := (⟨"com/example/restlint/restlint/document/MappingNode", "appliesReference", "()Z"⟩ : MethodName)) (z := (⟨"com/example/restlint/restlint/document/MappingNode", "appliesReference", "()Z"⟩ : MethodName)) hown (hw _ (List.mem_of_getElem? (i := 128) rfl)) (hw _ (List.mem_of_getElem? (i := 129) rfl)) (notFace_of_selects (args := #[]) (mvT hZ (hw _ (List.mem_of_getElem? (i := 131) rfl)))) (hw _ (List.mem_of_getElem? (i := 131) rfl)) (hw _ (List.mem_of_getElem? (i := 130) rfl)) (hw _ (List.mem_of_getElem? (i := 35) rfl)) (hw _ (List.mem_of_getElem? (i := 132) rfl)) ⟨by decide, by decide⟩ (a := b9) (argsL := []) (apl_r l Z a0 hw b9 ap257 T257.heap q257_1) e261 q257_0 (g := (mkF m 168 #[.val (.int p0), .val (.int p1), .val (.int p2), .val (.int p3), .val (.int p4), .val (.ref b1), .val (.ref b9), .val (.ref b12), .val (.ref b16), .val (.ref b12), .val (.int (1 : Int32)), .val (.ref b12)] [(.ref b9)])) rfl (by rw [hml]; rfl) (rest := []) (lenOf pd0_4 rfl) rfl (hb hby at_168) (W := 0) (by show 2 * 0 + _ ≤ _; exact Nat.le_of_eq rfl) (by decide) (by decide) (by decide) (by decide)
            obtain ⟨rfl, e262, rfl⟩ := hQ262
            have N262 := Fr.app N261 (Fr.nil n0)
            refine own_go (g' := (mkF m 171 #[.val (.int p0), .val (.int p1), .val (.int p2), .val (.int p3), .val (.int p4), .val (.ref b1), .val (.ref b9), .val (.ref b12), .val (.ref b16), .val (.ref b12), .val (.int (1 : Int32)), .val (.ref b12)] [(.int (1 : Int32))])) (st262) ?_
            refine own_go (g' := (mkF m 173 #[.val (.int p0), .val (.int p1), .val (.int p2), .val (.int p3), .val (.int p4), .val (.ref b1), .val (.ref b9), .val (.ref b12), .val (.ref b16), .val (.ref b12), .val (.int (1 : Int32)), .val (.ref b12)] [(.int (1 : Int32)), (.int (1 : Int32))])) (fun _ kgo => XS.iload X262.here hx rfl (hb hby at_171) rfl kgo) ?_
            refine own_go (g' := (mkF m 176 #[.val (.int p0), .val (.int p1), .val (.int p2), .val (.int p3), .val (.int p4), .val (.ref b1), .val (.ref b9), .val (.ref b12), .val (.ref b16), .val (.ref b12), .val (.int (1 : Int32)), .val (.ref b12)] [])) (fun _ kgo => XS.icmpNo X262.here hx rfl (hb hby at_173) rfl (teq (by decide)).2 kgo) ?_
            refine own_go (g' := (mkF m 178 #[.val (.int p0), .val (.int p1), .val (.int p2), .val (.int p3), .val (.int p4), .val (.ref b1), .val (.ref b9), .val (.ref b12), .val (.ref b16), .val (.ref b12), .val (.int (1 : Int32)), .val (.ref b12)] [(.ref b12)])) (fun _ kgo => XS.aload X262.here hx rfl (hb hby at_176) rfl rfl kgo) ?_
            have fx264 : Fld Z T257.heap b12 "com/example/restlint/restlint/document/MappingNode" "applied" "Lcom/example/restlint/restlint/document/MappingNode$Applied;" .null := (Fld.keep (Fld.keep (Fld.keep (Fld.ext E19 (Fld.ext E16 q14_1)) Kq21 (ninS ne_b12_b16 nin0)) Kq226 (ninS (Ne.symm ne_b9_b12) nin0)) Kq257 (ninS (Ne.symm ne_b9_b12) nin0))
            have fx265 : Exa Z T257.heap b12 "com/example/restlint/restlint/document/MappingNode" := (Exa.keep fx259 Kq257)
            obtain ⟨v263, T263, L263, hQ263, X263, st263⟩ := own_callV X262 hx hZ (y := (⟨"com/example/restlint/restlint/document/MappingNode", "applied", "()Lcom/example/restlint/restlint/document/Node;"⟩ : MethodName)) (z := (⟨"com/example/restlint/restlint/document/MappingNode", "applied", "()Lcom/example/restlint/restlint/document/Node;"⟩ : MethodName)) hown (hw _ (List.mem_of_getElem? (i := 84) rfl)) (hw _ (List.mem_of_getElem? (i := 85) rfl)) (notFace_of_selects (args := #[]) (mvT hZ (hw _ (List.mem_of_getElem? (i := 87) rfl)))) (hw _ (List.mem_of_getElem? (i := 87) rfl)) (hw _ (List.mem_of_getElem? (i := 86) rfl)) (hw _ (List.mem_of_getElem? (i := 35) rfl)) (hw _ (List.mem_of_getElem? (i := 88) rfl)) ⟨by decide, by decide⟩ (a := b12) (argsL := []) (app_n l Z a0 hw b12 T257.heap fx264) e262 fx265 (g := (mkF m 178 #[.val (.int p0), .val (.int p1), .val (.int p2), .val (.int p3), .val (.int p4), .val (.ref b1), .val (.ref b9), .val (.ref b12), .val (.ref b16), .val (.ref b12), .val (.int (1 : Int32)), .val (.ref b12)] [(.ref b12)])) rfl (by rw [hml]; rfl) (rest := []) (lenOf pd0_3 rfl) rfl (hb hby at_178) (W := 0) (by show 2 * 0 + _ ≤ _; exact Nat.le_of_eq rfl) (by decide) (by decide) (by decide) (by decide)
            obtain ⟨rfl, e263, rfl⟩ := hQ263
            have N263 := Fr.app N262 (Fr.nil n0)
            refine own_go (g' := (mkF m 181 #[.val (.int p0), .val (.int p1), .val (.int p2), .val (.int p3), .val (.int p4), .val (.ref b1), .val (.ref b9), .val (.ref b12), .val (.ref b16), .val (.ref b12), .val (.int (1 : Int32)), .val (.ref b12)] [.null])) (st263) ?_
            refine own_go (g' := (mkF m 184 #[.val (.int p0), .val (.int p1), .val (.int p2), .val (.int p3), .val (.int p4), .val (.ref b1), .val (.ref b9), .val (.ref b12), .val (.ref b16), .val (.ref b12), .val (.int (1 : Int32)), .val (.ref b12)] [])) (fun _ kgo => XS.ifnonnullNo X263.here hx rfl (hb hby at_181) rfl kgo) ?_
            refine own_go (g' := (mkF m 185 #[.val (.int p0), .val (.int p1), .val (.int p2), .val (.int p3), .val (.int p4), .val (.ref b1), .val (.ref b9), .val (.ref b12), .val (.ref b16), .val (.ref b12), .val (.int (1 : Int32)), .val (.ref b12)] [(.int (1 : Int32))])) (fun _ kgo => XS.iconst X263.here hx rfl (hb hby at_184) kgo) ?_
            refine own_go (g' := (mkF m 189 #[.val (.int p0), .val (.int p1), .val (.int p2), .val (.int p3), .val (.int p4), .val (.ref b1), .val (.ref b9), .val (.ref b12), .val (.ref b16), .val (.ref b12), .val (.int (1 : Int32)), .val (.ref b12)] [(.int (1 : Int32))])) (fun _ kgo => XS.goto X263.here hx rfl (pc0 := 185) (pc' := 189) rfl (hb hby at_185) (by decide) (by decide) kgo) ?_
            refine own_retNW X263 hx hS19 e263 hk257 .boolean Bd.returns Bd.notSynchronized (by simp) (hb hby at_189) (by decide) (by decide) ?_
            show QQ _ T263.heap _
            rw [e263]
            rw [← hQQ]
            exact ⟨rfl, N263⟩
          ·
            obtain ⟨v266, T266, L266, hQ266, X266, st266⟩ := own_callS X229 hx hZ (y := (⟨"com/example/restlint/restlint/document/MappingNodeAppliedPinLaw", "pick", "(ILcom/example/restlint/restlint/document/Node;Lcom/example/restlint/restlint/document/Node;Lcom/example/restlint/restlint/document/Node;)Lcom/example/restlint/restlint/document/Node;"⟩ : MethodName)) hown (hw _ (List.mem_of_getElem? (i := 91) rfl)) (hw _ (List.mem_of_getElem? (i := 92) rfl)) (hw _ (List.mem_of_getElem? (i := 93) rfl)) (hw _ (List.mem_of_getElem? (i := 94) rfl)) ⟨by decide, by decide⟩ (argsL := [(.int p1), (.ref b16), (.ref b12), (.ref b9)]) (pick3 l Z a0 hw p1 b16 b12 b9 T226.heap hk_p1) e229 (g := (mkF m 137 #[.val (.int p0), .val (.int p1), .val (.int p2), .val (.int p3), .val (.int p4), .val (.ref b1), .val (.ref b9), .val (.ref b12), .val (.ref b16), .val (.ref b9), .val (.int (1 : Int32)), .val (.ref b9)] [(.ref b9), (.ref b12), (.ref b16), (.int p1)])) rfl (by rw [hml]; rfl) (rest := []) (lenOf pd0_5 rfl) rfl (hb hby at_137) (W := 0) (by show 2 * 0 + _ ≤ _; exact Nat.le_of_eq rfl) (by decide) (by decide) (by decide) (by decide)
            obtain ⟨rfl, e266, rfl⟩ := hQ266
            have N266 := Fr.app N229 (Fr.nil n0)
            refine own_go (g' := (mkF m 140 #[.val (.int p0), .val (.int p1), .val (.int p2), .val (.int p3), .val (.int p4), .val (.ref b1), .val (.ref b9), .val (.ref b12), .val (.ref b16), .val (.ref b9), .val (.int (1 : Int32)), .val (.ref b9)] [(.ref b9)])) (st266) ?_
            refine own_go (g' := (mkF m 142 #[.val (.int p0), .val (.int p1), .val (.int p2), .val (.int p3), .val (.int p4), .val (.ref b1), .val (.ref b9), .val (.ref b12), .val (.ref b16), .val (.ref b9), .val (.int (1 : Int32)), .val (.ref b9)] [])) (fun _ kgo => XS.astore X266.here hx rfl (hb hby at_140) rfl rfl (l' := #[.val (.int p0), .val (.int p1), .val (.int p2), .val (.int p3), .val (.int p4), .val (.ref b1), .val (.ref b9), .val (.ref b12), .val (.ref b16), .val (.ref b9), .val (.int (1 : Int32)), .val (.ref b9)]) rfl kgo) ?_
            refine own_go (g' := (mkF m 144 #[.val (.int p0), .val (.int p1), .val (.int p2), .val (.int p3), .val (.int p4), .val (.ref b1), .val (.ref b9), .val (.ref b12), .val (.ref b16), .val (.ref b9), .val (.int (1 : Int32)), .val (.ref b9)] [(.ref b9)])) (fun _ kgo => XS.aload X266.here hx rfl (hb hby at_142) rfl rfl kgo) ?_
            refine own_go (g' := (mkF m 146 #[.val (.int p0), .val (.int p1), .val (.int p2), .val (.int p3), .val (.int p4), .val (.ref b1), .val (.ref b9), .val (.ref b12), .val (.ref b16), .val (.ref b9), .val (.int (1 : Int32)), .val (.ref b9)] [(.ref b9), (.ref b9)])) (fun _ kgo => XS.aload X266.here hx rfl (hb hby at_144) rfl rfl kgo) ?_
            obtain ⟨v267, T267, L267, hQ267, X267, st267⟩ := own_callV X266 hx hZ (y := (⟨"com/example/restlint/restlint/document/MappingNode", "applyReference", "(Lcom/example/restlint/restlint/document/Node;)V"⟩ : MethodName)) (z := (⟨"com/example/restlint/restlint/document/MappingNode", "applyReference", "(Lcom/example/restlint/restlint/document/Node;)V"⟩ : MethodName)) hown (hw _ (List.mem_of_getElem? (i := 95) rfl)) (hw _ (List.mem_of_getElem? (i := 96) rfl)) (notFace_of_selects (args := #[]) (mvT hZ (hw _ (List.mem_of_getElem? (i := 98) rfl)))) (hw _ (List.mem_of_getElem? (i := 98) rfl)) (hw _ (List.mem_of_getElem? (i := 97) rfl)) (hw _ (List.mem_of_getElem? (i := 35) rfl)) (hw _ (List.mem_of_getElem? (i := 99) rfl)) ⟨by decide, by decide⟩ (a := b9) (argsL := [(.ref b9)]) (apr_rr l Z a0 hw b9 b9 ap226 T226.heap n0 Z226 ge_b9 q226_0 q226_1) e266 q226_0 (g := (mkF m 146 #[.val (.int p0), .val (.int p1), .val (.int p2), .val (.int p3), .val (.int p4), .val (.ref b1), .val (.ref b9), .val (.ref b12), .val (.ref b16), .val (.ref b9), .val (.int (1 : Int32)), .val (.ref b9)] [(.ref b9), (.ref b9)])) rfl (by rw [hml]; rfl) (rest := []) (lenOf pd0_6 rfl) rfl (hb hby at_146) (W := 0) (by show 2 * 0 + _ ≤ _; exact Nat.le_of_eq rfl) (by decide) (by decide) (by decide) (by decide)
            obtain ⟨ap267, rfl, Nq267, Kq267, pr267_0, q267_0, q267_1, q267_2⟩ := hQ267
            have fx268 : Exa Z T226.heap b1 "com/example/restlint/restlint/document/Location" := (Exa.keep fx227 Kq226)
            have ne_b1_ap267 : b1 ≠ ap267 := Nat.ne_of_lt (Nat.lt_of_lt_of_le fx268.lt pr267_0)
            have ne_b9_ap267 : b9 ≠ ap267 := Nat.ne_of_lt (Nat.lt_of_lt_of_le q226_0.lt pr267_0)
            have fx269 : Exa Z T226.heap b12 "com/example/restlint/restlint/document/MappingNode" := (Exa.keep fx228 Kq226)
            have ne_b12_ap267 : b12 ≠ ap267 := Nat.ne_of_lt (Nat.lt_of_lt_of_le fx269.lt pr267_0)
            have fx270 : Exa Z T226.heap b16 "com/example/restlint/restlint/document/ScalarNode" := (Exa.keep q21_0 Kq226)
            have ne_b16_ap267 : b16 ≠ ap267 := Nat.ne_of_lt (Nat.lt_of_lt_of_le fx270.lt pr267_0)
            have ne_ap226_ap267 : ap226 ≠ ap267 := Nat.ne_of_lt (Nat.lt_of_lt_of_le q226_2.lt pr267_0)
            have ge_ap267 : n0 ≤ ap267 := Nat.le_trans Z226 pr267_0
            have N267 := Fr.app N266 Nq267
            have hk267 := Nat.le_trans hk226 Kq267.1
            have Z267 : n0 ≤ T267.heap.size := Nat.le_trans Z226 Kq267.1
            refine own_go (g' := (mkF m 149 #[.val (.int p0), .val (.int p1), .val (.int p2), .val (.int p3), .val (.int p4), .val (.ref b1), .val (.ref b9), .val (.ref b12), .val (.ref b16), .val (.ref b9), .val (.int (1 : Int32)), .val (.ref b9)] [])) (st267) ?_
            refine own_go (g' := (mkF m 151 #[.val (.int p0), .val (.int p1), .val (.int p2), .val (.int p3), .val (.int p4), .val (.ref b1), .val (.ref b9), .val (.ref b12), .val (.ref b16), .val (.ref b9), .val (.int (1 : Int32)), .val (.ref b9)] [(.ref b9)])) (fun _ kgo => XS.aload X267.here hx rfl (hb hby at_149) rfl rfl kgo) ?_
            refine own_go (g' := (mkF m 153 #[.val (.int p0), .val (.int p1), .val (.int p2), .val (.int p3), .val (.int p4), .val (.ref b1), .val (.ref b9), .val (.ref b12), .val (.ref b16), .val (.ref b9), .val (.int (1 : Int32)), .val (.ref b9)] [])) (fun _ kgo => XS.astore X267.here hx rfl (hb hby at_151) rfl rfl (l' := #[.val (.int p0), .val (.int p1), .val (.int p2), .val (.int p3), .val (.int p4), .val (.ref b1), .val (.ref b9), .val (.ref b12), .val (.ref b16), .val (.ref b9), .val (.int (1 : Int32)), .val (.ref b9)]) rfl kgo) ?_
            refine own_go (g' := (mkF m 154 #[.val (.int p0), .val (.int p1), .val (.int p2), .val (.int p3), .val (.int p4), .val (.ref b1), .val (.ref b9), .val (.ref b12), .val (.ref b16), .val (.ref b9), .val (.int (1 : Int32)), .val (.ref b9)] [(.int (1 : Int32))])) (fun _ kgo => XS.iconst X267.here hx rfl (hb hby at_153) kgo) ?_
            refine own_go (g' := (mkF m 156 #[.val (.int p0), .val (.int p1), .val (.int p2), .val (.int p3), .val (.int p4), .val (.ref b1), .val (.ref b9), .val (.ref b12), .val (.ref b16), .val (.ref b9), .val (.int (1 : Int32)), .val (.ref b9)] [])) (fun _ kgo => XS.istore X267.here hx rfl (hb hby at_154) rfl (l' := #[.val (.int p0), .val (.int p1), .val (.int p2), .val (.int p3), .val (.int p4), .val (.ref b1), .val (.ref b9), .val (.ref b12), .val (.ref b16), .val (.ref b9), .val (.int (1 : Int32)), .val (.ref b9)]) rfl kgo) ?_
            refine own_go (g' := (mkF m 158 #[.val (.int p0), .val (.int p1), .val (.int p2), .val (.int p3), .val (.int p4), .val (.ref b1), .val (.ref b9), .val (.ref b12), .val (.ref b16), .val (.ref b9), .val (.int (1 : Int32)), .val (.ref b9)] [(.ref b9)])) (fun _ kgo => XS.aload X267.here hx rfl (hb hby at_156) rfl rfl kgo) ?_
            obtain ⟨v271, T271, L271, hQ271, X271, st271⟩ := own_callV X267 hx hZ (y := (⟨"com/example/restlint/restlint/document/MappingNode", "applied", "()Lcom/example/restlint/restlint/document/Node;"⟩ : MethodName)) (z := (⟨"com/example/restlint/restlint/document/MappingNode", "applied", "()Lcom/example/restlint/restlint/document/Node;"⟩ : MethodName)) hown (hw _ (List.mem_of_getElem? (i := 84) rfl)) (hw _ (List.mem_of_getElem? (i := 85) rfl)) (notFace_of_selects (args := #[]) (mvT hZ (hw _ (List.mem_of_getElem? (i := 87) rfl)))) (hw _ (List.mem_of_getElem? (i := 87) rfl)) (hw _ (List.mem_of_getElem? (i := 86) rfl)) (hw _ (List.mem_of_getElem? (i := 35) rfl)) (hw _ (List.mem_of_getElem? (i := 88) rfl)) ⟨by decide, by decide⟩ (a := b9) (argsL := []) (app_rr l Z a0 hw b9 ap267 b9 T267.heap q267_1 q267_2) rfl q267_0 (g := (mkF m 158 #[.val (.int p0), .val (.int p1), .val (.int p2), .val (.int p3), .val (.int p4), .val (.ref b1), .val (.ref b9), .val (.ref b12), .val (.ref b16), .val (.ref b9), .val (.int (1 : Int32)), .val (.ref b9)] [(.ref b9)])) rfl (by rw [hml]; rfl) (rest := []) (lenOf pd0_3 rfl) rfl (hb hby at_158) (W := 0) (by show 2 * 0 + _ ≤ _; exact Nat.le_of_eq rfl) (by decide) (by decide) (by decide) (by decide)
            obtain ⟨rfl, e271, rfl⟩ := hQ271
            have N271 := Fr.app N267 (Fr.nil n0)
            refine own_go (g' := (mkF m 161 #[.val (.int p0), .val (.int p1), .val (.int p2), .val (.int p3), .val (.int p4), .val (.ref b1), .val (.ref b9), .val (.ref b12), .val (.ref b16), .val (.ref b9), .val (.int (1 : Int32)), .val (.ref b9)] [(.ref b9)])) (st271) ?_
            refine own_go (g' := (mkF m 163 #[.val (.int p0), .val (.int p1), .val (.int p2), .val (.int p3), .val (.int p4), .val (.ref b1), .val (.ref b9), .val (.ref b12), .val (.ref b16), .val (.ref b9), .val (.int (1 : Int32)), .val (.ref b9)] [(.ref b9), (.ref b9)])) (fun _ kgo => XS.aload X271.here hx rfl (hb hby at_161) rfl rfl kgo) ?_
            refine own_go (g' := (mkF m 166 #[.val (.int p0), .val (.int p1), .val (.int p2), .val (.int p3), .val (.int p4), .val (.ref b1), .val (.ref b9), .val (.ref b12), .val (.ref b16), .val (.ref b9), .val (.int (1 : Int32)), .val (.ref b9)] [])) (fun _ kgo => Jvm.RoadKit.acmp (g := (mkF m 163 #[.val (.int p0), .val (.int p1), .val (.int p2), .val (.int p3), .val (.int p4), .val (.ref b1), .val (.ref b9), .val (.ref b12), .val (.ref b16), .val (.ref b9), .val (.int (1 : Int32)), .val (.ref b9)] [(.ref b9), (.ref b9)])) X271 hx rfl rfl rfl (pc0 := 163) (pc' := 166) (same := true) rfl (hb hby at_163) rfl (decide_eq_true rfl) (by decide) (by decide) kgo) ?_
            refine own_go (g' := (mkF m 168 #[.val (.int p0), .val (.int p1), .val (.int p2), .val (.int p3), .val (.int p4), .val (.ref b1), .val (.ref b9), .val (.ref b12), .val (.ref b16), .val (.ref b9), .val (.int (1 : Int32)), .val (.ref b9)] [(.ref b9)])) (fun _ kgo => XS.aload X271.here hx rfl (hb hby at_166) rfl rfl kgo) ?_
            obtain ⟨v272, T272, L272, hQ272, X272, st272⟩ := own_callV X271 hx hZ (y := (⟨"com/example/restlint/restlint/document/MappingNode", "appliesReference", "()Z"⟩ : MethodName)) (z := (⟨"com/example/restlint/restlint/document/MappingNode", "appliesReference", "()Z"⟩ : MethodName)) hown (hw _ (List.mem_of_getElem? (i := 128) rfl)) (hw _ (List.mem_of_getElem? (i := 129) rfl)) (notFace_of_selects (args := #[]) (mvT hZ (hw _ (List.mem_of_getElem? (i := 131) rfl)))) (hw _ (List.mem_of_getElem? (i := 131) rfl)) (hw _ (List.mem_of_getElem? (i := 130) rfl)) (hw _ (List.mem_of_getElem? (i := 35) rfl)) (hw _ (List.mem_of_getElem? (i := 132) rfl)) ⟨by decide, by decide⟩ (a := b9) (argsL := []) (apl_r l Z a0 hw b9 ap267 T267.heap q267_1) e271 q267_0 (g := (mkF m 168 #[.val (.int p0), .val (.int p1), .val (.int p2), .val (.int p3), .val (.int p4), .val (.ref b1), .val (.ref b9), .val (.ref b12), .val (.ref b16), .val (.ref b9), .val (.int (1 : Int32)), .val (.ref b9)] [(.ref b9)])) rfl (by rw [hml]; rfl) (rest := []) (lenOf pd0_4 rfl) rfl (hb hby at_168) (W := 0) (by show 2 * 0 + _ ≤ _; exact Nat.le_of_eq rfl) (by decide) (by decide) (by decide) (by decide)
            obtain ⟨rfl, e272, rfl⟩ := hQ272
            have N272 := Fr.app N271 (Fr.nil n0)
            refine own_go (g' := (mkF m 171 #[.val (.int p0), .val (.int p1), .val (.int p2), .val (.int p3), .val (.int p4), .val (.ref b1), .val (.ref b9), .val (.ref b12), .val (.ref b16), .val (.ref b9), .val (.int (1 : Int32)), .val (.ref b9)] [(.int (1 : Int32))])) (st272) ?_
            refine own_go (g' := (mkF m 173 #[.val (.int p0), .val (.int p1), .val (.int p2), .val (.int p3), .val (.int p4), .val (.ref b1), .val (.ref b9), .val (.ref b12), .val (.ref b16), .val (.ref b9), .val (.int (1 : Int32)), .val (.ref b9)] [(.int (1 : Int32)), (.int (1 : Int32))])) (fun _ kgo => XS.iload X272.here hx rfl (hb hby at_171) rfl kgo) ?_
            refine own_go (g' := (mkF m 176 #[.val (.int p0), .val (.int p1), .val (.int p2), .val (.int p3), .val (.int p4), .val (.ref b1), .val (.ref b9), .val (.ref b12), .val (.ref b16), .val (.ref b9), .val (.int (1 : Int32)), .val (.ref b9)] [])) (fun _ kgo => XS.icmpNo X272.here hx rfl (hb hby at_173) rfl (teq (by decide)).2 kgo) ?_
            refine own_go (g' := (mkF m 178 #[.val (.int p0), .val (.int p1), .val (.int p2), .val (.int p3), .val (.int p4), .val (.ref b1), .val (.ref b9), .val (.ref b12), .val (.ref b16), .val (.ref b9), .val (.int (1 : Int32)), .val (.ref b9)] [(.ref b12)])) (fun _ kgo => XS.aload X272.here hx rfl (hb hby at_176) rfl rfl kgo) ?_
            have fx274 : Fld Z T267.heap b12 "com/example/restlint/restlint/document/MappingNode" "applied" "Lcom/example/restlint/restlint/document/MappingNode$Applied;" .null := (Fld.keep (Fld.keep (Fld.keep (Fld.ext E19 (Fld.ext E16 q14_1)) Kq21 (ninS ne_b12_b16 nin0)) Kq226 (ninS (Ne.symm ne_b9_b12) nin0)) Kq267 (ninS (Ne.symm ne_b9_b12) nin0))
            have fx275 : Exa Z T267.heap b12 "com/example/restlint/restlint/document/MappingNode" := (Exa.keep fx269 Kq267)
            obtain ⟨v273, T273, L273, hQ273, X273, st273⟩ := own_callV X272 hx hZ (y := (⟨"com/example/restlint/restlint/document/MappingNode", "applied", "()Lcom/example/restlint/restlint/document/Node;"⟩ : MethodName)) (z := (⟨"com/example/restlint/restlint/document/MappingNode", "applied", "()Lcom/example/restlint/restlint/document/Node;"⟩ : MethodName)) hown (hw _ (List.mem_of_getElem? (i := 84) rfl)) (hw _ (List.mem_of_getElem? (i := 85) rfl)) (notFace_of_selects (args := #[]) (mvT hZ (hw _ (List.mem_of_getElem? (i := 87) rfl)))) (hw _ (List.mem_of_getElem? (i := 87) rfl)) (hw _ (List.mem_of_getElem? (i := 86) rfl)) (hw _ (List.mem_of_getElem? (i := 35) rfl)) (hw _ (List.mem_of_getElem? (i := 88) rfl)) ⟨by decide, by decide⟩ (a := b12) (argsL := []) (app_n l Z a0 hw b12 T267.heap fx274) e272 fx275 (g := (mkF m 178 #[.val (.int p0), .val (.int p1), .val (.int p2), .val (.int p3), .val (.int p4), .val (.ref b1), .val (.ref b9), .val (.ref b12), .val (.ref b16), .val (.ref b9), .val (.int (1 : Int32)), .val (.ref b9)] [(.ref b12)])) rfl (by rw [hml]; rfl) (rest := []) (lenOf pd0_3 rfl) rfl (hb hby at_178) (W := 0) (by show 2 * 0 + _ ≤ _; exact Nat.le_of_eq rfl) (by decide) (by decide) (by decide) (by decide)
            obtain ⟨rfl, e273, rfl⟩ := hQ273
            have N273 := Fr.app N272 (Fr.nil n0)
            refine own_go (g' := (mkF m 181 #[.val (.int p0), .val (.int p1), .val (.int p2), .val (.int p3), .val (.int p4), .val (.ref b1), .val (.ref b9), .val (.ref b12), .val (.ref b16), .val (.ref b9), .val (.int (1 : Int32)), .val (.ref b9)] [.null])) (st273) ?_
            refine own_go (g' := (mkF m 184 #[.val (.int p0), .val (.int p1), .val (.int p2), .val (.int p3), .val (.int p4), .val (.ref b1), .val (.ref b9), .val (.ref b12), .val (.ref b16), .val (.ref b9), .val (.int (1 : Int32)), .val (.ref b9)] [])) (fun _ kgo => XS.ifnonnullNo X273.here hx rfl (hb hby at_181) rfl kgo) ?_
            refine own_go (g' := (mkF m 185 #[.val (.int p0), .val (.int p1), .val (.int p2), .val (.int p3), .val (.int p4), .val (.ref b1), .val (.ref b9), .val (.ref b12), .val (.ref b16), .val (.ref b9), .val (.int (1 : Int32)), .val (.ref b9)] [(.int (1 : Int32))])) (fun _ kgo => XS.iconst X273.here hx rfl (hb hby at_184) kgo) ?_
            refine own_go (g' := (mkF m 189 #[.val (.int p0), .val (.int p1), .val (.int p2), .val (.int p3), .val (.int p4), .val (.ref b1), .val (.ref b9), .val (.ref b12), .val (.ref b16), .val (.ref b9), .val (.int (1 : Int32)), .val (.ref b9)] [(.int (1 : Int32))])) (fun _ kgo => XS.goto X273.here hx rfl (pc0 := 185) (pc' := 189) rfl (hb hby at_185) (by decide) (by decide) kgo) ?_
            refine own_retNW X273 hx hS19 e273 hk267 .boolean Bd.returns Bd.notSynchronized (by simp) (hb hby at_189) (by decide) (by decide) ?_
            show QQ _ T273.heap _
            rw [e273]
            rw [← hQQ]
            exact ⟨rfl, N273⟩
  by_cases hc276 : (p2 &&& (4 : Int32)) = (0 : Int32)
  ·
    refine own_go (g' := (mkF m 58 #[.val (.int p0), .val (.int p1), .val (.int p2), .val (.int p3), .val (.int p4), .val (.ref b1), .val (.ref b9), .val (.ref b12), .unset, .unset, .unset, .unset] [(.ref b1), (.ref b19), (.ref b16), (.ref b16)])) (fun _ kgo => XS.ifYes X19.here hx rfl (pc0 := 51) (pc' := 58) rfl (hb hby at_51) rfl ((if0 _ _).trans (teq hc276).1) (by decide) (by decide) kgo) ?_
    refine own_go (g' := (mkF m 59 #[.val (.int p0), .val (.int p1), .val (.int p2), .val (.int p3), .val (.int p4), .val (.ref b1), .val (.ref b9), .val (.ref b12), .unset, .unset, .unset, .unset] [(.int (0 : Int32)), (.ref b1), (.ref b19), (.ref b16), (.ref b16)])) (fun _ kgo => XS.iconst X19.here hx rfl (hb hby at_58) kgo) ?_
    have hE20 : own_b (!decide ((p2 &&& (4 : Int32)) = (0 : Int32))) = (0 : Int32) := by simp only [decide_eq_true hc276]; first | done | rfl
    exact own_cast (by rw [hE20]) J20
  ·
    refine own_go (g' := (mkF m 54 #[.val (.int p0), .val (.int p1), .val (.int p2), .val (.int p3), .val (.int p4), .val (.ref b1), .val (.ref b9), .val (.ref b12), .unset, .unset, .unset, .unset] [(.ref b1), (.ref b19), (.ref b16), (.ref b16)])) (fun _ kgo => XS.ifNo X19.here hx rfl (hb hby at_51) rfl ((if0 _ _).trans (feq hc276).1) kgo) ?_
    refine own_go (g' := (mkF m 55 #[.val (.int p0), .val (.int p1), .val (.int p2), .val (.int p3), .val (.int p4), .val (.ref b1), .val (.ref b9), .val (.ref b12), .unset, .unset, .unset, .unset] [(.int (1 : Int32)), (.ref b1), (.ref b19), (.ref b16), (.ref b16)])) (fun _ kgo => XS.iconst X19.here hx rfl (hb hby at_54) kgo) ?_
    refine own_go (g' := (mkF m 59 #[.val (.int p0), .val (.int p1), .val (.int p2), .val (.int p3), .val (.int p4), .val (.ref b1), .val (.ref b9), .val (.ref b12), .unset, .unset, .unset, .unset] [(.int (1 : Int32)), (.ref b1), (.ref b19), (.ref b16), (.ref b16)])) (fun _ kgo => XS.goto X19.here hx rfl (pc0 := 55) (pc' := 59) rfl (hb hby at_55) (by decide) (by decide) kgo) ?_
    have hE20 : own_b (!decide ((p2 &&& (4 : Int32)) = (0 : Int32))) = (1 : Int32) := by simp only [decide_eq_false hc276]; first | done | rfl
    exact own_cast (by rw [hE20]) J20
set_option maxRecDepth 65536 in
set_option maxHeartbeats 40000000 in
theorem comes_1 {Post : Tables → Env → Array Value → State → Outcome → State → Prop} (hpost : ∀ tb e args s v u, (limb_1_1.after args s (.returned v) u = true ∧ limb_1_2.after args s (.returned v) u = true ∧ True) → ReturnedEndW s (.returned v) u (Jvm.fieldLocs frame_1_writes args s ++ Jvm.arrayLocs frame_1_arrays args s ++ Jvm.staticLocs frame_1_statics s) 32 2240 → Post tb e args s (.returned v) u) :
    ArmFor flags0 classFile x code maxLocals ret World_1 tables_1 room_1 Calls_1 rest_1 Pre_1 Post := by
  intro l hfl _ _ p e ha hc hk s m args below hf hA hF happ hP
  obtain ⟨hcalls, hrest, hpre⟩ := hP
  obtain ⟨-, -, -, hnamed, -, -, -, hat⟩ := (Spec.applies_iff hf).mp happ
  obtain ⟨hg, hn⟩ := and_e (Cond.before_iff.mp (show (Jvm.Cond.and given_1 narrow_1).before args s = true from hpre))
  obtain ⟨g1, g2⟩ := and_e hg
  obtain ⟨g3, g4⟩ := and_e g2
  obtain ⟨g5, g6⟩ := and_e g4
  obtain ⟨g7, g8⟩ := and_e g6
  obtain ⟨g9, g10⟩ := and_e g8
  obtain ⟨w0, w1, w2, w3, w4, rfl⟩ : ∃ w0 w1 w2 w3 w4 : Value, args = #[w0, w1, w2, w3, w4] := by
    have hs : args.size = 5 := by simpa [Cond.value, given_1] using g1
    obtain ⟨L⟩ := args
    match L, hs with
    | [w0, w1, w2, w3, w4], _ => exact ⟨w0, w1, w2, w3, w4, rfl⟩
  have hw := fun d (hd : d ∈ tables_1) => atoms_spec (ws := Jvm.Cond.code x code maxLocals ret :: tables_1) hat d (List.mem_cons_of_mem _ hd)
  have hfit : Fit s := fun {y c} hc i hi => by
    obtain ⟨ha, rfl⟩ := Array.getElem?_eq_some_iff.mp hc
    have q := List.all_eq_true.mp ((Array.all_eq_true_iff_forall_mem.mp hF) _ (Array.getElem_mem ha)) i (List.mem_range.mpr hi)
    simpa [Array.getElem?_eq_getElem hi] using q
  obtain ⟨hsets, hown0⟩ := atoms_of _ (rest_1_c_eq ▸ (show rest_1_c.before _ s = true from hrest))
  obtain ⟨i0, ei0⟩ := is_v g3
  obtain rfl : w0 = (.int i0) := Option.some.inj ei0
  obtain ⟨i1, ei1⟩ := is_v g5
  obtain rfl : w1 = (.int i1) := Option.some.inj ei1
  obtain ⟨i2, ei2⟩ := is_v g7
  obtain rfl : w2 = (.int i2) := Option.some.inj ei2
  obtain ⟨i3, ei3⟩ := is_v g9
  obtain rfl : w3 = (.int i3) := Option.some.inj ei3
  obtain ⟨i4, ei4⟩ := is_v g10
  obtain rfl : w4 = (.int i4) := Option.some.inj ei4
  obtain ⟨ea, hea⟩ := arr_v (Cond.before_iff.mp (hsets _ (List.mem_of_getElem? (i := 6) rfl)))
  have S8 : Sta s s.heap "java/util/ArrayList" "DEFAULTCAPACITY_EMPTY_ELEMENTDATA" "[Ljava/lang/Object;" (.ref ea) := Sta.start hea (Or.inr ⟨(hw _ (List.mem_of_getElem? (i := 42) rfl)), (hsets _ (List.mem_of_getElem? (i := 2) rfl))⟩)
  obtain ⟨n, o, h1, h2, h3, _, L, rfl, ⟨rfl, N⟩, hq⟩ := rm0 l s _ hw i0 i1 i2 i3 i4 ea s.heap s.heap.size (Nat.le_refl _) (Old.start s) S8 p e ha hc hk s m _ below hf ((Spec.applies_iff_loose hf).mp happ).1 ⟨rfl, State.Warmed39.refl s, rfl⟩ trivial
  refine ⟨n, _, h1, h2, h3, hpost _ _ _ _ _ _ ⟨Cond.after_iff.mpr rfl, Cond.after_iff.mpr (eq_i res_at (Term.int_eval (1)) rfl), trivial⟩ ⟨hq.1, hq.2.1, hq.2.2.1, (hq.2.2.2.sift fun y hy => Or.inr (N y hy)).mono (by decide) (by decide)⟩⟩
theorem main_1_1 : Claimed_1_1 := comes_1 fun _ _ _ _ _ _ h hF => ⟨h.1, hF⟩
theorem main_1_2 : Claimed_1_2 := comes_1 fun _ _ _ _ _ _ h hF => ⟨h.2.1, hF⟩
end Jvm.Pilot.@@N@@
namespace Jvm.Pilot.@@N@@
open Jvm Jvm.ClassFile Sem Op Lib Jvm.Free Jvm.Stand Jvm.Pilot.@@N@@.Jvm.D
/-! MADE BY PROGRAM (witnessworld.py) out of the Statement's table words and the real class files: 31 classes; the members and pool entries that the words name. The judged class is class 1, her method 2. -/
namespace start1
open Jvm.ClassFile
def u (s : String) : CpInfo := .utf8 (stringToUtf16 s)
/-- a pool by its gaps: so many unusable entries, then the entry; so many at the end -/
def gap : Nat → List CpInfo → List CpInfo
  | 0, r => r
  | n + 1, r => .unusable :: gap n r
def poolList (es : List (Nat × CpInfo)) (last : Nat) : List CpInfo := es.foldr (fun e r => gap e.1 (e.2 :: r)) (gap last [])
def pool (es : List (Nat × CpInfo)) (last : Nat) : Array CpInfo := ⟨poolList es last⟩
def fileOf (pool : Array CpInfo) (this : Nat) (attrs : Array Attribute := #[]) (ms : Array MethodInfo := #[]) (fl : Nat := 33) (sup : Nat := 0) (ifs : Array Nat := #[]) (fds : Array FieldInfo := #[]) : ClassFile where
  minorVersion := 0
  majorVersion := 65
  constantPool := pool
  accessFlags := fl
  thisClass := this
  superClass := sup
  interfaces := ifs
  fields := fds
  methods := ms
  attributes := attrs
def plain (name : String) (sup : Option ClassId) : Class where
  name := name
  kind := .ordinary
  loader := none
  accessFlags := 33
  super := sup
  interfaces := #[]
  cf := none
  fields := #[]
  methods := #[]
  instanceTypes := #[]
  staticTypes := #[]
  resolved := #[]
  callSites := []
  init := .initialized
  statics := none
  mirror := none

def pool0 : Array CpInfo := pool [(5, u "<init>"), (0, u "()V"), (1, .class_ 10), (1, u "java/lang/Object")] 113

def k0c0 : Code := { maxStack := 0, maxLocals := 1, code := object_method_1_code, exceptionTable := #[], attributes := #[] }
def k0m0 : Method := { name := "<init>", desc := "()V", sig := { parameters := [], returnType := none }, accessFlags := 1, code := some k0c0 }
/-- java/lang/Object -/
def k0 : Class := { plain "java/lang/Object" none with
  accessFlags := 33
  interfaces := #[]
  cf := some (fileOf pool0 8 #[] #[{ accessFlags := 1, nameIndex := 5, descriptorIndex := 6, attributes := #[] }] 33 0 #[] #[])
  fields := #[]
  methods := #[k0m0]
  instanceTypes := #[]
  staticTypes := #[]
  resolved := Array.replicate 124 none
  statics := none }

def pool1 : Array CpInfo := pool [(2, .class_ 4), (1, u "java/lang/Object"), (0, u "<init>"), (0, u "()V"), (0, .class_ 8), (0, u "com/example/restlint/restlint/document/Location"), (0, .string 10), (0, u "f"), (0, .methodref 7 12), (0, .nameAndType 5 13), (0, u "(Ljava/lang/String;II)V"), (0, .class_ 15), (0, u "com/example/restlint/restlint/document/MappingNode"), (0, .methodref 14 17), (0, .nameAndType 5 18), (0, u "(Lcom/example/restlint/restlint/document/Location;Lcom/example/restlint/restlint/document/Location;)V"), (0, .class_ 20), (0, u "com/example/restlint/restlint/document/ScalarNode"), (0, .string 22), (0, u "s"), (0, .methodref 19 24), (0, .nameAndType 5 25), (0, u "(Ljava/lang/String;Lcom/example/restlint/restlint/document/Location;Z)V"), (0, .methodref 14 27), (0, .nameAndType 28 29), (0, u "applied"), (0, u "()Lcom/example/restlint/restlint/document/Node;"), (0, .methodref 31 32), (0, .class_ 33), (0, .nameAndType 34 35), (0, u "com/example/restlint/restlint/document/MappingNodeAppliedPinLaw"), (0, u "pick"), (0, u "(ILcom/example/restlint/restlint/document/Node;Lcom/example/restlint/restlint/document/Node;Lcom/example/restlint/restlint/document/Node;)Lcom/example/restlint/restlint/document/Node;"), (0, .methodref 14 37), (0, .nameAndType 38 39), (0, u "applyReference"), (0, u "(Lcom/example/restlint/restlint/document/Node;)V"), (0, .methodref 14 41), (0, .nameAndType 42 43), (0, u "appliesReference"), (0, u "()Z"), (3, u "law"), (0, u "(IIIII)Z")] 6

def k1m0 : Method := { name := "<init>", desc := "()V", sig := { parameters := [], returnType := none }, accessFlags := 1, code := none }
def k1c1 : Code := { maxStack := 2, maxLocals := 5, code := method_2_code, exceptionTable := #[], attributes := #[] }
def k1m1 : Method := { name := "pick", desc := "(ILcom/example/restlint/restlint/document/Node;Lcom/example/restlint/restlint/document/Node;Lcom/example/restlint/restlint/document/Node;)Lcom/example/restlint/restlint/document/Node;", sig := { parameters := [.int, (.object "com/example/restlint/restlint/document/Node"), (.object "com/example/restlint/restlint/document/Node"), (.object "com/example/restlint/restlint/document/Node")], returnType := some (.object "com/example/restlint/restlint/document/Node") }, accessFlags := 10, code := some k1c1 }
def k1c2 : Code := { maxStack := 6, maxLocals := 12, code := code, exceptionTable := #[], attributes := #[] }
def k1m2 : Method := { name := "law", desc := "(IIIII)Z", sig := { parameters := [.int, .int, .int, .int, .int], returnType := some .boolean }, accessFlags := 9, code := some k1c2 }
/-- com/example/restlint/restlint/document/MappingNodeAppliedPinLaw -/
def k1 : Class := { plain "com/example/restlint/restlint/document/MappingNodeAppliedPinLaw" (some 0) with
  accessFlags := 49
  interfaces := #[]
  cf := some (fileOf pool1 31 #[] #[{ accessFlags := 1, nameIndex := 5, descriptorIndex := 6, attributes := #[] }, { accessFlags := 10, nameIndex := 34, descriptorIndex := 35, attributes := #[] }, { accessFlags := 9, nameIndex := 47, descriptorIndex := 48, attributes := #[] }] 49 2 #[] #[])
  fields := #[]
  methods := #[k1m0, k1m1, k1m2]
  instanceTypes := #[]
  staticTypes := #[]
  resolved := Array.replicate 55 none
  statics := none }

def pool2 : Array CpInfo := pool [(1, .methodref 2 3), (0, .class_ 4), (0, .nameAndType 5 6), (0, u "java/lang/Object"), (0, u "<init>"), (0, u "()V"), (0, .class_ 8), (0, u "java/lang/Record")] 13

def k2c0 : Code := { maxStack := 1, maxLocals := 1, code := jdk_30_method_1_code, exceptionTable := #[], attributes := #[] }
def k2m0 : Method := { name := "<init>", desc := "()V", sig := { parameters := [], returnType := none }, accessFlags := 4, code := some k2c0 }
/-- java/lang/Record -/
def k2 : Class := { plain "java/lang/Record" (some 0) with
  accessFlags := 1057
  interfaces := #[]
  cf := some (fileOf pool2 7 #[] #[{ accessFlags := 4, nameIndex := 5, descriptorIndex := 6, attributes := #[] }] 1057 2 #[] #[])
  fields := #[]
  methods := #[k2m0]
  instanceTypes := #[]
  staticTypes := #[]
  resolved := Array.replicate 22 none
  statics := none }

def pool3 : Array CpInfo := pool [(1, .methodref 2 3), (0, .class_ 4), (0, .nameAndType 5 6), (0, u "java/lang/Record"), (0, u "<init>"), (0, u "()V"), (0, .fieldref 8 9), (0, .class_ 10), (0, .nameAndType 11 12), (0, u "com/example/restlint/restlint/document/Location"), (0, u "file"), (0, u "Ljava/lang/String;"), (0, .fieldref 8 14), (0, .nameAndType 15 16), (0, u "line"), (0, u "I"), (0, .fieldref 8 18), (0, .nameAndType 19 16), (0, u "column"), (0, .fieldref 8 21), (0, .nameAndType 22 23), (0, u "pointer"), (0, u "Lcom/example/restlint/restlint/document/JsonPointer;"), (0, .methodref 8 25), (0, .nameAndType 5 26), (0, u "(Ljava/lang/String;IILcom/example/restlint/restlint/document/JsonPointer;)V"), (55, u "ORDER"), (0, u "Ljava/util/Comparator;"), (2, u "(Ljava/lang/String;II)V")] 58

def k3c0 : Code := { maxStack := 5, maxLocals := 4, code := prog_42_method_1_code, exceptionTable := #[], attributes := #[] }
def k3m0 : Method := { name := "<init>", desc := "(Ljava/lang/String;II)V", sig := { parameters := [(.object "java/lang/String"), .int, .int], returnType := none }, accessFlags := 1, code := some k3c0 }
def k3c1 : Code := { maxStack := 2, maxLocals := 5, code := prog_42_method_2_code, exceptionTable := #[], attributes := #[] }
def k3m1 : Method := { name := "<init>", desc := "(Ljava/lang/String;IILcom/example/restlint/restlint/document/JsonPointer;)V", sig := { parameters := [(.object "java/lang/String"), .int, .int, (.object "com/example/restlint/restlint/document/JsonPointer")], returnType := none }, accessFlags := 1, code := some k3c1 }
/-- com/example/restlint/restlint/document/Location -/
def k3 : Class := { plain "com/example/restlint/restlint/document/Location" (some 2) with
  accessFlags := 49
  interfaces := #[]
  cf := some (fileOf pool3 8 #[] #[{ accessFlags := 1, nameIndex := 5, descriptorIndex := 86, attributes := #[] }, { accessFlags := 1, nameIndex := 5, descriptorIndex := 26, attributes := #[] }] 49 2 #[] #[{ accessFlags := 18, nameIndex := 11, descriptorIndex := 12, attributes := #[] }, { accessFlags := 18, nameIndex := 15, descriptorIndex := 16, attributes := #[] }, { accessFlags := 18, nameIndex := 19, descriptorIndex := 16, attributes := #[] }, { accessFlags := 18, nameIndex := 22, descriptorIndex := 23, attributes := #[] }, { accessFlags := 25, nameIndex := 82, descriptorIndex := 83, attributes := #[] }])
  fields := #[{ name := "file", type := (.object "java/lang/String"), accessFlags := 18, slot := 0, constantValue := 0 }, { name := "line", type := .int, accessFlags := 18, slot := 1, constantValue := 0 }, { name := "column", type := .int, accessFlags := 18, slot := 2, constantValue := 0 }, { name := "pointer", type := (.object "com/example/restlint/restlint/document/JsonPointer"), accessFlags := 18, slot := 3, constantValue := 0 }, { name := "ORDER", type := (.object "java/util/Comparator"), accessFlags := 25, slot := 0, constantValue := 0 }]
  methods := #[k3m0, k3m1]
  instanceTypes := #[(.object "java/lang/String"), .int, .int, (.object "com/example/restlint/restlint/document/JsonPointer")]
  staticTypes := #[(.object "java/util/Comparator")]
  resolved := Array.replicate 145 none
  statics := none }

def pool4 : Array CpInfo := pool [(1, .class_ 2), (0, u "java/io/Serializable"), (0, .class_ 4), (0, u "java/lang/Object")] 2

/-- java/io/Serializable -/
def k4 : Class := { plain "java/io/Serializable" (some 0) with
  accessFlags := 1537
  interfaces := #[]
  cf := some (fileOf pool4 1 #[] #[] 1537 3 #[] #[])
  fields := #[]
  methods := #[]
  instanceTypes := #[]
  staticTypes := #[]
  resolved := Array.replicate 7 none
  statics := none }

def pool5 : Array CpInfo := pool [(1, .class_ 2), (0, u "java/lang/Comparable"), (0, .class_ 4), (0, u "java/lang/Object")] 7

/-- java/lang/Comparable -/
def k5 : Class := { plain "java/lang/Comparable" (some 0) with
  accessFlags := 1537
  interfaces := #[]
  cf := some (fileOf pool5 1 #[] #[] 1537 3 #[] #[])
  fields := #[]
  methods := #[]
  instanceTypes := #[]
  staticTypes := #[]
  resolved := Array.replicate 12 none
  statics := none }

def pool6 : Array CpInfo := pool [(2, .class_ 4), (1, u "java/lang/CharSequence"), (42, .class_ 48), (0, u "java/lang/CharSequence$1CodePointIterator"), (10, .class_ 60), (0, u "java/lang/CharSequence$1CharIterator"), (5, .class_ 67), (0, u "java/lang/Object")] 63

/-- java/lang/CharSequence -/
def k6 : Class := { plain "java/lang/CharSequence" (some 0) with
  accessFlags := 1537
  interfaces := #[]
  cf := some (fileOf pool6 2 #[.nestMembers #[47, 59]] #[] 1537 66 #[] #[])
  fields := #[]
  methods := #[]
  instanceTypes := #[]
  staticTypes := #[]
  resolved := Array.replicate 131 none
  statics := none }

def pool7 : Array CpInfo := pool [(1, .class_ 2), (0, u "java/lang/constant/Constable"), (0, .class_ 4), (0, u "java/lang/Object")] 6

/-- java/lang/constant/Constable -/
def k7 : Class := { plain "java/lang/constant/Constable" (some 0) with
  accessFlags := 1537
  interfaces := #[]
  cf := some (fileOf pool7 1 #[] #[] 1537 3 #[] #[])
  fields := #[]
  methods := #[]
  instanceTypes := #[]
  staticTypes := #[]
  resolved := Array.replicate 11 none
  statics := none }

def pool8 : Array CpInfo := pool [(1, .class_ 2), (0, u "java/lang/constant/ConstantDesc"), (0, .class_ 4), (0, u "java/lang/Object")] 32

/-- java/lang/constant/ConstantDesc -/
def k8 : Class := { plain "java/lang/constant/ConstantDesc" (some 0) with
  accessFlags := 1537
  interfaces := #[]
  cf := some (fileOf pool8 1 #[] #[] 1537 3 #[] #[])
  fields := #[]
  methods := #[]
  instanceTypes := #[]
  staticTypes := #[]
  resolved := Array.replicate 37 none
  statics := none }

def pool9 : Array CpInfo := pool [(2, .class_ 4), (1, u "java/lang/Object"), (0, u "<init>"), (0, u "()V"), (3, .class_ 12), (1, u "java/lang/String"), (0, u "value"), (0, u "[B"), (2, u "coder"), (0, u "B"), (2, u "hash"), (0, u "I"), (2, u "hashIsZero"), (0, u "Z"), (13, u "COMPACT_STRINGS"), (534, .class_ 576), (0, u "java/lang/CharSequence"), (22, u "CASE_INSENSITIVE_ORDER"), (0, u "Ljava/util/Comparator;"), (500, u "serialPersistentFields"), (0, u "[Ljava/io/ObjectStreamField;"), (0, .class_ 1104), (0, u "java/lang/String$CaseInsensitiveComparator"), (1, .class_ 1107), (0, u "java/io/Serializable"), (0, .class_ 1109), (0, u "java/lang/Comparable"), (0, .class_ 1111), (0, u "java/lang/constant/Constable"), (0, .class_ 1113), (0, u "java/lang/constant/ConstantDesc"), (2, u "serialVersionUID"), (0, u "J"), (3, u "REPL"), (0, u "C"), (2, u "LATIN1"), (1, u "UTF16")] 323

def k9m0 : Method := { name := "<init>", desc := "()V", sig := { parameters := [], returnType := none }, accessFlags := 1, code := none }
/-- java/lang/String -/
def k9 : Class := { plain "java/lang/String" (some 0) with
  accessFlags := 49
  interfaces := #[4, 5, 6, 7, 8]
  cf := some (fileOf pool9 10 #[.nestMembers #[1103]] #[{ accessFlags := 1, nameIndex := 5, descriptorIndex := 6, attributes := #[] }] 49 2 #[1106, 1108, 575, 1110, 1112] #[{ accessFlags := 18, nameIndex := 13, descriptorIndex := 14, attributes := #[] }, { accessFlags := 18, nameIndex := 17, descriptorIndex := 18, attributes := #[] }, { accessFlags := 2, nameIndex := 21, descriptorIndex := 22, attributes := #[] }, { accessFlags := 2, nameIndex := 25, descriptorIndex := 26, attributes := #[] }, { accessFlags := 26, nameIndex := 1116, descriptorIndex := 1117, attributes := #[] }, { accessFlags := 24, nameIndex := 40, descriptorIndex := 26, attributes := #[] }, { accessFlags := 26, nameIndex := 1101, descriptorIndex := 1102, attributes := #[] }, { accessFlags := 26, nameIndex := 1121, descriptorIndex := 1122, attributes := #[] }, { accessFlags := 25, nameIndex := 599, descriptorIndex := 600, attributes := #[] }, { accessFlags := 24, nameIndex := 1125, descriptorIndex := 18, attributes := #[] }, { accessFlags := 24, nameIndex := 1127, descriptorIndex := 18, attributes := #[] }])
  fields := #[{ name := "value", type := (.array .byte), accessFlags := 18, slot := 0, constantValue := 0 }, { name := "coder", type := .byte, accessFlags := 18, slot := 1, constantValue := 0 }, { name := "hash", type := .int, accessFlags := 2, slot := 2, constantValue := 0 }, { name := "hashIsZero", type := .boolean, accessFlags := 2, slot := 3, constantValue := 0 }, { name := "serialVersionUID", type := .long, accessFlags := 26, slot := 0, constantValue := 0 }, { name := "COMPACT_STRINGS", type := .boolean, accessFlags := 24, slot := 1, constantValue := 0 }, { name := "serialPersistentFields", type := (.array (.object "java/io/ObjectStreamField")), accessFlags := 26, slot := 2, constantValue := 0 }, { name := "REPL", type := .char, accessFlags := 26, slot := 3, constantValue := 0 }, { name := "CASE_INSENSITIVE_ORDER", type := (.object "java/util/Comparator"), accessFlags := 25, slot := 4, constantValue := 0 }, { name := "LATIN1", type := .byte, accessFlags := 24, slot := 5, constantValue := 0 }, { name := "UTF16", type := .byte, accessFlags := 24, slot := 6, constantValue := 0 }]
  methods := #[k9m0]
  instanceTypes := #[(.array .byte), .byte, .int, .boolean]
  staticTypes := #[.long, .boolean, (.array (.object "java/io/ObjectStreamField")), .char, (.object "java/util/Comparator"), .byte, .byte]
  resolved := Array.replicate 1451 none
  statics := none }

def pool10 : Array CpInfo := pool [(1, .class_ 2), (0, u "com/example/restlint/restlint/document/Node"), (0, .class_ 4), (0, u "java/lang/Object")] 11

/-- com/example/restlint/restlint/document/Node -/
def k10 : Class := { plain "com/example/restlint/restlint/document/Node" (some 0) with
  accessFlags := 1537
  interfaces := #[]
  cf := some (fileOf pool10 1 #[] #[] 1537 3 #[] #[])
  fields := #[]
  methods := #[]
  instanceTypes := #[]
  staticTypes := #[]
  resolved := Array.replicate 16 none
  statics := none }

def pool11 : Array CpInfo := pool [(1, .methodref 2 3), (0, .class_ 4), (0, .nameAndType 5 6), (0, u "java/lang/Object"), (0, u "<init>"), (0, u "()V"), (0, .class_ 8), (0, u "java/util/ArrayList"), (0, .methodref 7 3), (0, .fieldref 11 12), (0, .class_ 13), (0, .nameAndType 14 15), (0, u "com/example/restlint/restlint/document/MappingNode"), (0, u "entries"), (0, u "Ljava/util/List;"), (0, .fieldref 11 17), (0, .nameAndType 18 19), (0, u "location"), (0, u "Lcom/example/restlint/restlint/document/Location;"), (0, .fieldref 11 21), (0, .nameAndType 22 19), (0, u "writtenAt"), (2, u "index"), (0, u "Ljava/util/Map;"), (6, .class_ 34), (0, u "com/example/restlint/restlint/document/MappingNode$Entry"), (26, u "()Lcom/example/restlint/restlint/document/Node;"), (5, u "()Z"), (5, u "schemaAnswers"), (0, u "Lcom/example/restlint/restlint/description/SchemaSearch$Answers;"), (3, .fieldref 11 79), (0, .nameAndType 80 81), (0, u "applied"), (0, u "Lcom/example/restlint/restlint/document/MappingNode$Applied;"), (4, .fieldref 87 88), (0, .class_ 89), (0, .nameAndType 90 91), (0, u "com/example/restlint/restlint/document/MappingNode$Applied"), (0, u "target"), (0, u "Lcom/example/restlint/restlint/document/Node;"), (44, .methodref 87 137), (0, .nameAndType 5 138), (0, u "(Lcom/example/restlint/restlint/document/Node;)V"), (23, .class_ 163), (0, u "com/example/restlint/restlint/document/Node"), (7, u "REFERENCE_KEY"), (0, u "Ljava/lang/String;"), (1, u "UNINDEXED_ENTRIES"), (0, u "I"), (4, u "(Lcom/example/restlint/restlint/document/Location;Lcom/example/restlint/restlint/document/Location;)V"), (9, u "appliesReference"), (3, u "applyReference")] 14

def k11c0 : Code := { maxStack := 3, maxLocals := 3, code := prog_43_method_1_code, exceptionTable := #[], attributes := #[] }
def k11m0 : Method := { name := "<init>", desc := "(Lcom/example/restlint/restlint/document/Location;Lcom/example/restlint/restlint/document/Location;)V", sig := { parameters := [(.object "com/example/restlint/restlint/document/Location"), (.object "com/example/restlint/restlint/document/Location")], returnType := none }, accessFlags := 0, code := some k11c0 }
def k11c1 : Code := { maxStack := 1, maxLocals := 1, code := prog_43_method_10_code, exceptionTable := #[], attributes := #[] }
def k11m1 : Method := { name := "appliesReference", desc := "()Z", sig := { parameters := [], returnType := some .boolean }, accessFlags := 1, code := some k11c1 }
def k11c2 : Code := { maxStack := 1, maxLocals := 1, code := prog_43_method_11_code, exceptionTable := #[], attributes := #[] }
def k11m2 : Method := { name := "applied", desc := "()Lcom/example/restlint/restlint/document/Node;", sig := { parameters := [], returnType := some (.object "com/example/restlint/restlint/document/Node") }, accessFlags := 1, code := some k11c2 }
def k11c3 : Code := { maxStack := 4, maxLocals := 2, code := prog_43_method_15_code, exceptionTable := #[], attributes := #[] }
def k11m3 : Method := { name := "applyReference", desc := "(Lcom/example/restlint/restlint/document/Node;)V", sig := { parameters := [(.object "com/example/restlint/restlint/document/Node")], returnType := none }, accessFlags := 1, code := some k11c3 }
/-- com/example/restlint/restlint/document/MappingNode -/
def k11 : Class := { plain "com/example/restlint/restlint/document/MappingNode" (some 0) with
  accessFlags := 49
  interfaces := #[10]
  cf := some (fileOf pool11 11 #[.nestMembers #[87, 33]] #[{ accessFlags := 0, nameIndex := 5, descriptorIndex := 180, attributes := #[] }, { accessFlags := 1, nameIndex := 190, descriptorIndex := 67, attributes := #[] }, { accessFlags := 1, nameIndex := 80, descriptorIndex := 61, attributes := #[] }, { accessFlags := 1, nameIndex := 194, descriptorIndex := 138, attributes := #[] }] 49 2 #[162] #[{ accessFlags := 26, nameIndex := 171, descriptorIndex := 172, attributes := #[] }, { accessFlags := 25, nameIndex := 174, descriptorIndex := 175, attributes := #[] }, { accessFlags := 2, nameIndex := 14, descriptorIndex := 15, attributes := #[] }, { accessFlags := 2, nameIndex := 25, descriptorIndex := 26, attributes := #[] }, { accessFlags := 18, nameIndex := 18, descriptorIndex := 19, attributes := #[] }, { accessFlags := 18, nameIndex := 22, descriptorIndex := 19, attributes := #[] }, { accessFlags := 2, nameIndex := 80, descriptorIndex := 81, attributes := #[] }, { accessFlags := 2, nameIndex := 73, descriptorIndex := 74, attributes := #[] }])
  fields := #[{ name := "REFERENCE_KEY", type := (.object "java/lang/String"), accessFlags := 26, slot := 0, constantValue := 0 }, { name := "UNINDEXED_ENTRIES", type := .int, accessFlags := 25, slot := 1, constantValue := 0 }, { name := "entries", type := (.object "java/util/List"), accessFlags := 2, slot := 0, constantValue := 0 }, { name := "index", type := (.object "java/util/Map"), accessFlags := 2, slot := 1, constantValue := 0 }, { name := "location", type := (.object "com/example/restlint/restlint/document/Location"), accessFlags := 18, slot := 2, constantValue := 0 }, { name := "writtenAt", type := (.object "com/example/restlint/restlint/document/Location"), accessFlags := 18, slot := 3, constantValue := 0 }, { name := "applied", type := (.object "com/example/restlint/restlint/document/MappingNode$Applied"), accessFlags := 2, slot := 4, constantValue := 0 }, { name := "schemaAnswers", type := (.object "com/example/restlint/restlint/description/SchemaSearch$Answers"), accessFlags := 2, slot := 5, constantValue := 0 }]
  methods := #[k11m0, k11m1, k11m2, k11m3]
  instanceTypes := #[(.object "java/util/List"), (.object "java/util/Map"), (.object "com/example/restlint/restlint/document/Location"), (.object "com/example/restlint/restlint/document/Location"), (.object "com/example/restlint/restlint/document/MappingNode$Applied"), (.object "com/example/restlint/restlint/description/SchemaSearch$Answers")]
  staticTypes := #[(.object "java/lang/String"), .int]
  resolved := Array.replicate 209 none
  statics := none }

def pool12 : Array CpInfo := pool [(8, .class_ 10), (1, u "java/lang/Iterable"), (24, .class_ 36), (0, u "java/lang/Object")] 25

/-- java/lang/Iterable -/
def k12 : Class := { plain "java/lang/Iterable" (some 0) with
  accessFlags := 1537
  interfaces := #[]
  cf := some (fileOf pool12 8 #[] #[] 1537 35 #[] #[])
  fields := #[]
  methods := #[]
  instanceTypes := #[]
  staticTypes := #[]
  resolved := Array.replicate 62 none
  statics := none }

def pool13 : Array CpInfo := pool [(10, .class_ 12), (1, u "java/util/Collection"), (47, .class_ 61), (0, u "java/lang/Object"), (0, .class_ 63), (0, u "java/lang/Iterable")] 51

/-- java/util/Collection -/
def k13 : Class := { plain "java/util/Collection" (some 0) with
  accessFlags := 1537
  interfaces := #[12]
  cf := some (fileOf pool13 10 #[] #[] 1537 60 #[62] #[])
  fields := #[]
  methods := #[]
  instanceTypes := #[]
  staticTypes := #[]
  resolved := Array.replicate 115 none
  statics := none }

def pool14 : Array CpInfo := pool [(1, .methodref 2 3), (0, .class_ 4), (0, .nameAndType 5 6), (0, u "java/lang/Object"), (0, u "<init>"), (0, u "()V"), (1, .class_ 10), (1, u "java/util/AbstractCollection"), (66, .class_ 78), (0, u "java/util/Collection")] 81

def k14c0 : Code := { maxStack := 1, maxLocals := 1, code := jdk_22_method_1_code, exceptionTable := #[], attributes := #[] }
def k14m0 : Method := { name := "<init>", desc := "()V", sig := { parameters := [], returnType := none }, accessFlags := 4, code := some k14c0 }
/-- java/util/AbstractCollection -/
def k14 : Class := { plain "java/util/AbstractCollection" (some 0) with
  accessFlags := 1057
  interfaces := #[13]
  cf := some (fileOf pool14 8 #[] #[{ accessFlags := 4, nameIndex := 5, descriptorIndex := 6, attributes := #[] }] 1057 2 #[77] #[])
  fields := #[]
  methods := #[k14m0]
  instanceTypes := #[]
  staticTypes := #[]
  resolved := Array.replicate 160 none
  statics := none }

def pool15 : Array CpInfo := pool [(8, .class_ 10), (1, u "java/util/SequencedCollection"), (15, .class_ 27), (0, u "java/lang/Object"), (0, .class_ 29), (0, u "java/util/Collection")] 27

/-- java/util/SequencedCollection -/
def k15 : Class := { plain "java/util/SequencedCollection" (some 0) with
  accessFlags := 1537
  interfaces := #[13]
  cf := some (fileOf pool15 8 #[] #[] 1537 26 #[28] #[])
  fields := #[]
  methods := #[]
  instanceTypes := #[]
  staticTypes := #[]
  resolved := Array.replicate 57 none
  statics := none }

def pool16 : Array CpInfo := pool [(8, .class_ 10), (1, u "java/util/List"), (92, .class_ 104), (0, u "java/lang/Object"), (15, .class_ 121), (0, u "java/util/SequencedCollection")] 129

/-- java/util/List -/
def k16 : Class := { plain "java/util/List" (some 0) with
  accessFlags := 1537
  interfaces := #[15]
  cf := some (fileOf pool16 8 #[] #[] 1537 103 #[120] #[])
  fields := #[]
  methods := #[]
  instanceTypes := #[]
  staticTypes := #[]
  resolved := Array.replicate 251 none
  statics := none }

def pool17 : Array CpInfo := pool [(1, .methodref 2 3), (0, .class_ 4), (0, .nameAndType 5 6), (0, u "java/util/AbstractCollection"), (0, u "<init>"), (0, u "()V"), (0, .fieldref 8 9), (0, .class_ 10), (0, .nameAndType 11 12), (0, u "java/util/AbstractList"), (0, u "modCount"), (0, u "I"), (64, .class_ 78), (0, u "java/util/AbstractList$Itr"), (3, .class_ 83), (0, u "java/util/AbstractList$ListItr"), (9, .class_ 94), (0, u "java/util/AbstractList$RandomAccessSubList"), (3, .class_ 99), (0, u "java/util/AbstractList$SubList"), (33, .class_ 134), (0, u "java/util/List"), (73, .class_ 209), (0, u "java/util/AbstractList$SubList$1"), (0, .class_ 211), (0, u "java/util/AbstractList$RandomAccessSpliterator")] 6

def k17c0 : Code := { maxStack := 2, maxLocals := 1, code := jdk_39_method_1_code, exceptionTable := #[], attributes := #[] }
def k17m0 : Method := { name := "<init>", desc := "()V", sig := { parameters := [], returnType := none }, accessFlags := 4, code := some k17c0 }
/-- java/util/AbstractList -/
def k17 : Class := { plain "java/util/AbstractList" (some 14) with
  accessFlags := 1057
  interfaces := #[16]
  cf := some (fileOf pool17 8 #[.nestMembers #[93, 98, 208, 210, 82, 77]] #[{ accessFlags := 4, nameIndex := 5, descriptorIndex := 6, attributes := #[] }] 1057 2 #[133] #[{ accessFlags := 132, nameIndex := 11, descriptorIndex := 12, attributes := #[] }])
  fields := #[{ name := "modCount", type := .int, accessFlags := 132, slot := 0, constantValue := 0 }]
  methods := #[k17m0]
  instanceTypes := #[.int]
  staticTypes := #[]
  resolved := Array.replicate 218 none
  statics := none }

def pool18 : Array CpInfo := pool [(1, .class_ 2), (0, u "java/util/RandomAccess"), (0, .class_ 4), (0, u "java/lang/Object")] 2

/-- java/util/RandomAccess -/
def k18 : Class := { plain "java/util/RandomAccess" (some 0) with
  accessFlags := 1537
  interfaces := #[]
  cf := some (fileOf pool18 1 #[] #[] 1537 3 #[] #[])
  fields := #[]
  methods := #[]
  instanceTypes := #[]
  staticTypes := #[]
  resolved := Array.replicate 7 none
  statics := none }

def pool19 : Array CpInfo := pool [(1, .class_ 2), (0, u "java/lang/Cloneable"), (0, .class_ 4), (0, u "java/lang/Object")] 2

/-- java/lang/Cloneable -/
def k19 : Class := { plain "java/lang/Cloneable" (some 0) with
  accessFlags := 1537
  interfaces := #[]
  cf := some (fileOf pool19 1 #[] #[] 1537 3 #[] #[])
  fields := #[]
  methods := #[]
  instanceTypes := #[]
  staticTypes := #[]
  resolved := Array.replicate 7 none
  statics := none }

def pool20 : Array CpInfo := pool [(1, .methodref 2 3), (0, .class_ 4), (0, .nameAndType 5 6), (0, u "java/util/AbstractList"), (0, u "<init>"), (0, u "()V"), (2, .fieldref 10 11), (0, .class_ 12), (0, .nameAndType 13 14), (0, u "java/util/ArrayList"), (0, u "elementData"), (0, u "[Ljava/lang/Object;"), (2, u "EMPTY_ELEMENTDATA"), (21, .fieldref 10 40), (0, .nameAndType 41 14), (0, u "DEFAULTCAPACITY_EMPTY_ELEMENTDATA"), (8, u "size"), (0, u "I"), (96, .class_ 149), (0, u "java/util/List"), (112, .class_ 263), (0, u "java/util/ArrayList$ListItr"), (3, .class_ 268), (0, u "java/util/ArrayList$Itr"), (7, .class_ 277), (0, u "java/util/ArrayList$SubList"), (12, .class_ 291), (0, u "java/util/ArrayList$ArrayListSpliterator"), (37, .class_ 330), (0, u "java/util/RandomAccess"), (0, .class_ 332), (0, u "java/lang/Cloneable"), (0, .class_ 334), (0, u "java/io/Serializable"), (0, u "serialVersionUID"), (0, u "J"), (3, u "DEFAULT_CAPACITY"), (159, .class_ 501), (0, u "java/util/ArrayList$SubList$2"), (0, .class_ 503), (0, u "java/util/ArrayList$SubList$1")] 5

def k20c0 : Code := { maxStack := 2, maxLocals := 1, code := jdk_38_method_2_code, exceptionTable := #[], attributes := #[] }
def k20m0 : Method := { name := "<init>", desc := "()V", sig := { parameters := [], returnType := none }, accessFlags := 1, code := some k20c0 }
/-- java/util/ArrayList -/
def k20 : Class := { plain "java/util/ArrayList" (some 17) with
  accessFlags := 33
  interfaces := #[16, 18, 19, 4]
  cf := some (fileOf pool20 10 #[.nestMembers #[290, 276, 500, 502, 262, 267]] #[{ accessFlags := 1, nameIndex := 5, descriptorIndex := 6, attributes := #[] }] 33 2 #[148, 329, 331, 333] #[{ accessFlags := 26, nameIndex := 335, descriptorIndex := 336, attributes := #[] }, { accessFlags := 26, nameIndex := 340, descriptorIndex := 51, attributes := #[] }, { accessFlags := 26, nameIndex := 17, descriptorIndex := 14, attributes := #[] }, { accessFlags := 26, nameIndex := 41, descriptorIndex := 14, attributes := #[] }, { accessFlags := 128, nameIndex := 13, descriptorIndex := 14, attributes := #[] }, { accessFlags := 2, nameIndex := 50, descriptorIndex := 51, attributes := #[] }])
  fields := #[{ name := "serialVersionUID", type := .long, accessFlags := 26, slot := 0, constantValue := 0 }, { name := "DEFAULT_CAPACITY", type := .int, accessFlags := 26, slot := 1, constantValue := 0 }, { name := "EMPTY_ELEMENTDATA", type := (.array (.object "java/lang/Object")), accessFlags := 26, slot := 2, constantValue := 0 }, { name := "DEFAULTCAPACITY_EMPTY_ELEMENTDATA", type := (.array (.object "java/lang/Object")), accessFlags := 26, slot := 3, constantValue := 0 }, { name := "elementData", type := (.array (.object "java/lang/Object")), accessFlags := 128, slot := 1, constantValue := 0 }, { name := "size", type := .int, accessFlags := 2, slot := 2, constantValue := 0 }]
  methods := #[k20m0]
  instanceTypes := #[.int, (.array (.object "java/lang/Object")), .int]
  staticTypes := #[.long, .int, (.array (.object "java/lang/Object")), (.array (.object "java/lang/Object"))]
  resolved := Array.replicate 509 none
  statics := some 0 }

def pool21 : Array CpInfo := pool [(1, .methodref 2 3), (0, .class_ 4), (0, .nameAndType 5 6), (0, u "java/lang/Record"), (0, u "<init>"), (0, u "()V"), (0, .fieldref 8 9), (0, .class_ 10), (0, .nameAndType 11 12), (0, u "com/example/restlint/restlint/document/ScalarNode"), (0, u "text"), (0, u "Ljava/lang/String;"), (0, .fieldref 8 14), (0, .nameAndType 15 16), (0, u "location"), (0, u "Lcom/example/restlint/restlint/document/Location;"), (0, .fieldref 8 18), (0, .nameAndType 19 20), (0, u "isNull"), (0, u "Z"), (12, .class_ 34), (0, u "com/example/restlint/restlint/document/Node"), (0, u "(Ljava/lang/String;Lcom/example/restlint/restlint/document/Location;Z)V")] 30

def k21c0 : Code := { maxStack := 2, maxLocals := 4, code := prog_48_method_1_code, exceptionTable := #[], attributes := #[] }
def k21m0 : Method := { name := "<init>", desc := "(Ljava/lang/String;Lcom/example/restlint/restlint/document/Location;Z)V", sig := { parameters := [(.object "java/lang/String"), (.object "com/example/restlint/restlint/document/Location"), .boolean], returnType := none }, accessFlags := 1, code := some k21c0 }
/-- com/example/restlint/restlint/document/ScalarNode -/
def k21 : Class := { plain "com/example/restlint/restlint/document/ScalarNode" (some 2) with
  accessFlags := 49
  interfaces := #[10]
  cf := some (fileOf pool21 8 #[] #[{ accessFlags := 1, nameIndex := 5, descriptorIndex := 35, attributes := #[] }] 49 2 #[33] #[{ accessFlags := 18, nameIndex := 11, descriptorIndex := 12, attributes := #[] }, { accessFlags := 18, nameIndex := 15, descriptorIndex := 16, attributes := #[] }, { accessFlags := 18, nameIndex := 19, descriptorIndex := 20, attributes := #[] }])
  fields := #[{ name := "text", type := (.object "java/lang/String"), accessFlags := 18, slot := 0, constantValue := 0 }, { name := "location", type := (.object "com/example/restlint/restlint/document/Location"), accessFlags := 18, slot := 1, constantValue := 0 }, { name := "isNull", type := .boolean, accessFlags := 18, slot := 2, constantValue := 0 }]
  methods := #[k21m0]
  instanceTypes := #[(.object "java/lang/String"), (.object "com/example/restlint/restlint/document/Location"), .boolean]
  staticTypes := #[]
  resolved := Array.replicate 66 none
  statics := none }

def pool22 : Array CpInfo := pool [(1, .methodref 2 3), (0, .class_ 4), (0, .nameAndType 5 6), (0, u "java/lang/Object"), (0, u "<init>"), (0, u "()V"), (0, .class_ 8), (0, u "java/util/HashMap"), (0, .methodref 7 3), (0, .fieldref 11 12), (0, .class_ 13), (0, .nameAndType 14 15), (0, u "com/example/restlint/restlint/document/MappingNode$Applied"), (0, u "holders"), (0, u "Ljava/util/Map;"), (0, .fieldref 11 17), (0, .nameAndType 18 19), (0, u "target"), (0, u "Lcom/example/restlint/restlint/document/Node;"), (0, u "remote"), (0, u "Ljava/lang/Boolean;"), (2, u "(Lcom/example/restlint/restlint/document/Node;)V"), (5, .class_ 31), (0, u "com/example/restlint/restlint/document/MappingNode")] 2

def k22c0 : Code := { maxStack := 3, maxLocals := 2, code := prog_44_method_1_code, exceptionTable := #[], attributes := #[] }
def k22m0 : Method := { name := "<init>", desc := "(Lcom/example/restlint/restlint/document/Node;)V", sig := { parameters := [(.object "com/example/restlint/restlint/document/Node")], returnType := none }, accessFlags := 0, code := some k22c0 }
/-- com/example/restlint/restlint/document/MappingNode$Applied -/
def k22 : Class := { plain "com/example/restlint/restlint/document/MappingNode$Applied" (some 0) with
  accessFlags := 48
  interfaces := #[]
  cf := some (fileOf pool22 11 #[.nestHost 30] #[{ accessFlags := 0, nameIndex := 5, descriptorIndex := 24, attributes := #[] }] 48 2 #[] #[{ accessFlags := 16, nameIndex := 18, descriptorIndex := 19, attributes := #[] }, { accessFlags := 0, nameIndex := 20, descriptorIndex := 21, attributes := #[] }, { accessFlags := 16, nameIndex := 14, descriptorIndex := 15, attributes := #[] }])
  fields := #[{ name := "target", type := (.object "com/example/restlint/restlint/document/Node"), accessFlags := 16, slot := 0, constantValue := 0 }, { name := "remote", type := (.object "java/lang/Boolean"), accessFlags := 0, slot := 1, constantValue := 0 }, { name := "holders", type := (.object "java/util/Map"), accessFlags := 16, slot := 2, constantValue := 0 }]
  methods := #[k22m0]
  instanceTypes := #[(.object "com/example/restlint/restlint/document/Node"), (.object "java/lang/Boolean"), (.object "java/util/Map")]
  staticTypes := #[]
  resolved := Array.replicate 34 none
  statics := none }

def pool23 : Array CpInfo := pool [(2, .class_ 4), (1, u "java/util/Map"), (31, .class_ 37), (0, u "java/util/Map$Entry"), (55, .class_ 94), (0, u "java/lang/Object")] 168

/-- java/util/Map -/
def k23 : Class := { plain "java/util/Map" (some 0) with
  accessFlags := 1537
  interfaces := #[]
  cf := some (fileOf pool23 2 #[.nestMembers #[36]] #[] 1537 93 #[] #[])
  fields := #[]
  methods := #[]
  instanceTypes := #[]
  staticTypes := #[]
  resolved := Array.replicate 263 none
  statics := none }

def pool24 : Array CpInfo := pool [(1, .methodref 2 3), (0, .class_ 4), (0, .nameAndType 5 6), (0, u "java/lang/Object"), (0, u "<init>"), (0, u "()V"), (1, .class_ 10), (1, u "java/util/AbstractMap"), (42, .class_ 54), (0, u "java/util/Map"), (9, u "keySet"), (0, u "Ljava/util/Set;"), (0, .class_ 67), (0, u "java/util/AbstractMap$1"), (5, u "values"), (0, u "Ljava/util/Collection;"), (0, .class_ 76), (0, u "java/util/AbstractMap$2"), (104, .class_ 182), (0, u "java/util/AbstractMap$ViewCollection"), (0, .class_ 184), (0, u "java/util/AbstractMap$SimpleImmutableEntry"), (0, .class_ 186), (0, u "java/util/AbstractMap$SimpleEntry"), (0, .class_ 188), (0, u "java/util/AbstractMap$2$1"), (0, .class_ 190), (0, u "java/util/AbstractMap$1$1")] 5

def k24c0 : Code := { maxStack := 1, maxLocals := 1, code := jdk_71_method_1_code, exceptionTable := #[], attributes := #[] }
def k24m0 : Method := { name := "<init>", desc := "()V", sig := { parameters := [], returnType := none }, accessFlags := 4, code := some k24c0 }
/-- java/util/AbstractMap -/
def k24 : Class := { plain "java/util/AbstractMap" (some 0) with
  accessFlags := 1057
  interfaces := #[23]
  cf := some (fileOf pool24 8 #[.nestMembers #[181, 183, 185, 75, 187, 66, 189]] #[{ accessFlags := 4, nameIndex := 5, descriptorIndex := 6, attributes := #[] }] 1057 2 #[53] #[{ accessFlags := 128, nameIndex := 64, descriptorIndex := 65, attributes := #[] }, { accessFlags := 128, nameIndex := 73, descriptorIndex := 74, attributes := #[] }])
  fields := #[{ name := "keySet", type := (.object "java/util/Set"), accessFlags := 128, slot := 0, constantValue := 0 }, { name := "values", type := (.object "java/util/Collection"), accessFlags := 128, slot := 1, constantValue := 0 }]
  methods := #[k24m0]
  instanceTypes := #[(.object "java/util/Set"), (.object "java/util/Collection")]
  staticTypes := #[]
  resolved := Array.replicate 196 none
  statics := none }

def pool25 : Array CpInfo := pool [(40, .class_ 41), (0, u "java/util/HashMap"), (1, .methodref 44 45), (0, .class_ 46), (0, .nameAndType 47 48), (0, u "java/util/AbstractMap"), (0, u "<init>"), (0, u "()V"), (32, .fieldref 40 82), (0, .nameAndType 83 84), (0, u "loadFactor"), (0, u "F"), (5, u "threshold"), (0, u "I"), (0, .float 1061158912), (8, .class_ 103), (1, u "java/util/Map"), (0, u "size"), (2, u "table"), (0, u "[Ljava/util/HashMap$Node;"), (14, u "entrySet"), (39, .class_ 165), (1, u "java/util/HashMap$Node"), (14, .class_ 181), (0, u "java/util/HashMap$TreeNode"), (22, u "modCount"), (37, u "Ljava/util/Set;"), (0, .class_ 244), (0, u "java/util/HashMap$KeySet"), (18, .class_ 264), (0, u "java/util/HashMap$Values"), (3, .class_ 269), (0, u "java/util/HashMap$EntrySet"), (76, .class_ 348), (1, u "java/util/HashMap$UnsafeHolder"), (43, .class_ 393), (0, u "java/lang/Cloneable"), (0, .class_ 395), (0, u "java/io/Serializable"), (0, u "serialVersionUID"), (0, u "J"), (3, u "DEFAULT_INITIAL_CAPACITY"), (1, u "MAXIMUM_CAPACITY"), (0, u "DEFAULT_LOAD_FACTOR"), (0, u "TREEIFY_THRESHOLD"), (1, u "UNTREEIFY_THRESHOLD"), (1, u "MIN_TREEIFY_CAPACITY"), (186, .class_ 597), (0, u "java/util/HashMap$EntrySpliterator"), (0, .class_ 599), (0, u "java/util/HashMap$ValueSpliterator"), (0, .class_ 601), (0, u "java/util/HashMap$KeySpliterator"), (0, .class_ 603), (0, u "java/util/HashMap$HashMapSpliterator"), (0, .class_ 605), (0, u "java/util/HashMap$EntryIterator"), (0, .class_ 607), (0, u "java/util/HashMap$ValueIterator"), (0, .class_ 609), (0, u "java/util/HashMap$KeyIterator"), (0, .class_ 611), (0, u "java/util/HashMap$HashIterator")] 17

def k25c0 : Code := { maxStack := 2, maxLocals := 1, code := jdk_69_method_7_code, exceptionTable := #[], attributes := #[] }
def k25m0 : Method := { name := "<init>", desc := "()V", sig := { parameters := [], returnType := none }, accessFlags := 1, code := some k25c0 }
/-- java/util/HashMap -/
def k25 : Class := { plain "java/util/HashMap" (some 24) with
  accessFlags := 33
  interfaces := #[23, 19, 4]
  cf := some (fileOf pool25 40 #[.nestMembers #[180, 596, 598, 600, 602, 604, 606, 608, 610, 346, 268, 263, 243, 163]] #[{ accessFlags := 1, nameIndex := 47, descriptorIndex := 48, attributes := #[] }] 33 44 #[101, 392, 394] #[{ accessFlags := 26, nameIndex := 396, descriptorIndex := 397, attributes := #[] }, { accessFlags := 24, nameIndex := 401, descriptorIndex := 91, attributes := #[] }, { accessFlags := 24, nameIndex := 403, descriptorIndex := 91, attributes := #[] }, { accessFlags := 24, nameIndex := 404, descriptorIndex := 84, attributes := #[] }, { accessFlags := 24, nameIndex := 405, descriptorIndex := 91, attributes := #[] }, { accessFlags := 24, nameIndex := 407, descriptorIndex := 91, attributes := #[] }, { accessFlags := 24, nameIndex := 409, descriptorIndex := 91, attributes := #[] }, { accessFlags := 128, nameIndex := 107, descriptorIndex := 108, attributes := #[] }, { accessFlags := 128, nameIndex := 123, descriptorIndex := 242, attributes := #[] }, { accessFlags := 128, nameIndex := 104, descriptorIndex := 91, attributes := #[] }, { accessFlags := 128, nameIndex := 204, descriptorIndex := 91, attributes := #[] }, { accessFlags := 0, nameIndex := 90, descriptorIndex := 91, attributes := #[] }, { accessFlags := 16, nameIndex := 83, descriptorIndex := 84, attributes := #[] }])
  fields := #[{ name := "serialVersionUID", type := .long, accessFlags := 26, slot := 0, constantValue := 0 }, { name := "DEFAULT_INITIAL_CAPACITY", type := .int, accessFlags := 24, slot := 1, constantValue := 0 }, { name := "MAXIMUM_CAPACITY", type := .int, accessFlags := 24, slot := 2, constantValue := 0 }, { name := "DEFAULT_LOAD_FACTOR", type := .float, accessFlags := 24, slot := 3, constantValue := 0 }, { name := "TREEIFY_THRESHOLD", type := .int, accessFlags := 24, slot := 4, constantValue := 0 }, { name := "UNTREEIFY_THRESHOLD", type := .int, accessFlags := 24, slot := 5, constantValue := 0 }, { name := "MIN_TREEIFY_CAPACITY", type := .int, accessFlags := 24, slot := 6, constantValue := 0 }, { name := "table", type := (.array (.object "java/util/HashMap$Node")), accessFlags := 128, slot := 2, constantValue := 0 }, { name := "entrySet", type := (.object "java/util/Set"), accessFlags := 128, slot := 3, constantValue := 0 }, { name := "size", type := .int, accessFlags := 128, slot := 4, constantValue := 0 }, { name := "modCount", type := .int, accessFlags := 128, slot := 5, constantValue := 0 }, { name := "threshold", type := .int, accessFlags := 0, slot := 6, constantValue := 0 }, { name := "loadFactor", type := .float, accessFlags := 16, slot := 7, constantValue := 0 }]
  methods := #[k25m0]
  instanceTypes := #[(.object "java/util/Set"), (.object "java/util/Collection"), (.array (.object "java/util/HashMap$Node")), (.object "java/util/Set"), .int, .int, .int, .float]
  staticTypes := #[.long, .int, .int, .float, .int, .int, .int]
  resolved := Array.replicate 629 none
  statics := none }

/-- the primitive byte -/
def k26 : Class := { plain "byte" none with kind := .primitive 'B', accessFlags := 0x411 }
/-- [B -/
def k27 : Class := { plain "[B" (some 0) with kind := .array 26 .byte, interfaces := #[19, 4], accessFlags := 1041 }

/-- the primitive int -/
def k28 : Class := { plain "int" none with kind := .primitive 'I', accessFlags := 0x411 }
/-- [I -/
def k29 : Class := { plain "[I" (some 0) with kind := .array 28 .int, interfaces := #[19, 4], accessFlags := 1041 }

/-- [Ljava/lang/Object; -/
def k30 : Class := { plain "[Ljava/lang/Object;" (some 0) with kind := .array 0 (.object "java/lang/Object"), interfaces := #[19, 4], accessFlags := 1041 }

def heap : Heap := #[{ cls := 20, slots := #[.long 0, .int 0, .ref 1, .ref 2], vm := .statics 20 },
  { cls := 30, slots := #[], vm := .none },
  { cls := 30, slots := #[], vm := .none }]
def classes : Array Class := #[k0, k1, k2, k3, k4, k5, k6, k7, k8, k9, k10, k11, k12, k13, k14, k15, k16, k17, k18, k19, k20, k21, k22, k23, k24, k25, k26, k27, k28, k29, k30]
def interned : List (Array UInt16 × Addr) := []
def slotsUsed : Nat := 4
def theMethod : MethodId := ⟨1, 2⟩
def args0 : Array Value := #[.int 1, .int 2, .int 3, .int 4, .int 5]
def aboutOver (below : List Frame) : State where
  vm := { classes := classes, interned := interned.toArray }
  heap := heap
  slotsUsed := slotsUsed
  threads := #[{ frames := .invoking theMethod args0 :: below }]
def below0 : List Frame := [.native { method := ⟨0, 0⟩, args := #[] }]
def about1 : State := aboutOver below0
def p0 : Program := .bare "" "" ""
def e0 : Env := launch0.env 0 0 0
theorem w_frames : about1.frames = Frame.invoking theMethod args0 :: below0 := rfl
set_option maxRecDepth 65536 in
theorem w_args : argsFit about1.vm theMethod args0 = true := by decide +kernel
set_option maxRecDepth 65536 in
theorem w_heap : heapFits about1 = true := by decide +kernel
set_option maxRecDepth 65536 in
theorem w_runnable : about1.curStatus? = some .runnable := by decide +kernel
set_option maxRecDepth 65536 in
theorem w_alone : about1.alone = true := by decide +kernel
set_option maxRecDepth 65536 in
theorem w_named : about1.methodNamed? x = some theMethod := by decide +kernel
set_option maxRecDepth 65536 in
theorem w_hears : about1.hears theMethod below0 = true := by decide +kernel
set_option maxRecDepth 65536 in
theorem w_ripe : about1.ripe theMethod args0 below0 = true := by decide +kernel
theorem w_running : about1.status = .running := rfl
set_option maxRecDepth 65536 in
theorem w_room : about1.hasRoom e0.platform room_1 = true :=
  launch0.hasRoom_least _ room_1 (by decide +kernel) (by decide +kernel) (by decide +kernel) (by decide +kernel) (by decide +kernel) (by decide +kernel)
theorem allAtoms_all (ts : List Jvm.Cond) (a : Array Jvm.Value) (st : Jvm.State) : (allAtoms ts).before a st = ts.all (fun c => c.before a st) := by
  induction ts with
  | nil => rfl
  | cons c t ih =>
    show (Jvm.Cond.and c (allAtoms t)).before a st = _
    rw [Jvm.Cond.before_and, ih, List.all_cons]
def words1 : List Jvm.Cond := Jvm.Cond.code x code maxLocals ret :: tables_1
/-- a 'code' word, met by the world's own term for the bytes: nothing is compared byte by byte -/
theorem code_word {y : MethodName} {bytes : ByteArray} {mx : Nat} {rt : Option FieldType} {a : Array Value} {s : State} {m : MethodId} {meth : Method} {c : Code} (h1 : s.methodNamed? y = some m) (h2 : s.vm.method? m = some meth) (h3 : meth.code = some c) (h4 : c.code = bytes)
    (h5 : (c.maxLocals == mx && c.exceptionTable.isEmpty && decide (c.maxStack ≤ mostOperands) && decide (meth.sig.returnType = rt) && !meth.locks && decide (parseMethodDescriptor y.desc = some meth.sig)) = true) : (Jvm.Cond.code y bytes mx rt).before a s = true := by
  simp only [Bool.and_eq_true, beq_iff_eq, Bool.not_eq_true', decide_eq_true_eq] at h5
  obtain ⟨⟨⟨⟨⟨g1, g2⟩, g3⟩, g4⟩, g5⟩, g6⟩ := h5
  simp [Cond.before, Cond.holds, Cond.value, h1, h2, h3, h4, g1, g2, g3, g4, g5, g6]
def isCode : Jvm.Cond → Bool
  | .code _ _ _ _ => true
  | _ => false
theorem all_split {L : List Jvm.Cond} {P : Jvm.Cond → Bool} (h1 : L.all (fun c => isCode c || P c) = true) (h2 : ∀ c ∈ L.filter isCode, P c = true) : L.all P = true := by
  refine List.all_eq_true.mpr fun c hc => ?_
  have h := List.all_eq_true.mp h1 c hc
  rcases Bool.eq_false_or_eq_true (isCode c) with hi | hi
  · exact h2 c (List.mem_filter.mpr ⟨hc, hi⟩)
  · simpa [hi] using h
set_option maxRecDepth 65536 in
theorem w_c0 : (Jvm.Cond.code x code maxLocals ret).before args0 about1 = true := code_word (m := ⟨1, 2⟩) (meth := k1m2) (c := k1c2) (by decide +kernel) rfl rfl rfl (by decide +kernel)
set_option maxRecDepth 65536 in
theorem w_c1 : (Jvm.Cond.code ({ cls := "com/example/restlint/restlint/document/Location", name := "<init>", desc := "(Ljava/lang/String;II)V" } : Jvm.MethodName) prog_42_method_1_code (4 : Nat) (Option.none : Option Jvm.ClassFile.FieldType)).before args0 about1 = true := code_word (m := ⟨3, 0⟩) (meth := k3m0) (c := k3c0) (by decide +kernel) rfl rfl rfl (by decide +kernel)
set_option maxRecDepth 65536 in
theorem w_c2 : (Jvm.Cond.code ({ cls := "com/example/restlint/restlint/document/Location", name := "<init>", desc := "(Ljava/lang/String;IILcom/example/restlint/restlint/document/JsonPointer;)V" } : Jvm.MethodName) prog_42_method_2_code (5 : Nat) (Option.none : Option Jvm.ClassFile.FieldType)).before args0 about1 = true := code_word (m := ⟨3, 1⟩) (meth := k3m1) (c := k3c1) (by decide +kernel) rfl rfl rfl (by decide +kernel)
set_option maxRecDepth 65536 in
theorem w_c3 : (Jvm.Cond.code ({ cls := "java/lang/Record", name := "<init>", desc := "()V" } : Jvm.MethodName) jdk_30_method_1_code (1 : Nat) (Option.none : Option Jvm.ClassFile.FieldType)).before args0 about1 = true := code_word (m := ⟨2, 0⟩) (meth := k2m0) (c := k2c0) (by decide +kernel) rfl rfl rfl (by decide +kernel)
set_option maxRecDepth 65536 in
theorem w_c4 : (Jvm.Cond.code ({ cls := "java/lang/Object", name := "<init>", desc := "()V" } : Jvm.MethodName) object_method_1_code (1 : Nat) (Option.none : Option Jvm.ClassFile.FieldType)).before args0 about1 = true := code_word (m := ⟨0, 0⟩) (meth := k0m0) (c := k0c0) (by decide +kernel) rfl rfl rfl (by decide +kernel)
set_option maxRecDepth 65536 in
theorem w_c5 : (Jvm.Cond.code ({ cls := "com/example/restlint/restlint/document/MappingNode", name := "<init>", desc := "(Lcom/example/restlint/restlint/document/Location;Lcom/example/restlint/restlint/document/Location;)V" } : Jvm.MethodName) prog_43_method_1_code (3 : Nat) (Option.none : Option Jvm.ClassFile.FieldType)).before args0 about1 = true := code_word (m := ⟨11, 0⟩) (meth := k11m0) (c := k11c0) (by decide +kernel) rfl rfl rfl (by decide +kernel)
set_option maxRecDepth 65536 in
theorem w_c6 : (Jvm.Cond.code ({ cls := "java/util/ArrayList", name := "<init>", desc := "()V" } : Jvm.MethodName) jdk_38_method_2_code (1 : Nat) (Option.none : Option Jvm.ClassFile.FieldType)).before args0 about1 = true := code_word (m := ⟨20, 0⟩) (meth := k20m0) (c := k20c0) (by decide +kernel) rfl rfl rfl (by decide +kernel)
set_option maxRecDepth 65536 in
theorem w_c7 : (Jvm.Cond.code ({ cls := "java/util/AbstractList", name := "<init>", desc := "()V" } : Jvm.MethodName) jdk_39_method_1_code (1 : Nat) (Option.none : Option Jvm.ClassFile.FieldType)).before args0 about1 = true := code_word (m := ⟨17, 0⟩) (meth := k17m0) (c := k17c0) (by decide +kernel) rfl rfl rfl (by decide +kernel)
set_option maxRecDepth 65536 in
theorem w_c8 : (Jvm.Cond.code ({ cls := "java/util/AbstractCollection", name := "<init>", desc := "()V" } : Jvm.MethodName) jdk_22_method_1_code (1 : Nat) (Option.none : Option Jvm.ClassFile.FieldType)).before args0 about1 = true := code_word (m := ⟨14, 0⟩) (meth := k14m0) (c := k14c0) (by decide +kernel) rfl rfl rfl (by decide +kernel)
set_option maxRecDepth 65536 in
theorem w_c9 : (Jvm.Cond.code ({ cls := "com/example/restlint/restlint/document/ScalarNode", name := "<init>", desc := "(Ljava/lang/String;Lcom/example/restlint/restlint/document/Location;Z)V" } : Jvm.MethodName) prog_48_method_1_code (4 : Nat) (Option.none : Option Jvm.ClassFile.FieldType)).before args0 about1 = true := code_word (m := ⟨21, 0⟩) (meth := k21m0) (c := k21c0) (by decide +kernel) rfl rfl rfl (by decide +kernel)
set_option maxRecDepth 65536 in
theorem w_c10 : (Jvm.Cond.code ({ cls := "com/example/restlint/restlint/document/MappingNode", name := "applied", desc := "()Lcom/example/restlint/restlint/document/Node;" } : Jvm.MethodName) prog_43_method_11_code (1 : Nat) (Option.some (Jvm.ClassFile.FieldType.object "com/example/restlint/restlint/document/Node"))).before args0 about1 = true := code_word (m := ⟨11, 2⟩) (meth := k11m2) (c := k11c2) (by decide +kernel) rfl rfl rfl (by decide +kernel)
set_option maxRecDepth 65536 in
theorem w_c11 : (Jvm.Cond.code ({ cls := "com/example/restlint/restlint/document/MappingNodeAppliedPinLaw", name := "pick", desc := "(ILcom/example/restlint/restlint/document/Node;Lcom/example/restlint/restlint/document/Node;Lcom/example/restlint/restlint/document/Node;)Lcom/example/restlint/restlint/document/Node;" } : Jvm.MethodName) method_2_code (5 : Nat) (Option.some (Jvm.ClassFile.FieldType.object "com/example/restlint/restlint/document/Node"))).before args0 about1 = true := code_word (m := ⟨1, 1⟩) (meth := k1m1) (c := k1c1) (by decide +kernel) rfl rfl rfl (by decide +kernel)
set_option maxRecDepth 65536 in
theorem w_c12 : (Jvm.Cond.code ({ cls := "com/example/restlint/restlint/document/MappingNode", name := "applyReference", desc := "(Lcom/example/restlint/restlint/document/Node;)V" } : Jvm.MethodName) prog_43_method_15_code (2 : Nat) (Option.none : Option Jvm.ClassFile.FieldType)).before args0 about1 = true := code_word (m := ⟨11, 3⟩) (meth := k11m3) (c := k11c3) (by decide +kernel) rfl rfl rfl (by decide +kernel)
set_option maxRecDepth 65536 in
theorem w_c13 : (Jvm.Cond.code ({ cls := "com/example/restlint/restlint/document/MappingNode$Applied", name := "<init>", desc := "(Lcom/example/restlint/restlint/document/Node;)V" } : Jvm.MethodName) prog_44_method_1_code (2 : Nat) (Option.none : Option Jvm.ClassFile.FieldType)).before args0 about1 = true := code_word (m := ⟨22, 0⟩) (meth := k22m0) (c := k22c0) (by decide +kernel) rfl rfl rfl (by decide +kernel)
set_option maxRecDepth 65536 in
theorem w_c14 : (Jvm.Cond.code ({ cls := "java/util/HashMap", name := "<init>", desc := "()V" } : Jvm.MethodName) jdk_69_method_7_code (1 : Nat) (Option.none : Option Jvm.ClassFile.FieldType)).before args0 about1 = true := code_word (m := ⟨25, 0⟩) (meth := k25m0) (c := k25c0) (by decide +kernel) rfl rfl rfl (by decide +kernel)
set_option maxRecDepth 65536 in
theorem w_c15 : (Jvm.Cond.code ({ cls := "java/util/AbstractMap", name := "<init>", desc := "()V" } : Jvm.MethodName) jdk_71_method_1_code (1 : Nat) (Option.none : Option Jvm.ClassFile.FieldType)).before args0 about1 = true := code_word (m := ⟨24, 0⟩) (meth := k24m0) (c := k24c0) (by decide +kernel) rfl rfl rfl (by decide +kernel)
set_option maxRecDepth 65536 in
theorem w_c16 : (Jvm.Cond.code ({ cls := "com/example/restlint/restlint/document/MappingNode", name := "appliesReference", desc := "()Z" } : Jvm.MethodName) prog_43_method_10_code (1 : Nat) (Option.some Jvm.ClassFile.FieldType.boolean)).before args0 about1 = true := code_word (m := ⟨11, 1⟩) (meth := k11m1) (c := k11c1) (by decide +kernel) rfl rfl rfl (by decide +kernel)
def codes1 : List Jvm.Cond := [Jvm.Cond.code x code maxLocals ret, Jvm.Cond.code ({ cls := "com/example/restlint/restlint/document/Location", name := "<init>", desc := "(Ljava/lang/String;II)V" } : Jvm.MethodName) prog_42_method_1_code (4 : Nat) (Option.none : Option Jvm.ClassFile.FieldType), Jvm.Cond.code ({ cls := "com/example/restlint/restlint/document/Location", name := "<init>", desc := "(Ljava/lang/String;IILcom/example/restlint/restlint/document/JsonPointer;)V" } : Jvm.MethodName) prog_42_method_2_code (5 : Nat) (Option.none : Option Jvm.ClassFile.FieldType), Jvm.Cond.code ({ cls := "java/lang/Record", name := "<init>", desc := "()V" } : Jvm.MethodName) jdk_30_method_1_code (1 : Nat) (Option.none : Option Jvm.ClassFile.FieldType), Jvm.Cond.code ({ cls := "java/lang/Object", name := "<init>", desc := "()V" } : Jvm.MethodName) object_method_1_code (1 : Nat) (Option.none : Option Jvm.ClassFile.FieldType), Jvm.Cond.code ({ cls := "com/example/restlint/restlint/document/MappingNode", name := "<init>", desc := "(Lcom/example/restlint/restlint/document/Location;Lcom/example/restlint/restlint/document/Location;)V" } : Jvm.MethodName) prog_43_method_1_code (3 : Nat) (Option.none : Option Jvm.ClassFile.FieldType), Jvm.Cond.code ({ cls := "java/util/ArrayList", name := "<init>", desc := "()V" } : Jvm.MethodName) jdk_38_method_2_code (1 : Nat) (Option.none : Option Jvm.ClassFile.FieldType), Jvm.Cond.code ({ cls := "java/util/AbstractList", name := "<init>", desc := "()V" } : Jvm.MethodName) jdk_39_method_1_code (1 : Nat) (Option.none : Option Jvm.ClassFile.FieldType), Jvm.Cond.code ({ cls := "java/util/AbstractCollection", name := "<init>", desc := "()V" } : Jvm.MethodName) jdk_22_method_1_code (1 : Nat) (Option.none : Option Jvm.ClassFile.FieldType), Jvm.Cond.code ({ cls := "com/example/restlint/restlint/document/ScalarNode", name := "<init>", desc := "(Ljava/lang/String;Lcom/example/restlint/restlint/document/Location;Z)V" } : Jvm.MethodName) prog_48_method_1_code (4 : Nat) (Option.none : Option Jvm.ClassFile.FieldType), Jvm.Cond.code ({ cls := "com/example/restlint/restlint/document/MappingNode", name := "applied", desc := "()Lcom/example/restlint/restlint/document/Node;" } : Jvm.MethodName) prog_43_method_11_code (1 : Nat) (Option.some (Jvm.ClassFile.FieldType.object "com/example/restlint/restlint/document/Node")), Jvm.Cond.code ({ cls := "com/example/restlint/restlint/document/MappingNodeAppliedPinLaw", name := "pick", desc := "(ILcom/example/restlint/restlint/document/Node;Lcom/example/restlint/restlint/document/Node;Lcom/example/restlint/restlint/document/Node;)Lcom/example/restlint/restlint/document/Node;" } : Jvm.MethodName) method_2_code (5 : Nat) (Option.some (Jvm.ClassFile.FieldType.object "com/example/restlint/restlint/document/Node")), Jvm.Cond.code ({ cls := "com/example/restlint/restlint/document/MappingNode", name := "applyReference", desc := "(Lcom/example/restlint/restlint/document/Node;)V" } : Jvm.MethodName) prog_43_method_15_code (2 : Nat) (Option.none : Option Jvm.ClassFile.FieldType), Jvm.Cond.code ({ cls := "com/example/restlint/restlint/document/MappingNode$Applied", name := "<init>", desc := "(Lcom/example/restlint/restlint/document/Node;)V" } : Jvm.MethodName) prog_44_method_1_code (2 : Nat) (Option.none : Option Jvm.ClassFile.FieldType), Jvm.Cond.code ({ cls := "java/util/HashMap", name := "<init>", desc := "()V" } : Jvm.MethodName) jdk_69_method_7_code (1 : Nat) (Option.none : Option Jvm.ClassFile.FieldType), Jvm.Cond.code ({ cls := "java/util/AbstractMap", name := "<init>", desc := "()V" } : Jvm.MethodName) jdk_71_method_1_code (1 : Nat) (Option.none : Option Jvm.ClassFile.FieldType), Jvm.Cond.code ({ cls := "com/example/restlint/restlint/document/MappingNode", name := "appliesReference", desc := "()Z" } : Jvm.MethodName) prog_43_method_10_code (1 : Nat) (Option.some Jvm.ClassFile.FieldType.boolean)]
set_option maxRecDepth 65536 in
theorem codes_eq : words1.filter isCode = codes1 := rfl
theorem w_codes : ∀ c ∈ words1.filter isCode, c.before args0 about1 = true := by
  rw [codes_eq]
  intro c hc
  simp only [codes1, List.mem_cons, List.not_mem_nil, or_false] at hc
  rcases hc with rfl | rfl | rfl | rfl | rfl | rfl | rfl | rfl | rfl | rfl | rfl | rfl | rfl | rfl | rfl | rfl | rfl
  · exact w_c0
  · exact w_c1
  · exact w_c2
  · exact w_c3
  · exact w_c4
  · exact w_c5
  · exact w_c6
  · exact w_c7
  · exact w_c8
  · exact w_c9
  · exact w_c10
  · exact w_c11
  · exact w_c12
  · exact w_c13
  · exact w_c14
  · exact w_c15
  · exact w_c16
set_option maxRecDepth 65536 in
theorem w_t1 : (words1.take 24).all (fun c => isCode c || c.before args0 about1) = true := by decide +kernel
set_option maxRecDepth 65536 in
theorem w_t2 : ((words1.drop 24).take 24).all (fun c => isCode c || c.before args0 about1) = true := by decide +kernel
set_option maxRecDepth 65536 in
theorem w_t3 : (((words1.drop 24).drop 24).take 24).all (fun c => isCode c || c.before args0 about1) = true := by decide +kernel
set_option maxRecDepth 65536 in
theorem w_t4 : ((((words1.drop 24).drop 24).drop 24).take 24).all (fun c => isCode c || c.before args0 about1) = true := by decide +kernel
set_option maxRecDepth 65536 in
theorem w_t5 : (((((words1.drop 24).drop 24).drop 24).drop 24).take 24).all (fun c => isCode c || c.before args0 about1) = true := by decide +kernel
set_option maxRecDepth 65536 in
theorem w_t6 : (((((words1.drop 24).drop 24).drop 24).drop 24).drop 24).all (fun c => isCode c || c.before args0 about1) = true := by decide +kernel
theorem w_tables : (allAtoms (Jvm.Cond.code x code maxLocals ret :: tables_1)).before args0 about1 = true := by
  rw [allAtoms_all]
  show words1.all (fun c => c.before args0 about1) = true
  refine all_split ?_ w_codes
  rw [← List.take_append_drop 24 words1, List.all_append, w_t1, ← List.take_append_drop 24 (words1.drop 24), List.all_append, w_t2, ← List.take_append_drop 24 ((words1.drop 24).drop 24), List.all_append, w_t3, ← List.take_append_drop 24 (((words1.drop 24).drop 24).drop 24), List.all_append, w_t4, ← List.take_append_drop 24 ((((words1.drop 24).drop 24).drop 24).drop 24), List.all_append, w_t5, w_t6]
  rfl
set_option maxRecDepth 65536 in
theorem w_rest : rest_1_c.before args0 about1 = true := by decide +kernel
set_option maxRecDepth 65536 in
theorem w_case : (Jvm.Cond.and given_1 narrow_1).before args0 about1 = true := by decide +kernel
theorem w_applies : (headSpec (Jvm.Cond.code x code maxLocals ret :: tables_1) room_1).applies x e0.platform about1 = true :=
  (Spec.applies_iff w_frames).mpr ⟨w_running, w_runnable, w_alone, w_named, w_hears, w_ripe, w_room, w_tables⟩
theorem atStart : AtStart classFile x code maxLocals ret World_1 tables_1 room_1 Calls_1 rest_1 Pre_1 launch0 p0 e0 about1 theMethod args0 below0 :=
  ⟨lists_1, trivial, launch0.admits_env _ _ _, launch0.least_env, fairChoices_fair.cas, fairChoices_fair.clock, w_frames, w_args, w_heap, w_applies, trivial, w_rest, w_case⟩
end start1
theorem witness_1 : WitnessClaimed_1 := ⟨start1.p0, start1.e0, start1.about1, start1.theMethod, start1.args0, start1.below0, start1.atStart⟩
end Jvm.Pilot.@@N@@
