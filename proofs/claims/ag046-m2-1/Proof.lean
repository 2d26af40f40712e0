import JvmDerived
import JvmDerived.Pilot.@@N@@Statement
import JvmDerived.Pilot.@@N@@Code
set_option linter.unusedVariables false
set_option linter.unusedSimpArgs false
namespace Jvm.Pilot.@@N@@
open Jvm Jvm.ClassFile Sem Op Lib Jvm.Free Jvm.Stand Jvm.LawKit Jvm.RoadKit Bundle Jvm.Pilot.@@N@@.Jvm.D
/-! own_..: the walk in goal form: own_Go says that from a frame on the run comes to its end as the contract says; every step turns the goal for one frame into the goal for the next, so a branch is a case split and a join a 'have'. -/
def own_Post (s : State) (Q : Option Value → Heap → List Loc → Prop) (cs ss : Nat) (o : Outcome) (u : State) : Prop := ∃ v L, o = .returned v ∧ Q v u.heap L ∧ FrameEnd s o u L cs ss
def own_Go (p : Program) (e : Env) (below : List Frame) (Qf : Outcome → State → Prop) (T : State) (g : JFrame) : Prop := ∃ s₂ o, Steps p.tables e below (T.setTop g) s₂ ∧ s₂.status = .running ∧ Ended s₂ below o ∧ Qf o s₂
abbrev own_Met (l : Launch) (Z : State) (y : MethodName) (bytes : ByteArray) (maxL : Nat) (ret : Option FieldType) (ws : List Jvm.Cond) (rm : Room) (as' : Array Value) (h0 : Heap) (cs ss : Nat) (Q : Option Value → Heap → List Loc → Prop) : Prop :=
  MetFree l y (head1 (Jvm.Cond.code y bytes maxL ret :: ws) rm) (fun a U => a = as' ∧ Z.Warmed39 U.vm ∧ U.heap = h0) (fun _ _ _ _ _ => True) (fun _ U o U' => ∃ v L, o = .returned v ∧ Q v U'.heap L ∧ FrameEnd U o U' L cs ss)
def own_b (b : Bool) : Int32 := if b then 1 else 0
theorem own_b_t {b : Bool} (h : b = true) : own_b b = 1 := by subst h; rfl
theorem own_b_f {b : Bool} (h : ¬ b = true) : own_b b = 0 := by rw [Bool.eq_false_iff.mpr h]; rfl
theorem own_b_n {b : Bool} (h : b = true) : ¬ own_b b = 0 := by subst h; decide
theorem own_b_nar (b : Bool) : nar .boolean (own_b b) = own_b b := by cases b <;> rfl
theorem own_b_fits (b : Bool) : fits .boolean (.int (own_b b)) = true := by cases b <;> rfl
theorem own_b_inj {a b : Bool} (h : own_b a = own_b b) : a = b := by cases a <;> cases b <;> first | rfl | exact absurd h (by decide)
section Own
variable {p : Program} {l : Launch} {e : Env} {R : Room} {s : State} {m : MethodId} {args : Array Value} {below : List Frame} {meth : Method} {c : Code} {T T' : State} {locs : List Loc} {cells slots : Nat} {Z : State} {a0 : Array Value} {h : Heap}
theorem own_go {Qf : Outcome → State → Prop} {g g' : JFrame} (h : ∀ t, Steps p.tables e below (T'.setTop g') t → Steps p.tables e below (T.setTop g) t) (k : own_Go p e below Qf T' g') : own_Go p e below Qf T g := by
  obtain ⟨s₂, o, h1, h2⟩ := k
  exact ⟨s₂, o, h _ h1, h2⟩
theorem own_cast {Qf : Outcome → State → Prop} {g g' : JFrame} (q : g = g') (k : own_Go p e below Qf T g') : own_Go p e below Qf T g := q ▸ k
theorem own_met {y : MethodName} {bytes : ByteArray} {maxL : Nat} {ret : Option FieldType} {ws : List Jvm.Cond} {rm : Room} {as' : Array Value} {h0 : Heap} {cs ss : Nat} {Q : Option Value → Heap → List Loc → Prop} (hp : plainFor y = true)
    (body : ∀ (p : Program) (e : Env) (s : State) (m : MethodId) (below : List Frame) (meth : Method) (c : Code) (s₁ : State), BodyLoose p l y (head1 (Jvm.Cond.code y bytes maxL ret :: ws) rm) bytes maxL ret e s m as' below meth c s₁ → c.maxLocals = maxL → Z.Warmed39 s.vm →
      Stand p l e rm s m as' below meth c s₁ [] 0 0 → s₁.heap = h0 → own_Go p e below (own_Post s Q cs ss) s₁ (entryFrame m as' maxL)) : own_Met l Z y bytes maxL ret ws rm as' h0 cs ss Q := by
  refine MetFree.of_bodySF hp hisR ?_
  intro p e s m args below meth c s₁ Bd hml0 hP hK
  obtain ⟨rfl, hZ, hh⟩ := hP
  exact body p e s m below meth c s₁ Bd hml0 hZ (Stand.of_body Bd) (by rw [← hh, Bd.state]; rfl)
theorem own_retN (X : Stand p l e R s m args below meth c T locs cells slots) (hx : p.tables.exec = Jvm.exec) (t : FieldType) (hret : meth.sig.returnType = some t) (hlk : meth.locks = false) (ht : t = .boolean ∨ t = .byte ∨ t = .char ∨ t = .short) {pc : Nat} {Ls : Array Slot} {z : Int32} {rest : List Value} (hd : decode c.code pc = .ok (.ireturn, 1))
    {Q : Option Value → Heap → List Loc → Prop} {cs ss : Nat} (hc : cells ≤ cs) (hs : slots ≤ ss) (hQ : Q (some (.int (nar t z))) T.heap locs) : own_Go p e below (own_Post s Q cs ss) T (mkF m pc Ls (.int z :: rest)) := by
  obtain ⟨fs, hr, hrun, hended, hW, hsame⟩ := X.leave (v := some (.int (nar t z))) (fun h => by rw [hret] at h; cases h) hlk
  exact ⟨_, _, retN X hx hret ht hd hr, hrun, hended, _, _, rfl, hQ, ⟨_, rfl⟩, hW, hsame.mono hc hs⟩
theorem own_retI (X : Stand p l e R s m args below meth c T locs cells slots) (hx : p.tables.exec = Jvm.exec) (hret : meth.sig.returnType = some .int) (hlk : meth.locks = false) {pc : Nat} {Ls : Array Slot} {z : Int32} {rest : List Value} (hd : decode c.code pc = .ok (.ireturn, 1))
    {Q : Option Value → Heap → List Loc → Prop} {cs ss : Nat} (hc : cells ≤ cs) (hs : slots ≤ ss) (hQ : Q (some (.int z)) T.heap locs) : own_Go p e below (own_Post s Q cs ss) T (mkF m pc Ls (.int z :: rest)) := by
  obtain ⟨fs, hr, hrun, hended, hW, hsame⟩ := X.leave (v := some (.int z)) (fun h => by rw [hret] at h; cases h) hlk
  exact ⟨_, _, retOut X hx hret rfl (Or.inl ⟨rfl, Or.inl rfl, _, rfl⟩) hd hr, hrun, hended, _, _, rfl, hQ, ⟨_, rfl⟩, hW, hsame.mono hc hs⟩
theorem own_retJ (X : Stand p l e R s m args below meth c T locs cells slots) (hx : p.tables.exec = Jvm.exec) (hret : meth.sig.returnType = some .long) (hlk : meth.locks = false) {pc : Nat} {Ls : Array Slot} {z : Int64} {rest : List Value} (hd : decode c.code pc = .ok (.lreturn, 1))
    {Q : Option Value → Heap → List Loc → Prop} {cs ss : Nat} (hc : cells ≤ cs) (hs : slots ≤ ss) (hQ : Q (some (.long z)) T.heap locs) : own_Go p e below (own_Post s Q cs ss) T (mkF m pc Ls (.long z :: rest)) := by
  obtain ⟨fs, hr, hrun, hended, hW, hsame⟩ := X.leave (v := some (.long z)) (fun h => by rw [hret] at h; cases h) hlk
  exact ⟨_, _, retOut X hx hret rfl (Or.inr (Or.inl ⟨rfl, rfl, _, rfl⟩)) hd hr, hrun, hended, _, _, rfl, hQ, ⟨_, rfl⟩, hW, hsame.mono hc hs⟩
theorem own_retA (X : Stand p l e R s m args below meth c T locs cells slots) (hx : p.tables.exec = Jvm.exec) {t : FieldType} (hret : meth.sig.returnType = some t) (hlk : meth.locks = false) (ht : t.isReference = true) {pc : Nat} {Ls : Array Slot} {w : Value} {rest : List Value} (hw : w.isRef = true) (hd : decode c.code pc = .ok (.areturn, 1))
    {Q : Option Value → Heap → List Loc → Prop} {cs ss : Nat} (hc : cells ≤ cs) (hs : slots ≤ ss) (hQ : Q (some w) T.heap locs) : own_Go p e below (own_Post s Q cs ss) T (mkF m pc Ls (w :: rest)) := by
  obtain ⟨fs, hr, hrun, hended, hW, hsame⟩ := X.leave (v := some w) (fun h => by rw [hret] at h; cases h) hlk
  have hn : narrow t w = w := by rcases ref_cases hw with rfl | ⟨a, rfl⟩ <;> cases t <;> first | rfl | cases ht
  exact ⟨_, _, retOut X hx hret hn (Or.inr (Or.inr (Or.inr (Or.inr ⟨rfl, ht, hw⟩)))) hd hr, hrun, hended, _, _, rfl, hQ, ⟨_, rfl⟩, hW, hsame.mono hc hs⟩
theorem own_retV (X : Stand p l e R s m args below meth c T locs cells slots) (hx : p.tables.exec = Jvm.exec) (hret : meth.sig.returnType = none) (hlk : meth.locks = false) {pc : Nat} {Ls : Array Slot} (hd : decode c.code pc = .ok (.return_, 1))
    {Q : Option Value → Heap → List Loc → Prop} {cs ss : Nat} (hc : cells ≤ cs) (hs : slots ≤ ss) (hQ : Q none T.heap locs) : own_Go p e below (own_Post s Q cs ss) T (mkF m pc Ls []) := by
  obtain ⟨fs, hr, hrun, hended, hW, hsame⟩ := X.leave (v := none) (fun _ => rfl) hlk
  exact ⟨_, _, X.returnOut hx hret hd hr, hrun, hended, _, _, rfl, hQ, ⟨_, rfl⟩, hW, hsame.mono hc hs⟩
theorem own_callS (X : Stand p l e R s m args below meth c T locs cells slots) (hx : p.tables.exec = Jvm.exec) (hZ : Z.Warmed39 s.vm) {own : String} {index : Nat} {y : MethodName} {bytes : ByteArray} {maxL : Nat} {ret : Option FieldType} (hown : s.vm.findClass own = some m.cls)
    (w1 : (Jvm.Cond.methodLink own index y).before a0 Z = true) (w2 : (Jvm.Cond.static y).before a0 Z = true) (w3 : (Jvm.Cond.initialized y.cls).before a0 Z = true) (w4 : (Jvm.Cond.code y bytes maxL ret).before a0 Z = true)
    (hy : y.cls ≠ "java/lang/invoke/MethodHandle" ∧ y.cls ≠ "java/lang/invoke/VarHandle") {rm : Room} {argsL : List Value} {Q : Option Value → Heap → List Loc → Prop} (hM : own_Met l Z y bytes maxL ret [] rm argsL.toArray h rm.cells rm.slots Q) (eT : T.heap = h)
    {g : JFrame} (hg : g.method = m) (hsize : g.locals.size = c.maxLocals) {rest : List Value} (hlen : ∀ sig, parseMethodDescriptor y.desc = some sig → argsL.length = sig.parameters.length) (hstack : g.stack = argsL.reverse ++ rest)
    (hdg : decode c.code g.pc = .ok (.invokestatic index, 3)) {W : Nat} (hW : 2 * g.monitorRoom + (rest.map fun v => v.category).sum ≤ W) (hf : rm.frames + 1 ≤ R.frames) (hl : W + (maxL + 11) + rm.locals ≤ R.locals) (hc : cells + rm.cells ≤ R.cells) (hs : slots + rm.slots ≤ R.slots) :
    ∃ (v : Option Value) (T' : State) (L : List Loc), Q v T'.heap L ∧ Stand p l e R s m args below meth c T' (locs ++ L) (cells + rm.cells) (slots + rm.slots) ∧
      ∀ t, Steps p.tables e below (T'.setTop { g with pc := g.pc + 3, stack := v.toList ++ rest }) t → Steps p.tables e below (T.setTop g) t := by
  obtain ⟨v, _, ⟨T', L', k', n'⟩, -, X', ⟨L, hQ, l1, l2, l3⟩, st⟩ := Jvm.LawKit.callS X hx hown (mvT hZ w1) (mvT hZ w2) (mvT hZ w3) (mvT hZ w4) hy (backOf (W := W) hM hZ w4 w3 hf hl) hg hsize hlen hstack hW hdg (fun _ _ => ⟨rfl, eT, hc, hs⟩)
  dsimp only [Pt.U, Pt.locs, Pt.cells, Pt.slots] at X' l1 l2 l3 st hQ
  subst l1 l2 l3
  exact ⟨v, T', L, hQ, X', st⟩
theorem own_callI (X : Stand p l e R s m args below meth c T locs cells slots) (hx : p.tables.exec = Jvm.exec) (hZ : Z.Warmed39 s.vm) {own : String} {index : Nat} {y : MethodName} {bytes : ByteArray} {maxL : Nat} (hy1 : y.name = "<init>") (hown : s.vm.findClass own = some m.cls)
    (w1 : (Jvm.Cond.methodLink own index y).before a0 Z = true) (w2 : (Jvm.Cond.instanceMethod y).before a0 Z = true) (w3 : (Jvm.Cond.initialized y.cls).before a0 Z = true) (w4 : (Jvm.Cond.code y bytes maxL none).before a0 Z = true)
    (hy : y.cls ≠ "java/lang/invoke/MethodHandle" ∧ y.cls ≠ "java/lang/invoke/VarHandle") {rm : Room} {a : Addr} {argsL : List Value} {Q : Option Value → Heap → List Loc → Prop} (hM : own_Met l Z y bytes maxL none [] rm (.ref a :: argsL).toArray h rm.cells rm.slots Q) (eT : T.heap = h)
    {g : JFrame} (hg : g.method = m) (hsize : g.locals.size = c.maxLocals) {rest : List Value} (hlen : ∀ sig, parseMethodDescriptor y.desc = some sig → argsL.length = sig.parameters.length) (hstack : g.stack = argsL.reverse ++ .ref a :: rest)
    (hdg : decode c.code g.pc = .ok (.invokespecial index, 3)) {W : Nat} (hW : 2 * g.monitorRoom + (rest.map fun v => v.category).sum ≤ W) (hf : rm.frames + 1 ≤ R.frames) (hl : W + (maxL + 11) + rm.locals ≤ R.locals) (hc : cells + rm.cells ≤ R.cells) (hs : slots + rm.slots ≤ R.slots) :
    ∃ (v : Option Value) (T' : State) (L : List Loc), Q v T'.heap L ∧ Stand p l e R s m args below meth c T' (locs ++ L) (cells + rm.cells) (slots + rm.slots) ∧
      ∀ t, Steps p.tables e below (T'.setTop { g with pc := g.pc + 3, stack := v.toList ++ rest }) t → Steps p.tables e below (T.setTop g) t := by
  obtain ⟨v, _, ⟨T', L', k', n'⟩, -, X', ⟨L, hQ, l1, l2, l3⟩, st⟩ := X.specialBack hx hy1 hown (mvT hZ w1) (mvT hZ w2) (mvT hZ w4) hy (backOf (W := W) hM hZ w4 w3 hf hl) hg hsize (Steps.refl _) hlen hstack hW hdg (fun _ _ => ⟨rfl, eT, hc, hs⟩)
  dsimp only [Pt.U, Pt.locs, Pt.cells, Pt.slots] at X' l1 l2 l3 st hQ
  subst l1 l2 l3
  exact ⟨v, T', L, hQ, X', fun _ k => st.trans k⟩
theorem own_callV (X : Stand p l e R s m args below meth c T locs cells slots) (hx : p.tables.exec = Jvm.exec) (hZ : Z.Warmed39 s.vm) {own C : String} {index : Nat} {y z : MethodName} {bytes : ByteArray} {maxL : Nat} {ret : Option FieldType} (hown : s.vm.findClass own = some m.cls)
    (w1 : (Jvm.Cond.methodLink own index y).before a0 Z = true) (w2 : (Jvm.Cond.declares y).before a0 Z = true) (hnf : NotFace s y) (ws : (Jvm.Cond.selects C y z).before a0 Z = true) (wi : (Jvm.Cond.instanceMethod z).before a0 Z = true) (w3 : (Jvm.Cond.initialized z.cls).before a0 Z = true) (w4 : (Jvm.Cond.code z bytes maxL ret).before a0 Z = true)
    (hy : y.cls ≠ "java/lang/invoke/MethodHandle" ∧ y.cls ≠ "java/lang/invoke/VarHandle") {rm : Room} {a : Addr} {argsL : List Value} {Q : Option Value → Heap → List Loc → Prop} (hM : own_Met l Z z bytes maxL ret [] rm (.ref a :: argsL).toArray h rm.cells rm.slots Q) (eT : T.heap = h) (E : Exa Z h a C)
    {g : JFrame} (hg : g.method = m) (hsize : g.locals.size = c.maxLocals) {rest : List Value} (hlen : ∀ sig, parseMethodDescriptor y.desc = some sig → argsL.length = sig.parameters.length) (hstack : g.stack = argsL.reverse ++ .ref a :: rest)
    (hdg : decode c.code g.pc = .ok (.invokevirtual index, 3)) {W : Nat} (hW : 2 * g.monitorRoom + (rest.map fun v => v.category).sum ≤ W) (hf : rm.frames + 1 ≤ R.frames) (hl : W + (maxL + 11) + rm.locals ≤ R.locals) (hc : cells + rm.cells ≤ R.cells) (hs : slots + rm.slots ≤ R.slots) :
    ∃ (v : Option Value) (T' : State) (L : List Loc), Q v T'.heap L ∧ Stand p l e R s m args below meth c T' (locs ++ L) (cells + rm.cells) (slots + rm.slots) ∧
      ∀ t, Steps p.tables e below (T'.setTop { g with pc := g.pc + 3, stack := v.toList ++ rest }) t → Steps p.tables e below (T.setTop g) t := by
  obtain ⟨cq, kq, qa, qb, qc⟩ := isOf hZ eT E
  obtain ⟨v, _, ⟨T', L', k', n'⟩, -, X', ⟨L, hQ, l1, l2, l3⟩, st⟩ := X.virtualBack hx hown (mvT hZ w1) (mvT hZ w2) hnf (mvT hZ ws) (mvT hZ wi) hy (backOf (W := W) hM hZ w4 w3 hf hl) qa qc hg hsize (Steps.refl _) hlen hstack hW hdg (fun _ _ => ⟨rfl, eT, hc, hs⟩)
  dsimp only [Pt.U, Pt.locs, Pt.cells, Pt.slots] at X' l1 l2 l3 st hQ
  subst l1 l2 l3
  exact ⟨v, T', L, hQ, X', fun _ k => st.trans k⟩
theorem own_callF (X : Stand p l e R s m args below meth c T locs cells slots) (hx : p.tables.exec = Jvm.exec) (hZ : Z.Warmed39 s.vm) {own C : String} {index count : Nat} {xi y : MethodName} {bytes : ByteArray} {maxL : Nat} {ret : Option FieldType} (hown : s.vm.findClass own = some m.cls)
    (w1 : (Jvm.Cond.methodLink own index xi).before args s = true) (w2 : (Jvm.Cond.declares xi).before args s = true) (wf : (Jvm.Cond.interfaceMethod xi.cls xi.cls xi.name xi.desc).before args s = true) (ws : (Jvm.Cond.selects C xi y).before args s = true) (wi : (Jvm.Cond.instanceMethod y).before args s = true) (wp : (Jvm.Cond.publicMethod y).before args s = true) (wu : (Jvm.Cond.unhidden C xi.name xi.desc).before args s = true) (wc : (Jvm.Cond.castable C xi.cls).before args s = true) (w3 : (Jvm.Cond.initialized y.cls).before a0 Z = true) (w4 : (Jvm.Cond.code y bytes maxL ret).before a0 Z = true)
    (hy : xi.cls ≠ "java/lang/invoke/MethodHandle" ∧ xi.cls ≠ "java/lang/invoke/VarHandle") {rm : Room} {a : Addr} {argsL : List Value} {Q : Option Value → Heap → List Loc → Prop} (hM : own_Met l Z y bytes maxL ret [] rm (.ref a :: argsL).toArray h rm.cells rm.slots Q) (eT : T.heap = h) (E : Exa Z h a C)
    {g : JFrame} (hg : g.method = m) (hsize : g.locals.size = c.maxLocals) {rest : List Value} (hlen : ∀ sig, parseMethodDescriptor xi.desc = some sig → argsL.length = sig.parameters.length) (hstack : g.stack = argsL.reverse ++ .ref a :: rest)
    (hdg : decode c.code g.pc = .ok (.invokeinterface index count, 5)) {W : Nat} (hW : 2 * g.monitorRoom + (rest.map fun v => v.category).sum ≤ W) (hf : rm.frames + 1 ≤ R.frames) (hl : W + (maxL + 11) + rm.locals ≤ R.locals) (hc : cells + rm.cells ≤ R.cells) (hs : slots + rm.slots ≤ R.slots) :
    ∃ (v : Option Value) (T' : State) (L : List Loc), Q v T'.heap L ∧ Stand p l e R s m args below meth c T' (locs ++ L) (cells + rm.cells) (slots + rm.slots) ∧
      ∀ t, Steps p.tables e below (T'.setTop { g with pc := g.pc + 5, stack := v.toList ++ rest }) t → Steps p.tables e below (T.setTop g) t := by
  obtain ⟨cq, kq, qa, qb, qc⟩ := isOf hZ eT E
  obtain ⟨v, _, ⟨T', L', k', n'⟩, -, X', ⟨L, hQ, l1, l2, l3⟩, st⟩ := X.interfaceBack hx hown w1 w2 wf ws wi wp wu wc hy (backOf (W := W) hM hZ w4 w3 hf hl) qa qb qc hg hsize (Steps.refl _) hlen hstack hW hdg (fun _ _ => ⟨rfl, eT, hc, hs⟩)
  dsimp only [Pt.U, Pt.locs, Pt.cells, Pt.slots] at X' l1 l2 l3 st hQ
  subst l1 l2 l3
  exact ⟨v, T', L, hQ, X', fun _ k => st.trans k⟩
theorem own_irem {g : JFrame} {target : State} (X : Stand p l e R s m args below meth c T locs cells slots) (hx : p.tables.exec = Jvm.exec) (hg : g.method = m) {x y : Int32} {rest : List Value} (hd : decode c.code g.pc = .ok (.irem, 1)) (hs : g.stack = .int y :: .int x :: rest) (hy : y ≠ 0)
    (hr : Steps p.tables e below (T.setTop { g with pc := g.pc + 1, stack := .int (x % y) :: rest }) target) : Steps p.tables e below (T.setTop g) target := iremM X hx hg hd hs hy hr
theorem own_lrem {g : JFrame} {target : State} (X : Stand p l e R s m args below meth c T locs cells slots) (hx : p.tables.exec = Jvm.exec) (hg : g.method = m) {x y : Int64} {rest : List Value} (hd : decode c.code g.pc = .ok (.lrem, 1)) (hs : g.stack = .long y :: .long x :: rest) (hy : y ≠ 0)
    (hr : Steps p.tables e below (T.setTop { g with pc := g.pc + 1, stack := .long (x % y) :: rest }) target) : Steps p.tables e below (T.setTop g) target :=
  XS.lrem X.here hx hg hd hs hy (by rw [lrem_mod]; exact hr)
theorem own_pop2 {g : JFrame} {target : State} (X : Stand p l e R s m args below meth c T locs cells slots) (hx : p.tables.exec = Jvm.exec) (hg : g.method = m) {x : Int64} {rest : List Value} (hd : decode c.code g.pc = .ok (.pop2, 1)) (hs : g.stack = .long x :: rest)
    (hr : Steps p.tables e below (T.setTop { g with pc := g.pc + 1, stack := rest }) target) : Steps p.tables e below (T.setTop g) target := by
  subst hg
  jvm_step X.here [X.here.top, hx, hd, hs, Value.category]
  exact hr
theorem own_fldJ {t : Term} {C n d : String} {a : Addr} {z : Int64} (ht : t.eval args s none [] s = some (.ref a)) (q : (Jvm.Cond.eq (.field t C n d) (.long z)).value args s none s [] = some true) : Fld s s.heap a C n d (.long z) := by
  obtain ⟨x, y, ha, hb, -, k2⟩ := cmp_v (Or.inl q)
  obtain rfl : y = .long z := Option.some.inj (hb.symm.trans (long_at z))
  obtain ⟨w, rfl⟩ := k2
  have e : w = z := gotT (eq_L ha hb) q
  subst e
  exact Fld.start ((fld_at ht).symm.trans ha)
theorem own_staI {C n d : String} {z : Int32} (q : (Jvm.Cond.eq (.static C n d) (.int z)).value args s none s [] = some true) (hi : (Jvm.Cond.initializedFor C n d).before args s = true ∨ ((Jvm.Cond.initialized C).before args s = true ∧ (Jvm.Cond.laysStatic C n d).before args s = true)) : Sta s s.heap C n d (.int z) := by
  obtain ⟨x, y, ha, hb, -, k2⟩ := cmp_v (Or.inl q)
  obtain rfl : y = .int z := Option.some.inj (hb.symm.trans (Term.int_eval z))
  obtain ⟨w, rfl⟩ := k2
  have e : w = z := gotT (Cond.eq_ints ha hb) q
  subst e
  exact Sta.start ha hi
theorem own_ns_exa {a : Addr} {C : String} (E : Exa Z h a C) : ∃ c : Cell, h[a]? = some c ∧ c.vm.isStatics = false := by
  obtain ⟨c, k, h1, -, -, h4, -⟩ := E
  exact ⟨c, h1, h4⟩
theorem own_ns_arv {a : Addr} {k : ClassId} {ty : FieldType} {z : Int32} {vs : List Value} {dv : Value} (F : Arv Z h a k ty z vs dv) : ∃ c : Cell, h[a]? = some c ∧ c.vm.isStatics = false := by
  obtain ⟨c, A, -⟩ := F
  exact ⟨c, A.1, A.plain⟩
theorem own_sta_keep {h' : Heap} {C n d : String} {w : Value} {ws : List Addr} (F : Sta Z h C n d w) (K : Keep h h' ws) (hn : ∀ x ∈ ws, ∃ c : Cell, h[x]? = some c ∧ c.vm.isStatics = false) : Sta Z h' C n d w := by
  obtain ⟨cf, i, k, f, st, cell, h1, h2, h3, h4, h5, h6, h7⟩ := F
  exact ⟨cf, i, k, f, st, cell, h1, h2, h3, h4, K.2.1 st cell h5 (fun q => by obtain ⟨c, e1, e2⟩ := hn st q; cases h5.symm.trans e1; rw [e2] at h6; cases h6), h6, h7⟩
end Own
/-! own_..W: the same walk where String constants may be loaded cold (by the body or by a callee): the Stand is over the start with the tables at hand, 'Since' beside it. -/
def own_PostW (s : State) (Q : Option Value → Heap → List Loc → Prop) (cs ss : Nat) (o : Outcome) (u : State) : Prop := ∃ v L, o = .returned v ∧ Q v u.heap L ∧ ReturnedEndW s o u L cs ss
abbrev own_MetW (l : Launch) (Z : State) (y : MethodName) (bytes : ByteArray) (maxL : Nat) (ret : Option FieldType) (ws : List Jvm.Cond) (rm : Room) (as' : Array Value) (h0 : Heap) (cs ss : Nat) (Q : Option Value → Heap → List Loc → Prop) : Prop :=
  MetFree l y (head1 (Jvm.Cond.code y bytes maxL ret :: ws) rm) (fun a U => a = as' ∧ Z.Warmed39 U.vm ∧ U.heap = h0) (fun _ _ _ _ _ => True) (fun _ U o U' => ∃ v L, o = .returned v ∧ Q v U'.heap L ∧ ReturnedEndW U o U' L cs ss)
section OwnW
variable {p : Program} {l : Launch} {e : Env} {R : Room} {s : State} {m : MethodId} {args : Array Value} {below : List Frame} {meth : Method} {c : Code} {T T' : State} {locs : List Loc} {cells slots : Nat} {Z : State} {a0 : Array Value} {h : Heap} {vm0 : Vm} {k0 : Nat}
theorem own_metW {y : MethodName} {bytes : ByteArray} {maxL : Nat} {ret : Option FieldType} {ws : List Jvm.Cond} {rm : Room} {as' : Array Value} {h0 : Heap} {cs ss : Nat} {Q : Option Value → Heap → List Loc → Prop} (hp : plainFor y = true)
    (body : ∀ (p : Program) (e : Env) (s : State) (m : MethodId) (below : List Frame) (meth : Method) (c : Code) (s₁ : State), BodyLoose p l y (head1 (Jvm.Cond.code y bytes maxL ret :: ws) rm) bytes maxL ret e s m as' below meth c s₁ → c.maxLocals = maxL → Z.Warmed39 (s.setVm s.vm).vm →
      Stand p l e rm (s.setVm s.vm) m as' below meth c s₁ [] 0 0 → s₁.heap = h0 → s.Since s.vm 0 → own_Go p e below (own_PostW s Q cs ss) s₁ (entryFrame m as' maxL)) : own_MetW l Z y bytes maxL ret ws rm as' h0 cs ss Q := by
  refine MetFree.of_bodySF hp hisR ?_
  intro p e s m args below meth c s₁ Bd hml0 hP hK
  obtain ⟨rfl, hZ, hh⟩ := hP
  exact body p e s m below meth c s₁ Bd hml0 hZ (Stand.of_body Bd) (by rw [← hh, Bd.state]; rfl) ((State.WarmedH.refl s).since 0)
theorem own_endW {o : Outcome} {u : State} {L : List Loc} {a b a' b' : Nat} (q : ReturnedEndW s o u L a b) (h1 : a ≤ a') (h2 : b ≤ b') : ReturnedEndW s o u L a' b' := ⟨q.1, q.2.1, q.2.2.1, q.2.2.2.mono h1 h2⟩
theorem own_retNW (X : Stand p l e R (s.setVm vm0) m args below meth c T locs cells slots) (hx : p.tables.exec = Jvm.exec) (hS : s.Since vm0 k0) (eT : T.heap = h) (hk : k0 ≤ h.size) (t : FieldType) (hret : meth.sig.returnType = some t) (hlk : meth.locks = false) (ht : t = .boolean ∨ t = .byte ∨ t = .char ∨ t = .short) {pc : Nat} {Ls : Array Slot} {z : Int32} {rest : List Value} (hd : decode c.code pc = .ok (.ireturn, 1))
    {Q : Option Value → Heap → List Loc → Prop} {cs ss : Nat} (hc : cells ≤ cs) (hs : slots ≤ ss) (hQ : Q (some (.int (nar t z))) T.heap locs) : own_Go p e below (own_PostW s Q cs ss) T (mkF m pc Ls (.int z :: rest)) := by
  obtain ⟨fs, hr, hrun, hended, hW⟩ := X.leaveW hS (eT ▸ hk) (v := some (.int (nar t z))) (fun h => by rw [hret] at h; cases h) hlk
  exact ⟨_, _, retN X hx hret ht hd hr, hrun, hended, _, _, rfl, hQ, own_endW hW hc hs⟩
theorem own_retAW (X : Stand p l e R (s.setVm vm0) m args below meth c T locs cells slots) (hx : p.tables.exec = Jvm.exec) (hS : s.Since vm0 k0) (eT : T.heap = h) (hk : k0 ≤ h.size) {t : FieldType} (hret : meth.sig.returnType = some t) (hlk : meth.locks = false) (ht : t.isReference = true) {pc : Nat} {Ls : Array Slot} {w : Value} {rest : List Value} (hw : w.isRef = true) (hd : decode c.code pc = .ok (.areturn, 1))
    {Q : Option Value → Heap → List Loc → Prop} {cs ss : Nat} (hc : cells ≤ cs) (hs : slots ≤ ss) (hQ : Q (some w) T.heap locs) : own_Go p e below (own_PostW s Q cs ss) T (mkF m pc Ls (w :: rest)) := by
  obtain ⟨fs, hr, hrun, hended, hW⟩ := X.leaveW hS (eT ▸ hk) (v := some w) (fun h => by rw [hret] at h; cases h) hlk
  have hn : narrow t w = w := by rcases ref_cases hw with rfl | ⟨a, rfl⟩ <;> cases t <;> first | rfl | cases ht
  exact ⟨_, _, retOut X hx hret hn (Or.inr (Or.inr (Or.inr (Or.inr ⟨rfl, ht, hw⟩)))) hd hr, hrun, hended, _, _, rfl, hQ, own_endW hW hc hs⟩
theorem own_retVW (X : Stand p l e R (s.setVm vm0) m args below meth c T locs cells slots) (hx : p.tables.exec = Jvm.exec) (hS : s.Since vm0 k0) (eT : T.heap = h) (hk : k0 ≤ h.size) (hret : meth.sig.returnType = none) (hlk : meth.locks = false) {pc : Nat} {Ls : Array Slot} (hd : decode c.code pc = .ok (.return_, 1))
    {Q : Option Value → Heap → List Loc → Prop} {cs ss : Nat} (hc : cells ≤ cs) (hs : slots ≤ ss) (hQ : Q none T.heap locs) : own_Go p e below (own_PostW s Q cs ss) T (mkF m pc Ls []) := by
  obtain ⟨fs, hr, hrun, hended, hW⟩ := X.leaveW hS (eT ▸ hk) (v := none) (fun _ => rfl) hlk
  exact ⟨_, _, X.returnOut hx hret hd hr, hrun, hended, _, _, rfl, hQ, own_endW hW hc hs⟩
theorem own_callIW (X : Stand p l e R (s.setVm vm0) m args below meth c T locs cells slots) (hx : p.tables.exec = Jvm.exec) (hZ : Z.Warmed39 (s.setVm vm0).vm) (hS : s.Since vm0 k0) (hk : k0 ≤ h.size) {own : String} {index : Nat} {y : MethodName} {bytes : ByteArray} {maxL : Nat} (hy1 : y.name = "<init>") (hown : (s.setVm vm0).vm.findClass own = some m.cls)
    (w1 : (Jvm.Cond.methodLink own index y).before a0 Z = true) (w2 : (Jvm.Cond.instanceMethod y).before a0 Z = true) (w3 : (Jvm.Cond.initialized y.cls).before a0 Z = true) (w4 : (Jvm.Cond.code y bytes maxL none).before a0 Z = true)
    (hy : y.cls ≠ "java/lang/invoke/MethodHandle" ∧ y.cls ≠ "java/lang/invoke/VarHandle") {rm : Room} {a : Addr} {argsL : List Value} {Q : Option Value → Heap → List Loc → Prop} (hM : own_MetW l Z y bytes maxL none [] rm (.ref a :: argsL).toArray h rm.cells rm.slots Q) (eT : T.heap = h)
    {g : JFrame} (hg : g.method = m) (hsize : g.locals.size = c.maxLocals) {rest : List Value} (hlen : ∀ sig, parseMethodDescriptor y.desc = some sig → argsL.length = sig.parameters.length) (hstack : g.stack = argsL.reverse ++ .ref a :: rest)
    (hdg : decode c.code g.pc = .ok (.invokespecial index, 3)) {W : Nat} (hW : 2 * g.monitorRoom + (rest.map fun v => v.category).sum ≤ W) (hf : rm.frames + 1 ≤ R.frames) (hl : W + (maxL + 11) + rm.locals ≤ R.locals) (hc : cells + rm.cells ≤ R.cells) (hs : slots + rm.slots ≤ R.slots) :
    ∃ (v : Option Value) (T' : State) (L : List Loc), Q v T'.heap L ∧ Stand p l e R (s.setVm T'.vm) m args below meth c T' (locs ++ L) (cells + rm.cells) (slots + rm.slots) ∧ s.Since T'.vm T'.heap.size ∧ Z.Warmed39 (s.setVm T'.vm).vm ∧ (s.setVm T'.vm).vm.findClass own = some m.cls ∧
      ∀ t, Steps p.tables e below (T'.setTop { g with pc := g.pc + 3, stack := v.toList ++ rest }) t → Steps p.tables e below (T.setTop g) t := by
  obtain ⟨v, _, ⟨T', L', k', n'⟩, -, X', hS', hgr, ⟨L, hQ, l1, l2, l3⟩, st⟩ := X.specialBackS hx hy1 hown (mvT hZ w1) (mvT hZ w2) (mvT hZ w4) hy (backOfS (W := W) hM hZ w4 w3 hf hl) hg hsize (Steps.refl _) hlen hstack hW hdg (fun _ _ => ⟨rfl, eT, hc, hs⟩)
  dsimp only [Pt.U, Pt.locs, Pt.cells, Pt.slots] at X' hS' hgr l1 l2 l3 st hQ
  subst l1 l2 l3
  obtain ⟨q1, q2, q3, q4⟩ := rebS hS hk X' hS' (by rw [← eT]; exact hgr) hZ hown
  exact ⟨v, T', L, hQ, q1, q2, q3, q4, fun _ k => st.trans k⟩
end OwnW
theorem own_strw : ∀ d ∈ Bundle.stringAtoms, d ∈ tables_1 := by
  intro d hd
  simp only [Bundle.stringAtoms, List.mem_cons, List.not_mem_nil, or_false] at hd
  rcases hd with rfl | rfl | rfl | rfl | rfl | rfl | rfl
  · exact List.mem_of_getElem? (i := 2) rfl
  · exact List.mem_of_getElem? (i := 10) rfl
  · exact List.mem_of_getElem? (i := 14) rfl
  · exact List.mem_of_getElem? (i := 23) rfl
  · exact List.mem_of_getElem? (i := 25) rfl
  · exact List.mem_of_getElem? (i := 39) rfl
  · exact List.mem_of_getElem? (i := 40) rfl
theorem own_xne {a d : Int64} (h : ¬ d = 0) : ¬ (a ^^^ d) = a := by
  intro q
  apply h
  have h1 : a.toBitVec ^^^ d.toBitVec = a.toBitVec := by rw [← Int64.toBitVec_xor, q]
  have h2 : d.toBitVec = 0#64 := by
    have h3 := congrArg (fun z => a.toBitVec ^^^ z) h1
    simp only [← BitVec.xor_assoc, BitVec.xor_self, BitVec.zero_xor] at h3
    exact h3
  exact Int64.toBitVec_inj.mp h2
theorem own_ex1 {t bt : Int64} {dt : Bool} (h : (dt = true → ¬ bt = t) ∧ (dt = false → bt = t)) : (bt = t) ↔ dt = false := by
  cases dt
  · exact ⟨fun _ => rfl, h.2⟩
  · exact ⟨fun q => absurd q (h.1 rfl), fun q => absurd q (by decide)⟩
theorem own_ex3 {t p d bt bp bd : Int64} {dt dp dd : Bool} (h1 : (dt = true → ¬ bt = t) ∧ (dt = false → bt = t)) (h2 : (dp = true → ¬ bp = p) ∧ (dp = false → bp = p)) (h3 : (dd = true → ¬ bd = d) ∧ (dd = false → bd = d)) : decide (bt = t ∧ bp = p ∧ bd = d) = (!dt && (!dp && !dd)) := by
  rw [Bool.eq_iff_iff, decide_eq_true_eq, own_ex1 h1, own_ex1 h2, own_ex1 h3]
  cases dt <;> cases dp <;> cases dd <;> decide
theorem own_ex4 {t p d bt bp bd : Int64} {dt dp dd : Bool} (h1 : (dt = true → ¬ bt = t) ∧ (dt = false → bt = t)) (h2 : (dp = true → ¬ bp = p) ∧ (dp = false → bp = p)) (h3 : (dd = true → ¬ bd = d) ∧ (dd = false → bd = d)) : decide (t = bt ∧ p = bp ∧ d = bd) = (!dt && (!dp && !dd)) := by
  rw [← own_ex3 h1 h2 h3, decide_eq_decide]
  exact ⟨fun q => ⟨q.1.symm, q.2.1.symm, q.2.2.symm⟩, fun q => ⟨q.1.symm, q.2.1.symm, q.2.2.symm⟩⟩
theorem own_ch (x : Int32) : ¬ (255 : Int32) < (x &&& (255 : Int32)).toUInt32.toUInt16.toUInt32.toInt32 := by
  have h1 := c_mask x (255 : Int32) 8 (by decide) (by decide)
  have h2 := c_i2c (x &&& (255 : Int32))
  simp only [Nat.reducePow, Int.cast_ofNat_Int] at h1
  simp only [Int32.lt_iff_toInt_lt, Int32.reduceToInt]
  omega
theorem d2_0 : decode jdk_43_method_3_code 0 = .ok (.iload_n 0, 1) := by decide +kernel
theorem d2_1 : decode jdk_43_method_3_code 1 = .ok (.sipush 255, 3) := by decide +kernel
theorem d2_4 : decode jdk_43_method_3_code 4 = .ok (.if_icmp .gt 7, 3) := by decide +kernel
theorem d2_7 : decode jdk_43_method_3_code 7 = .ok (.iconst 1, 1) := by decide +kernel
theorem d2_8 : decode jdk_43_method_3_code 8 = .ok (.goto 4, 3) := by decide +kernel
theorem d2_12 : decode jdk_43_method_3_code 12 = .ok (.ireturn, 1) := by decide +kernel
theorem pn_rm2 : plainName "java/lang/StringLatin1" = true := by first | (simp [plainName, overriddenIn]; done) | decide +kernel
theorem ef_rm2 (m : MethodId) (p0 : Int32) : entryFrame m #[(.int p0)] 1 = mkF m 0 #[.val (.int p0)] [] := by first | (simp [entryFrame, mkF, argsToLocals, Value.category]; done) | rfl
set_option maxRecDepth 65536 in
set_option maxHeartbeats 40000000 in
theorem rm2 (l : Launch) (Z : State) (a0 : Array Value) (hw : ∀ d ∈ tables_1, d.before a0 Z = true) (p0 : Int32)  (h0 : Heap) (hch : ¬ (255 : Int32) < p0) :
    own_Met l Z (⟨"java/lang/StringLatin1", "canEncode", "(C)Z"⟩ : MethodName) jdk_43_method_3_code 1 (some .boolean) [] ({ frames := 0, cells := 0, slots := 0, locals := 0 } : Room) #[(.int p0)] h0 0 0 (fun v h L => v = some (.int (1 : Int32)) ∧ h = h0 ∧ L = []) := by
  refine own_met (plainFor_of_name pn_rm2) ?_
  intro p e s m below meth c s₁ Bd hml0 hZ X0 e0
  have hx := Bd.exec
  have hby := Bd.bytes
  have hml : c.maxLocals = 1 := hml0
  have hown : s.vm.findClass "java/lang/StringLatin1" = some m.cls := findClass_of_methodNamed Bd.named
  have hnm := (name_of_methodNamed Bd.named Bd.method).1
  refine own_cast (ef_rm2 m p0) ?_
  generalize hQQ : (fun (v : Option Value) (h : Heap) (L : List Loc) => v = some (.int (1 : Int32)) ∧ h = h0 ∧ L = []) = QQ
  refine own_go (g' := (mkF m 1 #[.val (.int p0)] [(.int p0)])) (fun _ kgo => XS.iloadN X0.here hx rfl (hb hby d2_0) rfl kgo) ?_
  refine own_go (g' := (mkF m 4 #[.val (.int p0)] [(.int (255 : Int32)), (.int p0)])) (fun _ kgo => XS.sipush X0.here hx rfl (hb hby d2_1) kgo) ?_
  refine own_go (g' := (mkF m 7 #[.val (.int p0)] [])) (fun _ kgo => XS.icmpNo X0.here hx rfl (hb hby d2_4) rfl (flt hch).2.2.1 kgo) ?_
  refine own_go (g' := (mkF m 8 #[.val (.int p0)] [(.int (1 : Int32))])) (fun _ kgo => XS.iconst X0.here hx rfl (hb hby d2_7) kgo) ?_
  refine own_go (g' := (mkF m 12 #[.val (.int p0)] [(.int (1 : Int32))])) (fun _ kgo => XS.goto X0.here hx rfl (pc0 := 8) (pc' := 12) rfl (hb hby d2_8) (by decide) (by decide) kgo) ?_
  refine own_retN X0 hx .boolean Bd.returns Bd.notSynchronized (by simp) (hb hby d2_12) (by decide) (by decide) ?_
  show QQ _ s₁.heap _
  rw [e0]
  rw [← hQQ]
  exact ⟨rfl, rfl, rfl⟩
theorem d3_0 : decode jdk_43_method_46_code 0 = .ok (.iconst 1, 1) := by decide +kernel
theorem d3_1 : decode jdk_43_method_46_code 1 = .ok (.newarray .byte, 2) := by decide +kernel
theorem d3_3 : decode jdk_43_method_46_code 3 = .ok (.dup, 1) := by decide +kernel
theorem d3_4 : decode jdk_43_method_46_code 4 = .ok (.iconst 0, 1) := by decide +kernel
theorem d3_5 : decode jdk_43_method_46_code 5 = .ok (.iload_n 0, 1) := by decide +kernel
theorem d3_6 : decode jdk_43_method_46_code 6 = .ok (.i2b, 1) := by decide +kernel
theorem d3_7 : decode jdk_43_method_46_code 7 = .ok (.bastore, 1) := by decide +kernel
theorem d3_8 : decode jdk_43_method_46_code 8 = .ok (.areturn, 1) := by decide +kernel
theorem pn_rm3 : plainName "java/lang/StringLatin1" = true := by first | (simp [plainName, overriddenIn]; done) | decide +kernel
theorem ef_rm3 (m : MethodId) (p0 : Int32) : entryFrame m #[(.int p0)] 1 = mkF m 0 #[.val (.int p0)] [] := by first | (simp [entryFrame, mkF, argsToLocals, Value.category]; done) | rfl
set_option maxRecDepth 65536 in
set_option maxHeartbeats 40000000 in
theorem rm3 (l : Launch) (Z : State) (a0 : Array Value) (hw : ∀ d ∈ tables_1, d.before a0 Z = true) (p0 : Int32)  (h0 : Heap) (n0 : Nat) (Z0 : n0 ≤ h0.size) :
    own_Met l Z (⟨"java/lang/StringLatin1", "toBytes", "(C)[B"⟩ : MethodName) jdk_43_method_46_code 1 (some (.array .byte)) [] ({ frames := 0, cells := 1, slots := 1, locals := 0 } : Room) #[(.int p0)] h0 1 1 (fun v h L => ∃ (r : Addr), v = some (.ref r) ∧ Fr n0 L ∧ Keep h0 h []) := by
  refine own_met (plainFor_of_name pn_rm3) ?_
  intro p e s m below meth c s₁ Bd hml0 hZ X0 e0
  have hx := Bd.exec
  have hby := Bd.bytes
  have hml : c.maxLocals = 1 := hml0
  have hown : s.vm.findClass "java/lang/StringLatin1" = some m.cls := findClass_of_methodNamed Bd.named
  have hnm := (name_of_methodNamed Bd.named Bd.method).1
  refine own_cast (ef_rm3 m p0) ?_
  generalize hQQ : (fun (v : Option Value) (h : Heap) (L : List Loc) => ∃ (r : Addr), v = some (.ref r) ∧ Fr n0 L ∧ Keep h0 h []) = QQ
  have N0 := Fr.nil n0
  have K0 := Keep.refl h0 []
  refine own_go (g' := (mkF m 1 #[.val (.int p0)] [(.int (1 : Int32))])) (fun _ kgo => XS.iconst X0.here hx rfl (hb hby d3_0) kgo) ?_
  obtain ⟨T1, h1, k1, X1, e1, E1, A1, st1⟩ := newP X0 hx hZ (hw _ (List.mem_of_getElem? (i := 14) rfl)) e0 (g := (mkF m 1 #[.val (.int p0)] [(.int (1 : Int32))])) rfl (hb hby d3_1) rfl (by decide) (cap := 1) (by decide) (by decide) (by decide) (by decide)
  obtain ⟨b1, ad1⟩ : ∃ z, z = h0.size := ⟨_, rfl⟩
  rw [← ad1] at A1 st1
  have ge_b1 : n0 ≤ b1 := by rw [ad1]; exact Z0
  have sz_b1 : h0.size ≤ b1 := by rw [ad1]; exact K0.1
  have Z1 : n0 ≤ h1.size := Nat.le_trans Z0 E1.1
  have K1 : Keep h0 h1 [] := K0.ext E1
  have V1 : Arv Z h1 b1 k1 .byte (1 : Int32) [(.int (0 : Int32))] (.int (0 : Int32)) := (Arv.new A1 (by decide)).pad (pad_rep [] (.int (0 : Int32)) 1)
  refine own_go (g' := (mkF m 3 #[.val (.int p0)] [(.ref b1)])) (st1) ?_
  refine own_go (g' := (mkF m 4 #[.val (.int p0)] [(.ref b1), (.ref b1)])) (fun _ kgo => XS.dup X1.here hx rfl (hb hby d3_3) rfl rfl kgo) ?_
  refine own_go (g' := (mkF m 5 #[.val (.int p0)] [(.int (0 : Int32)), (.ref b1), (.ref b1)])) (fun _ kgo => XS.iconst X1.here hx rfl (hb hby d3_4) kgo) ?_
  refine own_go (g' := (mkF m 6 #[.val (.int p0)] [(.int p0), (.int (0 : Int32)), (.ref b1), (.ref b1)])) (fun _ kgo => XS.iloadN X1.here hx rfl (hb hby d3_5) rfl kgo) ?_
  refine own_go (g' := (mkF m 7 #[.val (.int p0)] [(.int (p0.toInt8.toInt32)), (.int (0 : Int32)), (.ref b1), (.ref b1)])) (fun _ kgo => XS.i2b X1.here hx rfl (hb hby d3_6) rfl kgo) ?_
  obtain ⟨cl2, Ar2, qk2, sz2, nn2, Hs2, Gs2⟩ := id V1
  have hin2 : ¬ ((0 : Int32) < 0 ∨ cl2.slots.size ≤ ((0 : Int32)).toNatClampNeg) := inb_of sz2 ⟨by decide, by decide⟩
  obtain ⟨T2, h2, X2, e2, W2, st2⟩ := stB X1 hx hZ e1 Ar2 (j := (0 : Int32)) hin2 (g := (mkF m 7 #[.val (.int p0)] [(.int (p0.toInt8.toInt32)), (.int (0 : Int32)), (.ref b1), (.ref b1)])) rfl rfl (hb hby d3_7)
  have V2 : Arv Z h2 b1 k1 .byte (1 : Int32) [(.int ((p0.toInt8.toInt32)).toInt8.toInt32)] (.int (0 : Int32)) := Arv.set Ar2 qk2 sz2 nn2 Hs2 Gs2 (fits_nar_byte _) W2 0 rfl (Nat.le_of_ble_eq_true rfl)
  have N2 := Fr.snoc X2 N0 ge_b1
  have Z2 : n0 ≤ h2.size := by rw [W2.size]; exact Z1
  have K2 : Keep h0 h2 [] := K1.wr W2 (Or.inr sz_b1)
  refine own_go (g' := (mkF m 8 #[.val (.int p0)] [(.ref b1)])) (st2) ?_
  refine own_retA X2 hx Bd.returns Bd.notSynchronized rfl rfl (hb hby d3_8) (by decide) (by decide) ?_
  show QQ _ T2.heap _
  rw [e2]
  rw [← hQQ]
  exact ⟨b1, rfl, N2, K2⟩
theorem d4_0 : decode jdk_42_method_151_code 0 = .ok (.aload_n 0, 1) := by decide +kernel
theorem d4_1 : decode jdk_42_method_151_code 1 = .ok (.invokespecial 1, 3) := by decide +kernel
theorem d4_4 : decode jdk_42_method_151_code 4 = .ok (.aload_n 0, 1) := by decide +kernel
theorem d4_5 : decode jdk_42_method_151_code 5 = .ok (.aload_n 1, 1) := by decide +kernel
theorem d4_6 : decode jdk_42_method_151_code 6 = .ok (.putfield 9, 3) := by decide +kernel
theorem d4_9 : decode jdk_42_method_151_code 9 = .ok (.aload_n 0, 1) := by decide +kernel
theorem d4_10 : decode jdk_42_method_151_code 10 = .ok (.iload_n 2, 1) := by decide +kernel
theorem d4_11 : decode jdk_42_method_151_code 11 = .ok (.putfield 15, 3) := by decide +kernel
theorem d4_14 : decode jdk_42_method_151_code 14 = .ok (.return_, 1) := by decide +kernel
theorem pn_rm4 : plainName "java/lang/String" = true := by first | (simp [plainName, overriddenIn]; done) | decide +kernel
theorem ef_rm4 (m : MethodId) (o0 : Addr) (o1 : Addr) : entryFrame m #[(.ref o0), (.ref o1), (.int (0 : Int32))] 3 = mkF m 0 #[.val (.ref o0), .val (.ref o1), .val (.int (0 : Int32))] [] := by first | (simp [entryFrame, mkF, argsToLocals, Value.category]; done) | rfl
set_option maxRecDepth 65536 in
set_option maxHeartbeats 40000000 in
theorem rm4 (l : Launch) (Z : State) (a0 : Array Value) (hw : ∀ d ∈ tables_1, d.before a0 Z = true) (o0 : Addr) (o1 : Addr)  (h0 : Heap) (n0 : Nat) (Z0 : n0 ≤ h0.size) (g_o0 : n0 ≤ o0) (P0 : Exa Z h0 o0 "java/lang/String") (P1 : Fld Z h0 o0 "java/lang/String" "value" "[B" .null) (P2 : Fld Z h0 o0 "java/lang/String" "coder" "B" (.int (0 : Int32))) :
    own_Met l Z (⟨"java/lang/String", "<init>", "([BB)V"⟩ : MethodName) jdk_42_method_151_code 3 none [] ({ frames := 1, cells := 0, slots := 0, locals := 12 } : Room) #[(.ref o0), (.ref o1), (.int (0 : Int32))] h0 0 0 (fun v h L => v = none ∧ Fr n0 L ∧ Keep h0 h [o0] ∧ Exa Z h o0 "java/lang/String") := by
  refine own_met (plainFor_of_name pn_rm4) ?_
  intro p e s m below meth c s₁ Bd hml0 hZ X0 e0
  have hx := Bd.exec
  have hby := Bd.bytes
  have hml : c.maxLocals = 3 := hml0
  have hown : s.vm.findClass "java/lang/String" = some m.cls := findClass_of_methodNamed Bd.named
  have hnm := (name_of_methodNamed Bd.named Bd.method).1
  refine own_cast (ef_rm4 m o0 o1) ?_
  generalize hQQ : (fun (v : Option Value) (h : Heap) (L : List Loc) => v = none ∧ Fr n0 L ∧ Keep h0 h [o0] ∧ Exa Z h o0 "java/lang/String") = QQ
  have N0 := Fr.nil n0
  have K0 := Keep.refl h0 [o0]
  refine own_go (g' := (mkF m 1 #[.val (.ref o0), .val (.ref o1), .val (.int (0 : Int32))] [(.ref o0)])) (fun _ kgo => XS.aloadN X0.here hx rfl (hb hby d4_0) rfl rfl kgo) ?_
  obtain ⟨T1, X1, e1, st1⟩ := initO X0 hx hZ hown (hw _ (List.mem_of_getElem? (i := 19) rfl)) (hw _ (List.mem_of_getElem? (i := 20) rfl)) (hw _ (List.mem_of_getElem? (i := 21) rfl)) e0 (g := (mkF m 1 #[.val (.ref o0), .val (.ref o1), .val (.int (0 : Int32))] [(.ref o0)])) rfl (by rw [hml]; rfl) rfl (hb hby d4_1) (by decide) (W := 0) (by show 2 * 0 + _ ≤ _; exact Nat.le_of_eq rfl) (by decide)
  refine own_go (g' := (mkF m 4 #[.val (.ref o0), .val (.ref o1), .val (.int (0 : Int32))] [])) (st1) ?_
  refine own_go (g' := (mkF m 5 #[.val (.ref o0), .val (.ref o1), .val (.int (0 : Int32))] [(.ref o0)])) (fun _ kgo => XS.aloadN X1.here hx rfl (hb hby d4_4) rfl rfl kgo) ?_
  refine own_go (g' := (mkF m 6 #[.val (.ref o0), .val (.ref o1), .val (.int (0 : Int32))] [(.ref o1), (.ref o0)])) (fun _ kgo => XS.aloadN X1.here hx rfl (hb hby d4_5) rfl rfl kgo) ?_
  obtain ⟨T2, h2, X2, e2, W2, st2⟩ := putF X1 hx hZ hown (host := "") (Or.inl (hw _ (List.mem_of_getElem? (i := 22) rfl))) Via.refl e1 P1 P0 (Or.inr ⟨(hw _ (List.mem_of_getElem? (i := 23) rfl)), rfl, hnm⟩) (hw _ (List.mem_of_getElem? (i := 10) rfl)) (ty := (.array .byte)) (by decide) rfl rfl (g := (mkF m 6 #[.val (.ref o0), .val (.ref o1), .val (.int (0 : Int32))] [(.ref o1), (.ref o0)])) rfl rfl (hb hby d4_6)
  have fw2 := Fld.same W2 P1
  have N2 := Fr.snoc X2 N0 g_o0
  have Z2 : n0 ≤ h2.size := by rw [W2.size]; exact Z0
  have K2 : Keep h0 h2 [o0] := K0.wr W2 (Or.inl (List.mem_of_getElem? (i := 0) rfl))
  refine own_go (g' := (mkF m 9 #[.val (.ref o0), .val (.ref o1), .val (.int (0 : Int32))] [])) (st2) ?_
  refine own_go (g' := (mkF m 10 #[.val (.ref o0), .val (.ref o1), .val (.int (0 : Int32))] [(.ref o0)])) (fun _ kgo => XS.aloadN X2.here hx rfl (hb hby d4_9) rfl rfl kgo) ?_
  refine own_go (g' := (mkF m 11 #[.val (.ref o0), .val (.ref o1), .val (.int (0 : Int32))] [(.int (0 : Int32)), (.ref o0)])) (fun _ kgo => XS.iloadN X2.here hx rfl (hb hby d4_10) rfl kgo) ?_
  have fx3 : Fld Z h2 o0 "java/lang/String" "coder" "B" (.int (0 : Int32)) := (Fld.other W2 P2 (Or.inr (slot_ne (Or.inr (hw _ (List.mem_of_getElem? (i := 25) rfl))) (Or.inr (hw _ (List.mem_of_getElem? (i := 23) rfl))) (by decide) (t := .byte) (t' := (.array .byte)) (by decide) (by decide))))
  have fx4 : Exa Z h2 o0 "java/lang/String" := (Exa.wr W2 P0)
  obtain ⟨T5, h5, X5, e5, W5, st5⟩ := putFN X2 hx hZ hown (hw _ (List.mem_of_getElem? (i := 24) rfl)) Via.refl e2 fx3 fx4 (Or.inr ⟨(hw _ (List.mem_of_getElem? (i := 25) rfl)), rfl, hnm⟩) (hw _ (List.mem_of_getElem? (i := 10) rfl)) (ty := .byte) (v := (.int (0 : Int32))) (v' := (.int (0 : Int32))) (by decide) rfl rfl (g := (mkF m 11 #[.val (.ref o0), .val (.ref o1), .val (.int (0 : Int32))] [(.int (0 : Int32)), (.ref o0)])) rfl rfl (hb hby d4_11)
  have fw5 := Fld.same W5 fx3
  have N5 := Fr.snoc X5 N2 g_o0
  have Z5 : n0 ≤ h5.size := by rw [W5.size]; exact Z2
  have K5 : Keep h0 h5 [o0] := K2.wr W5 (Or.inl (List.mem_of_getElem? (i := 0) rfl))
  refine own_go (g' := (mkF m 14 #[.val (.ref o0), .val (.ref o1), .val (.int (0 : Int32))] [])) (st5) ?_
  refine own_retV X5 hx Bd.returns Bd.notSynchronized (hb hby d4_14) (by decide) (by decide) ?_
  show QQ _ T5.heap _
  rw [e5]
  have fx6 : Exa Z h5 o0 "java/lang/String" := (Exa.wr W5 fx4)
  rw [← hQQ]
  exact ⟨rfl, N5, K5, fx6⟩
theorem d1_0 : decode jdk_42_method_139_code 0 = .ok (.getstatic 38, 3) := by decide +kernel
theorem d1_3 : decode jdk_42_method_139_code 3 = .ok (.ifCond .eq 23, 3) := by decide +kernel
theorem d1_6 : decode jdk_42_method_139_code 6 = .ok (.iload_n 0, 1) := by decide +kernel
theorem d1_7 : decode jdk_42_method_139_code 7 = .ok (.invokestatic 1015, 3) := by decide +kernel
theorem d1_10 : decode jdk_42_method_139_code 10 = .ok (.ifCond .eq 16, 3) := by decide +kernel
theorem d1_13 : decode jdk_42_method_139_code 13 = .ok (.new 10, 3) := by decide +kernel
theorem d1_16 : decode jdk_42_method_139_code 16 = .ok (.dup, 1) := by decide +kernel
theorem d1_17 : decode jdk_42_method_139_code 17 = .ok (.iload_n 0, 1) := by decide +kernel
theorem d1_18 : decode jdk_42_method_139_code 18 = .ok (.invokestatic 1018, 3) := by decide +kernel
theorem d1_21 : decode jdk_42_method_139_code 21 = .ok (.iconst 0, 1) := by decide +kernel
theorem d1_22 : decode jdk_42_method_139_code 22 = .ok (.invokespecial 209, 3) := by decide +kernel
theorem d1_25 : decode jdk_42_method_139_code 25 = .ok (.areturn, 1) := by decide +kernel
theorem pn_rm1 : plainName "java/lang/String" = true := by first | (simp [plainName, overriddenIn]; done) | decide +kernel
theorem pd1_0 : parseMethodDescriptor "(C)Z" = some ⟨[.char], some .boolean⟩ := by decide +kernel
theorem pd1_1 : parseMethodDescriptor "(C)[B" = some ⟨[.char], some (.array .byte)⟩ := by decide +kernel
theorem pd1_2 : parseMethodDescriptor "([BB)V" = some ⟨[(.array .byte), .byte], none⟩ := by decide +kernel
theorem ef_rm1 (m : MethodId) (p0 : Int32) : entryFrame m #[(.int p0)] 1 = mkF m 0 #[.val (.int p0)] [] := by first | (simp [entryFrame, mkF, argsToLocals, Value.category]; done) | rfl
set_option maxRecDepth 65536 in
set_option maxHeartbeats 40000000 in
theorem rm1 (l : Launch) (Z : State) (a0 : Array Value) (hw : ∀ d ∈ tables_1, d.before a0 Z = true) (p0 : Int32) (cs : Int32) (h0 : Heap) (n0 : Nat) (Z0 : n0 ≤ h0.size) (P0 : Sta Z h0 "java/lang/String" "COMPACT_STRINGS" "Z" (.int cs)) (hcs : ¬ cs = (0 : Int32)) (hch : ¬ (255 : Int32) < p0) :
    own_Met l Z (⟨"java/lang/String", "valueOf", "(C)Ljava/lang/String;"⟩ : MethodName) jdk_42_method_139_code 1 (some (.object "java/lang/String")) [] ({ frames := 2, cells := 2, slots := 5, locals := 27 } : Room) #[(.int p0)] h0 2 5 (fun v h L => ∃ (r : Addr), v = some (.ref r) ∧ Fr n0 L ∧ Keep h0 h []) := by
  refine own_met (plainFor_of_name pn_rm1) ?_
  intro p e s m below meth c s₁ Bd hml0 hZ X0 e0
  have hx := Bd.exec
  have hby := Bd.bytes
  have hml : c.maxLocals = 1 := hml0
  have hown : s.vm.findClass "java/lang/String" = some m.cls := findClass_of_methodNamed Bd.named
  have hnm := (name_of_methodNamed Bd.named Bd.method).1
  refine own_cast (ef_rm1 m p0) ?_
  generalize hQQ : (fun (v : Option Value) (h : Heap) (L : List Loc) => ∃ (r : Addr), v = some (.ref r) ∧ Fr n0 L ∧ Keep h0 h []) = QQ
  have N0 := Fr.nil n0
  have K0 := Keep.refl h0 []
  obtain ⟨T1, X1, e1, st1⟩ := getS2 X0 hx hZ hown (host := "") (Or.inl (hw _ (List.mem_of_getElem? (i := 4) rfl))) Via.refl e0 P0 (g := (mkF m 0 #[.val (.int p0)] [])) rfl (hb hby d1_0)
  refine own_go (g' := (mkF m 3 #[.val (.int p0)] [(.int cs)])) (st1) ?_
  refine own_go (g' := (mkF m 6 #[.val (.int p0)] [])) (fun _ kgo => XS.ifNo X1.here hx rfl (hb hby d1_3) rfl ((if0 _ _).trans (feq hcs).1) kgo) ?_
  refine own_go (g' := (mkF m 7 #[.val (.int p0)] [(.int p0)])) (fun _ kgo => XS.iloadN X1.here hx rfl (hb hby d1_6) rfl kgo) ?_
  obtain ⟨v2, T2, L2, hQ2, X2, st2⟩ := own_callS X1 hx hZ (y := (⟨"java/lang/StringLatin1", "canEncode", "(C)Z"⟩ : MethodName)) hown (hw _ (List.mem_of_getElem? (i := 5) rfl)) (hw _ (List.mem_of_getElem? (i := 6) rfl)) (hw _ (List.mem_of_getElem? (i := 7) rfl)) (hw _ (List.mem_of_getElem? (i := 8) rfl)) ⟨by decide, by decide⟩ (argsL := [(.int p0)]) (rm2 l Z a0 hw p0 h0 hch) e1 (g := (mkF m 7 #[.val (.int p0)] [(.int p0)])) rfl (by rw [hml]; rfl) (rest := []) (lenOf pd1_0 rfl) rfl (hb hby d1_7) (W := 0) (by show 2 * 0 + _ ≤ _; exact Nat.le_of_eq rfl) (by decide) (by decide) (by decide) (by decide)
  obtain ⟨rfl, e2, rfl⟩ := hQ2
  have N2 := Fr.app N0 (Fr.nil n0)
  refine own_go (g' := (mkF m 10 #[.val (.int p0)] [(.int (1 : Int32))])) (st2) ?_
  refine own_go (g' := (mkF m 13 #[.val (.int p0)] [])) (fun _ kgo => XS.ifNo X2.here hx rfl (hb hby d1_10) rfl ((if0 _ _).trans (feq (by decide)).1) kgo) ?_
  obtain ⟨T3, h3, X3, e3, E3, A3, D3, -, st3⟩ := newO X2 hx hZ hown (hw _ (List.mem_of_getElem? (i := 9) rfl)) (hw _ (List.mem_of_getElem? (i := 10) rfl)) (hw _ (List.mem_of_getElem? (i := 2) rfl)) e2 (g := (mkF m 13 #[.val (.int p0)] [])) rfl (hb hby d1_13) (by decide) (by decide)
  obtain ⟨b3, ad3⟩ : ∃ z, z = h0.size := ⟨_, rfl⟩
  rw [← ad3] at A3 D3 st3
  have ge_b3 : n0 ≤ b3 := by rw [ad3]; exact Z0
  have sz_b3 : h0.size ≤ b3 := by rw [ad3]; exact K0.1
  have Z3 : n0 ≤ h3.size := Nat.le_trans Z0 E3.1
  have K3 : Keep h0 h3 [] := K0.ext E3
  have F3_value : Fld Z h3 b3 "java/lang/String" "value" "[B" .null := D3 (Or.inr (hw _ (List.mem_of_getElem? (i := 23) rfl))) (ty := (.array .byte)) (by decide)
  have F3_coder : Fld Z h3 b3 "java/lang/String" "coder" "B" (.int (0 : Int32)) := D3 (Or.inr (hw _ (List.mem_of_getElem? (i := 25) rfl))) (ty := .byte) (by decide)
  refine own_go (g' := (mkF m 16 #[.val (.int p0)] [(.ref b3)])) (st3) ?_
  refine own_go (g' := (mkF m 17 #[.val (.int p0)] [(.ref b3), (.ref b3)])) (fun _ kgo => XS.dup X3.here hx rfl (hb hby d1_16) rfl rfl kgo) ?_
  refine own_go (g' := (mkF m 18 #[.val (.int p0)] [(.int p0), (.ref b3), (.ref b3)])) (fun _ kgo => XS.iloadN X3.here hx rfl (hb hby d1_17) rfl kgo) ?_
  obtain ⟨v4, T4, L4, hQ4, X4, st4⟩ := own_callS X3 hx hZ (y := (⟨"java/lang/StringLatin1", "toBytes", "(C)[B"⟩ : MethodName)) hown (hw _ (List.mem_of_getElem? (i := 11) rfl)) (hw _ (List.mem_of_getElem? (i := 12) rfl)) (hw _ (List.mem_of_getElem? (i := 7) rfl)) (hw _ (List.mem_of_getElem? (i := 13) rfl)) ⟨by decide, by decide⟩ (argsL := [(.int p0)]) (rm3 l Z a0 hw p0 h3 n0 Z3) e3 (g := (mkF m 18 #[.val (.int p0)] [(.int p0), (.ref b3), (.ref b3)])) rfl (by rw [hml]; rfl) (rest := [(.ref b3), (.ref b3)]) (lenOf pd1_1 rfl) rfl (hb hby d1_18) (W := 2) (by show 2 * 0 + _ ≤ _; exact Nat.le_of_eq rfl) (by decide) (by decide) (by decide) (by decide)
  obtain ⟨r4, rfl, Nq4, Kq4⟩ := hQ4
  have N4 := Fr.app N2 Nq4
  have Z4 : n0 ≤ T4.heap.size := Nat.le_trans Z3 Kq4.1
  have KK4 : Keep h0 T4.heap [] := K3.trans Kq4 all0
  refine own_go (g' := (mkF m 21 #[.val (.int p0)] [(.ref r4), (.ref b3), (.ref b3)])) (st4) ?_
  refine own_go (g' := (mkF m 22 #[.val (.int p0)] [(.int (0 : Int32)), (.ref r4), (.ref b3), (.ref b3)])) (fun _ kgo => XS.iconst X4.here hx rfl (hb hby d1_21) kgo) ?_
  have fx6 : Exa Z T4.heap b3 "java/lang/String" := (Exa.keep A3 Kq4)
  have fx7 : Fld Z T4.heap b3 "java/lang/String" "value" "[B" .null := (Fld.keep F3_value Kq4 nin0)
  have fx8 : Fld Z T4.heap b3 "java/lang/String" "coder" "B" (.int (0 : Int32)) := (Fld.keep F3_coder Kq4 nin0)
  obtain ⟨v5, T5, L5, hQ5, X5, st5⟩ := own_callI X4 hx hZ (y := (⟨"java/lang/String", "<init>", "([BB)V"⟩ : MethodName)) rfl hown (hw _ (List.mem_of_getElem? (i := 15) rfl)) (hw _ (List.mem_of_getElem? (i := 16) rfl)) (hw _ (List.mem_of_getElem? (i := 2) rfl)) (hw _ (List.mem_of_getElem? (i := 18) rfl)) ⟨by decide, by decide⟩ (a := b3) (argsL := [(.ref r4), (.int (0 : Int32))]) (rm4 l Z a0 hw b3 r4 T4.heap n0 Z4 ge_b3 fx6 fx7 fx8) rfl (g := (mkF m 22 #[.val (.int p0)] [(.int (0 : Int32)), (.ref r4), (.ref b3), (.ref b3)])) rfl (by rw [hml]; rfl) (rest := [(.ref b3)]) (lenOf pd1_2 rfl) rfl (hb hby d1_22) (W := 1) (by show 2 * 0 + _ ≤ _; exact Nat.le_of_eq rfl) (by decide) (by decide) (by decide) (by decide)
  obtain ⟨rfl, Nq5, Kq5, q5_0⟩ := hQ5
  have N5 := Fr.app N4 Nq5
  have Z5 : n0 ≤ T5.heap.size := Nat.le_trans Z4 Kq5.1
  have KK5 : Keep h0 T5.heap [] := KK4.trans Kq5 (allS (Or.inr sz_b3) all0)
  refine own_go (g' := (mkF m 25 #[.val (.int p0)] [(.ref b3)])) (st5) ?_
  refine own_retA X5 hx Bd.returns Bd.notSynchronized rfl rfl (hb hby d1_25) (by decide) (by decide) ?_
  show QQ _ T5.heap _
  rw [← hQQ]
  exact ⟨b3, rfl, N5, KK5⟩
theorem d7_0 : decode jdk_30_method_1_code 0 = .ok (.aload_n 0, 1) := by decide +kernel
theorem d7_1 : decode jdk_30_method_1_code 1 = .ok (.invokespecial 1, 3) := by decide +kernel
theorem d7_4 : decode jdk_30_method_1_code 4 = .ok (.return_, 1) := by decide +kernel
theorem pn_rm7 : plainName "java/lang/Record" = true := by first | (simp [plainName, overriddenIn]; done) | decide +kernel
theorem ef_rm7 (m : MethodId) (o0 : Addr) : entryFrame m #[(.ref o0)] 1 = mkF m 0 #[.val (.ref o0)] [] := by first | (simp [entryFrame, mkF, argsToLocals, Value.category]; done) | rfl
set_option maxRecDepth 65536 in
set_option maxHeartbeats 40000000 in
theorem rm7 (l : Launch) (Z : State) (a0 : Array Value) (hw : ∀ d ∈ tables_1, d.before a0 Z = true) (o0 : Addr)  (h0 : Heap) :
    own_Met l Z (⟨"java/lang/Record", "<init>", "()V"⟩ : MethodName) jdk_30_method_1_code 1 none [] ({ frames := 1, cells := 0, slots := 0, locals := 12 } : Room) #[(.ref o0)] h0 0 0 (fun v h L => v = none ∧ h = h0 ∧ L = []) := by
  refine own_met (plainFor_of_name pn_rm7) ?_
  intro p e s m below meth c s₁ Bd hml0 hZ X0 e0
  have hx := Bd.exec
  have hby := Bd.bytes
  have hml : c.maxLocals = 1 := hml0
  have hown : s.vm.findClass "java/lang/Record" = some m.cls := findClass_of_methodNamed Bd.named
  have hnm := (name_of_methodNamed Bd.named Bd.method).1
  refine own_cast (ef_rm7 m o0) ?_
  generalize hQQ : (fun (v : Option Value) (h : Heap) (L : List Loc) => v = none ∧ h = h0 ∧ L = []) = QQ
  refine own_go (g' := (mkF m 1 #[.val (.ref o0)] [(.ref o0)])) (fun _ kgo => XS.aloadN X0.here hx rfl (hb hby d7_0) rfl rfl kgo) ?_
  obtain ⟨T1, X1, e1, st1⟩ := initO X0 hx hZ hown (hw _ (List.mem_of_getElem? (i := 37) rfl)) (hw _ (List.mem_of_getElem? (i := 20) rfl)) (hw _ (List.mem_of_getElem? (i := 21) rfl)) e0 (g := (mkF m 1 #[.val (.ref o0)] [(.ref o0)])) rfl (by rw [hml]; rfl) rfl (hb hby d7_1) (by decide) (W := 0) (by show 2 * 0 + _ ≤ _; exact Nat.le_of_eq rfl) (by decide)
  refine own_go (g' := (mkF m 4 #[.val (.ref o0)] [])) (st1) ?_
  refine own_retV X1 hx Bd.returns Bd.notSynchronized (hb hby d7_4) (by decide) (by decide) ?_
  show QQ _ T1.heap _
  rw [e1]
  rw [← hQQ]
  exact ⟨rfl, rfl, rfl⟩
theorem d8_0 : decode jdk_31_method_11_code 0 = .ok (.aload_n 0, 1) := by decide +kernel
theorem d8_1 : decode jdk_31_method_11_code 1 = .ok (.ifnonnull 12, 3) := by decide +kernel
theorem d8_13 : decode jdk_31_method_11_code 13 = .ok (.aload_n 0, 1) := by decide +kernel
theorem d8_14 : decode jdk_31_method_11_code 14 = .ok (.areturn, 1) := by decide +kernel
theorem pn_rm8 : plainName "java/util/Objects" = true := by first | (simp [plainName, overriddenIn]; done) | decide +kernel
theorem ef_rm8 (m : MethodId) (o0 : Addr) (o1 : Addr) : entryFrame m #[(.ref o0), (.ref o1)] 2 = mkF m 0 #[.val (.ref o0), .val (.ref o1)] [] := by first | (simp [entryFrame, mkF, argsToLocals, Value.category]; done) | rfl
set_option maxRecDepth 65536 in
set_option maxHeartbeats 40000000 in
theorem rm8 (l : Launch) (Z : State) (a0 : Array Value) (hw : ∀ d ∈ tables_1, d.before a0 Z = true) (o0 : Addr) (o1 : Addr)  (h0 : Heap) :
    own_Met l Z (⟨"java/util/Objects", "requireNonNull", "(Ljava/lang/Object;Ljava/lang/String;)Ljava/lang/Object;"⟩ : MethodName) jdk_31_method_11_code 2 (some (.object "java/lang/Object")) [] ({ frames := 0, cells := 0, slots := 0, locals := 0 } : Room) #[(.ref o0), (.ref o1)] h0 0 0 (fun v h L => v = some (.ref o0) ∧ h = h0 ∧ L = []) := by
  refine own_met (plainFor_of_name pn_rm8) ?_
  intro p e s m below meth c s₁ Bd hml0 hZ X0 e0
  have hx := Bd.exec
  have hby := Bd.bytes
  have hml : c.maxLocals = 2 := hml0
  have hown : s.vm.findClass "java/util/Objects" = some m.cls := findClass_of_methodNamed Bd.named
  have hnm := (name_of_methodNamed Bd.named Bd.method).1
  refine own_cast (ef_rm8 m o0 o1) ?_
  generalize hQQ : (fun (v : Option Value) (h : Heap) (L : List Loc) => v = some (.ref o0) ∧ h = h0 ∧ L = []) = QQ
  refine own_go (g' := (mkF m 1 #[.val (.ref o0), .val (.ref o1)] [(.ref o0)])) (fun _ kgo => XS.aloadN X0.here hx rfl (hb hby d8_0) rfl rfl kgo) ?_
  refine own_go (g' := (mkF m 13 #[.val (.ref o0), .val (.ref o1)] [])) (fun _ kgo => XS.ifnonnullYes X0.here hx rfl (pc0 := 1) (pc' := 13) rfl (hb hby d8_1) rfl (by decide) (by decide) kgo) ?_
  refine own_go (g' := (mkF m 14 #[.val (.ref o0), .val (.ref o1)] [(.ref o0)])) (fun _ kgo => XS.aloadN X0.here hx rfl (hb hby d8_13) rfl rfl kgo) ?_
  refine own_retA X0 hx Bd.returns Bd.notSynchronized rfl rfl (hb hby d8_14) (by decide) (by decide) ?_
  show QQ _ s₁.heap _
  rw [e0]
  rw [← hQQ]
  exact ⟨rfl, rfl, rfl⟩
theorem d6_0 : decode prog_47_method_1_code 0 = .ok (.aload_n 0, 1) := by decide +kernel
theorem d6_1 : decode prog_47_method_1_code 1 = .ok (.invokespecial 1, 3) := by decide +kernel
theorem d6_4 : decode prog_47_method_1_code 4 = .ok (.aload 7, 2) := by decide +kernel
theorem d6_6 : decode prog_47_method_1_code 6 = .ok (.ldc 7, 2) := by decide +kernel
theorem d6_8 : decode prog_47_method_1_code 8 = .ok (.invokestatic 9, 3) := by decide +kernel
theorem d6_11 : decode prog_47_method_1_code 11 = .ok (.pop, 1) := by decide +kernel
theorem d6_12 : decode prog_47_method_1_code 12 = .ok (.aload 8, 2) := by decide +kernel
theorem d6_14 : decode prog_47_method_1_code 14 = .ok (.ldc 15, 2) := by decide +kernel
theorem d6_16 : decode prog_47_method_1_code 16 = .ok (.invokestatic 9, 3) := by decide +kernel
theorem d6_19 : decode prog_47_method_1_code 19 = .ok (.pop, 1) := by decide +kernel
theorem d6_20 : decode prog_47_method_1_code 20 = .ok (.aload 9, 2) := by decide +kernel
theorem d6_22 : decode prog_47_method_1_code 22 = .ok (.ldc 17, 2) := by decide +kernel
theorem d6_24 : decode prog_47_method_1_code 24 = .ok (.invokestatic 9, 3) := by decide +kernel
theorem d6_27 : decode prog_47_method_1_code 27 = .ok (.pop, 1) := by decide +kernel
theorem d6_28 : decode prog_47_method_1_code 28 = .ok (.aload 10, 2) := by decide +kernel
theorem d6_30 : decode prog_47_method_1_code 30 = .ok (.ldc 19, 2) := by decide +kernel
theorem d6_32 : decode prog_47_method_1_code 32 = .ok (.invokestatic 9, 3) := by decide +kernel
theorem d6_35 : decode prog_47_method_1_code 35 = .ok (.pop, 1) := by decide +kernel
theorem d6_36 : decode prog_47_method_1_code 36 = .ok (.aload_n 0, 1) := by decide +kernel
theorem d6_37 : decode prog_47_method_1_code 37 = .ok (.lload_n 1, 1) := by decide +kernel
theorem d6_38 : decode prog_47_method_1_code 38 = .ok (.putfield 21, 3) := by decide +kernel
theorem d6_41 : decode prog_47_method_1_code 41 = .ok (.aload_n 0, 1) := by decide +kernel
theorem d6_42 : decode prog_47_method_1_code 42 = .ok (.lload_n 3, 1) := by decide +kernel
theorem d6_43 : decode prog_47_method_1_code 43 = .ok (.putfield 27, 3) := by decide +kernel
theorem d6_46 : decode prog_47_method_1_code 46 = .ok (.aload_n 0, 1) := by decide +kernel
theorem d6_47 : decode prog_47_method_1_code 47 = .ok (.lload 5, 2) := by decide +kernel
theorem d6_49 : decode prog_47_method_1_code 49 = .ok (.putfield 30, 3) := by decide +kernel
theorem d6_52 : decode prog_47_method_1_code 52 = .ok (.aload_n 0, 1) := by decide +kernel
theorem d6_53 : decode prog_47_method_1_code 53 = .ok (.aload 7, 2) := by decide +kernel
theorem d6_55 : decode prog_47_method_1_code 55 = .ok (.putfield 33, 3) := by decide +kernel
theorem d6_58 : decode prog_47_method_1_code 58 = .ok (.aload_n 0, 1) := by decide +kernel
theorem d6_59 : decode prog_47_method_1_code 59 = .ok (.aload 8, 2) := by decide +kernel
theorem d6_61 : decode prog_47_method_1_code 61 = .ok (.putfield 36, 3) := by decide +kernel
theorem d6_64 : decode prog_47_method_1_code 64 = .ok (.aload_n 0, 1) := by decide +kernel
theorem d6_65 : decode prog_47_method_1_code 65 = .ok (.aload 9, 2) := by decide +kernel
theorem d6_67 : decode prog_47_method_1_code 67 = .ok (.putfield 38, 3) := by decide +kernel
theorem d6_70 : decode prog_47_method_1_code 70 = .ok (.aload_n 0, 1) := by decide +kernel
theorem d6_71 : decode prog_47_method_1_code 71 = .ok (.aload 10, 2) := by decide +kernel
theorem d6_73 : decode prog_47_method_1_code 73 = .ok (.putfield 40, 3) := by decide +kernel
theorem d6_76 : decode prog_47_method_1_code 76 = .ok (.aload_n 0, 1) := by decide +kernel
theorem d6_77 : decode prog_47_method_1_code 77 = .ok (.lload 11, 2) := by decide +kernel
theorem d6_79 : decode prog_47_method_1_code 79 = .ok (.putfield 42, 3) := by decide +kernel
theorem d6_82 : decode prog_47_method_1_code 82 = .ok (.aload_n 0, 1) := by decide +kernel
theorem d6_83 : decode prog_47_method_1_code 83 = .ok (.lload 13, 2) := by decide +kernel
theorem d6_85 : decode prog_47_method_1_code 85 = .ok (.putfield 45, 3) := by decide +kernel
theorem d6_88 : decode prog_47_method_1_code 88 = .ok (.aload_n 0, 1) := by decide +kernel
theorem d6_89 : decode prog_47_method_1_code 89 = .ok (.iload 15, 2) := by decide +kernel
theorem d6_91 : decode prog_47_method_1_code 91 = .ok (.putfield 48, 3) := by decide +kernel
theorem d6_94 : decode prog_47_method_1_code 94 = .ok (.return_, 1) := by decide +kernel
theorem pn_rm6 : plainName "com/example/uptik/uptik/model/Holdings" = true := by first | (simp [plainName, overriddenIn]; done) | decide +kernel
theorem pd6_0 : parseMethodDescriptor "()V" = some ⟨[], none⟩ := by decide +kernel
theorem pd6_1 : parseMethodDescriptor "(Ljava/lang/Object;Ljava/lang/String;)Ljava/lang/Object;" = some ⟨[(.object "java/lang/Object"), (.object "java/lang/String")], some (.object "java/lang/Object")⟩ := by decide +kernel
theorem ef_rm6 (m : MethodId) (o0 : Addr) (q1 : Int64) (q2 : Int64) (q3 : Int64) (o4 : Addr) (o5 : Addr) (o6 : Addr) (o7 : Addr) (q8 : Int64) (q9 : Int64) (p10 : Int32) : entryFrame m #[(.ref o0), (.long q1), (.long q2), (.long q3), (.ref o4), (.ref o5), (.ref o6), (.ref o7), (.long q8), (.long q9), (.int p10)] 16 = mkF m 0 #[.val (.ref o0), .val (.long q1), .second, .val (.long q2), .second, .val (.long q3), .second, .val (.ref o4), .val (.ref o5), .val (.ref o6), .val (.ref o7), .val (.long q8), .second, .val (.long q9), .second, .val (.int p10)] [] := by first | (simp [entryFrame, mkF, argsToLocals, Value.category]; done) | rfl
set_option maxRecDepth 65536 in
set_option maxHeartbeats 40000000 in
theorem rm6 (l : Launch) (Z : State) (a0 : Array Value) (hw : ∀ d ∈ tables_1, d.before a0 Z = true) (o0 : Addr) (q1 : Int64) (q2 : Int64) (q3 : Int64) (o4 : Addr) (o5 : Addr) (o6 : Addr) (o7 : Addr) (q8 : Int64) (q9 : Int64) (p10 : Int32)  (h0 : Heap) (n0 : Nat) (Z0 : n0 ≤ h0.size) (g_o0 : n0 ≤ o0) (P0 : Exa Z h0 o0 "com/example/uptik/uptik/model/Holdings") (P1 : Fld Z h0 o0 "com/example/uptik/uptik/model/Holdings" "terms" "J" (.long (0 : Int64))) (P2 : Fld Z h0 o0 "com/example/uptik/uptik/model/Holdings" "postings" "J" (.long (0 : Int64))) (P3 : Fld Z h0 o0 "com/example/uptik/uptik/model/Holdings" "digest" "J" (.long (0 : Int64))) (P4 : Fld Z h0 o0 "com/example/uptik/uptik/model/Holdings" "whole" "Ljava/lang/String;" .null) (P5 : Fld Z h0 o0 "com/example/uptik/uptik/model/Holdings" "former" "Ljava/lang/String;" .null) (P6 : Fld Z h0 o0 "com/example/uptik/uptik/model/Holdings" "remembered" "Ljava/lang/String;" .null) (P7 : Fld Z h0 o0 "com/example/uptik/uptik/model/Holdings" "custody" "Ljava/lang/String;" .null) (P8 : Fld Z h0 o0 "com/example/uptik/uptik/model/Holdings" "documents" "J" (.long (0 : Int64))) (P9 : Fld Z h0 o0 "com/example/uptik/uptik/model/Holdings" "documentDigest" "J" (.long (0 : Int64))) (P10 : Fld Z h0 o0 "com/example/uptik/uptik/model/Holdings" "recordWhole" "Z" (.int (0 : Int32))) :
    own_MetW l Z (⟨"com/example/uptik/uptik/model/Holdings", "<init>", "(JJJLjava/lang/String;Ljava/lang/String;Ljava/lang/String;Ljava/lang/String;JJZ)V"⟩ : MethodName) prog_47_method_1_code 16 none [] ({ frames := 2, cells := 8, slots := 128, locals := 24 } : Room) #[(.ref o0), (.long q1), (.long q2), (.long q3), (.ref o4), (.ref o5), (.ref o6), (.ref o7), (.long q8), (.long q9), (.int p10)] h0 8 128 (fun v h L => v = none ∧ Fr n0 L ∧ Keep h0 h [o0] ∧ Exa Z h o0 "com/example/uptik/uptik/model/Holdings" ∧ Fld Z h o0 "com/example/uptik/uptik/model/Holdings" "terms" "J" (.long q1) ∧ Fld Z h o0 "com/example/uptik/uptik/model/Holdings" "postings" "J" (.long q2) ∧ Fld Z h o0 "com/example/uptik/uptik/model/Holdings" "digest" "J" (.long q3)) := by
  refine own_metW (plainFor_of_name pn_rm6) ?_
  intro p e s m below meth c s₁ Bd hml0 hZ X0 e0 hS0
  have hk0 : 0 ≤ h0.size := Nat.zero_le _
  have hx := Bd.exec
  have hby := Bd.bytes
  have hml : c.maxLocals = 16 := hml0
  have hown : (s.setVm s.vm).vm.findClass "com/example/uptik/uptik/model/Holdings" = some m.cls := findClass_of_methodNamed Bd.named
  have hnm := (name_of_methodNamed Bd.named Bd.method).1
  refine own_cast (ef_rm6 m o0 q1 q2 q3 o4 o5 o6 o7 q8 q9 p10) ?_
  generalize hQQ : (fun (v : Option Value) (h : Heap) (L : List Loc) => v = none ∧ Fr n0 L ∧ Keep h0 h [o0] ∧ Exa Z h o0 "com/example/uptik/uptik/model/Holdings" ∧ Fld Z h o0 "com/example/uptik/uptik/model/Holdings" "terms" "J" (.long q1) ∧ Fld Z h o0 "com/example/uptik/uptik/model/Holdings" "postings" "J" (.long q2) ∧ Fld Z h o0 "com/example/uptik/uptik/model/Holdings" "digest" "J" (.long q3)) = QQ
  have N0 := Fr.nil n0
  have K0 := Keep.refl h0 [o0]
  refine own_go (g' := (mkF m 1 #[.val (.ref o0), .val (.long q1), .second, .val (.long q2), .second, .val (.long q3), .second, .val (.ref o4), .val (.ref o5), .val (.ref o6), .val (.ref o7), .val (.long q8), .second, .val (.long q9), .second, .val (.int p10)] [(.ref o0)])) (fun _ kgo => XS.aloadN X0.here hx rfl (hb hby d6_0) rfl rfl kgo) ?_
  obtain ⟨v1, T1, L1, hQ1, X1, st1⟩ := own_callI X0 hx hZ (y := (⟨"java/lang/Record", "<init>", "()V"⟩ : MethodName)) rfl hown (hw _ (List.mem_of_getElem? (i := 32) rfl)) (hw _ (List.mem_of_getElem? (i := 33) rfl)) (hw _ (List.mem_of_getElem? (i := 35) rfl)) (hw _ (List.mem_of_getElem? (i := 36) rfl)) ⟨by decide, by decide⟩ (a := o0) (argsL := []) (rm7 l Z a0 hw o0 h0) e0 (g := (mkF m 1 #[.val (.ref o0), .val (.long q1), .second, .val (.long q2), .second, .val (.long q3), .second, .val (.ref o4), .val (.ref o5), .val (.ref o6), .val (.ref o7), .val (.long q8), .second, .val (.long q9), .second, .val (.int p10)] [(.ref o0)])) rfl (by rw [hml]; rfl) (rest := []) (lenOf pd6_0 rfl) rfl (hb hby d6_1) (W := 0) (by show 2 * 0 + _ ≤ _; exact Nat.le_of_eq rfl) (by decide) (by decide) (by decide) (by decide)
  obtain ⟨rfl, e1, rfl⟩ := hQ1
  have N1 := Fr.app N0 (Fr.nil n0)
  refine own_go (g' := (mkF m 4 #[.val (.ref o0), .val (.long q1), .second, .val (.long q2), .second, .val (.long q3), .second, .val (.ref o4), .val (.ref o5), .val (.ref o6), .val (.ref o7), .val (.long q8), .second, .val (.long q9), .second, .val (.int p10)] [])) (st1) ?_
  refine own_go (g' := (mkF m 6 #[.val (.ref o0), .val (.long q1), .second, .val (.long q2), .second, .val (.long q3), .second, .val (.ref o4), .val (.ref o5), .val (.ref o6), .val (.ref o7), .val (.long q8), .second, .val (.long q9), .second, .val (.int p10)] [(.ref o4)])) (fun _ kgo => XS.aload X1.here hx rfl (hb hby d6_4) rfl rfl kgo) ?_
  obtain ⟨b2, T2, h2, kq2, X2, e2, E2, hS2, hk2, hZ, hown, st2⟩ := ldcS X1 hx hZ hown (hw _ (List.mem_of_getElem? (i := 38) rfl)) (fun d hd => hw d (own_strw d hd)) e1 hS0 hk0 (g := (mkF m 6 #[.val (.ref o0), .val (.long q1), .second, .val (.long q2), .second, .val (.long q3), .second, .val (.ref o4), .val (.ref o5), .val (.ref o6), .val (.ref o7), .val (.long q8), .second, .val (.long q9), .second, .val (.int p10)] [(.ref o4)])) rfl (hb hby d6_6) (n := 20) (by first | decide | simp) (by decide) (by decide) (by decide)
  have Z2 : n0 ≤ h2.size := Nat.le_trans Z0 E2.1
  have K2 : Keep h0 h2 [o0] := K0.ext E2
  refine own_go (g' := (mkF m 8 #[.val (.ref o0), .val (.long q1), .second, .val (.long q2), .second, .val (.long q3), .second, .val (.ref o4), .val (.ref o5), .val (.ref o6), .val (.ref o7), .val (.long q8), .second, .val (.long q9), .second, .val (.int p10)] [(.ref b2), (.ref o4)])) (st2) ?_
  obtain ⟨v3, T3, L3, hQ3, X3, st3⟩ := own_callS X2 hx hZ (y := (⟨"java/util/Objects", "requireNonNull", "(Ljava/lang/Object;Ljava/lang/String;)Ljava/lang/Object;"⟩ : MethodName)) hown (hw _ (List.mem_of_getElem? (i := 41) rfl)) (hw _ (List.mem_of_getElem? (i := 42) rfl)) (hw _ (List.mem_of_getElem? (i := 43) rfl)) (hw _ (List.mem_of_getElem? (i := 44) rfl)) ⟨by decide, by decide⟩ (argsL := [(.ref o4), (.ref b2)]) (rm8 l Z a0 hw o4 b2 h2) e2 (g := (mkF m 8 #[.val (.ref o0), .val (.long q1), .second, .val (.long q2), .second, .val (.long q3), .second, .val (.ref o4), .val (.ref o5), .val (.ref o6), .val (.ref o7), .val (.long q8), .second, .val (.long q9), .second, .val (.int p10)] [(.ref b2), (.ref o4)])) rfl (by rw [hml]; rfl) (rest := []) (lenOf pd6_1 rfl) rfl (hb hby d6_8) (W := 0) (by show 2 * 0 + _ ≤ _; exact Nat.le_of_eq rfl) (by decide) (by decide) (by decide) (by decide)
  obtain ⟨rfl, e3, rfl⟩ := hQ3
  have N3 := Fr.app N1 (Fr.nil n0)
  refine own_go (g' := (mkF m 11 #[.val (.ref o0), .val (.long q1), .second, .val (.long q2), .second, .val (.long q3), .second, .val (.ref o4), .val (.ref o5), .val (.ref o6), .val (.ref o7), .val (.long q8), .second, .val (.long q9), .second, .val (.int p10)] [(.ref o4)])) (st3) ?_
  refine own_go (g' := (mkF m 12 #[.val (.ref o0), .val (.long q1), .second, .val (.long q2), .second, .val (.long q3), .second, .val (.ref o4), .val (.ref o5), .val (.ref o6), .val (.ref o7), .val (.long q8), .second, .val (.long q9), .second, .val (.int p10)] [])) (fun _ kgo => XS.pop X3.here hx rfl (hb hby d6_11) rfl rfl kgo) ?_
  refine own_go (g' := (mkF m 14 #[.val (.ref o0), .val (.long q1), .second, .val (.long q2), .second, .val (.long q3), .second, .val (.ref o4), .val (.ref o5), .val (.ref o6), .val (.ref o7), .val (.long q8), .second, .val (.long q9), .second, .val (.int p10)] [(.ref o5)])) (fun _ kgo => XS.aload X3.here hx rfl (hb hby d6_12) rfl rfl kgo) ?_
  obtain ⟨b4, T4, h4, kq4, X4, e4, E4, hS4, hk4, hZ, hown, st4⟩ := ldcS X3 hx hZ hown (hw _ (List.mem_of_getElem? (i := 45) rfl)) (fun d hd => hw d (own_strw d hd)) e3 hS2 hk2 (g := (mkF m 14 #[.val (.ref o0), .val (.long q1), .second, .val (.long q2), .second, .val (.long q3), .second, .val (.ref o4), .val (.ref o5), .val (.ref o6), .val (.ref o7), .val (.long q8), .second, .val (.long q9), .second, .val (.int p10)] [(.ref o5)])) rfl (hb hby d6_14) (n := 24) (by first | decide | simp) (by decide) (by decide) (by decide)
  have Z4 : n0 ≤ h4.size := Nat.le_trans Z2 E4.1
  have K4 : Keep h0 h4 [o0] := K2.ext E4
  refine own_go (g' := (mkF m 16 #[.val (.ref o0), .val (.long q1), .second, .val (.long q2), .second, .val (.long q3), .second, .val (.ref o4), .val (.ref o5), .val (.ref o6), .val (.ref o7), .val (.long q8), .second, .val (.long q9), .second, .val (.int p10)] [(.ref b4), (.ref o5)])) (st4) ?_
  obtain ⟨v5, T5, L5, hQ5, X5, st5⟩ := own_callS X4 hx hZ (y := (⟨"java/util/Objects", "requireNonNull", "(Ljava/lang/Object;Ljava/lang/String;)Ljava/lang/Object;"⟩ : MethodName)) hown (hw _ (List.mem_of_getElem? (i := 41) rfl)) (hw _ (List.mem_of_getElem? (i := 42) rfl)) (hw _ (List.mem_of_getElem? (i := 43) rfl)) (hw _ (List.mem_of_getElem? (i := 44) rfl)) ⟨by decide, by decide⟩ (argsL := [(.ref o5), (.ref b4)]) (rm8 l Z a0 hw o5 b4 h4) e4 (g := (mkF m 16 #[.val (.ref o0), .val (.long q1), .second, .val (.long q2), .second, .val (.long q3), .second, .val (.ref o4), .val (.ref o5), .val (.ref o6), .val (.ref o7), .val (.long q8), .second, .val (.long q9), .second, .val (.int p10)] [(.ref b4), (.ref o5)])) rfl (by rw [hml]; rfl) (rest := []) (lenOf pd6_1 rfl) rfl (hb hby d6_16) (W := 0) (by show 2 * 0 + _ ≤ _; exact Nat.le_of_eq rfl) (by decide) (by decide) (by decide) (by decide)
  obtain ⟨rfl, e5, rfl⟩ := hQ5
  have N5 := Fr.app N3 (Fr.nil n0)
  refine own_go (g' := (mkF m 19 #[.val (.ref o0), .val (.long q1), .second, .val (.long q2), .second, .val (.long q3), .second, .val (.ref o4), .val (.ref o5), .val (.ref o6), .val (.ref o7), .val (.long q8), .second, .val (.long q9), .second, .val (.int p10)] [(.ref o5)])) (st5) ?_
  refine own_go (g' := (mkF m 20 #[.val (.ref o0), .val (.long q1), .second, .val (.long q2), .second, .val (.long q3), .second, .val (.ref o4), .val (.ref o5), .val (.ref o6), .val (.ref o7), .val (.long q8), .second, .val (.long q9), .second, .val (.int p10)] [])) (fun _ kgo => XS.pop X5.here hx rfl (hb hby d6_19) rfl rfl kgo) ?_
  refine own_go (g' := (mkF m 22 #[.val (.ref o0), .val (.long q1), .second, .val (.long q2), .second, .val (.long q3), .second, .val (.ref o4), .val (.ref o5), .val (.ref o6), .val (.ref o7), .val (.long q8), .second, .val (.long q9), .second, .val (.int p10)] [(.ref o6)])) (fun _ kgo => XS.aload X5.here hx rfl (hb hby d6_20) rfl rfl kgo) ?_
  obtain ⟨b6, T6, h6, kq6, X6, e6, E6, hS6, hk6, hZ, hown, st6⟩ := ldcS X5 hx hZ hown (hw _ (List.mem_of_getElem? (i := 46) rfl)) (fun d hd => hw d (own_strw d hd)) e5 hS4 hk4 (g := (mkF m 22 #[.val (.ref o0), .val (.long q1), .second, .val (.long q2), .second, .val (.long q3), .second, .val (.ref o4), .val (.ref o5), .val (.ref o6), .val (.ref o7), .val (.long q8), .second, .val (.long q9), .second, .val (.int p10)] [(.ref o6)])) rfl (hb hby d6_22) (n := 40) (by first | decide | simp) (by decide) (by decide) (by decide)
  have Z6 : n0 ≤ h6.size := Nat.le_trans Z4 E6.1
  have K6 : Keep h0 h6 [o0] := K4.ext E6
  refine own_go (g' := (mkF m 24 #[.val (.ref o0), .val (.long q1), .second, .val (.long q2), .second, .val (.long q3), .second, .val (.ref o4), .val (.ref o5), .val (.ref o6), .val (.ref o7), .val (.long q8), .second, .val (.long q9), .second, .val (.int p10)] [(.ref b6), (.ref o6)])) (st6) ?_
  obtain ⟨v7, T7, L7, hQ7, X7, st7⟩ := own_callS X6 hx hZ (y := (⟨"java/util/Objects", "requireNonNull", "(Ljava/lang/Object;Ljava/lang/String;)Ljava/lang/Object;"⟩ : MethodName)) hown (hw _ (List.mem_of_getElem? (i := 41) rfl)) (hw _ (List.mem_of_getElem? (i := 42) rfl)) (hw _ (List.mem_of_getElem? (i := 43) rfl)) (hw _ (List.mem_of_getElem? (i := 44) rfl)) ⟨by decide, by decide⟩ (argsL := [(.ref o6), (.ref b6)]) (rm8 l Z a0 hw o6 b6 h6) e6 (g := (mkF m 24 #[.val (.ref o0), .val (.long q1), .second, .val (.long q2), .second, .val (.long q3), .second, .val (.ref o4), .val (.ref o5), .val (.ref o6), .val (.ref o7), .val (.long q8), .second, .val (.long q9), .second, .val (.int p10)] [(.ref b6), (.ref o6)])) rfl (by rw [hml]; rfl) (rest := []) (lenOf pd6_1 rfl) rfl (hb hby d6_24) (W := 0) (by show 2 * 0 + _ ≤ _; exact Nat.le_of_eq rfl) (by decide) (by decide) (by decide) (by decide)
  obtain ⟨rfl, e7, rfl⟩ := hQ7
  have N7 := Fr.app N5 (Fr.nil n0)
  refine own_go (g' := (mkF m 27 #[.val (.ref o0), .val (.long q1), .second, .val (.long q2), .second, .val (.long q3), .second, .val (.ref o4), .val (.ref o5), .val (.ref o6), .val (.ref o7), .val (.long q8), .second, .val (.long q9), .second, .val (.int p10)] [(.ref o6)])) (st7) ?_
  refine own_go (g' := (mkF m 28 #[.val (.ref o0), .val (.long q1), .second, .val (.long q2), .second, .val (.long q3), .second, .val (.ref o4), .val (.ref o5), .val (.ref o6), .val (.ref o7), .val (.long q8), .second, .val (.long q9), .second, .val (.int p10)] [])) (fun _ kgo => XS.pop X7.here hx rfl (hb hby d6_27) rfl rfl kgo) ?_
  refine own_go (g' := (mkF m 30 #[.val (.ref o0), .val (.long q1), .second, .val (.long q2), .second, .val (.long q3), .second, .val (.ref o4), .val (.ref o5), .val (.ref o6), .val (.ref o7), .val (.long q8), .second, .val (.long q9), .second, .val (.int p10)] [(.ref o7)])) (fun _ kgo => XS.aload X7.here hx rfl (hb hby d6_28) rfl rfl kgo) ?_
  obtain ⟨b8, T8, h8, kq8, X8, e8, E8, hS8, hk8, hZ, hown, st8⟩ := ldcS X7 hx hZ hown (hw _ (List.mem_of_getElem? (i := 47) rfl)) (fun d hd => hw d (own_strw d hd)) e7 hS6 hk6 (g := (mkF m 30 #[.val (.ref o0), .val (.long q1), .second, .val (.long q2), .second, .val (.long q3), .second, .val (.ref o4), .val (.ref o5), .val (.ref o6), .val (.ref o7), .val (.long q8), .second, .val (.long q9), .second, .val (.int p10)] [(.ref o7)])) rfl (hb hby d6_30) (n := 28) (by first | decide | simp) (by decide) (by decide) (by decide)
  have Z8 : n0 ≤ h8.size := Nat.le_trans Z6 E8.1
  have K8 : Keep h0 h8 [o0] := K6.ext E8
  refine own_go (g' := (mkF m 32 #[.val (.ref o0), .val (.long q1), .second, .val (.long q2), .second, .val (.long q3), .second, .val (.ref o4), .val (.ref o5), .val (.ref o6), .val (.ref o7), .val (.long q8), .second, .val (.long q9), .second, .val (.int p10)] [(.ref b8), (.ref o7)])) (st8) ?_
  obtain ⟨v9, T9, L9, hQ9, X9, st9⟩ := own_callS X8 hx hZ (y := (⟨"java/util/Objects", "requireNonNull", "(Ljava/lang/Object;Ljava/lang/String;)Ljava/lang/Object;"⟩ : MethodName)) hown (hw _ (List.mem_of_getElem? (i := 41) rfl)) (hw _ (List.mem_of_getElem? (i := 42) rfl)) (hw _ (List.mem_of_getElem? (i := 43) rfl)) (hw _ (List.mem_of_getElem? (i := 44) rfl)) ⟨by decide, by decide⟩ (argsL := [(.ref o7), (.ref b8)]) (rm8 l Z a0 hw o7 b8 h8) e8 (g := (mkF m 32 #[.val (.ref o0), .val (.long q1), .second, .val (.long q2), .second, .val (.long q3), .second, .val (.ref o4), .val (.ref o5), .val (.ref o6), .val (.ref o7), .val (.long q8), .second, .val (.long q9), .second, .val (.int p10)] [(.ref b8), (.ref o7)])) rfl (by rw [hml]; rfl) (rest := []) (lenOf pd6_1 rfl) rfl (hb hby d6_32) (W := 0) (by show 2 * 0 + _ ≤ _; exact Nat.le_of_eq rfl) (by decide) (by decide) (by decide) (by decide)
  obtain ⟨rfl, e9, rfl⟩ := hQ9
  have N9 := Fr.app N7 (Fr.nil n0)
  refine own_go (g' := (mkF m 35 #[.val (.ref o0), .val (.long q1), .second, .val (.long q2), .second, .val (.long q3), .second, .val (.ref o4), .val (.ref o5), .val (.ref o6), .val (.ref o7), .val (.long q8), .second, .val (.long q9), .second, .val (.int p10)] [(.ref o7)])) (st9) ?_
  refine own_go (g' := (mkF m 36 #[.val (.ref o0), .val (.long q1), .second, .val (.long q2), .second, .val (.long q3), .second, .val (.ref o4), .val (.ref o5), .val (.ref o6), .val (.ref o7), .val (.long q8), .second, .val (.long q9), .second, .val (.int p10)] [])) (fun _ kgo => XS.pop X9.here hx rfl (hb hby d6_35) rfl rfl kgo) ?_
  refine own_go (g' := (mkF m 37 #[.val (.ref o0), .val (.long q1), .second, .val (.long q2), .second, .val (.long q3), .second, .val (.ref o4), .val (.ref o5), .val (.ref o6), .val (.ref o7), .val (.long q8), .second, .val (.long q9), .second, .val (.int p10)] [(.ref o0)])) (fun _ kgo => XS.aloadN X9.here hx rfl (hb hby d6_36) rfl rfl kgo) ?_
  refine own_go (g' := (mkF m 38 #[.val (.ref o0), .val (.long q1), .second, .val (.long q2), .second, .val (.long q3), .second, .val (.ref o4), .val (.ref o5), .val (.ref o6), .val (.ref o7), .val (.long q8), .second, .val (.long q9), .second, .val (.int p10)] [(.long q1), (.ref o0)])) (fun _ kgo => XS.lloadN X9.here hx rfl (hb hby d6_37) rfl kgo) ?_
  have fx10 : Fld Z h8 o0 "com/example/uptik/uptik/model/Holdings" "terms" "J" (.long (0 : Int64)) := (Fld.ext E8 (Fld.ext E6 (Fld.ext E4 (Fld.ext E2 P1))))
  have fx11 : Exa Z h8 o0 "com/example/uptik/uptik/model/Holdings" := (Exa.ext E8 (Exa.ext E6 (Exa.ext E4 (Exa.ext E2 P0))))
  obtain ⟨T12, h12, X12, e12, W12, st12⟩ := putF X9 hx hZ hown (host := "") (Or.inl (hw _ (List.mem_of_getElem? (i := 48) rfl))) Via.refl e9 fx10 fx11 (Or.inr ⟨(hw _ (List.mem_of_getElem? (i := 49) rfl)), rfl, hnm⟩) (hw _ (List.mem_of_getElem? (i := 27) rfl)) (ty := .long) (by decide) rfl rfl (g := (mkF m 38 #[.val (.ref o0), .val (.long q1), .second, .val (.long q2), .second, .val (.long q3), .second, .val (.ref o4), .val (.ref o5), .val (.ref o6), .val (.ref o7), .val (.long q8), .second, .val (.long q9), .second, .val (.int p10)] [(.long q1), (.ref o0)])) rfl rfl (hb hby d6_38)
  have fw12 := Fld.same W12 fx10
  have hk12 := Nat.le_trans hk8 (Nat.le_of_eq W12.size.symm)
  have N12 := Fr.snoc X12 N9 g_o0
  have Z12 : n0 ≤ h12.size := by rw [W12.size]; exact Z8
  have K12 : Keep h0 h12 [o0] := K8.wr W12 (Or.inl (List.mem_of_getElem? (i := 0) rfl))
  refine own_go (g' := (mkF m 41 #[.val (.ref o0), .val (.long q1), .second, .val (.long q2), .second, .val (.long q3), .second, .val (.ref o4), .val (.ref o5), .val (.ref o6), .val (.ref o7), .val (.long q8), .second, .val (.long q9), .second, .val (.int p10)] [])) (st12) ?_
  refine own_go (g' := (mkF m 42 #[.val (.ref o0), .val (.long q1), .second, .val (.long q2), .second, .val (.long q3), .second, .val (.ref o4), .val (.ref o5), .val (.ref o6), .val (.ref o7), .val (.long q8), .second, .val (.long q9), .second, .val (.int p10)] [(.ref o0)])) (fun _ kgo => XS.aloadN X12.here hx rfl (hb hby d6_41) rfl rfl kgo) ?_
  refine own_go (g' := (mkF m 43 #[.val (.ref o0), .val (.long q1), .second, .val (.long q2), .second, .val (.long q3), .second, .val (.ref o4), .val (.ref o5), .val (.ref o6), .val (.ref o7), .val (.long q8), .second, .val (.long q9), .second, .val (.int p10)] [(.long q2), (.ref o0)])) (fun _ kgo => XS.lloadN X12.here hx rfl (hb hby d6_42) rfl kgo) ?_
  have fx13 : Fld Z h12 o0 "com/example/uptik/uptik/model/Holdings" "postings" "J" (.long (0 : Int64)) := (Fld.other W12 (Fld.ext E8 (Fld.ext E6 (Fld.ext E4 (Fld.ext E2 P2)))) (Or.inr (slot_ne (Or.inr (hw _ (List.mem_of_getElem? (i := 51) rfl))) (Or.inr (hw _ (List.mem_of_getElem? (i := 49) rfl))) (by decide) (t := .long) (t' := .long) (by decide) (by decide))))
  have fx14 : Exa Z h12 o0 "com/example/uptik/uptik/model/Holdings" := (Exa.wr W12 fx11)
  obtain ⟨T15, h15, X15, e15, W15, st15⟩ := putF X12 hx hZ hown (host := "") (Or.inl (hw _ (List.mem_of_getElem? (i := 50) rfl))) Via.refl e12 fx13 fx14 (Or.inr ⟨(hw _ (List.mem_of_getElem? (i := 51) rfl)), rfl, hnm⟩) (hw _ (List.mem_of_getElem? (i := 27) rfl)) (ty := .long) (by decide) rfl rfl (g := (mkF m 43 #[.val (.ref o0), .val (.long q1), .second, .val (.long q2), .second, .val (.long q3), .second, .val (.ref o4), .val (.ref o5), .val (.ref o6), .val (.ref o7), .val (.long q8), .second, .val (.long q9), .second, .val (.int p10)] [(.long q2), (.ref o0)])) rfl rfl (hb hby d6_43)
  have fw15 := Fld.same W15 fx13
  have hk15 := Nat.le_trans hk12 (Nat.le_of_eq W15.size.symm)
  have N15 := Fr.snoc X15 N12 g_o0
  have Z15 : n0 ≤ h15.size := by rw [W15.size]; exact Z12
  have K15 : Keep h0 h15 [o0] := K12.wr W15 (Or.inl (List.mem_of_getElem? (i := 0) rfl))
  refine own_go (g' := (mkF m 46 #[.val (.ref o0), .val (.long q1), .second, .val (.long q2), .second, .val (.long q3), .second, .val (.ref o4), .val (.ref o5), .val (.ref o6), .val (.ref o7), .val (.long q8), .second, .val (.long q9), .second, .val (.int p10)] [])) (st15) ?_
  refine own_go (g' := (mkF m 47 #[.val (.ref o0), .val (.long q1), .second, .val (.long q2), .second, .val (.long q3), .second, .val (.ref o4), .val (.ref o5), .val (.ref o6), .val (.ref o7), .val (.long q8), .second, .val (.long q9), .second, .val (.int p10)] [(.ref o0)])) (fun _ kgo => XS.aloadN X15.here hx rfl (hb hby d6_46) rfl rfl kgo) ?_
  refine own_go (g' := (mkF m 49 #[.val (.ref o0), .val (.long q1), .second, .val (.long q2), .second, .val (.long q3), .second, .val (.ref o4), .val (.ref o5), .val (.ref o6), .val (.ref o7), .val (.long q8), .second, .val (.long q9), .second, .val (.int p10)] [(.long q3), (.ref o0)])) (fun _ kgo => XS.lload X15.here hx rfl (hb hby d6_47) rfl kgo) ?_
  have fx16 : Fld Z h15 o0 "com/example/uptik/uptik/model/Holdings" "digest" "J" (.long (0 : Int64)) := (Fld.other W15 (Fld.other W12 (Fld.ext E8 (Fld.ext E6 (Fld.ext E4 (Fld.ext E2 P3)))) (Or.inr (slot_ne (Or.inr (hw _ (List.mem_of_getElem? (i := 53) rfl))) (Or.inr (hw _ (List.mem_of_getElem? (i := 49) rfl))) (by decide) (t := .long) (t' := .long) (by decide) (by decide)))) (Or.inr (slot_ne (Or.inr (hw _ (List.mem_of_getElem? (i := 53) rfl))) (Or.inr (hw _ (List.mem_of_getElem? (i := 51) rfl))) (by decide) (t := .long) (t' := .long) (by decide) (by decide))))
  have fx17 : Exa Z h15 o0 "com/example/uptik/uptik/model/Holdings" := (Exa.wr W15 fx14)
  obtain ⟨T18, h18, X18, e18, W18, st18⟩ := putF X15 hx hZ hown (host := "") (Or.inl (hw _ (List.mem_of_getElem? (i := 52) rfl))) Via.refl e15 fx16 fx17 (Or.inr ⟨(hw _ (List.mem_of_getElem? (i := 53) rfl)), rfl, hnm⟩) (hw _ (List.mem_of_getElem? (i := 27) rfl)) (ty := .long) (by decide) rfl rfl (g := (mkF m 49 #[.val (.ref o0), .val (.long q1), .second, .val (.long q2), .second, .val (.long q3), .second, .val (.ref o4), .val (.ref o5), .val (.ref o6), .val (.ref o7), .val (.long q8), .second, .val (.long q9), .second, .val (.int p10)] [(.long q3), (.ref o0)])) rfl rfl (hb hby d6_49)
  have fw18 := Fld.same W18 fx16
  have hk18 := Nat.le_trans hk15 (Nat.le_of_eq W18.size.symm)
  have N18 := Fr.snoc X18 N15 g_o0
  have Z18 : n0 ≤ h18.size := by rw [W18.size]; exact Z15
  have K18 : Keep h0 h18 [o0] := K15.wr W18 (Or.inl (List.mem_of_getElem? (i := 0) rfl))
  refine own_go (g' := (mkF m 52 #[.val (.ref o0), .val (.long q1), .second, .val (.long q2), .second, .val (.long q3), .second, .val (.ref o4), .val (.ref o5), .val (.ref o6), .val (.ref o7), .val (.long q8), .second, .val (.long q9), .second, .val (.int p10)] [])) (st18) ?_
  refine own_go (g' := (mkF m 53 #[.val (.ref o0), .val (.long q1), .second, .val (.long q2), .second, .val (.long q3), .second, .val (.ref o4), .val (.ref o5), .val (.ref o6), .val (.ref o7), .val (.long q8), .second, .val (.long q9), .second, .val (.int p10)] [(.ref o0)])) (fun _ kgo => XS.aloadN X18.here hx rfl (hb hby d6_52) rfl rfl kgo) ?_
  refine own_go (g' := (mkF m 55 #[.val (.ref o0), .val (.long q1), .second, .val (.long q2), .second, .val (.long q3), .second, .val (.ref o4), .val (.ref o5), .val (.ref o6), .val (.ref o7), .val (.long q8), .second, .val (.long q9), .second, .val (.int p10)] [(.ref o4), (.ref o0)])) (fun _ kgo => XS.aload X18.here hx rfl (hb hby d6_53) rfl rfl kgo) ?_
  have fx19 : Fld Z h18 o0 "com/example/uptik/uptik/model/Holdings" "whole" "Ljava/lang/String;" .null := (Fld.other W18 (Fld.other W15 (Fld.other W12 (Fld.ext E8 (Fld.ext E6 (Fld.ext E4 (Fld.ext E2 P4)))) (Or.inr (slot_ne (Or.inr (hw _ (List.mem_of_getElem? (i := 55) rfl))) (Or.inr (hw _ (List.mem_of_getElem? (i := 49) rfl))) (by decide) (t := (.object "java/lang/String")) (t' := .long) (by decide) (by decide)))) (Or.inr (slot_ne (Or.inr (hw _ (List.mem_of_getElem? (i := 55) rfl))) (Or.inr (hw _ (List.mem_of_getElem? (i := 51) rfl))) (by decide) (t := (.object "java/lang/String")) (t' := .long) (by decide) (by decide)))) (Or.inr (slot_ne (Or.inr (hw _ (List.mem_of_getElem? (i := 55) rfl))) (Or.inr (hw _ (List.mem_of_getElem? (i := 53) rfl))) (by decide) (t := (.object "java/lang/String")) (t' := .long) (by decide) (by decide))))
  have fx20 : Exa Z h18 o0 "com/example/uptik/uptik/model/Holdings" := (Exa.wr W18 fx17)
  obtain ⟨T21, h21, X21, e21, W21, st21⟩ := putF X18 hx hZ hown (host := "") (Or.inl (hw _ (List.mem_of_getElem? (i := 54) rfl))) Via.refl e18 fx19 fx20 (Or.inr ⟨(hw _ (List.mem_of_getElem? (i := 55) rfl)), rfl, hnm⟩) (hw _ (List.mem_of_getElem? (i := 27) rfl)) (ty := (.object "java/lang/String")) (by decide) rfl rfl (g := (mkF m 55 #[.val (.ref o0), .val (.long q1), .second, .val (.long q2), .second, .val (.long q3), .second, .val (.ref o4), .val (.ref o5), .val (.ref o6), .val (.ref o7), .val (.long q8), .second, .val (.long q9), .second, .val (.int p10)] [(.ref o4), (.ref o0)])) rfl rfl (hb hby d6_55)
  have fw21 := Fld.same W21 fx19
  have hk21 := Nat.le_trans hk18 (Nat.le_of_eq W21.size.symm)
  have N21 := Fr.snoc X21 N18 g_o0
  have Z21 : n0 ≤ h21.size := by rw [W21.size]; exact Z18
  have K21 : Keep h0 h21 [o0] := K18.wr W21 (Or.inl (List.mem_of_getElem? (i := 0) rfl))
  refine own_go (g' := (mkF m 58 #[.val (.ref o0), .val (.long q1), .second, .val (.long q2), .second, .val (.long q3), .second, .val (.ref o4), .val (.ref o5), .val (.ref o6), .val (.ref o7), .val (.long q8), .second, .val (.long q9), .second, .val (.int p10)] [])) (st21) ?_
  refine own_go (g' := (mkF m 59 #[.val (.ref o0), .val (.long q1), .second, .val (.long q2), .second, .val (.long q3), .second, .val (.ref o4), .val (.ref o5), .val (.ref o6), .val (.ref o7), .val (.long q8), .second, .val (.long q9), .second, .val (.int p10)] [(.ref o0)])) (fun _ kgo => XS.aloadN X21.here hx rfl (hb hby d6_58) rfl rfl kgo) ?_
  refine own_go (g' := (mkF m 61 #[.val (.ref o0), .val (.long q1), .second, .val (.long q2), .second, .val (.long q3), .second, .val (.ref o4), .val (.ref o5), .val (.ref o6), .val (.ref o7), .val (.long q8), .second, .val (.long q9), .second, .val (.int p10)] [(.ref o5), (.ref o0)])) (fun _ kgo => XS.aload X21.here hx rfl (hb hby d6_59) rfl rfl kgo) ?_
  have fx22 : Fld Z h21 o0 "com/example/uptik/uptik/model/Holdings" "former" "Ljava/lang/String;" .null := (Fld.other W21 (Fld.other W18 (Fld.other W15 (Fld.other W12 (Fld.ext E8 (Fld.ext E6 (Fld.ext E4 (Fld.ext E2 P5)))) (Or.inr (slot_ne (Or.inr (hw _ (List.mem_of_getElem? (i := 57) rfl))) (Or.inr (hw _ (List.mem_of_getElem? (i := 49) rfl))) (by decide) (t := (.object "java/lang/String")) (t' := .long) (by decide) (by decide)))) (Or.inr (slot_ne (Or.inr (hw _ (List.mem_of_getElem? (i := 57) rfl))) (Or.inr (hw _ (List.mem_of_getElem? (i := 51) rfl))) (by decide) (t := (.object "java/lang/String")) (t' := .long) (by decide) (by decide)))) (Or.inr (slot_ne (Or.inr (hw _ (List.mem_of_getElem? (i := 57) rfl))) (Or.inr (hw _ (List.mem_of_getElem? (i := 53) rfl))) (by decide) (t := (.object "java/lang/String")) (t' := .long) (by decide) (by decide)))) (Or.inr (slot_ne (Or.inr (hw _ (List.mem_of_getElem? (i := 57) rfl))) (Or.inr (hw _ (List.mem_of_getElem? (i := 55) rfl))) (by decide) (t := (.object "java/lang/String")) (t' := (.object "java/lang/String")) (by decide) (by decide))))
  have fx23 : Exa Z h21 o0 "com/example/uptik/uptik/model/Holdings" := (Exa.wr W21 fx20)
  obtain ⟨T24, h24, X24, e24, W24, st24⟩ := putF X21 hx hZ hown (host := "") (Or.inl (hw _ (List.mem_of_getElem? (i := 56) rfl))) Via.refl e21 fx22 fx23 (Or.inr ⟨(hw _ (List.mem_of_getElem? (i := 57) rfl)), rfl, hnm⟩) (hw _ (List.mem_of_getElem? (i := 27) rfl)) (ty := (.object "java/lang/String")) (by decide) rfl rfl (g := (mkF m 61 #[.val (.ref o0), .val (.long q1), .second, .val (.long q2), .second, .val (.long q3), .second, .val (.ref o4), .val (.ref o5), .val (.ref o6), .val (.ref o7), .val (.long q8), .second, .val (.long q9), .second, .val (.int p10)] [(.ref o5), (.ref o0)])) rfl rfl (hb hby d6_61)
  have fw24 := Fld.same W24 fx22
  have hk24 := Nat.le_trans hk21 (Nat.le_of_eq W24.size.symm)
  have N24 := Fr.snoc X24 N21 g_o0
  have Z24 : n0 ≤ h24.size := by rw [W24.size]; exact Z21
  have K24 : Keep h0 h24 [o0] := K21.wr W24 (Or.inl (List.mem_of_getElem? (i := 0) rfl))
  refine own_go (g' := (mkF m 64 #[.val (.ref o0), .val (.long q1), .second, .val (.long q2), .second, .val (.long q3), .second, .val (.ref o4), .val (.ref o5), .val (.ref o6), .val (.ref o7), .val (.long q8), .second, .val (.long q9), .second, .val (.int p10)] [])) (st24) ?_
  refine own_go (g' := (mkF m 65 #[.val (.ref o0), .val (.long q1), .second, .val (.long q2), .second, .val (.long q3), .second, .val (.ref o4), .val (.ref o5), .val (.ref o6), .val (.ref o7), .val (.long q8), .second, .val (.long q9), .second, .val (.int p10)] [(.ref o0)])) (fun _ kgo => XS.aloadN X24.here hx rfl (hb hby d6_64) rfl rfl kgo) ?_
  refine own_go (g' := (mkF m 67 #[.val (.ref o0), .val (.long q1), .second, .val (.long q2), .second, .val (.long q3), .second, .val (.ref o4), .val (.ref o5), .val (.ref o6), .val (.ref o7), .val (.long q8), .second, .val (.long q9), .second, .val (.int p10)] [(.ref o6), (.ref o0)])) (fun _ kgo => XS.aload X24.here hx rfl (hb hby d6_65) rfl rfl kgo) ?_
  have fx25 : Fld Z h24 o0 "com/example/uptik/uptik/model/Holdings" "remembered" "Ljava/lang/String;" .null := (Fld.other W24 (Fld.other W21 (Fld.other W18 (Fld.other W15 (Fld.other W12 (Fld.ext E8 (Fld.ext E6 (Fld.ext E4 (Fld.ext E2 P6)))) (Or.inr (slot_ne (Or.inr (hw _ (List.mem_of_getElem? (i := 59) rfl))) (Or.inr (hw _ (List.mem_of_getElem? (i := 49) rfl))) (by decide) (t := (.object "java/lang/String")) (t' := .long) (by decide) (by decide)))) (Or.inr (slot_ne (Or.inr (hw _ (List.mem_of_getElem? (i := 59) rfl))) (Or.inr (hw _ (List.mem_of_getElem? (i := 51) rfl))) (by decide) (t := (.object "java/lang/String")) (t' := .long) (by decide) (by decide)))) (Or.inr (slot_ne (Or.inr (hw _ (List.mem_of_getElem? (i := 59) rfl))) (Or.inr (hw _ (List.mem_of_getElem? (i := 53) rfl))) (by decide) (t := (.object "java/lang/String")) (t' := .long) (by decide) (by decide)))) (Or.inr (slot_ne (Or.inr (hw _ (List.mem_of_getElem? (i := 59) rfl))) (Or.inr (hw _ (List.mem_of_getElem? (i := 55) rfl))) (by decide) (t := (.object "java/lang/String")) (t' := (.object "java/lang/String")) (by decide) (by decide)))) (Or.inr (slot_ne (Or.inr (hw _ (List.mem_of_getElem? (i := 59) rfl))) (Or.inr (hw _ (List.mem_of_getElem? (i := 57) rfl))) (by decide) (t := (.object "java/lang/String")) (t' := (.object "java/lang/String")) (by decide) (by decide))))
  have fx26 : Exa Z h24 o0 "com/example/uptik/uptik/model/Holdings" := (Exa.wr W24 fx23)
  obtain ⟨T27, h27, X27, e27, W27, st27⟩ := putF X24 hx hZ hown (host := "") (Or.inl (hw _ (List.mem_of_getElem? (i := 58) rfl))) Via.refl e24 fx25 fx26 (Or.inr ⟨(hw _ (List.mem_of_getElem? (i := 59) rfl)), rfl, hnm⟩) (hw _ (List.mem_of_getElem? (i := 27) rfl)) (ty := (.object "java/lang/String")) (by decide) rfl rfl (g := (mkF m 67 #[.val (.ref o0), .val (.long q1), .second, .val (.long q2), .second, .val (.long q3), .second, .val (.ref o4), .val (.ref o5), .val (.ref o6), .val (.ref o7), .val (.long q8), .second, .val (.long q9), .second, .val (.int p10)] [(.ref o6), (.ref o0)])) rfl rfl (hb hby d6_67)
  have fw27 := Fld.same W27 fx25
  have hk27 := Nat.le_trans hk24 (Nat.le_of_eq W27.size.symm)
  have N27 := Fr.snoc X27 N24 g_o0
  have Z27 : n0 ≤ h27.size := by rw [W27.size]; exact Z24
  have K27 : Keep h0 h27 [o0] := K24.wr W27 (Or.inl (List.mem_of_getElem? (i := 0) rfl))
  refine own_go (g' := (mkF m 70 #[.val (.ref o0), .val (.long q1), .second, .val (.long q2), .second, .val (.long q3), .second, .val (.ref o4), .val (.ref o5), .val (.ref o6), .val (.ref o7), .val (.long q8), .second, .val (.long q9), .second, .val (.int p10)] [])) (st27) ?_
  refine own_go (g' := (mkF m 71 #[.val (.ref o0), .val (.long q1), .second, .val (.long q2), .second, .val (.long q3), .second, .val (.ref o4), .val (.ref o5), .val (.ref o6), .val (.ref o7), .val (.long q8), .second, .val (.long q9), .second, .val (.int p10)] [(.ref o0)])) (fun _ kgo => XS.aloadN X27.here hx rfl (hb hby d6_70) rfl rfl kgo) ?_
  refine own_go (g' := (mkF m 73 #[.val (.ref o0), .val (.long q1), .second, .val (.long q2), .second, .val (.long q3), .second, .val (.ref o4), .val (.ref o5), .val (.ref o6), .val (.ref o7), .val (.long q8), .second, .val (.long q9), .second, .val (.int p10)] [(.ref o7), (.ref o0)])) (fun _ kgo => XS.aload X27.here hx rfl (hb hby d6_71) rfl rfl kgo) ?_
  have fx28 : Fld Z h27 o0 "com/example/uptik/uptik/model/Holdings" "custody" "Ljava/lang/String;" .null := (Fld.other W27 (Fld.other W24 (Fld.other W21 (Fld.other W18 (Fld.other W15 (Fld.other W12 (Fld.ext E8 (Fld.ext E6 (Fld.ext E4 (Fld.ext E2 P7)))) (Or.inr (slot_ne (Or.inr (hw _ (List.mem_of_getElem? (i := 61) rfl))) (Or.inr (hw _ (List.mem_of_getElem? (i := 49) rfl))) (by decide) (t := (.object "java/lang/String")) (t' := .long) (by decide) (by decide)))) (Or.inr (slot_ne (Or.inr (hw _ (List.mem_of_getElem? (i := 61) rfl))) (Or.inr (hw _ (List.mem_of_getElem? (i := 51) rfl))) (by decide) (t := (.object "java/lang/String")) (t' := .long) (by decide) (by decide)))) (Or.inr (slot_ne (Or.inr (hw _ (List.mem_of_getElem? (i := 61) rfl))) (Or.inr (hw _ (List.mem_of_getElem? (i := 53) rfl))) (by decide) (t := (.object "java/lang/String")) (t' := .long) (by decide) (by decide)))) (Or.inr (slot_ne (Or.inr (hw _ (List.mem_of_getElem? (i := 61) rfl))) (Or.inr (hw _ (List.mem_of_getElem? (i := 55) rfl))) (by decide) (t := (.object "java/lang/String")) (t' := (.object "java/lang/String")) (by decide) (by decide)))) (Or.inr (slot_ne (Or.inr (hw _ (List.mem_of_getElem? (i := 61) rfl))) (Or.inr (hw _ (List.mem_of_getElem? (i := 57) rfl))) (by decide) (t := (.object "java/lang/String")) (t' := (.object "java/lang/String")) (by decide) (by decide)))) (Or.inr (slot_ne (Or.inr (hw _ (List.mem_of_getElem? (i := 61) rfl))) (Or.inr (hw _ (List.mem_of_getElem? (i := 59) rfl))) (by decide) (t := (.object "java/lang/String")) (t' := (.object "java/lang/String")) (by decide) (by decide))))
  have fx29 : Exa Z h27 o0 "com/example/uptik/uptik/model/Holdings" := (Exa.wr W27 fx26)
  obtain ⟨T30, h30, X30, e30, W30, st30⟩ := putF X27 hx hZ hown (host := "") (Or.inl (hw _ (List.mem_of_getElem? (i := 60) rfl))) Via.refl e27 fx28 fx29 (Or.inr ⟨(hw _ (List.mem_of_getElem? (i := 61) rfl)), rfl, hnm⟩) (hw _ (List.mem_of_getElem? (i := 27) rfl)) (ty := (.object "java/lang/String")) (by decide) rfl rfl (g := (mkF m 73 #[.val (.ref o0), .val (.long q1), .second, .val (.long q2), .second, .val (.long q3), .second, .val (.ref o4), .val (.ref o5), .val (.ref o6), .val (.ref o7), .val (.long q8), .second, .val (.long q9), .second, .val (.int p10)] [(.ref o7), (.ref o0)])) rfl rfl (hb hby d6_73)
  have fw30 := Fld.same W30 fx28
  have hk30 := Nat.le_trans hk27 (Nat.le_of_eq W30.size.symm)
  have N30 := Fr.snoc X30 N27 g_o0
  have Z30 : n0 ≤ h30.size := by rw [W30.size]; exact Z27
  have K30 : Keep h0 h30 [o0] := K27.wr W30 (Or.inl (List.mem_of_getElem? (i := 0) rfl))
  refine own_go (g' := (mkF m 76 #[.val (.ref o0), .val (.long q1), .second, .val (.long q2), .second, .val (.long q3), .second, .val (.ref o4), .val (.ref o5), .val (.ref o6), .val (.ref o7), .val (.long q8), .second, .val (.long q9), .second, .val (.int p10)] [])) (st30) ?_
  refine own_go (g' := (mkF m 77 #[.val (.ref o0), .val (.long q1), .second, .val (.long q2), .second, .val (.long q3), .second, .val (.ref o4), .val (.ref o5), .val (.ref o6), .val (.ref o7), .val (.long q8), .second, .val (.long q9), .second, .val (.int p10)] [(.ref o0)])) (fun _ kgo => XS.aloadN X30.here hx rfl (hb hby d6_76) rfl rfl kgo) ?_
  refine own_go (g' := (mkF m 79 #[.val (.ref o0), .val (.long q1), .second, .val (.long q2), .second, .val (.long q3), .second, .val (.ref o4), .val (.ref o5), .val (.ref o6), .val (.ref o7), .val (.long q8), .second, .val (.long q9), .second, .val (.int p10)] [(.long q8), (.ref o0)])) (fun _ kgo => XS.lload X30.here hx rfl (hb hby d6_77) rfl kgo) ?_
  have fx31 : Fld Z h30 o0 "com/example/uptik/uptik/model/Holdings" "documents" "J" (.long (0 : Int64)) := (Fld.other W30 (Fld.other W27 (Fld.other W24 (Fld.other W21 (Fld.other W18 (Fld.other W15 (Fld.other W12 (Fld.ext E8 (Fld.ext E6 (Fld.ext E4 (Fld.ext E2 P8)))) (Or.inr (slot_ne (Or.inr (hw _ (List.mem_of_getElem? (i := 63) rfl))) (Or.inr (hw _ (List.mem_of_getElem? (i := 49) rfl))) (by decide) (t := .long) (t' := .long) (by decide) (by decide)))) (Or.inr (slot_ne (Or.inr (hw _ (List.mem_of_getElem? (i := 63) rfl))) (Or.inr (hw _ (List.mem_of_getElem? (i := 51) rfl))) (by decide) (t := .long) (t' := .long) (by decide) (by decide)))) (Or.inr (slot_ne (Or.inr (hw _ (List.mem_of_getElem? (i := 63) rfl))) (Or.inr (hw _ (List.mem_of_getElem? (i := 53) rfl))) (by decide) (t := .long) (t' := .long) (by decide) (by decide)))) (Or.inr (slot_ne (Or.inr (hw _ (List.mem_of_getElem? (i := 63) rfl))) (Or.inr (hw _ (List.mem_of_getElem? (i := 55) rfl))) (by decide) (t := .long) (t' := (.object "java/lang/String")) (by decide) (by decide)))) (Or.inr (slot_ne (Or.inr (hw _ (List.mem_of_getElem? (i := 63) rfl))) (Or.inr (hw _ (List.mem_of_getElem? (i := 57) rfl))) (by decide) (t := .long) (t' := (.object "java/lang/String")) (by decide) (by decide)))) (Or.inr (slot_ne (Or.inr (hw _ (List.mem_of_getElem? (i := 63) rfl))) (Or.inr (hw _ (List.mem_of_getElem? (i := 59) rfl))) (by decide) (t := .long) (t' := (.object "java/lang/String")) (by decide) (by decide)))) (Or.inr (slot_ne (Or.inr (hw _ (List.mem_of_getElem? (i := 63) rfl))) (Or.inr (hw _ (List.mem_of_getElem? (i := 61) rfl))) (by decide) (t := .long) (t' := (.object "java/lang/String")) (by decide) (by decide))))
  have fx32 : Exa Z h30 o0 "com/example/uptik/uptik/model/Holdings" := (Exa.wr W30 fx29)
  obtain ⟨T33, h33, X33, e33, W33, st33⟩ := putF X30 hx hZ hown (host := "") (Or.inl (hw _ (List.mem_of_getElem? (i := 62) rfl))) Via.refl e30 fx31 fx32 (Or.inr ⟨(hw _ (List.mem_of_getElem? (i := 63) rfl)), rfl, hnm⟩) (hw _ (List.mem_of_getElem? (i := 27) rfl)) (ty := .long) (by decide) rfl rfl (g := (mkF m 79 #[.val (.ref o0), .val (.long q1), .second, .val (.long q2), .second, .val (.long q3), .second, .val (.ref o4), .val (.ref o5), .val (.ref o6), .val (.ref o7), .val (.long q8), .second, .val (.long q9), .second, .val (.int p10)] [(.long q8), (.ref o0)])) rfl rfl (hb hby d6_79)
  have fw33 := Fld.same W33 fx31
  have hk33 := Nat.le_trans hk30 (Nat.le_of_eq W33.size.symm)
  have N33 := Fr.snoc X33 N30 g_o0
  have Z33 : n0 ≤ h33.size := by rw [W33.size]; exact Z30
  have K33 : Keep h0 h33 [o0] := K30.wr W33 (Or.inl (List.mem_of_getElem? (i := 0) rfl))
  refine own_go (g' := (mkF m 82 #[.val (.ref o0), .val (.long q1), .second, .val (.long q2), .second, .val (.long q3), .second, .val (.ref o4), .val (.ref o5), .val (.ref o6), .val (.ref o7), .val (.long q8), .second, .val (.long q9), .second, .val (.int p10)] [])) (st33) ?_
  refine own_go (g' := (mkF m 83 #[.val (.ref o0), .val (.long q1), .second, .val (.long q2), .second, .val (.long q3), .second, .val (.ref o4), .val (.ref o5), .val (.ref o6), .val (.ref o7), .val (.long q8), .second, .val (.long q9), .second, .val (.int p10)] [(.ref o0)])) (fun _ kgo => XS.aloadN X33.here hx rfl (hb hby d6_82) rfl rfl kgo) ?_
  refine own_go (g' := (mkF m 85 #[.val (.ref o0), .val (.long q1), .second, .val (.long q2), .second, .val (.long q3), .second, .val (.ref o4), .val (.ref o5), .val (.ref o6), .val (.ref o7), .val (.long q8), .second, .val (.long q9), .second, .val (.int p10)] [(.long q9), (.ref o0)])) (fun _ kgo => XS.lload X33.here hx rfl (hb hby d6_83) rfl kgo) ?_
  have fx34 : Fld Z h33 o0 "com/example/uptik/uptik/model/Holdings" "documentDigest" "J" (.long (0 : Int64)) := (Fld.other W33 (Fld.other W30 (Fld.other W27 (Fld.other W24 (Fld.other W21 (Fld.other W18 (Fld.other W15 (Fld.other W12 (Fld.ext E8 (Fld.ext E6 (Fld.ext E4 (Fld.ext E2 P9)))) (Or.inr (slot_ne (Or.inr (hw _ (List.mem_of_getElem? (i := 65) rfl))) (Or.inr (hw _ (List.mem_of_getElem? (i := 49) rfl))) (by decide) (t := .long) (t' := .long) (by decide) (by decide)))) (Or.inr (slot_ne (Or.inr (hw _ (List.mem_of_getElem? (i := 65) rfl))) (Or.inr (hw _ (List.mem_of_getElem? (i := 51) rfl))) (by decide) (t := .long) (t' := .long) (by decide) (by decide)))) (Or.inr (slot_ne (Or.inr (hw _ (List.mem_of_getElem? (i := 65) rfl))) (Or.inr (hw _ (List.mem_of_getElem? (i := 53) rfl))) (by decide) (t := .long) (t' := .long) (by decide) (by decide)))) (Or.inr (slot_ne (Or.inr (hw _ (List.mem_of_getElem? (i := 65) rfl))) (Or.inr (hw _ (List.mem_of_getElem? (i := 55) rfl))) (by decide) (t := .long) (t' := (.object "java/lang/String")) (by decide) (by decide)))) (Or.inr (slot_ne (Or.inr (hw _ (List.mem_of_getElem? (i := 65) rfl))) (Or.inr (hw _ (List.mem_of_getElem? (i := 57) rfl))) (by decide) (t := .long) (t' := (.object "java/lang/String")) (by decide) (by decide)))) (Or.inr (slot_ne (Or.inr (hw _ (List.mem_of_getElem? (i := 65) rfl))) (Or.inr (hw _ (List.mem_of_getElem? (i := 59) rfl))) (by decide) (t := .long) (t' := (.object "java/lang/String")) (by decide) (by decide)))) (Or.inr (slot_ne (Or.inr (hw _ (List.mem_of_getElem? (i := 65) rfl))) (Or.inr (hw _ (List.mem_of_getElem? (i := 61) rfl))) (by decide) (t := .long) (t' := (.object "java/lang/String")) (by decide) (by decide)))) (Or.inr (slot_ne (Or.inr (hw _ (List.mem_of_getElem? (i := 65) rfl))) (Or.inr (hw _ (List.mem_of_getElem? (i := 63) rfl))) (by decide) (t := .long) (t' := .long) (by decide) (by decide))))
  have fx35 : Exa Z h33 o0 "com/example/uptik/uptik/model/Holdings" := (Exa.wr W33 fx32)
  obtain ⟨T36, h36, X36, e36, W36, st36⟩ := putF X33 hx hZ hown (host := "") (Or.inl (hw _ (List.mem_of_getElem? (i := 64) rfl))) Via.refl e33 fx34 fx35 (Or.inr ⟨(hw _ (List.mem_of_getElem? (i := 65) rfl)), rfl, hnm⟩) (hw _ (List.mem_of_getElem? (i := 27) rfl)) (ty := .long) (by decide) rfl rfl (g := (mkF m 85 #[.val (.ref o0), .val (.long q1), .second, .val (.long q2), .second, .val (.long q3), .second, .val (.ref o4), .val (.ref o5), .val (.ref o6), .val (.ref o7), .val (.long q8), .second, .val (.long q9), .second, .val (.int p10)] [(.long q9), (.ref o0)])) rfl rfl (hb hby d6_85)
  have fw36 := Fld.same W36 fx34
  have hk36 := Nat.le_trans hk33 (Nat.le_of_eq W36.size.symm)
  have N36 := Fr.snoc X36 N33 g_o0
  have Z36 : n0 ≤ h36.size := by rw [W36.size]; exact Z33
  have K36 : Keep h0 h36 [o0] := K33.wr W36 (Or.inl (List.mem_of_getElem? (i := 0) rfl))
  refine own_go (g' := (mkF m 88 #[.val (.ref o0), .val (.long q1), .second, .val (.long q2), .second, .val (.long q3), .second, .val (.ref o4), .val (.ref o5), .val (.ref o6), .val (.ref o7), .val (.long q8), .second, .val (.long q9), .second, .val (.int p10)] [])) (st36) ?_
  refine own_go (g' := (mkF m 89 #[.val (.ref o0), .val (.long q1), .second, .val (.long q2), .second, .val (.long q3), .second, .val (.ref o4), .val (.ref o5), .val (.ref o6), .val (.ref o7), .val (.long q8), .second, .val (.long q9), .second, .val (.int p10)] [(.ref o0)])) (fun _ kgo => XS.aloadN X36.here hx rfl (hb hby d6_88) rfl rfl kgo) ?_
  refine own_go (g' := (mkF m 91 #[.val (.ref o0), .val (.long q1), .second, .val (.long q2), .second, .val (.long q3), .second, .val (.ref o4), .val (.ref o5), .val (.ref o6), .val (.ref o7), .val (.long q8), .second, .val (.long q9), .second, .val (.int p10)] [(.int p10), (.ref o0)])) (fun _ kgo => XS.iload X36.here hx rfl (hb hby d6_89) rfl kgo) ?_
  have fx37 : Fld Z h36 o0 "com/example/uptik/uptik/model/Holdings" "recordWhole" "Z" (.int (0 : Int32)) := (Fld.other W36 (Fld.other W33 (Fld.other W30 (Fld.other W27 (Fld.other W24 (Fld.other W21 (Fld.other W18 (Fld.other W15 (Fld.other W12 (Fld.ext E8 (Fld.ext E6 (Fld.ext E4 (Fld.ext E2 P10)))) (Or.inr (slot_ne (Or.inr (hw _ (List.mem_of_getElem? (i := 67) rfl))) (Or.inr (hw _ (List.mem_of_getElem? (i := 49) rfl))) (by decide) (t := .boolean) (t' := .long) (by decide) (by decide)))) (Or.inr (slot_ne (Or.inr (hw _ (List.mem_of_getElem? (i := 67) rfl))) (Or.inr (hw _ (List.mem_of_getElem? (i := 51) rfl))) (by decide) (t := .boolean) (t' := .long) (by decide) (by decide)))) (Or.inr (slot_ne (Or.inr (hw _ (List.mem_of_getElem? (i := 67) rfl))) (Or.inr (hw _ (List.mem_of_getElem? (i := 53) rfl))) (by decide) (t := .boolean) (t' := .long) (by decide) (by decide)))) (Or.inr (slot_ne (Or.inr (hw _ (List.mem_of_getElem? (i := 67) rfl))) (Or.inr (hw _ (List.mem_of_getElem? (i := 55) rfl))) (by decide) (t := .boolean) (t' := (.object "java/lang/String")) (by decide) (by decide)))) (Or.inr (slot_ne (Or.inr (hw _ (List.mem_of_getElem? (i := 67) rfl))) (Or.inr (hw _ (List.mem_of_getElem? (i := 57) rfl))) (by decide) (t := .boolean) (t' := (.object "java/lang/String")) (by decide) (by decide)))) (Or.inr (slot_ne (Or.inr (hw _ (List.mem_of_getElem? (i := 67) rfl))) (Or.inr (hw _ (List.mem_of_getElem? (i := 59) rfl))) (by decide) (t := .boolean) (t' := (.object "java/lang/String")) (by decide) (by decide)))) (Or.inr (slot_ne (Or.inr (hw _ (List.mem_of_getElem? (i := 67) rfl))) (Or.inr (hw _ (List.mem_of_getElem? (i := 61) rfl))) (by decide) (t := .boolean) (t' := (.object "java/lang/String")) (by decide) (by decide)))) (Or.inr (slot_ne (Or.inr (hw _ (List.mem_of_getElem? (i := 67) rfl))) (Or.inr (hw _ (List.mem_of_getElem? (i := 63) rfl))) (by decide) (t := .boolean) (t' := .long) (by decide) (by decide)))) (Or.inr (slot_ne (Or.inr (hw _ (List.mem_of_getElem? (i := 67) rfl))) (Or.inr (hw _ (List.mem_of_getElem? (i := 65) rfl))) (by decide) (t := .boolean) (t' := .long) (by decide) (by decide))))
  have fx38 : Exa Z h36 o0 "com/example/uptik/uptik/model/Holdings" := (Exa.wr W36 fx35)
  obtain ⟨T39, h39, X39, e39, W39, st39⟩ := putFN X36 hx hZ hown (hw _ (List.mem_of_getElem? (i := 66) rfl)) Via.refl e36 fx37 fx38 (Or.inr ⟨(hw _ (List.mem_of_getElem? (i := 67) rfl)), rfl, hnm⟩) (hw _ (List.mem_of_getElem? (i := 27) rfl)) (ty := .boolean) (v := (.int p10)) (v' := (.int (nar .boolean p10))) (by decide) rfl (fits_nar_bool _) (g := (mkF m 91 #[.val (.ref o0), .val (.long q1), .second, .val (.long q2), .second, .val (.long q3), .second, .val (.ref o4), .val (.ref o5), .val (.ref o6), .val (.ref o7), .val (.long q8), .second, .val (.long q9), .second, .val (.int p10)] [(.int p10), (.ref o0)])) rfl rfl (hb hby d6_91)
  have fw39 := Fld.same W39 fx37
  have hk39 := Nat.le_trans hk36 (Nat.le_of_eq W39.size.symm)
  have N39 := Fr.snoc X39 N36 g_o0
  have Z39 : n0 ≤ h39.size := by rw [W39.size]; exact Z36
  have K39 : Keep h0 h39 [o0] := K36.wr W39 (Or.inl (List.mem_of_getElem? (i := 0) rfl))
  refine own_go (g' := (mkF m 94 #[.val (.ref o0), .val (.long q1), .second, .val (.long q2), .second, .val (.long q3), .second, .val (.ref o4), .val (.ref o5), .val (.ref o6), .val (.ref o7), .val (.long q8), .second, .val (.long q9), .second, .val (.int p10)] [])) (st39) ?_
  refine own_retVW X39 hx hS8 e39 hk39 Bd.returns Bd.notSynchronized (hb hby d6_94) (by decide) (by decide) ?_
  show QQ _ T39.heap _
  rw [e39]
  have fx40 : Exa Z h39 o0 "com/example/uptik/uptik/model/Holdings" := (Exa.wr W39 fx38)
  have fx41 : Fld Z h39 o0 "com/example/uptik/uptik/model/Holdings" "terms" "J" (.long q1) := (Fld.other W39 (Fld.other W36 (Fld.other W33 (Fld.other W30 (Fld.other W27 (Fld.other W24 (Fld.other W21 (Fld.other W18 (Fld.other W15 fw12 (Or.inr (slot_ne (Or.inr (hw _ (List.mem_of_getElem? (i := 49) rfl))) (Or.inr (hw _ (List.mem_of_getElem? (i := 51) rfl))) (by decide) (t := .long) (t' := .long) (by decide) (by decide)))) (Or.inr (slot_ne (Or.inr (hw _ (List.mem_of_getElem? (i := 49) rfl))) (Or.inr (hw _ (List.mem_of_getElem? (i := 53) rfl))) (by decide) (t := .long) (t' := .long) (by decide) (by decide)))) (Or.inr (slot_ne (Or.inr (hw _ (List.mem_of_getElem? (i := 49) rfl))) (Or.inr (hw _ (List.mem_of_getElem? (i := 55) rfl))) (by decide) (t := .long) (t' := (.object "java/lang/String")) (by decide) (by decide)))) (Or.inr (slot_ne (Or.inr (hw _ (List.mem_of_getElem? (i := 49) rfl))) (Or.inr (hw _ (List.mem_of_getElem? (i := 57) rfl))) (by decide) (t := .long) (t' := (.object "java/lang/String")) (by decide) (by decide)))) (Or.inr (slot_ne (Or.inr (hw _ (List.mem_of_getElem? (i := 49) rfl))) (Or.inr (hw _ (List.mem_of_getElem? (i := 59) rfl))) (by decide) (t := .long) (t' := (.object "java/lang/String")) (by decide) (by decide)))) (Or.inr (slot_ne (Or.inr (hw _ (List.mem_of_getElem? (i := 49) rfl))) (Or.inr (hw _ (List.mem_of_getElem? (i := 61) rfl))) (by decide) (t := .long) (t' := (.object "java/lang/String")) (by decide) (by decide)))) (Or.inr (slot_ne (Or.inr (hw _ (List.mem_of_getElem? (i := 49) rfl))) (Or.inr (hw _ (List.mem_of_getElem? (i := 63) rfl))) (by decide) (t := .long) (t' := .long) (by decide) (by decide)))) (Or.inr (slot_ne (Or.inr (hw _ (List.mem_of_getElem? (i := 49) rfl))) (Or.inr (hw _ (List.mem_of_getElem? (i := 65) rfl))) (by decide) (t := .long) (t' := .long) (by decide) (by decide)))) (Or.inr (slot_ne (Or.inr (hw _ (List.mem_of_getElem? (i := 49) rfl))) (Or.inr (hw _ (List.mem_of_getElem? (i := 67) rfl))) (by decide) (t := .long) (t' := .boolean) (by decide) (by decide))))
  have fx42 : Fld Z h39 o0 "com/example/uptik/uptik/model/Holdings" "postings" "J" (.long q2) := (Fld.other W39 (Fld.other W36 (Fld.other W33 (Fld.other W30 (Fld.other W27 (Fld.other W24 (Fld.other W21 (Fld.other W18 fw15 (Or.inr (slot_ne (Or.inr (hw _ (List.mem_of_getElem? (i := 51) rfl))) (Or.inr (hw _ (List.mem_of_getElem? (i := 53) rfl))) (by decide) (t := .long) (t' := .long) (by decide) (by decide)))) (Or.inr (slot_ne (Or.inr (hw _ (List.mem_of_getElem? (i := 51) rfl))) (Or.inr (hw _ (List.mem_of_getElem? (i := 55) rfl))) (by decide) (t := .long) (t' := (.object "java/lang/String")) (by decide) (by decide)))) (Or.inr (slot_ne (Or.inr (hw _ (List.mem_of_getElem? (i := 51) rfl))) (Or.inr (hw _ (List.mem_of_getElem? (i := 57) rfl))) (by decide) (t := .long) (t' := (.object "java/lang/String")) (by decide) (by decide)))) (Or.inr (slot_ne (Or.inr (hw _ (List.mem_of_getElem? (i := 51) rfl))) (Or.inr (hw _ (List.mem_of_getElem? (i := 59) rfl))) (by decide) (t := .long) (t' := (.object "java/lang/String")) (by decide) (by decide)))) (Or.inr (slot_ne (Or.inr (hw _ (List.mem_of_getElem? (i := 51) rfl))) (Or.inr (hw _ (List.mem_of_getElem? (i := 61) rfl))) (by decide) (t := .long) (t' := (.object "java/lang/String")) (by decide) (by decide)))) (Or.inr (slot_ne (Or.inr (hw _ (List.mem_of_getElem? (i := 51) rfl))) (Or.inr (hw _ (List.mem_of_getElem? (i := 63) rfl))) (by decide) (t := .long) (t' := .long) (by decide) (by decide)))) (Or.inr (slot_ne (Or.inr (hw _ (List.mem_of_getElem? (i := 51) rfl))) (Or.inr (hw _ (List.mem_of_getElem? (i := 65) rfl))) (by decide) (t := .long) (t' := .long) (by decide) (by decide)))) (Or.inr (slot_ne (Or.inr (hw _ (List.mem_of_getElem? (i := 51) rfl))) (Or.inr (hw _ (List.mem_of_getElem? (i := 67) rfl))) (by decide) (t := .long) (t' := .boolean) (by decide) (by decide))))
  have fx43 : Fld Z h39 o0 "com/example/uptik/uptik/model/Holdings" "digest" "J" (.long q3) := (Fld.other W39 (Fld.other W36 (Fld.other W33 (Fld.other W30 (Fld.other W27 (Fld.other W24 (Fld.other W21 fw18 (Or.inr (slot_ne (Or.inr (hw _ (List.mem_of_getElem? (i := 53) rfl))) (Or.inr (hw _ (List.mem_of_getElem? (i := 55) rfl))) (by decide) (t := .long) (t' := (.object "java/lang/String")) (by decide) (by decide)))) (Or.inr (slot_ne (Or.inr (hw _ (List.mem_of_getElem? (i := 53) rfl))) (Or.inr (hw _ (List.mem_of_getElem? (i := 57) rfl))) (by decide) (t := .long) (t' := (.object "java/lang/String")) (by decide) (by decide)))) (Or.inr (slot_ne (Or.inr (hw _ (List.mem_of_getElem? (i := 53) rfl))) (Or.inr (hw _ (List.mem_of_getElem? (i := 59) rfl))) (by decide) (t := .long) (t' := (.object "java/lang/String")) (by decide) (by decide)))) (Or.inr (slot_ne (Or.inr (hw _ (List.mem_of_getElem? (i := 53) rfl))) (Or.inr (hw _ (List.mem_of_getElem? (i := 61) rfl))) (by decide) (t := .long) (t' := (.object "java/lang/String")) (by decide) (by decide)))) (Or.inr (slot_ne (Or.inr (hw _ (List.mem_of_getElem? (i := 53) rfl))) (Or.inr (hw _ (List.mem_of_getElem? (i := 63) rfl))) (by decide) (t := .long) (t' := .long) (by decide) (by decide)))) (Or.inr (slot_ne (Or.inr (hw _ (List.mem_of_getElem? (i := 53) rfl))) (Or.inr (hw _ (List.mem_of_getElem? (i := 65) rfl))) (by decide) (t := .long) (t' := .long) (by decide) (by decide)))) (Or.inr (slot_ne (Or.inr (hw _ (List.mem_of_getElem? (i := 53) rfl))) (Or.inr (hw _ (List.mem_of_getElem? (i := 67) rfl))) (by decide) (t := .long) (t' := .boolean) (by decide) (by decide))))
  rw [← hQQ]
  exact ⟨rfl, N39, K39, fx40, fx41, fx42, fx43⟩
theorem d9_0 : decode prog_47_method_2_code 0 = .ok (.aload_n 0, 1) := by decide +kernel
theorem d9_1 : decode prog_47_method_2_code 1 = .ok (.getfield 21, 3) := by decide +kernel
theorem d9_4 : decode prog_47_method_2_code 4 = .ok (.aload_n 1, 1) := by decide +kernel
theorem d9_5 : decode prog_47_method_2_code 5 = .ok (.getfield 21, 3) := by decide +kernel
theorem d9_8 : decode prog_47_method_2_code 8 = .ok (.lcmp, 1) := by decide +kernel
theorem d9_9 : decode prog_47_method_2_code 9 = .ok (.ifCond .ne 31, 3) := by decide +kernel
theorem d9_12 : decode prog_47_method_2_code 12 = .ok (.aload_n 0, 1) := by decide +kernel
theorem d9_13 : decode prog_47_method_2_code 13 = .ok (.getfield 27, 3) := by decide +kernel
theorem d9_16 : decode prog_47_method_2_code 16 = .ok (.aload_n 1, 1) := by decide +kernel
theorem d9_17 : decode prog_47_method_2_code 17 = .ok (.getfield 27, 3) := by decide +kernel
theorem d9_20 : decode prog_47_method_2_code 20 = .ok (.lcmp, 1) := by decide +kernel
theorem d9_21 : decode prog_47_method_2_code 21 = .ok (.ifCond .ne 19, 3) := by decide +kernel
theorem d9_24 : decode prog_47_method_2_code 24 = .ok (.aload_n 0, 1) := by decide +kernel
theorem d9_25 : decode prog_47_method_2_code 25 = .ok (.getfield 30, 3) := by decide +kernel
theorem d9_28 : decode prog_47_method_2_code 28 = .ok (.aload_n 1, 1) := by decide +kernel
theorem d9_29 : decode prog_47_method_2_code 29 = .ok (.getfield 30, 3) := by decide +kernel
theorem d9_32 : decode prog_47_method_2_code 32 = .ok (.lcmp, 1) := by decide +kernel
theorem d9_33 : decode prog_47_method_2_code 33 = .ok (.ifCond .ne 7, 3) := by decide +kernel
theorem d9_36 : decode prog_47_method_2_code 36 = .ok (.iconst 1, 1) := by decide +kernel
theorem d9_37 : decode prog_47_method_2_code 37 = .ok (.goto 4, 3) := by decide +kernel
theorem d9_40 : decode prog_47_method_2_code 40 = .ok (.iconst 0, 1) := by decide +kernel
theorem d9_41 : decode prog_47_method_2_code 41 = .ok (.ireturn, 1) := by decide +kernel
theorem pn_rm9 : plainName "com/example/uptik/uptik/model/Holdings" = true := by first | (simp [plainName, overriddenIn]; done) | decide +kernel
theorem ef_rm9 (m : MethodId) (o0 : Addr) (o1 : Addr) : entryFrame m #[(.ref o0), (.ref o1)] 2 = mkF m 0 #[.val (.ref o0), .val (.ref o1)] [] := by first | (simp [entryFrame, mkF, argsToLocals, Value.category]; done) | rfl
set_option maxRecDepth 65536 in
set_option maxHeartbeats 40000000 in
theorem rm9 (l : Launch) (Z : State) (a0 : Array Value) (hw : ∀ d ∈ tables_1, d.before a0 Z = true) (o0 : Addr) (o1 : Addr) (a0_ : Int64) (a1_ : Int64) (a2_ : Int64) (b0_ : Int64) (b1_ : Int64) (b2_ : Int64) (h0 : Heap) (P0 : Fld Z h0 o0 "com/example/uptik/uptik/model/Holdings" "terms" "J" (.long a0_)) (P1 : Fld Z h0 o0 "com/example/uptik/uptik/model/Holdings" "postings" "J" (.long a1_)) (P2 : Fld Z h0 o0 "com/example/uptik/uptik/model/Holdings" "digest" "J" (.long a2_)) (P3 : Fld Z h0 o1 "com/example/uptik/uptik/model/Holdings" "terms" "J" (.long b0_)) (P4 : Fld Z h0 o1 "com/example/uptik/uptik/model/Holdings" "postings" "J" (.long b1_)) (P5 : Fld Z h0 o1 "com/example/uptik/uptik/model/Holdings" "digest" "J" (.long b2_)) :
    own_Met l Z (⟨"com/example/uptik/uptik/model/Holdings", "sameListsAs", "(Lcom/example/uptik/uptik/model/Holdings;)Z"⟩ : MethodName) prog_47_method_2_code 2 (some .boolean) [] ({ frames := 0, cells := 0, slots := 0, locals := 0 } : Room) #[(.ref o0), (.ref o1)] h0 0 0 (fun v h L => v = some (.int (own_b (decide (a0_ = b0_ ∧ a1_ = b1_ ∧ a2_ = b2_)))) ∧ h = h0 ∧ L = []) := by
  refine own_met (plainFor_of_name pn_rm9) ?_
  intro p e s m below meth c s₁ Bd hml0 hZ X0 e0
  have hx := Bd.exec
  have hby := Bd.bytes
  have hml : c.maxLocals = 2 := hml0
  have hown : s.vm.findClass "com/example/uptik/uptik/model/Holdings" = some m.cls := findClass_of_methodNamed Bd.named
  have hnm := (name_of_methodNamed Bd.named Bd.method).1
  refine own_cast (ef_rm9 m o0 o1) ?_
  generalize hQQ : (fun (v : Option Value) (h : Heap) (L : List Loc) => v = some (.int (own_b (decide (a0_ = b0_ ∧ a1_ = b1_ ∧ a2_ = b2_)))) ∧ h = h0 ∧ L = []) = QQ
  refine own_go (g' := (mkF m 1 #[.val (.ref o0), .val (.ref o1)] [(.ref o0)])) (fun _ kgo => XS.aloadN X0.here hx rfl (hb hby d9_0) rfl rfl kgo) ?_
  obtain ⟨T1, X1, e1, st1⟩ := getF X0 hx hZ hown (host := "") (Or.inl (hw _ (List.mem_of_getElem? (i := 48) rfl))) Via.refl e0 P0 (g := (mkF m 1 #[.val (.ref o0), .val (.ref o1)] [(.ref o0)])) rfl rfl (hb hby d9_1)
  refine own_go (g' := (mkF m 4 #[.val (.ref o0), .val (.ref o1)] [(.long a0_)])) (st1) ?_
  refine own_go (g' := (mkF m 5 #[.val (.ref o0), .val (.ref o1)] [(.ref o1), (.long a0_)])) (fun _ kgo => XS.aloadN X1.here hx rfl (hb hby d9_4) rfl rfl kgo) ?_
  obtain ⟨T2, X2, e2, st2⟩ := getF X1 hx hZ hown (host := "") (Or.inl (hw _ (List.mem_of_getElem? (i := 48) rfl))) Via.refl e1 P3 (g := (mkF m 5 #[.val (.ref o0), .val (.ref o1)] [(.ref o1), (.long a0_)])) rfl rfl (hb hby d9_5)
  refine own_go (g' := (mkF m 8 #[.val (.ref o0), .val (.ref o1)] [(.long b0_), (.long a0_)])) (st2) ?_
  refine own_go (g' := (mkF m 9 #[.val (.ref o0), .val (.ref o1)] [(.int (lcmpW a0_ b0_))])) (fun _ kgo => XS.lcmp X2.here hx rfl (hb hby d9_8) rfl kgo) ?_
  by_cases hc3 : a0_ = b0_
  ·
    refine own_go (g' := (mkF m 12 #[.val (.ref o0), .val (.ref o1)] [])) (fun _ kgo => XS.ifNo X2.here hx rfl (hb hby d9_9) rfl ((if0 _ _).trans (teq ((lw_eq _ _).mpr hc3)).2) kgo) ?_
    refine own_go (g' := (mkF m 13 #[.val (.ref o0), .val (.ref o1)] [(.ref o0)])) (fun _ kgo => XS.aloadN X2.here hx rfl (hb hby d9_12) rfl rfl kgo) ?_
    obtain ⟨T4, X4, e4, st4⟩ := getF X2 hx hZ hown (host := "") (Or.inl (hw _ (List.mem_of_getElem? (i := 50) rfl))) Via.refl e2 P1 (g := (mkF m 13 #[.val (.ref o0), .val (.ref o1)] [(.ref o0)])) rfl rfl (hb hby d9_13)
    refine own_go (g' := (mkF m 16 #[.val (.ref o0), .val (.ref o1)] [(.long a1_)])) (st4) ?_
    refine own_go (g' := (mkF m 17 #[.val (.ref o0), .val (.ref o1)] [(.ref o1), (.long a1_)])) (fun _ kgo => XS.aloadN X4.here hx rfl (hb hby d9_16) rfl rfl kgo) ?_
    obtain ⟨T5, X5, e5, st5⟩ := getF X4 hx hZ hown (host := "") (Or.inl (hw _ (List.mem_of_getElem? (i := 50) rfl))) Via.refl e4 P4 (g := (mkF m 17 #[.val (.ref o0), .val (.ref o1)] [(.ref o1), (.long a1_)])) rfl rfl (hb hby d9_17)
    refine own_go (g' := (mkF m 20 #[.val (.ref o0), .val (.ref o1)] [(.long b1_), (.long a1_)])) (st5) ?_
    refine own_go (g' := (mkF m 21 #[.val (.ref o0), .val (.ref o1)] [(.int (lcmpW a1_ b1_))])) (fun _ kgo => XS.lcmp X5.here hx rfl (hb hby d9_20) rfl kgo) ?_
    by_cases hc6 : a1_ = b1_
    ·
      refine own_go (g' := (mkF m 24 #[.val (.ref o0), .val (.ref o1)] [])) (fun _ kgo => XS.ifNo X5.here hx rfl (hb hby d9_21) rfl ((if0 _ _).trans (teq ((lw_eq _ _).mpr hc6)).2) kgo) ?_
      refine own_go (g' := (mkF m 25 #[.val (.ref o0), .val (.ref o1)] [(.ref o0)])) (fun _ kgo => XS.aloadN X5.here hx rfl (hb hby d9_24) rfl rfl kgo) ?_
      obtain ⟨T7, X7, e7, st7⟩ := getF X5 hx hZ hown (host := "") (Or.inl (hw _ (List.mem_of_getElem? (i := 52) rfl))) Via.refl e5 P2 (g := (mkF m 25 #[.val (.ref o0), .val (.ref o1)] [(.ref o0)])) rfl rfl (hb hby d9_25)
      refine own_go (g' := (mkF m 28 #[.val (.ref o0), .val (.ref o1)] [(.long a2_)])) (st7) ?_
      refine own_go (g' := (mkF m 29 #[.val (.ref o0), .val (.ref o1)] [(.ref o1), (.long a2_)])) (fun _ kgo => XS.aloadN X7.here hx rfl (hb hby d9_28) rfl rfl kgo) ?_
      obtain ⟨T8, X8, e8, st8⟩ := getF X7 hx hZ hown (host := "") (Or.inl (hw _ (List.mem_of_getElem? (i := 52) rfl))) Via.refl e7 P5 (g := (mkF m 29 #[.val (.ref o0), .val (.ref o1)] [(.ref o1), (.long a2_)])) rfl rfl (hb hby d9_29)
      refine own_go (g' := (mkF m 32 #[.val (.ref o0), .val (.ref o1)] [(.long b2_), (.long a2_)])) (st8) ?_
      refine own_go (g' := (mkF m 33 #[.val (.ref o0), .val (.ref o1)] [(.int (lcmpW a2_ b2_))])) (fun _ kgo => XS.lcmp X8.here hx rfl (hb hby d9_32) rfl kgo) ?_
      by_cases hc9 : a2_ = b2_
      ·
        refine own_go (g' := (mkF m 36 #[.val (.ref o0), .val (.ref o1)] [])) (fun _ kgo => XS.ifNo X8.here hx rfl (hb hby d9_33) rfl ((if0 _ _).trans (teq ((lw_eq _ _).mpr hc9)).2) kgo) ?_
        refine own_go (g' := (mkF m 37 #[.val (.ref o0), .val (.ref o1)] [(.int (1 : Int32))])) (fun _ kgo => XS.iconst X8.here hx rfl (hb hby d9_36) kgo) ?_
        refine own_go (g' := (mkF m 41 #[.val (.ref o0), .val (.ref o1)] [(.int (1 : Int32))])) (fun _ kgo => XS.goto X8.here hx rfl (pc0 := 37) (pc' := 41) rfl (hb hby d9_37) (by decide) (by decide) kgo) ?_
        refine own_retN X8 hx .boolean Bd.returns Bd.notSynchronized (by simp) (hb hby d9_41) (by decide) (by decide) ?_
        show QQ _ T8.heap _
        rw [e8]
        rw [← hQQ]
        have hv : own_b (decide (a0_ = b0_ ∧ a1_ = b1_ ∧ a2_ = b2_)) = 1 := own_b_t (by simp only [decide_eq_true_eq, ← Int32.toInt_inj, ← Int64.toInt_inj, Int32.lt_iff_toInt_lt, Int64.lt_iff_toInt_lt, Int32.le_iff_toInt_le, Int64.le_iff_toInt_le, Int32.reduceToInt, Int64.reduceToInt] at hc3 hc6 hc9 ⊢ <;> omega)
        exact ⟨by rw [hv]; rfl, rfl, rfl⟩
      ·
        refine own_go (g' := (mkF m 40 #[.val (.ref o0), .val (.ref o1)] [])) (fun _ kgo => XS.ifYes X8.here hx rfl (pc0 := 33) (pc' := 40) rfl (hb hby d9_33) rfl ((if0 _ _).trans (feq (mt (lw_eq _ _).mp hc9)).2) (by decide) (by decide) kgo) ?_
        refine own_go (g' := (mkF m 41 #[.val (.ref o0), .val (.ref o1)] [(.int (0 : Int32))])) (fun _ kgo => XS.iconst X8.here hx rfl (hb hby d9_40) kgo) ?_
        refine own_retN X8 hx .boolean Bd.returns Bd.notSynchronized (by simp) (hb hby d9_41) (by decide) (by decide) ?_
        show QQ _ T8.heap _
        rw [e8]
        rw [← hQQ]
        have hv : own_b (decide (a0_ = b0_ ∧ a1_ = b1_ ∧ a2_ = b2_)) = 0 := own_b_f (by simp only [decide_eq_true_eq, ← Int32.toInt_inj, ← Int64.toInt_inj, Int32.lt_iff_toInt_lt, Int64.lt_iff_toInt_lt, Int32.le_iff_toInt_le, Int64.le_iff_toInt_le, Int32.reduceToInt, Int64.reduceToInt] at hc3 hc6 hc9 ⊢ <;> omega)
        exact ⟨by rw [hv]; rfl, rfl, rfl⟩
    ·
      refine own_go (g' := (mkF m 40 #[.val (.ref o0), .val (.ref o1)] [])) (fun _ kgo => XS.ifYes X5.here hx rfl (pc0 := 21) (pc' := 40) rfl (hb hby d9_21) rfl ((if0 _ _).trans (feq (mt (lw_eq _ _).mp hc6)).2) (by decide) (by decide) kgo) ?_
      refine own_go (g' := (mkF m 41 #[.val (.ref o0), .val (.ref o1)] [(.int (0 : Int32))])) (fun _ kgo => XS.iconst X5.here hx rfl (hb hby d9_40) kgo) ?_
      refine own_retN X5 hx .boolean Bd.returns Bd.notSynchronized (by simp) (hb hby d9_41) (by decide) (by decide) ?_
      show QQ _ T5.heap _
      rw [e5]
      rw [← hQQ]
      have hv : own_b (decide (a0_ = b0_ ∧ a1_ = b1_ ∧ a2_ = b2_)) = 0 := own_b_f (by simp only [decide_eq_true_eq, ← Int32.toInt_inj, ← Int64.toInt_inj, Int32.lt_iff_toInt_lt, Int64.lt_iff_toInt_lt, Int32.le_iff_toInt_le, Int64.le_iff_toInt_le, Int32.reduceToInt, Int64.reduceToInt] at hc3 hc6 ⊢ <;> omega)
      exact ⟨by rw [hv]; rfl, rfl, rfl⟩
  ·
    refine own_go (g' := (mkF m 40 #[.val (.ref o0), .val (.ref o1)] [])) (fun _ kgo => XS.ifYes X2.here hx rfl (pc0 := 9) (pc' := 40) rfl (hb hby d9_9) rfl ((if0 _ _).trans (feq (mt (lw_eq _ _).mp hc3)).2) (by decide) (by decide) kgo) ?_
    refine own_go (g' := (mkF m 41 #[.val (.ref o0), .val (.ref o1)] [(.int (0 : Int32))])) (fun _ kgo => XS.iconst X2.here hx rfl (hb hby d9_40) kgo) ?_
    refine own_retN X2 hx .boolean Bd.returns Bd.notSynchronized (by simp) (hb hby d9_41) (by decide) (by decide) ?_
    show QQ _ T2.heap _
    rw [e2]
    rw [← hQQ]
    have hv : own_b (decide (a0_ = b0_ ∧ a1_ = b1_ ∧ a2_ = b2_)) = 0 := own_b_f (by simp only [decide_eq_true_eq, ← Int32.toInt_inj, ← Int64.toInt_inj, Int32.lt_iff_toInt_lt, Int64.lt_iff_toInt_lt, Int32.le_iff_toInt_le, Int64.le_iff_toInt_le, Int32.reduceToInt, Int64.reduceToInt] at hc3 ⊢ <;> omega)
    exact ⟨by rw [hv]; rfl, rfl, rfl⟩
theorem pn_rm0 : plainName "com/example/uptik/uptik/model/HoldingsSameListsAsPinLaw" = true := by first | (simp [plainName, overriddenIn]; done) | decide +kernel
theorem pd0_0 : parseMethodDescriptor "(C)Ljava/lang/String;" = some ⟨[.char], some (.object "java/lang/String")⟩ := by decide +kernel
theorem pd0_1 : parseMethodDescriptor "(JJJLjava/lang/String;Ljava/lang/String;Ljava/lang/String;Ljava/lang/String;JJZ)V" = some ⟨[.long, .long, .long, (.object "java/lang/String"), (.object "java/lang/String"), (.object "java/lang/String"), (.object "java/lang/String"), .long, .long, .boolean], none⟩ := by decide +kernel
theorem pd0_2 : parseMethodDescriptor "(Lcom/example/uptik/uptik/model/Holdings;)Z" = some ⟨[(.object "com/example/uptik/uptik/model/Holdings")], some .boolean⟩ := by decide +kernel
theorem ef_rm0 (m : MethodId) (q0 : Int64) (q1 : Int64) (q2 : Int64) (q3 : Int64) (p4 : Int32) (p5 : Int32) : entryFrame m #[(.long q0), (.long q1), (.long q2), (.long q3), (.int p4), (.int p5)] maxLocals = mkF m 0 #[.val (.long q0), .second, .val (.long q1), .second, .val (.long q2), .second, .val (.long q3), .second, .val (.int p4), .val (.int p5), .unset, .unset, .unset, .unset, .unset, .unset, .unset, .unset, .unset, .unset, .unset, .unset, .unset, .unset, .unset, .unset, .unset, .unset, .unset, .unset, .unset] [] := by first | (simp [entryFrame, mkF, argsToLocals, Value.category, maxLocals]; done) | rfl
set_option maxRecDepth 65536 in
set_option maxHeartbeats 40000000 in
theorem rm0 (l : Launch) (Z : State) (a0 : Array Value) (hw : ∀ d ∈ tables_1, d.before a0 Z = true) (q0 : Int64) (q1 : Int64) (q2 : Int64) (q3 : Int64) (p4 : Int32) (p5 : Int32) (cs : Int32) (h0 : Heap) (n0 : Nat) (Z0 : n0 ≤ h0.size) (O0 : Old Z n0 h0) (S0 : Sta Z Z.heap "java/lang/String" "COMPACT_STRINGS" "Z" (.int cs)) (hcs : ¬ cs = (0 : Int32)) :
    own_MetW l Z x code maxLocals ret tables_1 room_1 #[(.long q0), (.long q1), (.long q2), (.long q3), (.int p4), (.int p5)] h0 40 4288 (fun v h L => v = some (.int 1) ∧ Fr n0 L) := by
  refine own_metW (plainFor_of_name pn_rm0) ?_
  intro p e s m below meth c s₁ Bd hml0 hZ X0 e0 hS0
  have hk0 : 0 ≤ h0.size := Nat.zero_le _
  have hx := Bd.exec
  have hby := Bd.bytes
  have hml : c.maxLocals = 31 := hml0
  have hown : (s.setVm s.vm).vm.findClass "com/example/uptik/uptik/model/HoldingsSameListsAsPinLaw" = some m.cls := findClass_of_methodNamed Bd.named
  have hnm := (name_of_methodNamed Bd.named Bd.method).1
  refine own_cast (ef_rm0 m q0 q1 q2 q3 p4 p5) ?_
  generalize hQQ : (fun (v : Option Value) (h : Heap) (L : List Loc) => v = some (.int 1) ∧ Fr n0 L) = QQ
  have N0 := Fr.nil n0
  refine own_go (g' := (mkF m 2 #[.val (.long q0), .second, .val (.long q1), .second, .val (.long q2), .second, .val (.long q3), .second, .val (.int p4), .val (.int p5), .unset, .unset, .unset, .unset, .unset, .unset, .unset, .unset, .unset, .unset, .unset, .unset, .unset, .unset, .unset, .unset, .unset, .unset, .unset, .unset, .unset] [(.long q3)])) (fun _ kgo => XS.lload X0.here hx rfl (hb hby at_0) rfl kgo) ?_
  refine own_go (g' := (mkF m 3 #[.val (.long q0), .second, .val (.long q1), .second, .val (.long q2), .second, .val (.long q3), .second, .val (.int p4), .val (.int p5), .unset, .unset, .unset, .unset, .unset, .unset, .unset, .unset, .unset, .unset, .unset, .unset, .unset, .unset, .unset, .unset, .unset, .unset, .unset, .unset, .unset] [(.long (0 : Int64)), (.long q3)])) (fun _ kgo => XS.lconst X0.here hx rfl (hb hby at_2) kgo) ?_
  refine own_go (g' := (mkF m 4 #[.val (.long q0), .second, .val (.long q1), .second, .val (.long q2), .second, .val (.long q3), .second, .val (.int p4), .val (.int p5), .unset, .unset, .unset, .unset, .unset, .unset, .unset, .unset, .unset, .unset, .unset, .unset, .unset, .unset, .unset, .unset, .unset, .unset, .unset, .unset, .unset] [(.int (lcmpW q3 (0 : Int64)))])) (fun _ kgo => XS.lcmp X0.here hx rfl (hb hby at_3) rfl kgo) ?_
  have J1 : ∀ (dl : Int64), (¬ dl = 0) → own_Go p e below (own_PostW s QQ 40 4288) s₁ (mkF m 13 #[.val (.long q0), .second, .val (.long q1), .second, .val (.long q2), .second, .val (.long q3), .second, .val (.int p4), .val (.int p5), .unset, .unset, .unset, .unset, .unset, .unset, .unset, .unset, .unset, .unset, .unset, .unset, .unset, .unset, .unset, .unset, .unset, .unset, .unset, .unset, .unset] [(.long dl)]) := by
    intro dl hdl
    refine own_go (g' := (mkF m 15 #[.val (.long q0), .second, .val (.long q1), .second, .val (.long q2), .second, .val (.long q3), .second, .val (.int p4), .val (.int p5), .val (.long dl), .second, .unset, .unset, .unset, .unset, .unset, .unset, .unset, .unset, .unset, .unset, .unset, .unset, .unset, .unset, .unset, .unset, .unset, .unset, .unset] [])) (fun _ kgo => XS.lstore X0.here hx rfl (hb hby at_13) rfl (l' := #[.val (.long q0), .second, .val (.long q1), .second, .val (.long q2), .second, .val (.long q3), .second, .val (.int p4), .val (.int p5), .val (.long dl), .second, .unset, .unset, .unset, .unset, .unset, .unset, .unset, .unset, .unset, .unset, .unset, .unset, .unset, .unset, .unset, .unset, .unset, .unset, .unset]) rfl kgo) ?_
    refine own_go (g' := (mkF m 17 #[.val (.long q0), .second, .val (.long q1), .second, .val (.long q2), .second, .val (.long q3), .second, .val (.int p4), .val (.int p5), .val (.long dl), .second, .unset, .unset, .unset, .unset, .unset, .unset, .unset, .unset, .unset, .unset, .unset, .unset, .unset, .unset, .unset, .unset, .unset, .unset, .unset] [(.int p4)])) (fun _ kgo => XS.iload X0.here hx rfl (hb hby at_15) rfl kgo) ?_
    refine own_go (g' := (mkF m 18 #[.val (.long q0), .second, .val (.long q1), .second, .val (.long q2), .second, .val (.long q3), .second, .val (.int p4), .val (.int p5), .val (.long dl), .second, .unset, .unset, .unset, .unset, .unset, .unset, .unset, .unset, .unset, .unset, .unset, .unset, .unset, .unset, .unset, .unset, .unset, .unset, .unset] [(.int (1 : Int32)), (.int p4)])) (fun _ kgo => XS.iconst X0.here hx rfl (hb hby at_17) kgo) ?_
    refine own_go (g' := (mkF m 19 #[.val (.long q0), .second, .val (.long q1), .second, .val (.long q2), .second, .val (.long q3), .second, .val (.int p4), .val (.int p5), .val (.long dl), .second, .unset, .unset, .unset, .unset, .unset, .unset, .unset, .unset, .unset, .unset, .unset, .unset, .unset, .unset, .unset, .unset, .unset, .unset, .unset] [(.int (p4 &&& (1 : Int32)))])) (fun _ kgo => XS.iand X0.here hx rfl (hb hby at_18) rfl kgo) ?_
    have J2 : own_Go p e below (own_PostW s QQ 40 4288) s₁ (mkF m 27 #[.val (.long q0), .second, .val (.long q1), .second, .val (.long q2), .second, .val (.long q3), .second, .val (.int p4), .val (.int p5), .val (.long dl), .second, .unset, .unset, .unset, .unset, .unset, .unset, .unset, .unset, .unset, .unset, .unset, .unset, .unset, .unset, .unset, .unset, .unset, .unset, .unset] [(.int (own_b (!decide ((p4 &&& (1 : Int32)) = (0 : Int32)))))]) := by
      suffices JNe_dt : ∀ dt : Bool, dt = (!decide ((p4 &&& (1 : Int32)) = (0 : Int32))) → own_Go p e below (own_PostW s QQ 40 4288) s₁ (mkF m 27 #[.val (.long q0), .second, .val (.long q1), .second, .val (.long q2), .second, .val (.long q3), .second, .val (.int p4), .val (.int p5), .val (.long dl), .second, .unset, .unset, .unset, .unset, .unset, .unset, .unset, .unset, .unset, .unset, .unset, .unset, .unset, .unset, .unset, .unset, .unset, .unset, .unset] [(.int (own_b dt))]) from JNe_dt _ (rfl)
      intro dt e_dt
      refine own_go (g' := (mkF m 29 #[.val (.long q0), .second, .val (.long q1), .second, .val (.long q2), .second, .val (.long q3), .second, .val (.int p4), .val (.int p5), .val (.long dl), .second, .val (.int (own_b dt)), .unset, .unset, .unset, .unset, .unset, .unset, .unset, .unset, .unset, .unset, .unset, .unset, .unset, .unset, .unset, .unset, .unset, .unset] [])) (fun _ kgo => XS.istore X0.here hx rfl (hb hby at_27) rfl (l' := #[.val (.long q0), .second, .val (.long q1), .second, .val (.long q2), .second, .val (.long q3), .second, .val (.int p4), .val (.int p5), .val (.long dl), .second, .val (.int (own_b dt)), .unset, .unset, .unset, .unset, .unset, .unset, .unset, .unset, .unset, .unset, .unset, .unset, .unset, .unset, .unset, .unset, .unset, .unset]) rfl kgo) ?_
      refine own_go (g' := (mkF m 31 #[.val (.long q0), .second, .val (.long q1), .second, .val (.long q2), .second, .val (.long q3), .second, .val (.int p4), .val (.int p5), .val (.long dl), .second, .val (.int (own_b dt)), .unset, .unset, .unset, .unset, .unset, .unset, .unset, .unset, .unset, .unset, .unset, .unset, .unset, .unset, .unset, .unset, .unset, .unset] [(.int p4)])) (fun _ kgo => XS.iload X0.here hx rfl (hb hby at_29) rfl kgo) ?_
      refine own_go (g' := (mkF m 32 #[.val (.long q0), .second, .val (.long q1), .second, .val (.long q2), .second, .val (.long q3), .second, .val (.int p4), .val (.int p5), .val (.long dl), .second, .val (.int (own_b dt)), .unset, .unset, .unset, .unset, .unset, .unset, .unset, .unset, .unset, .unset, .unset, .unset, .unset, .unset, .unset, .unset, .unset, .unset] [(.int (2 : Int32)), (.int p4)])) (fun _ kgo => XS.iconst X0.here hx rfl (hb hby at_31) kgo) ?_
      refine own_go (g' := (mkF m 33 #[.val (.long q0), .second, .val (.long q1), .second, .val (.long q2), .second, .val (.long q3), .second, .val (.int p4), .val (.int p5), .val (.long dl), .second, .val (.int (own_b dt)), .unset, .unset, .unset, .unset, .unset, .unset, .unset, .unset, .unset, .unset, .unset, .unset, .unset, .unset, .unset, .unset, .unset, .unset] [(.int (p4 &&& (2 : Int32)))])) (fun _ kgo => XS.iand X0.here hx rfl (hb hby at_32) rfl kgo) ?_
      have J3 : own_Go p e below (own_PostW s QQ 40 4288) s₁ (mkF m 41 #[.val (.long q0), .second, .val (.long q1), .second, .val (.long q2), .second, .val (.long q3), .second, .val (.int p4), .val (.int p5), .val (.long dl), .second, .val (.int (own_b dt)), .unset, .unset, .unset, .unset, .unset, .unset, .unset, .unset, .unset, .unset, .unset, .unset, .unset, .unset, .unset, .unset, .unset, .unset] [(.int (own_b (!decide ((p4 &&& (2 : Int32)) = (0 : Int32)))))]) := by
        suffices JNe_dp : ∀ dp : Bool, dp = (!decide ((p4 &&& (2 : Int32)) = (0 : Int32))) → own_Go p e below (own_PostW s QQ 40 4288) s₁ (mkF m 41 #[.val (.long q0), .second, .val (.long q1), .second, .val (.long q2), .second, .val (.long q3), .second, .val (.int p4), .val (.int p5), .val (.long dl), .second, .val (.int (own_b dt)), .unset, .unset, .unset, .unset, .unset, .unset, .unset, .unset, .unset, .unset, .unset, .unset, .unset, .unset, .unset, .unset, .unset, .unset] [(.int (own_b dp))]) from JNe_dp _ (rfl)
        intro dp e_dp
        refine own_go (g' := (mkF m 43 #[.val (.long q0), .second, .val (.long q1), .second, .val (.long q2), .second, .val (.long q3), .second, .val (.int p4), .val (.int p5), .val (.long dl), .second, .val (.int (own_b dt)), .val (.int (own_b dp)), .unset, .unset, .unset, .unset, .unset, .unset, .unset, .unset, .unset, .unset, .unset, .unset, .unset, .unset, .unset, .unset, .unset] [])) (fun _ kgo => XS.istore X0.here hx rfl (hb hby at_41) rfl (l' := #[.val (.long q0), .second, .val (.long q1), .second, .val (.long q2), .second, .val (.long q3), .second, .val (.int p4), .val (.int p5), .val (.long dl), .second, .val (.int (own_b dt)), .val (.int (own_b dp)), .unset, .unset, .unset, .unset, .unset, .unset, .unset, .unset, .unset, .unset, .unset, .unset, .unset, .unset, .unset, .unset, .unset]) rfl kgo) ?_
        refine own_go (g' := (mkF m 45 #[.val (.long q0), .second, .val (.long q1), .second, .val (.long q2), .second, .val (.long q3), .second, .val (.int p4), .val (.int p5), .val (.long dl), .second, .val (.int (own_b dt)), .val (.int (own_b dp)), .unset, .unset, .unset, .unset, .unset, .unset, .unset, .unset, .unset, .unset, .unset, .unset, .unset, .unset, .unset, .unset, .unset] [(.int p4)])) (fun _ kgo => XS.iload X0.here hx rfl (hb hby at_43) rfl kgo) ?_
        refine own_go (g' := (mkF m 46 #[.val (.long q0), .second, .val (.long q1), .second, .val (.long q2), .second, .val (.long q3), .second, .val (.int p4), .val (.int p5), .val (.long dl), .second, .val (.int (own_b dt)), .val (.int (own_b dp)), .unset, .unset, .unset, .unset, .unset, .unset, .unset, .unset, .unset, .unset, .unset, .unset, .unset, .unset, .unset, .unset, .unset] [(.int (4 : Int32)), (.int p4)])) (fun _ kgo => XS.iconst X0.here hx rfl (hb hby at_45) kgo) ?_
        refine own_go (g' := (mkF m 47 #[.val (.long q0), .second, .val (.long q1), .second, .val (.long q2), .second, .val (.long q3), .second, .val (.int p4), .val (.int p5), .val (.long dl), .second, .val (.int (own_b dt)), .val (.int (own_b dp)), .unset, .unset, .unset, .unset, .unset, .unset, .unset, .unset, .unset, .unset, .unset, .unset, .unset, .unset, .unset, .unset, .unset] [(.int (p4 &&& (4 : Int32)))])) (fun _ kgo => XS.iand X0.here hx rfl (hb hby at_46) rfl kgo) ?_
        have J4 : own_Go p e below (own_PostW s QQ 40 4288) s₁ (mkF m 55 #[.val (.long q0), .second, .val (.long q1), .second, .val (.long q2), .second, .val (.long q3), .second, .val (.int p4), .val (.int p5), .val (.long dl), .second, .val (.int (own_b dt)), .val (.int (own_b dp)), .unset, .unset, .unset, .unset, .unset, .unset, .unset, .unset, .unset, .unset, .unset, .unset, .unset, .unset, .unset, .unset, .unset] [(.int (own_b (!decide ((p4 &&& (4 : Int32)) = (0 : Int32)))))]) := by
          suffices JNe_dd : ∀ dd : Bool, dd = (!decide ((p4 &&& (4 : Int32)) = (0 : Int32))) → own_Go p e below (own_PostW s QQ 40 4288) s₁ (mkF m 55 #[.val (.long q0), .second, .val (.long q1), .second, .val (.long q2), .second, .val (.long q3), .second, .val (.int p4), .val (.int p5), .val (.long dl), .second, .val (.int (own_b dt)), .val (.int (own_b dp)), .unset, .unset, .unset, .unset, .unset, .unset, .unset, .unset, .unset, .unset, .unset, .unset, .unset, .unset, .unset, .unset, .unset] [(.int (own_b dd))]) from JNe_dd _ (rfl)
          intro dd e_dd
          refine own_go (g' := (mkF m 57 #[.val (.long q0), .second, .val (.long q1), .second, .val (.long q2), .second, .val (.long q3), .second, .val (.int p4), .val (.int p5), .val (.long dl), .second, .val (.int (own_b dt)), .val (.int (own_b dp)), .val (.int (own_b dd)), .unset, .unset, .unset, .unset, .unset, .unset, .unset, .unset, .unset, .unset, .unset, .unset, .unset, .unset, .unset, .unset] [])) (fun _ kgo => XS.istore X0.here hx rfl (hb hby at_55) rfl (l' := #[.val (.long q0), .second, .val (.long q1), .second, .val (.long q2), .second, .val (.long q3), .second, .val (.int p4), .val (.int p5), .val (.long dl), .second, .val (.int (own_b dt)), .val (.int (own_b dp)), .val (.int (own_b dd)), .unset, .unset, .unset, .unset, .unset, .unset, .unset, .unset, .unset, .unset, .unset, .unset, .unset, .unset, .unset, .unset]) rfl kgo) ?_
          refine own_go (g' := (mkF m 59 #[.val (.long q0), .second, .val (.long q1), .second, .val (.long q2), .second, .val (.long q3), .second, .val (.int p4), .val (.int p5), .val (.long dl), .second, .val (.int (own_b dt)), .val (.int (own_b dp)), .val (.int (own_b dd)), .unset, .unset, .unset, .unset, .unset, .unset, .unset, .unset, .unset, .unset, .unset, .unset, .unset, .unset, .unset, .unset] [(.int (own_b dt))])) (fun _ kgo => XS.iload X0.here hx rfl (hb hby at_57) rfl kgo) ?_
          have J5 : ∀ (bt : Int64), ((dt = true → ¬ bt = q0) ∧ (dt = false → bt = q0)) → own_Go p e below (own_PostW s QQ 40 4288) s₁ (mkF m 70 #[.val (.long q0), .second, .val (.long q1), .second, .val (.long q2), .second, .val (.long q3), .second, .val (.int p4), .val (.int p5), .val (.long dl), .second, .val (.int (own_b dt)), .val (.int (own_b dp)), .val (.int (own_b dd)), .unset, .unset, .unset, .unset, .unset, .unset, .unset, .unset, .unset, .unset, .unset, .unset, .unset, .unset, .unset, .unset] [(.long bt)]) := by
            intro bt hbt
            refine own_go (g' := (mkF m 72 #[.val (.long q0), .second, .val (.long q1), .second, .val (.long q2), .second, .val (.long q3), .second, .val (.int p4), .val (.int p5), .val (.long dl), .second, .val (.int (own_b dt)), .val (.int (own_b dp)), .val (.int (own_b dd)), .val (.long bt), .second, .unset, .unset, .unset, .unset, .unset, .unset, .unset, .unset, .unset, .unset, .unset, .unset, .unset, .unset] [])) (fun _ kgo => XS.lstore X0.here hx rfl (hb hby at_70) rfl (l' := #[.val (.long q0), .second, .val (.long q1), .second, .val (.long q2), .second, .val (.long q3), .second, .val (.int p4), .val (.int p5), .val (.long dl), .second, .val (.int (own_b dt)), .val (.int (own_b dp)), .val (.int (own_b dd)), .val (.long bt), .second, .unset, .unset, .unset, .unset, .unset, .unset, .unset, .unset, .unset, .unset, .unset, .unset, .unset, .unset]) rfl kgo) ?_
            refine own_go (g' := (mkF m 74 #[.val (.long q0), .second, .val (.long q1), .second, .val (.long q2), .second, .val (.long q3), .second, .val (.int p4), .val (.int p5), .val (.long dl), .second, .val (.int (own_b dt)), .val (.int (own_b dp)), .val (.int (own_b dd)), .val (.long bt), .second, .unset, .unset, .unset, .unset, .unset, .unset, .unset, .unset, .unset, .unset, .unset, .unset, .unset, .unset] [(.int (own_b dp))])) (fun _ kgo => XS.iload X0.here hx rfl (hb hby at_72) rfl kgo) ?_
            have J6 : ∀ (bp : Int64), ((dp = true → ¬ bp = q1) ∧ (dp = false → bp = q1)) → own_Go p e below (own_PostW s QQ 40 4288) s₁ (mkF m 85 #[.val (.long q0), .second, .val (.long q1), .second, .val (.long q2), .second, .val (.long q3), .second, .val (.int p4), .val (.int p5), .val (.long dl), .second, .val (.int (own_b dt)), .val (.int (own_b dp)), .val (.int (own_b dd)), .val (.long bt), .second, .unset, .unset, .unset, .unset, .unset, .unset, .unset, .unset, .unset, .unset, .unset, .unset, .unset, .unset] [(.long bp)]) := by
              intro bp hbp
              refine own_go (g' := (mkF m 87 #[.val (.long q0), .second, .val (.long q1), .second, .val (.long q2), .second, .val (.long q3), .second, .val (.int p4), .val (.int p5), .val (.long dl), .second, .val (.int (own_b dt)), .val (.int (own_b dp)), .val (.int (own_b dd)), .val (.long bt), .second, .val (.long bp), .second, .unset, .unset, .unset, .unset, .unset, .unset, .unset, .unset, .unset, .unset, .unset, .unset] [])) (fun _ kgo => XS.lstore X0.here hx rfl (hb hby at_85) rfl (l' := #[.val (.long q0), .second, .val (.long q1), .second, .val (.long q2), .second, .val (.long q3), .second, .val (.int p4), .val (.int p5), .val (.long dl), .second, .val (.int (own_b dt)), .val (.int (own_b dp)), .val (.int (own_b dd)), .val (.long bt), .second, .val (.long bp), .second, .unset, .unset, .unset, .unset, .unset, .unset, .unset, .unset, .unset, .unset, .unset, .unset]) rfl kgo) ?_
              refine own_go (g' := (mkF m 89 #[.val (.long q0), .second, .val (.long q1), .second, .val (.long q2), .second, .val (.long q3), .second, .val (.int p4), .val (.int p5), .val (.long dl), .second, .val (.int (own_b dt)), .val (.int (own_b dp)), .val (.int (own_b dd)), .val (.long bt), .second, .val (.long bp), .second, .unset, .unset, .unset, .unset, .unset, .unset, .unset, .unset, .unset, .unset, .unset, .unset] [(.int (own_b dd))])) (fun _ kgo => XS.iload X0.here hx rfl (hb hby at_87) rfl kgo) ?_
              have J7 : ∀ (bd : Int64), ((dd = true → ¬ bd = q2) ∧ (dd = false → bd = q2)) → own_Go p e below (own_PostW s QQ 40 4288) s₁ (mkF m 102 #[.val (.long q0), .second, .val (.long q1), .second, .val (.long q2), .second, .val (.long q3), .second, .val (.int p4), .val (.int p5), .val (.long dl), .second, .val (.int (own_b dt)), .val (.int (own_b dp)), .val (.int (own_b dd)), .val (.long bt), .second, .val (.long bp), .second, .unset, .unset, .unset, .unset, .unset, .unset, .unset, .unset, .unset, .unset, .unset, .unset] [(.long bd)]) := by
                intro bd hbd
                refine own_go (g' := (mkF m 104 #[.val (.long q0), .second, .val (.long q1), .second, .val (.long q2), .second, .val (.long q3), .second, .val (.int p4), .val (.int p5), .val (.long dl), .second, .val (.int (own_b dt)), .val (.int (own_b dp)), .val (.int (own_b dd)), .val (.long bt), .second, .val (.long bp), .second, .val (.long bd), .second, .unset, .unset, .unset, .unset, .unset, .unset, .unset, .unset, .unset, .unset] [])) (fun _ kgo => XS.lstore X0.here hx rfl (hb hby at_102) rfl (l' := #[.val (.long q0), .second, .val (.long q1), .second, .val (.long q2), .second, .val (.long q3), .second, .val (.int p4), .val (.int p5), .val (.long dl), .second, .val (.int (own_b dt)), .val (.int (own_b dp)), .val (.int (own_b dd)), .val (.long bt), .second, .val (.long bp), .second, .val (.long bd), .second, .unset, .unset, .unset, .unset, .unset, .unset, .unset, .unset, .unset, .unset]) rfl kgo) ?_
                refine own_go (g' := (mkF m 106 #[.val (.long q0), .second, .val (.long q1), .second, .val (.long q2), .second, .val (.long q3), .second, .val (.int p4), .val (.int p5), .val (.long dl), .second, .val (.int (own_b dt)), .val (.int (own_b dp)), .val (.int (own_b dd)), .val (.long bt), .second, .val (.long bp), .second, .val (.long bd), .second, .unset, .unset, .unset, .unset, .unset, .unset, .unset, .unset, .unset, .unset] [(.int p5)])) (fun _ kgo => XS.iload X0.here hx rfl (hb hby at_104) rfl kgo) ?_
                refine own_go (g' := (mkF m 109 #[.val (.long q0), .second, .val (.long q1), .second, .val (.long q2), .second, .val (.long q3), .second, .val (.int p4), .val (.int p5), .val (.long dl), .second, .val (.int (own_b dt)), .val (.int (own_b dp)), .val (.int (own_b dd)), .val (.long bt), .second, .val (.long bp), .second, .val (.long bd), .second, .unset, .unset, .unset, .unset, .unset, .unset, .unset, .unset, .unset, .unset] [(.int (255 : Int32)), (.int p5)])) (fun _ kgo => XS.sipush X0.here hx rfl (hb hby at_106) kgo) ?_
                refine own_go (g' := (mkF m 110 #[.val (.long q0), .second, .val (.long q1), .second, .val (.long q2), .second, .val (.long q3), .second, .val (.int p4), .val (.int p5), .val (.long dl), .second, .val (.int (own_b dt)), .val (.int (own_b dp)), .val (.int (own_b dd)), .val (.long bt), .second, .val (.long bp), .second, .val (.long bd), .second, .unset, .unset, .unset, .unset, .unset, .unset, .unset, .unset, .unset, .unset] [(.int (p5 &&& (255 : Int32)))])) (fun _ kgo => XS.iand X0.here hx rfl (hb hby at_109) rfl kgo) ?_
                refine own_go (g' := (mkF m 111 #[.val (.long q0), .second, .val (.long q1), .second, .val (.long q2), .second, .val (.long q3), .second, .val (.int p4), .val (.int p5), .val (.long dl), .second, .val (.int (own_b dt)), .val (.int (own_b dp)), .val (.int (own_b dd)), .val (.long bt), .second, .val (.long bp), .second, .val (.long bd), .second, .unset, .unset, .unset, .unset, .unset, .unset, .unset, .unset, .unset, .unset] [(.int ((p5 &&& (255 : Int32)).toUInt32.toUInt16.toUInt32.toInt32))])) (fun _ kgo => XS.i2c X0.here hx rfl (hb hby at_110) rfl kgo) ?_
                obtain ⟨v8, T8, L8, hQ8, X8, st8⟩ := own_callS X0 hx hZ (y := (⟨"java/lang/String", "valueOf", "(C)Ljava/lang/String;"⟩ : MethodName)) hown (hw _ (List.mem_of_getElem? (i := 0) rfl)) (hw _ (List.mem_of_getElem? (i := 1) rfl)) (hw _ (List.mem_of_getElem? (i := 2) rfl)) (hw _ (List.mem_of_getElem? (i := 3) rfl)) ⟨by decide, by decide⟩ (argsL := [(.int ((p5 &&& (255 : Int32)).toUInt32.toUInt16.toUInt32.toInt32))]) (rm1 l Z a0 hw ((p5 &&& (255 : Int32)).toUInt32.toUInt16.toUInt32.toInt32) cs h0 n0 Z0 (Sta.ext O0.2 S0) hcs (own_ch _)) e0 (g := (mkF m 111 #[.val (.long q0), .second, .val (.long q1), .second, .val (.long q2), .second, .val (.long q3), .second, .val (.int p4), .val (.int p5), .val (.long dl), .second, .val (.int (own_b dt)), .val (.int (own_b dp)), .val (.int (own_b dd)), .val (.long bt), .second, .val (.long bp), .second, .val (.long bd), .second, .unset, .unset, .unset, .unset, .unset, .unset, .unset, .unset, .unset, .unset] [(.int ((p5 &&& (255 : Int32)).toUInt32.toUInt16.toUInt32.toInt32))])) rfl (by rw [hml]; rfl) (rest := []) (lenOf pd0_0 rfl) rfl (hb hby at_111) (W := 0) (by show 2 * 0 + _ ≤ _; exact Nat.le_of_eq rfl) (by decide) (by decide) (by decide) (by decide)
                obtain ⟨r8, rfl, Nq8, Kq8⟩ := hQ8
                have N8 := Fr.app N0 Nq8
                have hk8 := Nat.le_trans hk0 Kq8.1
                have Z8 : n0 ≤ T8.heap.size := Nat.le_trans Z0 Kq8.1
                refine own_go (g' := (mkF m 114 #[.val (.long q0), .second, .val (.long q1), .second, .val (.long q2), .second, .val (.long q3), .second, .val (.int p4), .val (.int p5), .val (.long dl), .second, .val (.int (own_b dt)), .val (.int (own_b dp)), .val (.int (own_b dd)), .val (.long bt), .second, .val (.long bp), .second, .val (.long bd), .second, .unset, .unset, .unset, .unset, .unset, .unset, .unset, .unset, .unset, .unset] [(.ref r8)])) (st8) ?_
                refine own_go (g' := (mkF m 116 #[.val (.long q0), .second, .val (.long q1), .second, .val (.long q2), .second, .val (.long q3), .second, .val (.int p4), .val (.int p5), .val (.long dl), .second, .val (.int (own_b dt)), .val (.int (own_b dp)), .val (.int (own_b dd)), .val (.long bt), .second, .val (.long bp), .second, .val (.long bd), .second, .val (.ref r8), .unset, .unset, .unset, .unset, .unset, .unset, .unset, .unset, .unset] [])) (fun _ kgo => XS.astore X8.here hx rfl (hb hby at_114) rfl rfl (l' := #[.val (.long q0), .second, .val (.long q1), .second, .val (.long q2), .second, .val (.long q3), .second, .val (.int p4), .val (.int p5), .val (.long dl), .second, .val (.int (own_b dt)), .val (.int (own_b dp)), .val (.int (own_b dd)), .val (.long bt), .second, .val (.long bp), .second, .val (.long bd), .second, .val (.ref r8), .unset, .unset, .unset, .unset, .unset, .unset, .unset, .unset, .unset]) rfl kgo) ?_
                refine own_go (g' := (mkF m 118 #[.val (.long q0), .second, .val (.long q1), .second, .val (.long q2), .second, .val (.long q3), .second, .val (.int p4), .val (.int p5), .val (.long dl), .second, .val (.int (own_b dt)), .val (.int (own_b dp)), .val (.int (own_b dd)), .val (.long bt), .second, .val (.long bp), .second, .val (.long bd), .second, .val (.ref r8), .unset, .unset, .unset, .unset, .unset, .unset, .unset, .unset, .unset] [(.int p5)])) (fun _ kgo => XS.iload X8.here hx rfl (hb hby at_116) rfl kgo) ?_
                refine own_go (g' := (mkF m 120 #[.val (.long q0), .second, .val (.long q1), .second, .val (.long q2), .second, .val (.long q3), .second, .val (.int p4), .val (.int p5), .val (.long dl), .second, .val (.int (own_b dt)), .val (.int (own_b dp)), .val (.int (own_b dd)), .val (.long bt), .second, .val (.long bp), .second, .val (.long bd), .second, .val (.ref r8), .unset, .unset, .unset, .unset, .unset, .unset, .unset, .unset, .unset] [(.int (8 : Int32)), (.int p5)])) (fun _ kgo => XS.bipush X8.here hx rfl (hb hby at_118) kgo) ?_
                refine own_go (g' := (mkF m 121 #[.val (.long q0), .second, .val (.long q1), .second, .val (.long q2), .second, .val (.long q3), .second, .val (.int p4), .val (.int p5), .val (.long dl), .second, .val (.int (own_b dt)), .val (.int (own_b dp)), .val (.int (own_b dd)), .val (.long bt), .second, .val (.long bp), .second, .val (.long bd), .second, .val (.ref r8), .unset, .unset, .unset, .unset, .unset, .unset, .unset, .unset, .unset] [(.int ((p5.toUInt32 >>> ((8 : Int32) &&& 31).toUInt32).toInt32))])) (fun _ kgo => XS.iushr X8.here hx rfl (hb hby at_120) rfl kgo) ?_
                refine own_go (g' := (mkF m 124 #[.val (.long q0), .second, .val (.long q1), .second, .val (.long q2), .second, .val (.long q3), .second, .val (.int p4), .val (.int p5), .val (.long dl), .second, .val (.int (own_b dt)), .val (.int (own_b dp)), .val (.int (own_b dd)), .val (.long bt), .second, .val (.long bp), .second, .val (.long bd), .second, .val (.ref r8), .unset, .unset, .unset, .unset, .unset, .unset, .unset, .unset, .unset] [(.int (255 : Int32)), (.int ((p5.toUInt32 >>> ((8 : Int32) &&& 31).toUInt32).toInt32))])) (fun _ kgo => XS.sipush X8.here hx rfl (hb hby at_121) kgo) ?_
                refine own_go (g' := (mkF m 125 #[.val (.long q0), .second, .val (.long q1), .second, .val (.long q2), .second, .val (.long q3), .second, .val (.int p4), .val (.int p5), .val (.long dl), .second, .val (.int (own_b dt)), .val (.int (own_b dp)), .val (.int (own_b dd)), .val (.long bt), .second, .val (.long bp), .second, .val (.long bd), .second, .val (.ref r8), .unset, .unset, .unset, .unset, .unset, .unset, .unset, .unset, .unset] [(.int (((p5.toUInt32 >>> ((8 : Int32) &&& 31).toUInt32).toInt32) &&& (255 : Int32)))])) (fun _ kgo => XS.iand X8.here hx rfl (hb hby at_124) rfl kgo) ?_
                refine own_go (g' := (mkF m 126 #[.val (.long q0), .second, .val (.long q1), .second, .val (.long q2), .second, .val (.long q3), .second, .val (.int p4), .val (.int p5), .val (.long dl), .second, .val (.int (own_b dt)), .val (.int (own_b dp)), .val (.int (own_b dd)), .val (.long bt), .second, .val (.long bp), .second, .val (.long bd), .second, .val (.ref r8), .unset, .unset, .unset, .unset, .unset, .unset, .unset, .unset, .unset] [(.int ((((p5.toUInt32 >>> ((8 : Int32) &&& 31).toUInt32).toInt32) &&& (255 : Int32)).toUInt32.toUInt16.toUInt32.toInt32))])) (fun _ kgo => XS.i2c X8.here hx rfl (hb hby at_125) rfl kgo) ?_
                have fx10 : Old Z n0 T8.heap := (Old.keep O0 Kq8 all0)
                obtain ⟨v9, T9, L9, hQ9, X9, st9⟩ := own_callS X8 hx hZ (y := (⟨"java/lang/String", "valueOf", "(C)Ljava/lang/String;"⟩ : MethodName)) hown (hw _ (List.mem_of_getElem? (i := 0) rfl)) (hw _ (List.mem_of_getElem? (i := 1) rfl)) (hw _ (List.mem_of_getElem? (i := 2) rfl)) (hw _ (List.mem_of_getElem? (i := 3) rfl)) ⟨by decide, by decide⟩ (argsL := [(.int ((((p5.toUInt32 >>> ((8 : Int32) &&& 31).toUInt32).toInt32) &&& (255 : Int32)).toUInt32.toUInt16.toUInt32.toInt32))]) (rm1 l Z a0 hw ((((p5.toUInt32 >>> ((8 : Int32) &&& 31).toUInt32).toInt32) &&& (255 : Int32)).toUInt32.toUInt16.toUInt32.toInt32) cs T8.heap n0 Z8 (Sta.ext fx10.2 S0) hcs (own_ch _)) rfl (g := (mkF m 126 #[.val (.long q0), .second, .val (.long q1), .second, .val (.long q2), .second, .val (.long q3), .second, .val (.int p4), .val (.int p5), .val (.long dl), .second, .val (.int (own_b dt)), .val (.int (own_b dp)), .val (.int (own_b dd)), .val (.long bt), .second, .val (.long bp), .second, .val (.long bd), .second, .val (.ref r8), .unset, .unset, .unset, .unset, .unset, .unset, .unset, .unset, .unset] [(.int ((((p5.toUInt32 >>> ((8 : Int32) &&& 31).toUInt32).toInt32) &&& (255 : Int32)).toUInt32.toUInt16.toUInt32.toInt32))])) rfl (by rw [hml]; rfl) (rest := []) (lenOf pd0_0 rfl) rfl (hb hby at_126) (W := 0) (by show 2 * 0 + _ ≤ _; exact Nat.le_of_eq rfl) (by decide) (by decide) (by decide) (by decide)
                obtain ⟨r9, rfl, Nq9, Kq9⟩ := hQ9
                have N9 := Fr.app N8 Nq9
                have hk9 := Nat.le_trans hk8 Kq9.1
                have Z9 : n0 ≤ T9.heap.size := Nat.le_trans Z8 Kq9.1
                refine own_go (g' := (mkF m 129 #[.val (.long q0), .second, .val (.long q1), .second, .val (.long q2), .second, .val (.long q3), .second, .val (.int p4), .val (.int p5), .val (.long dl), .second, .val (.int (own_b dt)), .val (.int (own_b dp)), .val (.int (own_b dd)), .val (.long bt), .second, .val (.long bp), .second, .val (.long bd), .second, .val (.ref r8), .unset, .unset, .unset, .unset, .unset, .unset, .unset, .unset, .unset] [(.ref r9)])) (st9) ?_
                refine own_go (g' := (mkF m 131 #[.val (.long q0), .second, .val (.long q1), .second, .val (.long q2), .second, .val (.long q3), .second, .val (.int p4), .val (.int p5), .val (.long dl), .second, .val (.int (own_b dt)), .val (.int (own_b dp)), .val (.int (own_b dd)), .val (.long bt), .second, .val (.long bp), .second, .val (.long bd), .second, .val (.ref r8), .val (.ref r9), .unset, .unset, .unset, .unset, .unset, .unset, .unset, .unset] [])) (fun _ kgo => XS.astore X9.here hx rfl (hb hby at_129) rfl rfl (l' := #[.val (.long q0), .second, .val (.long q1), .second, .val (.long q2), .second, .val (.long q3), .second, .val (.int p4), .val (.int p5), .val (.long dl), .second, .val (.int (own_b dt)), .val (.int (own_b dp)), .val (.int (own_b dd)), .val (.long bt), .second, .val (.long bp), .second, .val (.long bd), .second, .val (.ref r8), .val (.ref r9), .unset, .unset, .unset, .unset, .unset, .unset, .unset, .unset]) rfl kgo) ?_
                refine own_go (g' := (mkF m 133 #[.val (.long q0), .second, .val (.long q1), .second, .val (.long q2), .second, .val (.long q3), .second, .val (.int p4), .val (.int p5), .val (.long dl), .second, .val (.int (own_b dt)), .val (.int (own_b dp)), .val (.int (own_b dd)), .val (.long bt), .second, .val (.long bp), .second, .val (.long bd), .second, .val (.ref r8), .val (.ref r9), .unset, .unset, .unset, .unset, .unset, .unset, .unset, .unset] [(.int p5)])) (fun _ kgo => XS.iload X9.here hx rfl (hb hby at_131) rfl kgo) ?_
                refine own_go (g' := (mkF m 135 #[.val (.long q0), .second, .val (.long q1), .second, .val (.long q2), .second, .val (.long q3), .second, .val (.int p4), .val (.int p5), .val (.long dl), .second, .val (.int (own_b dt)), .val (.int (own_b dp)), .val (.int (own_b dd)), .val (.long bt), .second, .val (.long bp), .second, .val (.long bd), .second, .val (.ref r8), .val (.ref r9), .unset, .unset, .unset, .unset, .unset, .unset, .unset, .unset] [(.int (16 : Int32)), (.int p5)])) (fun _ kgo => XS.bipush X9.here hx rfl (hb hby at_133) kgo) ?_
                refine own_go (g' := (mkF m 136 #[.val (.long q0), .second, .val (.long q1), .second, .val (.long q2), .second, .val (.long q3), .second, .val (.int p4), .val (.int p5), .val (.long dl), .second, .val (.int (own_b dt)), .val (.int (own_b dp)), .val (.int (own_b dd)), .val (.long bt), .second, .val (.long bp), .second, .val (.long bd), .second, .val (.ref r8), .val (.ref r9), .unset, .unset, .unset, .unset, .unset, .unset, .unset, .unset] [(.int ((p5.toUInt32 >>> ((16 : Int32) &&& 31).toUInt32).toInt32))])) (fun _ kgo => XS.iushr X9.here hx rfl (hb hby at_135) rfl kgo) ?_
                refine own_go (g' := (mkF m 139 #[.val (.long q0), .second, .val (.long q1), .second, .val (.long q2), .second, .val (.long q3), .second, .val (.int p4), .val (.int p5), .val (.long dl), .second, .val (.int (own_b dt)), .val (.int (own_b dp)), .val (.int (own_b dd)), .val (.long bt), .second, .val (.long bp), .second, .val (.long bd), .second, .val (.ref r8), .val (.ref r9), .unset, .unset, .unset, .unset, .unset, .unset, .unset, .unset] [(.int (255 : Int32)), (.int ((p5.toUInt32 >>> ((16 : Int32) &&& 31).toUInt32).toInt32))])) (fun _ kgo => XS.sipush X9.here hx rfl (hb hby at_136) kgo) ?_
                refine own_go (g' := (mkF m 140 #[.val (.long q0), .second, .val (.long q1), .second, .val (.long q2), .second, .val (.long q3), .second, .val (.int p4), .val (.int p5), .val (.long dl), .second, .val (.int (own_b dt)), .val (.int (own_b dp)), .val (.int (own_b dd)), .val (.long bt), .second, .val (.long bp), .second, .val (.long bd), .second, .val (.ref r8), .val (.ref r9), .unset, .unset, .unset, .unset, .unset, .unset, .unset, .unset] [(.int (((p5.toUInt32 >>> ((16 : Int32) &&& 31).toUInt32).toInt32) &&& (255 : Int32)))])) (fun _ kgo => XS.iand X9.here hx rfl (hb hby at_139) rfl kgo) ?_
                refine own_go (g' := (mkF m 141 #[.val (.long q0), .second, .val (.long q1), .second, .val (.long q2), .second, .val (.long q3), .second, .val (.int p4), .val (.int p5), .val (.long dl), .second, .val (.int (own_b dt)), .val (.int (own_b dp)), .val (.int (own_b dd)), .val (.long bt), .second, .val (.long bp), .second, .val (.long bd), .second, .val (.ref r8), .val (.ref r9), .unset, .unset, .unset, .unset, .unset, .unset, .unset, .unset] [(.int ((((p5.toUInt32 >>> ((16 : Int32) &&& 31).toUInt32).toInt32) &&& (255 : Int32)).toUInt32.toUInt16.toUInt32.toInt32))])) (fun _ kgo => XS.i2c X9.here hx rfl (hb hby at_140) rfl kgo) ?_
                have fx12 : Old Z n0 T9.heap := (Old.keep fx10 Kq9 all0)
                obtain ⟨v11, T11, L11, hQ11, X11, st11⟩ := own_callS X9 hx hZ (y := (⟨"java/lang/String", "valueOf", "(C)Ljava/lang/String;"⟩ : MethodName)) hown (hw _ (List.mem_of_getElem? (i := 0) rfl)) (hw _ (List.mem_of_getElem? (i := 1) rfl)) (hw _ (List.mem_of_getElem? (i := 2) rfl)) (hw _ (List.mem_of_getElem? (i := 3) rfl)) ⟨by decide, by decide⟩ (argsL := [(.int ((((p5.toUInt32 >>> ((16 : Int32) &&& 31).toUInt32).toInt32) &&& (255 : Int32)).toUInt32.toUInt16.toUInt32.toInt32))]) (rm1 l Z a0 hw ((((p5.toUInt32 >>> ((16 : Int32) &&& 31).toUInt32).toInt32) &&& (255 : Int32)).toUInt32.toUInt16.toUInt32.toInt32) cs T9.heap n0 Z9 (Sta.ext fx12.2 S0) hcs (own_ch _)) rfl (g := (mkF m 141 #[.val (.long q0), .second, .val (.long q1), .second, .val (.long q2), .second, .val (.long q3), .second, .val (.int p4), .val (.int p5), .val (.long dl), .second, .val (.int (own_b dt)), .val (.int (own_b dp)), .val (.int (own_b dd)), .val (.long bt), .second, .val (.long bp), .second, .val (.long bd), .second, .val (.ref r8), .val (.ref r9), .unset, .unset, .unset, .unset, .unset, .unset, .unset, .unset] [(.int ((((p5.toUInt32 >>> ((16 : Int32) &&& 31).toUInt32).toInt32) &&& (255 : Int32)).toUInt32.toUInt16.toUInt32.toInt32))])) rfl (by rw [hml]; rfl) (rest := []) (lenOf pd0_0 rfl) rfl (hb hby at_141) (W := 0) (by show 2 * 0 + _ ≤ _; exact Nat.le_of_eq rfl) (by decide) (by decide) (by decide) (by decide)
                obtain ⟨r11, rfl, Nq11, Kq11⟩ := hQ11
                have N11 := Fr.app N9 Nq11
                have hk11 := Nat.le_trans hk9 Kq11.1
                have Z11 : n0 ≤ T11.heap.size := Nat.le_trans Z9 Kq11.1
                refine own_go (g' := (mkF m 144 #[.val (.long q0), .second, .val (.long q1), .second, .val (.long q2), .second, .val (.long q3), .second, .val (.int p4), .val (.int p5), .val (.long dl), .second, .val (.int (own_b dt)), .val (.int (own_b dp)), .val (.int (own_b dd)), .val (.long bt), .second, .val (.long bp), .second, .val (.long bd), .second, .val (.ref r8), .val (.ref r9), .unset, .unset, .unset, .unset, .unset, .unset, .unset, .unset] [(.ref r11)])) (st11) ?_
                refine own_go (g' := (mkF m 146 #[.val (.long q0), .second, .val (.long q1), .second, .val (.long q2), .second, .val (.long q3), .second, .val (.int p4), .val (.int p5), .val (.long dl), .second, .val (.int (own_b dt)), .val (.int (own_b dp)), .val (.int (own_b dd)), .val (.long bt), .second, .val (.long bp), .second, .val (.long bd), .second, .val (.ref r8), .val (.ref r9), .val (.ref r11), .unset, .unset, .unset, .unset, .unset, .unset, .unset] [])) (fun _ kgo => XS.astore X11.here hx rfl (hb hby at_144) rfl rfl (l' := #[.val (.long q0), .second, .val (.long q1), .second, .val (.long q2), .second, .val (.long q3), .second, .val (.int p4), .val (.int p5), .val (.long dl), .second, .val (.int (own_b dt)), .val (.int (own_b dp)), .val (.int (own_b dd)), .val (.long bt), .second, .val (.long bp), .second, .val (.long bd), .second, .val (.ref r8), .val (.ref r9), .val (.ref r11), .unset, .unset, .unset, .unset, .unset, .unset, .unset]) rfl kgo) ?_
                refine own_go (g' := (mkF m 148 #[.val (.long q0), .second, .val (.long q1), .second, .val (.long q2), .second, .val (.long q3), .second, .val (.int p4), .val (.int p5), .val (.long dl), .second, .val (.int (own_b dt)), .val (.int (own_b dp)), .val (.int (own_b dd)), .val (.long bt), .second, .val (.long bp), .second, .val (.long bd), .second, .val (.ref r8), .val (.ref r9), .val (.ref r11), .unset, .unset, .unset, .unset, .unset, .unset, .unset] [(.int p5)])) (fun _ kgo => XS.iload X11.here hx rfl (hb hby at_146) rfl kgo) ?_
                refine own_go (g' := (mkF m 150 #[.val (.long q0), .second, .val (.long q1), .second, .val (.long q2), .second, .val (.long q3), .second, .val (.int p4), .val (.int p5), .val (.long dl), .second, .val (.int (own_b dt)), .val (.int (own_b dp)), .val (.int (own_b dd)), .val (.long bt), .second, .val (.long bp), .second, .val (.long bd), .second, .val (.ref r8), .val (.ref r9), .val (.ref r11), .unset, .unset, .unset, .unset, .unset, .unset, .unset] [(.int (24 : Int32)), (.int p5)])) (fun _ kgo => XS.bipush X11.here hx rfl (hb hby at_148) kgo) ?_
                refine own_go (g' := (mkF m 151 #[.val (.long q0), .second, .val (.long q1), .second, .val (.long q2), .second, .val (.long q3), .second, .val (.int p4), .val (.int p5), .val (.long dl), .second, .val (.int (own_b dt)), .val (.int (own_b dp)), .val (.int (own_b dd)), .val (.long bt), .second, .val (.long bp), .second, .val (.long bd), .second, .val (.ref r8), .val (.ref r9), .val (.ref r11), .unset, .unset, .unset, .unset, .unset, .unset, .unset] [(.int ((p5.toUInt32 >>> ((24 : Int32) &&& 31).toUInt32).toInt32))])) (fun _ kgo => XS.iushr X11.here hx rfl (hb hby at_150) rfl kgo) ?_
                refine own_go (g' := (mkF m 154 #[.val (.long q0), .second, .val (.long q1), .second, .val (.long q2), .second, .val (.long q3), .second, .val (.int p4), .val (.int p5), .val (.long dl), .second, .val (.int (own_b dt)), .val (.int (own_b dp)), .val (.int (own_b dd)), .val (.long bt), .second, .val (.long bp), .second, .val (.long bd), .second, .val (.ref r8), .val (.ref r9), .val (.ref r11), .unset, .unset, .unset, .unset, .unset, .unset, .unset] [(.int (255 : Int32)), (.int ((p5.toUInt32 >>> ((24 : Int32) &&& 31).toUInt32).toInt32))])) (fun _ kgo => XS.sipush X11.here hx rfl (hb hby at_151) kgo) ?_
                refine own_go (g' := (mkF m 155 #[.val (.long q0), .second, .val (.long q1), .second, .val (.long q2), .second, .val (.long q3), .second, .val (.int p4), .val (.int p5), .val (.long dl), .second, .val (.int (own_b dt)), .val (.int (own_b dp)), .val (.int (own_b dd)), .val (.long bt), .second, .val (.long bp), .second, .val (.long bd), .second, .val (.ref r8), .val (.ref r9), .val (.ref r11), .unset, .unset, .unset, .unset, .unset, .unset, .unset] [(.int (((p5.toUInt32 >>> ((24 : Int32) &&& 31).toUInt32).toInt32) &&& (255 : Int32)))])) (fun _ kgo => XS.iand X11.here hx rfl (hb hby at_154) rfl kgo) ?_
                refine own_go (g' := (mkF m 156 #[.val (.long q0), .second, .val (.long q1), .second, .val (.long q2), .second, .val (.long q3), .second, .val (.int p4), .val (.int p5), .val (.long dl), .second, .val (.int (own_b dt)), .val (.int (own_b dp)), .val (.int (own_b dd)), .val (.long bt), .second, .val (.long bp), .second, .val (.long bd), .second, .val (.ref r8), .val (.ref r9), .val (.ref r11), .unset, .unset, .unset, .unset, .unset, .unset, .unset] [(.int ((((p5.toUInt32 >>> ((24 : Int32) &&& 31).toUInt32).toInt32) &&& (255 : Int32)).toUInt32.toUInt16.toUInt32.toInt32))])) (fun _ kgo => XS.i2c X11.here hx rfl (hb hby at_155) rfl kgo) ?_
                have fx14 : Old Z n0 T11.heap := (Old.keep fx12 Kq11 all0)
                obtain ⟨v13, T13, L13, hQ13, X13, st13⟩ := own_callS X11 hx hZ (y := (⟨"java/lang/String", "valueOf", "(C)Ljava/lang/String;"⟩ : MethodName)) hown (hw _ (List.mem_of_getElem? (i := 0) rfl)) (hw _ (List.mem_of_getElem? (i := 1) rfl)) (hw _ (List.mem_of_getElem? (i := 2) rfl)) (hw _ (List.mem_of_getElem? (i := 3) rfl)) ⟨by decide, by decide⟩ (argsL := [(.int ((((p5.toUInt32 >>> ((24 : Int32) &&& 31).toUInt32).toInt32) &&& (255 : Int32)).toUInt32.toUInt16.toUInt32.toInt32))]) (rm1 l Z a0 hw ((((p5.toUInt32 >>> ((24 : Int32) &&& 31).toUInt32).toInt32) &&& (255 : Int32)).toUInt32.toUInt16.toUInt32.toInt32) cs T11.heap n0 Z11 (Sta.ext fx14.2 S0) hcs (own_ch _)) rfl (g := (mkF m 156 #[.val (.long q0), .second, .val (.long q1), .second, .val (.long q2), .second, .val (.long q3), .second, .val (.int p4), .val (.int p5), .val (.long dl), .second, .val (.int (own_b dt)), .val (.int (own_b dp)), .val (.int (own_b dd)), .val (.long bt), .second, .val (.long bp), .second, .val (.long bd), .second, .val (.ref r8), .val (.ref r9), .val (.ref r11), .unset, .unset, .unset, .unset, .unset, .unset, .unset] [(.int ((((p5.toUInt32 >>> ((24 : Int32) &&& 31).toUInt32).toInt32) &&& (255 : Int32)).toUInt32.toUInt16.toUInt32.toInt32))])) rfl (by rw [hml]; rfl) (rest := []) (lenOf pd0_0 rfl) rfl (hb hby at_156) (W := 0) (by show 2 * 0 + _ ≤ _; exact Nat.le_of_eq rfl) (by decide) (by decide) (by decide) (by decide)
                obtain ⟨r13, rfl, Nq13, Kq13⟩ := hQ13
                have N13 := Fr.app N11 Nq13
                have hk13 := Nat.le_trans hk11 Kq13.1
                have Z13 : n0 ≤ T13.heap.size := Nat.le_trans Z11 Kq13.1
                refine own_go (g' := (mkF m 159 #[.val (.long q0), .second, .val (.long q1), .second, .val (.long q2), .second, .val (.long q3), .second, .val (.int p4), .val (.int p5), .val (.long dl), .second, .val (.int (own_b dt)), .val (.int (own_b dp)), .val (.int (own_b dd)), .val (.long bt), .second, .val (.long bp), .second, .val (.long bd), .second, .val (.ref r8), .val (.ref r9), .val (.ref r11), .unset, .unset, .unset, .unset, .unset, .unset, .unset] [(.ref r13)])) (st13) ?_
                refine own_go (g' := (mkF m 161 #[.val (.long q0), .second, .val (.long q1), .second, .val (.long q2), .second, .val (.long q3), .second, .val (.int p4), .val (.int p5), .val (.long dl), .second, .val (.int (own_b dt)), .val (.int (own_b dp)), .val (.int (own_b dd)), .val (.long bt), .second, .val (.long bp), .second, .val (.long bd), .second, .val (.ref r8), .val (.ref r9), .val (.ref r11), .val (.ref r13), .unset, .unset, .unset, .unset, .unset, .unset] [])) (fun _ kgo => XS.astore X13.here hx rfl (hb hby at_159) rfl rfl (l' := #[.val (.long q0), .second, .val (.long q1), .second, .val (.long q2), .second, .val (.long q3), .second, .val (.int p4), .val (.int p5), .val (.long dl), .second, .val (.int (own_b dt)), .val (.int (own_b dp)), .val (.int (own_b dd)), .val (.long bt), .second, .val (.long bp), .second, .val (.long bd), .second, .val (.ref r8), .val (.ref r9), .val (.ref r11), .val (.ref r13), .unset, .unset, .unset, .unset, .unset, .unset]) rfl kgo) ?_
                obtain ⟨T15, h15, X15, e15, E15, A15, D15, -, st15⟩ := newO X13 hx hZ hown (hw _ (List.mem_of_getElem? (i := 26) rfl)) (hw _ (List.mem_of_getElem? (i := 27) rfl)) (hw _ (List.mem_of_getElem? (i := 28) rfl)) rfl (g := (mkF m 161 #[.val (.long q0), .second, .val (.long q1), .second, .val (.long q2), .second, .val (.long q3), .second, .val (.int p4), .val (.int p5), .val (.long dl), .second, .val (.int (own_b dt)), .val (.int (own_b dp)), .val (.int (own_b dd)), .val (.long bt), .second, .val (.long bp), .second, .val (.long bd), .second, .val (.ref r8), .val (.ref r9), .val (.ref r11), .val (.ref r13), .unset, .unset, .unset, .unset, .unset, .unset] [])) rfl (hb hby at_161) (by decide) (by decide)
                obtain ⟨b15, ad15⟩ : ∃ z, z = T13.heap.size := ⟨_, rfl⟩
                rw [← ad15] at A15 D15 st15
                have ge_b15 : n0 ≤ b15 := by rw [ad15]; exact Z13
                have hk15 := Nat.le_trans hk13 E15.1
                have Z15 : n0 ≤ h15.size := Nat.le_trans Z13 E15.1
                have F15_terms : Fld Z h15 b15 "com/example/uptik/uptik/model/Holdings" "terms" "J" (.long (0 : Int64)) := D15 (Or.inr (hw _ (List.mem_of_getElem? (i := 49) rfl))) (ty := .long) (by decide)
                have F15_postings : Fld Z h15 b15 "com/example/uptik/uptik/model/Holdings" "postings" "J" (.long (0 : Int64)) := D15 (Or.inr (hw _ (List.mem_of_getElem? (i := 51) rfl))) (ty := .long) (by decide)
                have F15_digest : Fld Z h15 b15 "com/example/uptik/uptik/model/Holdings" "digest" "J" (.long (0 : Int64)) := D15 (Or.inr (hw _ (List.mem_of_getElem? (i := 53) rfl))) (ty := .long) (by decide)
                have F15_whole : Fld Z h15 b15 "com/example/uptik/uptik/model/Holdings" "whole" "Ljava/lang/String;" .null := D15 (Or.inr (hw _ (List.mem_of_getElem? (i := 55) rfl))) (ty := (.object "java/lang/String")) (by decide)
                have F15_former : Fld Z h15 b15 "com/example/uptik/uptik/model/Holdings" "former" "Ljava/lang/String;" .null := D15 (Or.inr (hw _ (List.mem_of_getElem? (i := 57) rfl))) (ty := (.object "java/lang/String")) (by decide)
                have F15_remembered : Fld Z h15 b15 "com/example/uptik/uptik/model/Holdings" "remembered" "Ljava/lang/String;" .null := D15 (Or.inr (hw _ (List.mem_of_getElem? (i := 59) rfl))) (ty := (.object "java/lang/String")) (by decide)
                have F15_custody : Fld Z h15 b15 "com/example/uptik/uptik/model/Holdings" "custody" "Ljava/lang/String;" .null := D15 (Or.inr (hw _ (List.mem_of_getElem? (i := 61) rfl))) (ty := (.object "java/lang/String")) (by decide)
                have F15_documents : Fld Z h15 b15 "com/example/uptik/uptik/model/Holdings" "documents" "J" (.long (0 : Int64)) := D15 (Or.inr (hw _ (List.mem_of_getElem? (i := 63) rfl))) (ty := .long) (by decide)
                have F15_documentDigest : Fld Z h15 b15 "com/example/uptik/uptik/model/Holdings" "documentDigest" "J" (.long (0 : Int64)) := D15 (Or.inr (hw _ (List.mem_of_getElem? (i := 65) rfl))) (ty := .long) (by decide)
                have F15_recordWhole : Fld Z h15 b15 "com/example/uptik/uptik/model/Holdings" "recordWhole" "Z" (.int (0 : Int32)) := D15 (Or.inr (hw _ (List.mem_of_getElem? (i := 67) rfl))) (ty := .boolean) (by decide)
                refine own_go (g' := (mkF m 164 #[.val (.long q0), .second, .val (.long q1), .second, .val (.long q2), .second, .val (.long q3), .second, .val (.int p4), .val (.int p5), .val (.long dl), .second, .val (.int (own_b dt)), .val (.int (own_b dp)), .val (.int (own_b dd)), .val (.long bt), .second, .val (.long bp), .second, .val (.long bd), .second, .val (.ref r8), .val (.ref r9), .val (.ref r11), .val (.ref r13), .unset, .unset, .unset, .unset, .unset, .unset] [(.ref b15)])) (st15) ?_
                refine own_go (g' := (mkF m 165 #[.val (.long q0), .second, .val (.long q1), .second, .val (.long q2), .second, .val (.long q3), .second, .val (.int p4), .val (.int p5), .val (.long dl), .second, .val (.int (own_b dt)), .val (.int (own_b dp)), .val (.int (own_b dd)), .val (.long bt), .second, .val (.long bp), .second, .val (.long bd), .second, .val (.ref r8), .val (.ref r9), .val (.ref r11), .val (.ref r13), .unset, .unset, .unset, .unset, .unset, .unset] [(.ref b15), (.ref b15)])) (fun _ kgo => XS.dup X15.here hx rfl (hb hby at_164) rfl rfl kgo) ?_
                refine own_go (g' := (mkF m 166 #[.val (.long q0), .second, .val (.long q1), .second, .val (.long q2), .second, .val (.long q3), .second, .val (.int p4), .val (.int p5), .val (.long dl), .second, .val (.int (own_b dt)), .val (.int (own_b dp)), .val (.int (own_b dd)), .val (.long bt), .second, .val (.long bp), .second, .val (.long bd), .second, .val (.ref r8), .val (.ref r9), .val (.ref r11), .val (.ref r13), .unset, .unset, .unset, .unset, .unset, .unset] [(.long q0), (.ref b15), (.ref b15)])) (fun _ kgo => XS.lloadN X15.here hx rfl (hb hby at_165) rfl kgo) ?_
                refine own_go (g' := (mkF m 167 #[.val (.long q0), .second, .val (.long q1), .second, .val (.long q2), .second, .val (.long q3), .second, .val (.int p4), .val (.int p5), .val (.long dl), .second, .val (.int (own_b dt)), .val (.int (own_b dp)), .val (.int (own_b dd)), .val (.long bt), .second, .val (.long bp), .second, .val (.long bd), .second, .val (.ref r8), .val (.ref r9), .val (.ref r11), .val (.ref r13), .unset, .unset, .unset, .unset, .unset, .unset] [(.long q1), (.long q0), (.ref b15), (.ref b15)])) (fun _ kgo => XS.lloadN X15.here hx rfl (hb hby at_166) rfl kgo) ?_
                refine own_go (g' := (mkF m 169 #[.val (.long q0), .second, .val (.long q1), .second, .val (.long q2), .second, .val (.long q3), .second, .val (.int p4), .val (.int p5), .val (.long dl), .second, .val (.int (own_b dt)), .val (.int (own_b dp)), .val (.int (own_b dd)), .val (.long bt), .second, .val (.long bp), .second, .val (.long bd), .second, .val (.ref r8), .val (.ref r9), .val (.ref r11), .val (.ref r13), .unset, .unset, .unset, .unset, .unset, .unset] [(.long q2), (.long q1), (.long q0), (.ref b15), (.ref b15)])) (fun _ kgo => XS.lload X15.here hx rfl (hb hby at_167) rfl kgo) ?_
                refine own_go (g' := (mkF m 171 #[.val (.long q0), .second, .val (.long q1), .second, .val (.long q2), .second, .val (.long q3), .second, .val (.int p4), .val (.int p5), .val (.long dl), .second, .val (.int (own_b dt)), .val (.int (own_b dp)), .val (.int (own_b dd)), .val (.long bt), .second, .val (.long bp), .second, .val (.long bd), .second, .val (.ref r8), .val (.ref r9), .val (.ref r11), .val (.ref r13), .unset, .unset, .unset, .unset, .unset, .unset] [(.ref r8), (.long q2), (.long q1), (.long q0), (.ref b15), (.ref b15)])) (fun _ kgo => XS.aload X15.here hx rfl (hb hby at_169) rfl rfl kgo) ?_
                refine own_go (g' := (mkF m 173 #[.val (.long q0), .second, .val (.long q1), .second, .val (.long q2), .second, .val (.long q3), .second, .val (.int p4), .val (.int p5), .val (.long dl), .second, .val (.int (own_b dt)), .val (.int (own_b dp)), .val (.int (own_b dd)), .val (.long bt), .second, .val (.long bp), .second, .val (.long bd), .second, .val (.ref r8), .val (.ref r9), .val (.ref r11), .val (.ref r13), .unset, .unset, .unset, .unset, .unset, .unset] [(.ref r9), (.ref r8), (.long q2), (.long q1), (.long q0), (.ref b15), (.ref b15)])) (fun _ kgo => XS.aload X15.here hx rfl (hb hby at_171) rfl rfl kgo) ?_
                refine own_go (g' := (mkF m 175 #[.val (.long q0), .second, .val (.long q1), .second, .val (.long q2), .second, .val (.long q3), .second, .val (.int p4), .val (.int p5), .val (.long dl), .second, .val (.int (own_b dt)), .val (.int (own_b dp)), .val (.int (own_b dd)), .val (.long bt), .second, .val (.long bp), .second, .val (.long bd), .second, .val (.ref r8), .val (.ref r9), .val (.ref r11), .val (.ref r13), .unset, .unset, .unset, .unset, .unset, .unset] [(.ref r11), (.ref r9), (.ref r8), (.long q2), (.long q1), (.long q0), (.ref b15), (.ref b15)])) (fun _ kgo => XS.aload X15.here hx rfl (hb hby at_173) rfl rfl kgo) ?_
                refine own_go (g' := (mkF m 177 #[.val (.long q0), .second, .val (.long q1), .second, .val (.long q2), .second, .val (.long q3), .second, .val (.int p4), .val (.int p5), .val (.long dl), .second, .val (.int (own_b dt)), .val (.int (own_b dp)), .val (.int (own_b dd)), .val (.long bt), .second, .val (.long bp), .second, .val (.long bd), .second, .val (.ref r8), .val (.ref r9), .val (.ref r11), .val (.ref r13), .unset, .unset, .unset, .unset, .unset, .unset] [(.ref r13), (.ref r11), (.ref r9), (.ref r8), (.long q2), (.long q1), (.long q0), (.ref b15), (.ref b15)])) (fun _ kgo => XS.aload X15.here hx rfl (hb hby at_175) rfl rfl kgo) ?_
                refine own_go (g' := (mkF m 179 #[.val (.long q0), .second, .val (.long q1), .second, .val (.long q2), .second, .val (.long q3), .second, .val (.int p4), .val (.int p5), .val (.long dl), .second, .val (.int (own_b dt)), .val (.int (own_b dp)), .val (.int (own_b dd)), .val (.long bt), .second, .val (.long bp), .second, .val (.long bd), .second, .val (.ref r8), .val (.ref r9), .val (.ref r11), .val (.ref r13), .unset, .unset, .unset, .unset, .unset, .unset] [(.int p5), (.ref r13), (.ref r11), (.ref r9), (.ref r8), (.long q2), (.long q1), (.long q0), (.ref b15), (.ref b15)])) (fun _ kgo => XS.iload X15.here hx rfl (hb hby at_177) rfl kgo) ?_
                refine own_go (g' := (mkF m 180 #[.val (.long q0), .second, .val (.long q1), .second, .val (.long q2), .second, .val (.long q3), .second, .val (.int p4), .val (.int p5), .val (.long dl), .second, .val (.int (own_b dt)), .val (.int (own_b dp)), .val (.int (own_b dd)), .val (.long bt), .second, .val (.long bp), .second, .val (.long bd), .second, .val (.ref r8), .val (.ref r9), .val (.ref r11), .val (.ref r13), .unset, .unset, .unset, .unset, .unset, .unset] [(.long (p5.toInt64)), (.ref r13), (.ref r11), (.ref r9), (.ref r8), (.long q2), (.long q1), (.long q0), (.ref b15), (.ref b15)])) (fun _ kgo => XS.i2l X15.here hx rfl (hb hby at_179) rfl kgo) ?_
                refine own_go (g' := (mkF m 182 #[.val (.long q0), .second, .val (.long q1), .second, .val (.long q2), .second, .val (.long q3), .second, .val (.int p4), .val (.int p5), .val (.long dl), .second, .val (.int (own_b dt)), .val (.int (own_b dp)), .val (.int (own_b dd)), .val (.long bt), .second, .val (.long bp), .second, .val (.long bd), .second, .val (.ref r8), .val (.ref r9), .val (.ref r11), .val (.ref r13), .unset, .unset, .unset, .unset, .unset, .unset] [(.long q3), (.long (p5.toInt64)), (.ref r13), (.ref r11), (.ref r9), (.ref r8), (.long q2), (.long q1), (.long q0), (.ref b15), (.ref b15)])) (fun _ kgo => XS.lload X15.here hx rfl (hb hby at_180) rfl kgo) ?_
                refine own_go (g' := (mkF m 184 #[.val (.long q0), .second, .val (.long q1), .second, .val (.long q2), .second, .val (.long q3), .second, .val (.int p4), .val (.int p5), .val (.long dl), .second, .val (.int (own_b dt)), .val (.int (own_b dp)), .val (.int (own_b dd)), .val (.long bt), .second, .val (.long bp), .second, .val (.long bd), .second, .val (.ref r8), .val (.ref r9), .val (.ref r11), .val (.ref r13), .unset, .unset, .unset, .unset, .unset, .unset] [(.int p4), (.long q3), (.long (p5.toInt64)), (.ref r13), (.ref r11), (.ref r9), (.ref r8), (.long q2), (.long q1), (.long q0), (.ref b15), (.ref b15)])) (fun _ kgo => XS.iload X15.here hx rfl (hb hby at_182) rfl kgo) ?_
                refine own_go (g' := (mkF m 186 #[.val (.long q0), .second, .val (.long q1), .second, .val (.long q2), .second, .val (.long q3), .second, .val (.int p4), .val (.int p5), .val (.long dl), .second, .val (.int (own_b dt)), .val (.int (own_b dp)), .val (.int (own_b dd)), .val (.long bt), .second, .val (.long bp), .second, .val (.long bd), .second, .val (.ref r8), .val (.ref r9), .val (.ref r11), .val (.ref r13), .unset, .unset, .unset, .unset, .unset, .unset] [(.int (8 : Int32)), (.int p4), (.long q3), (.long (p5.toInt64)), (.ref r13), (.ref r11), (.ref r9), (.ref r8), (.long q2), (.long q1), (.long q0), (.ref b15), (.ref b15)])) (fun _ kgo => XS.bipush X15.here hx rfl (hb hby at_184) kgo) ?_
                refine own_go (g' := (mkF m 187 #[.val (.long q0), .second, .val (.long q1), .second, .val (.long q2), .second, .val (.long q3), .second, .val (.int p4), .val (.int p5), .val (.long dl), .second, .val (.int (own_b dt)), .val (.int (own_b dp)), .val (.int (own_b dd)), .val (.long bt), .second, .val (.long bp), .second, .val (.long bd), .second, .val (.ref r8), .val (.ref r9), .val (.ref r11), .val (.ref r13), .unset, .unset, .unset, .unset, .unset, .unset] [(.int (p4 &&& (8 : Int32))), (.long q3), (.long (p5.toInt64)), (.ref r13), (.ref r11), (.ref r9), (.ref r8), (.long q2), (.long q1), (.long q0), (.ref b15), (.ref b15)])) (fun _ kgo => XS.iand X15.here hx rfl (hb hby at_186) rfl kgo) ?_
                have J16 : own_Go p e below (own_PostW s QQ 40 4288) T15 (mkF m 195 #[.val (.long q0), .second, .val (.long q1), .second, .val (.long q2), .second, .val (.long q3), .second, .val (.int p4), .val (.int p5), .val (.long dl), .second, .val (.int (own_b dt)), .val (.int (own_b dp)), .val (.int (own_b dd)), .val (.long bt), .second, .val (.long bp), .second, .val (.long bd), .second, .val (.ref r8), .val (.ref r9), .val (.ref r11), .val (.ref r13), .unset, .unset, .unset, .unset, .unset, .unset] [(.int (own_b (!decide ((p4 &&& (8 : Int32)) = (0 : Int32))))), (.long q3), (.long (p5.toInt64)), (.ref r13), (.ref r11), (.ref r9), (.ref r8), (.long q2), (.long q1), (.long q0), (.ref b15), (.ref b15)]) := by
                  obtain ⟨v17, T17, L17, hQ17, X17, hS17, hZ, hown, st17⟩ := own_callIW X15 hx hZ hS0 hk15 (y := (⟨"com/example/uptik/uptik/model/Holdings", "<init>", "(JJJLjava/lang/String;Ljava/lang/String;Ljava/lang/String;Ljava/lang/String;JJZ)V"⟩ : MethodName)) rfl hown (hw _ (List.mem_of_getElem? (i := 29) rfl)) (hw _ (List.mem_of_getElem? (i := 30) rfl)) (hw _ (List.mem_of_getElem? (i := 28) rfl)) (hw _ (List.mem_of_getElem? (i := 31) rfl)) ⟨by decide, by decide⟩ (a := b15) (argsL := [(.long q0), (.long q1), (.long q2), (.ref r8), (.ref r9), (.ref r11), (.ref r13), (.long (p5.toInt64)), (.long q3), (.int (own_b (!decide ((p4 &&& (8 : Int32)) = (0 : Int32)))))]) (rm6 l Z a0 hw b15 q0 q1 q2 r8 r9 r11 r13 (p5.toInt64) q3 (own_b (!decide ((p4 &&& (8 : Int32)) = (0 : Int32)))) h15 n0 Z15 ge_b15 A15 F15_terms F15_postings F15_digest F15_whole F15_former F15_remembered F15_custody F15_documents F15_documentDigest F15_recordWhole) e15 (g := (mkF m 195 #[.val (.long q0), .second, .val (.long q1), .second, .val (.long q2), .second, .val (.long q3), .second, .val (.int p4), .val (.int p5), .val (.long dl), .second, .val (.int (own_b dt)), .val (.int (own_b dp)), .val (.int (own_b dd)), .val (.long bt), .second, .val (.long bp), .second, .val (.long bd), .second, .val (.ref r8), .val (.ref r9), .val (.ref r11), .val (.ref r13), .unset, .unset, .unset, .unset, .unset, .unset] [(.int (own_b (!decide ((p4 &&& (8 : Int32)) = (0 : Int32))))), (.long q3), (.long (p5.toInt64)), (.ref r13), (.ref r11), (.ref r9), (.ref r8), (.long q2), (.long q1), (.long q0), (.ref b15), (.ref b15)])) rfl (by rw [hml]; rfl) (rest := [(.ref b15)]) (lenOf pd0_1 rfl) rfl (hb hby at_195) (W := 1) (by show 2 * 0 + _ ≤ _; exact Nat.le_of_eq rfl) (by decide) (by decide) (by decide) (by decide)
                  obtain ⟨rfl, Nq17, Kq17, q17_0, q17_1, q17_2, q17_3⟩ := hQ17
                  have N17 := Fr.app N13 Nq17
                  have Z17 : n0 ≤ T17.heap.size := Nat.le_trans Z15 Kq17.1
                  have hk17 : T17.heap.size ≤ T17.heap.size := Nat.le_refl _
                  refine own_go (g' := (mkF m 198 #[.val (.long q0), .second, .val (.long q1), .second, .val (.long q2), .second, .val (.long q3), .second, .val (.int p4), .val (.int p5), .val (.long dl), .second, .val (.int (own_b dt)), .val (.int (own_b dp)), .val (.int (own_b dd)), .val (.long bt), .second, .val (.long bp), .second, .val (.long bd), .second, .val (.ref r8), .val (.ref r9), .val (.ref r11), .val (.ref r13), .unset, .unset, .unset, .unset, .unset, .unset] [(.ref b15)])) (st17) ?_
                  refine own_go (g' := (mkF m 200 #[.val (.long q0), .second, .val (.long q1), .second, .val (.long q2), .second, .val (.long q3), .second, .val (.int p4), .val (.int p5), .val (.long dl), .second, .val (.int (own_b dt)), .val (.int (own_b dp)), .val (.int (own_b dd)), .val (.long bt), .second, .val (.long bp), .second, .val (.long bd), .second, .val (.ref r8), .val (.ref r9), .val (.ref r11), .val (.ref r13), .val (.ref b15), .unset, .unset, .unset, .unset, .unset] [])) (fun _ kgo => XS.astore X17.here hx rfl (hb hby at_198) rfl rfl (l' := #[.val (.long q0), .second, .val (.long q1), .second, .val (.long q2), .second, .val (.long q3), .second, .val (.int p4), .val (.int p5), .val (.long dl), .second, .val (.int (own_b dt)), .val (.int (own_b dp)), .val (.int (own_b dd)), .val (.long bt), .second, .val (.long bp), .second, .val (.long bd), .second, .val (.ref r8), .val (.ref r9), .val (.ref r11), .val (.ref r13), .val (.ref b15), .unset, .unset, .unset, .unset, .unset]) rfl kgo) ?_
                  obtain ⟨T18, h18, X18, e18, E18, A18, D18, -, st18⟩ := newO X17 hx hZ hown (hw _ (List.mem_of_getElem? (i := 26) rfl)) (hw _ (List.mem_of_getElem? (i := 27) rfl)) (hw _ (List.mem_of_getElem? (i := 28) rfl)) rfl (g := (mkF m 200 #[.val (.long q0), .second, .val (.long q1), .second, .val (.long q2), .second, .val (.long q3), .second, .val (.int p4), .val (.int p5), .val (.long dl), .second, .val (.int (own_b dt)), .val (.int (own_b dp)), .val (.int (own_b dd)), .val (.long bt), .second, .val (.long bp), .second, .val (.long bd), .second, .val (.ref r8), .val (.ref r9), .val (.ref r11), .val (.ref r13), .val (.ref b15), .unset, .unset, .unset, .unset, .unset] [])) rfl (hb hby at_200) (by decide) (by decide)
                  obtain ⟨b18, ad18⟩ : ∃ z, z = T17.heap.size := ⟨_, rfl⟩
                  rw [← ad18] at A18 D18 st18
                  have ne_b15_b18 : b15 ≠ b18 := Nat.ne_of_lt (by rw [ad18]; exact q17_0.lt)
                  have ge_b18 : n0 ≤ b18 := by rw [ad18]; exact Z17
                  have hk18 := Nat.le_trans hk17 E18.1
                  have Z18 : n0 ≤ h18.size := Nat.le_trans Z17 E18.1
                  have F18_terms : Fld Z h18 b18 "com/example/uptik/uptik/model/Holdings" "terms" "J" (.long (0 : Int64)) := D18 (Or.inr (hw _ (List.mem_of_getElem? (i := 49) rfl))) (ty := .long) (by decide)
                  have F18_postings : Fld Z h18 b18 "com/example/uptik/uptik/model/Holdings" "postings" "J" (.long (0 : Int64)) := D18 (Or.inr (hw _ (List.mem_of_getElem? (i := 51) rfl))) (ty := .long) (by decide)
                  have F18_digest : Fld Z h18 b18 "com/example/uptik/uptik/model/Holdings" "digest" "J" (.long (0 : Int64)) := D18 (Or.inr (hw _ (List.mem_of_getElem? (i := 53) rfl))) (ty := .long) (by decide)
                  have F18_whole : Fld Z h18 b18 "com/example/uptik/uptik/model/Holdings" "whole" "Ljava/lang/String;" .null := D18 (Or.inr (hw _ (List.mem_of_getElem? (i := 55) rfl))) (ty := (.object "java/lang/String")) (by decide)
                  have F18_former : Fld Z h18 b18 "com/example/uptik/uptik/model/Holdings" "former" "Ljava/lang/String;" .null := D18 (Or.inr (hw _ (List.mem_of_getElem? (i := 57) rfl))) (ty := (.object "java/lang/String")) (by decide)
                  have F18_remembered : Fld Z h18 b18 "com/example/uptik/uptik/model/Holdings" "remembered" "Ljava/lang/String;" .null := D18 (Or.inr (hw _ (List.mem_of_getElem? (i := 59) rfl))) (ty := (.object "java/lang/String")) (by decide)
                  have F18_custody : Fld Z h18 b18 "com/example/uptik/uptik/model/Holdings" "custody" "Ljava/lang/String;" .null := D18 (Or.inr (hw _ (List.mem_of_getElem? (i := 61) rfl))) (ty := (.object "java/lang/String")) (by decide)
                  have F18_documents : Fld Z h18 b18 "com/example/uptik/uptik/model/Holdings" "documents" "J" (.long (0 : Int64)) := D18 (Or.inr (hw _ (List.mem_of_getElem? (i := 63) rfl))) (ty := .long) (by decide)
                  have F18_documentDigest : Fld Z h18 b18 "com/example/uptik/uptik/model/Holdings" "documentDigest" "J" (.long (0 : Int64)) := D18 (Or.inr (hw _ (List.mem_of_getElem? (i := 65) rfl))) (ty := .long) (by decide)
                  have F18_recordWhole : Fld Z h18 b18 "com/example/uptik/uptik/model/Holdings" "recordWhole" "Z" (.int (0 : Int32)) := D18 (Or.inr (hw _ (List.mem_of_getElem? (i := 67) rfl))) (ty := .boolean) (by decide)
                  refine own_go (g' := (mkF m 203 #[.val (.long q0), .second, .val (.long q1), .second, .val (.long q2), .second, .val (.long q3), .second, .val (.int p4), .val (.int p5), .val (.long dl), .second, .val (.int (own_b dt)), .val (.int (own_b dp)), .val (.int (own_b dd)), .val (.long bt), .second, .val (.long bp), .second, .val (.long bd), .second, .val (.ref r8), .val (.ref r9), .val (.ref r11), .val (.ref r13), .val (.ref b15), .unset, .unset, .unset, .unset, .unset] [(.ref b18)])) (st18) ?_
                  refine own_go (g' := (mkF m 204 #[.val (.long q0), .second, .val (.long q1), .second, .val (.long q2), .second, .val (.long q3), .second, .val (.int p4), .val (.int p5), .val (.long dl), .second, .val (.int (own_b dt)), .val (.int (own_b dp)), .val (.int (own_b dd)), .val (.long bt), .second, .val (.long bp), .second, .val (.long bd), .second, .val (.ref r8), .val (.ref r9), .val (.ref r11), .val (.ref r13), .val (.ref b15), .unset, .unset, .unset, .unset, .unset] [(.ref b18), (.ref b18)])) (fun _ kgo => XS.dup X18.here hx rfl (hb hby at_203) rfl rfl kgo) ?_
                  refine own_go (g' := (mkF m 206 #[.val (.long q0), .second, .val (.long q1), .second, .val (.long q2), .second, .val (.long q3), .second, .val (.int p4), .val (.int p5), .val (.long dl), .second, .val (.int (own_b dt)), .val (.int (own_b dp)), .val (.int (own_b dd)), .val (.long bt), .second, .val (.long bp), .second, .val (.long bd), .second, .val (.ref r8), .val (.ref r9), .val (.ref r11), .val (.ref r13), .val (.ref b15), .unset, .unset, .unset, .unset, .unset] [(.long bt), (.ref b18), (.ref b18)])) (fun _ kgo => XS.lload X18.here hx rfl (hb hby at_204) rfl kgo) ?_
                  refine own_go (g' := (mkF m 208 #[.val (.long q0), .second, .val (.long q1), .second, .val (.long q2), .second, .val (.long q3), .second, .val (.int p4), .val (.int p5), .val (.long dl), .second, .val (.int (own_b dt)), .val (.int (own_b dp)), .val (.int (own_b dd)), .val (.long bt), .second, .val (.long bp), .second, .val (.long bd), .second, .val (.ref r8), .val (.ref r9), .val (.ref r11), .val (.ref r13), .val (.ref b15), .unset, .unset, .unset, .unset, .unset] [(.long bp), (.long bt), (.ref b18), (.ref b18)])) (fun _ kgo => XS.lload X18.here hx rfl (hb hby at_206) rfl kgo) ?_
                  refine own_go (g' := (mkF m 210 #[.val (.long q0), .second, .val (.long q1), .second, .val (.long q2), .second, .val (.long q3), .second, .val (.int p4), .val (.int p5), .val (.long dl), .second, .val (.int (own_b dt)), .val (.int (own_b dp)), .val (.int (own_b dd)), .val (.long bt), .second, .val (.long bp), .second, .val (.long bd), .second, .val (.ref r8), .val (.ref r9), .val (.ref r11), .val (.ref r13), .val (.ref b15), .unset, .unset, .unset, .unset, .unset] [(.long bd), (.long bp), (.long bt), (.ref b18), (.ref b18)])) (fun _ kgo => XS.lload X18.here hx rfl (hb hby at_208) rfl kgo) ?_
                  refine own_go (g' := (mkF m 212 #[.val (.long q0), .second, .val (.long q1), .second, .val (.long q2), .second, .val (.long q3), .second, .val (.int p4), .val (.int p5), .val (.long dl), .second, .val (.int (own_b dt)), .val (.int (own_b dp)), .val (.int (own_b dd)), .val (.long bt), .second, .val (.long bp), .second, .val (.long bd), .second, .val (.ref r8), .val (.ref r9), .val (.ref r11), .val (.ref r13), .val (.ref b15), .unset, .unset, .unset, .unset, .unset] [(.ref r13), (.long bd), (.long bp), (.long bt), (.ref b18), (.ref b18)])) (fun _ kgo => XS.aload X18.here hx rfl (hb hby at_210) rfl rfl kgo) ?_
                  refine own_go (g' := (mkF m 214 #[.val (.long q0), .second, .val (.long q1), .second, .val (.long q2), .second, .val (.long q3), .second, .val (.int p4), .val (.int p5), .val (.long dl), .second, .val (.int (own_b dt)), .val (.int (own_b dp)), .val (.int (own_b dd)), .val (.long bt), .second, .val (.long bp), .second, .val (.long bd), .second, .val (.ref r8), .val (.ref r9), .val (.ref r11), .val (.ref r13), .val (.ref b15), .unset, .unset, .unset, .unset, .unset] [(.ref r11), (.ref r13), (.long bd), (.long bp), (.long bt), (.ref b18), (.ref b18)])) (fun _ kgo => XS.aload X18.here hx rfl (hb hby at_212) rfl rfl kgo) ?_
                  refine own_go (g' := (mkF m 216 #[.val (.long q0), .second, .val (.long q1), .second, .val (.long q2), .second, .val (.long q3), .second, .val (.int p4), .val (.int p5), .val (.long dl), .second, .val (.int (own_b dt)), .val (.int (own_b dp)), .val (.int (own_b dd)), .val (.long bt), .second, .val (.long bp), .second, .val (.long bd), .second, .val (.ref r8), .val (.ref r9), .val (.ref r11), .val (.ref r13), .val (.ref b15), .unset, .unset, .unset, .unset, .unset] [(.ref r9), (.ref r11), (.ref r13), (.long bd), (.long bp), (.long bt), (.ref b18), (.ref b18)])) (fun _ kgo => XS.aload X18.here hx rfl (hb hby at_214) rfl rfl kgo) ?_
                  refine own_go (g' := (mkF m 218 #[.val (.long q0), .second, .val (.long q1), .second, .val (.long q2), .second, .val (.long q3), .second, .val (.int p4), .val (.int p5), .val (.long dl), .second, .val (.int (own_b dt)), .val (.int (own_b dp)), .val (.int (own_b dd)), .val (.long bt), .second, .val (.long bp), .second, .val (.long bd), .second, .val (.ref r8), .val (.ref r9), .val (.ref r11), .val (.ref r13), .val (.ref b15), .unset, .unset, .unset, .unset, .unset] [(.ref r8), (.ref r9), (.ref r11), (.ref r13), (.long bd), (.long bp), (.long bt), (.ref b18), (.ref b18)])) (fun _ kgo => XS.aload X18.here hx rfl (hb hby at_216) rfl rfl kgo) ?_
                  refine own_go (g' := (mkF m 220 #[.val (.long q0), .second, .val (.long q1), .second, .val (.long q2), .second, .val (.long q3), .second, .val (.int p4), .val (.int p5), .val (.long dl), .second, .val (.int (own_b dt)), .val (.int (own_b dp)), .val (.int (own_b dd)), .val (.long bt), .second, .val (.long bp), .second, .val (.long bd), .second, .val (.ref r8), .val (.ref r9), .val (.ref r11), .val (.ref r13), .val (.ref b15), .unset, .unset, .unset, .unset, .unset] [(.long q3), (.ref r8), (.ref r9), (.ref r11), (.ref r13), (.long bd), (.long bp), (.long bt), (.ref b18), (.ref b18)])) (fun _ kgo => XS.lload X18.here hx rfl (hb hby at_218) rfl kgo) ?_
                  refine own_go (g' := (mkF m 222 #[.val (.long q0), .second, .val (.long q1), .second, .val (.long q2), .second, .val (.long q3), .second, .val (.int p4), .val (.int p5), .val (.long dl), .second, .val (.int (own_b dt)), .val (.int (own_b dp)), .val (.int (own_b dd)), .val (.long bt), .second, .val (.long bp), .second, .val (.long bd), .second, .val (.ref r8), .val (.ref r9), .val (.ref r11), .val (.ref r13), .val (.ref b15), .unset, .unset, .unset, .unset, .unset] [(.int p5), (.long q3), (.ref r8), (.ref r9), (.ref r11), (.ref r13), (.long bd), (.long bp), (.long bt), (.ref b18), (.ref b18)])) (fun _ kgo => XS.iload X18.here hx rfl (hb hby at_220) rfl kgo) ?_
                  refine own_go (g' := (mkF m 223 #[.val (.long q0), .second, .val (.long q1), .second, .val (.long q2), .second, .val (.long q3), .second, .val (.int p4), .val (.int p5), .val (.long dl), .second, .val (.int (own_b dt)), .val (.int (own_b dp)), .val (.int (own_b dd)), .val (.long bt), .second, .val (.long bp), .second, .val (.long bd), .second, .val (.ref r8), .val (.ref r9), .val (.ref r11), .val (.ref r13), .val (.ref b15), .unset, .unset, .unset, .unset, .unset] [(.long (p5.toInt64)), (.long q3), (.ref r8), (.ref r9), (.ref r11), (.ref r13), (.long bd), (.long bp), (.long bt), (.ref b18), (.ref b18)])) (fun _ kgo => XS.i2l X18.here hx rfl (hb hby at_222) rfl kgo) ?_
                  refine own_go (g' := (mkF m 224 #[.val (.long q0), .second, .val (.long q1), .second, .val (.long q2), .second, .val (.long q3), .second, .val (.int p4), .val (.int p5), .val (.long dl), .second, .val (.int (own_b dt)), .val (.int (own_b dp)), .val (.int (own_b dd)), .val (.long bt), .second, .val (.long bp), .second, .val (.long bd), .second, .val (.ref r8), .val (.ref r9), .val (.ref r11), .val (.ref r13), .val (.ref b15), .unset, .unset, .unset, .unset, .unset] [(.long q0), (.long (p5.toInt64)), (.long q3), (.ref r8), (.ref r9), (.ref r11), (.ref r13), (.long bd), (.long bp), (.long bt), (.ref b18), (.ref b18)])) (fun _ kgo => XS.lloadN X18.here hx rfl (hb hby at_223) rfl kgo) ?_
                  refine own_go (g' := (mkF m 225 #[.val (.long q0), .second, .val (.long q1), .second, .val (.long q2), .second, .val (.long q3), .second, .val (.int p4), .val (.int p5), .val (.long dl), .second, .val (.int (own_b dt)), .val (.int (own_b dp)), .val (.int (own_b dd)), .val (.long bt), .second, .val (.long bp), .second, .val (.long bd), .second, .val (.ref r8), .val (.ref r9), .val (.ref r11), .val (.ref r13), .val (.ref b15), .unset, .unset, .unset, .unset, .unset] [(.long ((p5.toInt64) ^^^ q0)), (.long q3), (.ref r8), (.ref r9), (.ref r11), (.ref r13), (.long bd), (.long bp), (.long bt), (.ref b18), (.ref b18)])) (fun _ kgo => XS.lxor X18.here hx rfl (hb hby at_224) rfl kgo) ?_
                  refine own_go (g' := (mkF m 227 #[.val (.long q0), .second, .val (.long q1), .second, .val (.long q2), .second, .val (.long q3), .second, .val (.int p4), .val (.int p5), .val (.long dl), .second, .val (.int (own_b dt)), .val (.int (own_b dp)), .val (.int (own_b dd)), .val (.long bt), .second, .val (.long bp), .second, .val (.long bd), .second, .val (.ref r8), .val (.ref r9), .val (.ref r11), .val (.ref r13), .val (.ref b15), .unset, .unset, .unset, .unset, .unset] [(.int p4), (.long ((p5.toInt64) ^^^ q0)), (.long q3), (.ref r8), (.ref r9), (.ref r11), (.ref r13), (.long bd), (.long bp), (.long bt), (.ref b18), (.ref b18)])) (fun _ kgo => XS.iload X18.here hx rfl (hb hby at_225) rfl kgo) ?_
                  refine own_go (g' := (mkF m 229 #[.val (.long q0), .second, .val (.long q1), .second, .val (.long q2), .second, .val (.long q3), .second, .val (.int p4), .val (.int p5), .val (.long dl), .second, .val (.int (own_b dt)), .val (.int (own_b dp)), .val (.int (own_b dd)), .val (.long bt), .second, .val (.long bp), .second, .val (.long bd), .second, .val (.ref r8), .val (.ref r9), .val (.ref r11), .val (.ref r13), .val (.ref b15), .unset, .unset, .unset, .unset, .unset] [(.int (16 : Int32)), (.int p4), (.long ((p5.toInt64) ^^^ q0)), (.long q3), (.ref r8), (.ref r9), (.ref r11), (.ref r13), (.long bd), (.long bp), (.long bt), (.ref b18), (.ref b18)])) (fun _ kgo => XS.bipush X18.here hx rfl (hb hby at_227) kgo) ?_
                  refine own_go (g' := (mkF m 230 #[.val (.long q0), .second, .val (.long q1), .second, .val (.long q2), .second, .val (.long q3), .second, .val (.int p4), .val (.int p5), .val (.long dl), .second, .val (.int (own_b dt)), .val (.int (own_b dp)), .val (.int (own_b dd)), .val (.long bt), .second, .val (.long bp), .second, .val (.long bd), .second, .val (.ref r8), .val (.ref r9), .val (.ref r11), .val (.ref r13), .val (.ref b15), .unset, .unset, .unset, .unset, .unset] [(.int (p4 &&& (16 : Int32))), (.long ((p5.toInt64) ^^^ q0)), (.long q3), (.ref r8), (.ref r9), (.ref r11), (.ref r13), (.long bd), (.long bp), (.long bt), (.ref b18), (.ref b18)])) (fun _ kgo => XS.iand X18.here hx rfl (hb hby at_229) rfl kgo) ?_
                  have J19 : own_Go p e below (own_PostW s QQ 40 4288) T18 (mkF m 238 #[.val (.long q0), .second, .val (.long q1), .second, .val (.long q2), .second, .val (.long q3), .second, .val (.int p4), .val (.int p5), .val (.long dl), .second, .val (.int (own_b dt)), .val (.int (own_b dp)), .val (.int (own_b dd)), .val (.long bt), .second, .val (.long bp), .second, .val (.long bd), .second, .val (.ref r8), .val (.ref r9), .val (.ref r11), .val (.ref r13), .val (.ref b15), .unset, .unset, .unset, .unset, .unset] [(.int (own_b (!decide ((p4 &&& (16 : Int32)) = (0 : Int32))))), (.long ((p5.toInt64) ^^^ q0)), (.long q3), (.ref r8), (.ref r9), (.ref r11), (.ref r13), (.long bd), (.long bp), (.long bt), (.ref b18), (.ref b18)]) := by
                    obtain ⟨v20, T20, L20, hQ20, X20, hS20, hZ, hown, st20⟩ := own_callIW X18 hx hZ hS17 hk18 (y := (⟨"com/example/uptik/uptik/model/Holdings", "<init>", "(JJJLjava/lang/String;Ljava/lang/String;Ljava/lang/String;Ljava/lang/String;JJZ)V"⟩ : MethodName)) rfl hown (hw _ (List.mem_of_getElem? (i := 29) rfl)) (hw _ (List.mem_of_getElem? (i := 30) rfl)) (hw _ (List.mem_of_getElem? (i := 28) rfl)) (hw _ (List.mem_of_getElem? (i := 31) rfl)) ⟨by decide, by decide⟩ (a := b18) (argsL := [(.long bt), (.long bp), (.long bd), (.ref r13), (.ref r11), (.ref r9), (.ref r8), (.long q3), (.long ((p5.toInt64) ^^^ q0)), (.int (own_b (!decide ((p4 &&& (16 : Int32)) = (0 : Int32)))))]) (rm6 l Z a0 hw b18 bt bp bd r13 r11 r9 r8 q3 ((p5.toInt64) ^^^ q0) (own_b (!decide ((p4 &&& (16 : Int32)) = (0 : Int32)))) h18 n0 Z18 ge_b18 A18 F18_terms F18_postings F18_digest F18_whole F18_former F18_remembered F18_custody F18_documents F18_documentDigest F18_recordWhole) e18 (g := (mkF m 238 #[.val (.long q0), .second, .val (.long q1), .second, .val (.long q2), .second, .val (.long q3), .second, .val (.int p4), .val (.int p5), .val (.long dl), .second, .val (.int (own_b dt)), .val (.int (own_b dp)), .val (.int (own_b dd)), .val (.long bt), .second, .val (.long bp), .second, .val (.long bd), .second, .val (.ref r8), .val (.ref r9), .val (.ref r11), .val (.ref r13), .val (.ref b15), .unset, .unset, .unset, .unset, .unset] [(.int (own_b (!decide ((p4 &&& (16 : Int32)) = (0 : Int32))))), (.long ((p5.toInt64) ^^^ q0)), (.long q3), (.ref r8), (.ref r9), (.ref r11), (.ref r13), (.long bd), (.long bp), (.long bt), (.ref b18), (.ref b18)])) rfl (by rw [hml]; rfl) (rest := [(.ref b18)]) (lenOf pd0_1 rfl) rfl (hb hby at_238) (W := 1) (by show 2 * 0 + _ ≤ _; exact Nat.le_of_eq rfl) (by decide) (by decide) (by decide) (by decide)
                    obtain ⟨rfl, Nq20, Kq20, q20_0, q20_1, q20_2, q20_3⟩ := hQ20
                    have N20 := Fr.app N17 Nq20
                    have Z20 : n0 ≤ T20.heap.size := Nat.le_trans Z18 Kq20.1
                    have hk20 : T20.heap.size ≤ T20.heap.size := Nat.le_refl _
                    refine own_go (g' := (mkF m 241 #[.val (.long q0), .second, .val (.long q1), .second, .val (.long q2), .second, .val (.long q3), .second, .val (.int p4), .val (.int p5), .val (.long dl), .second, .val (.int (own_b dt)), .val (.int (own_b dp)), .val (.int (own_b dd)), .val (.long bt), .second, .val (.long bp), .second, .val (.long bd), .second, .val (.ref r8), .val (.ref r9), .val (.ref r11), .val (.ref r13), .val (.ref b15), .unset, .unset, .unset, .unset, .unset] [(.ref b18)])) (st20) ?_
                    refine own_go (g' := (mkF m 243 #[.val (.long q0), .second, .val (.long q1), .second, .val (.long q2), .second, .val (.long q3), .second, .val (.int p4), .val (.int p5), .val (.long dl), .second, .val (.int (own_b dt)), .val (.int (own_b dp)), .val (.int (own_b dd)), .val (.long bt), .second, .val (.long bp), .second, .val (.long bd), .second, .val (.ref r8), .val (.ref r9), .val (.ref r11), .val (.ref r13), .val (.ref b15), .val (.ref b18), .unset, .unset, .unset, .unset] [])) (fun _ kgo => XS.astore X20.here hx rfl (hb hby at_241) rfl rfl (l' := #[.val (.long q0), .second, .val (.long q1), .second, .val (.long q2), .second, .val (.long q3), .second, .val (.int p4), .val (.int p5), .val (.long dl), .second, .val (.int (own_b dt)), .val (.int (own_b dp)), .val (.int (own_b dd)), .val (.long bt), .second, .val (.long bp), .second, .val (.long bd), .second, .val (.ref r8), .val (.ref r9), .val (.ref r11), .val (.ref r13), .val (.ref b15), .val (.ref b18), .unset, .unset, .unset, .unset]) rfl kgo) ?_
                    refine own_go (g' := (mkF m 245 #[.val (.long q0), .second, .val (.long q1), .second, .val (.long q2), .second, .val (.long q3), .second, .val (.int p4), .val (.int p5), .val (.long dl), .second, .val (.int (own_b dt)), .val (.int (own_b dp)), .val (.int (own_b dd)), .val (.long bt), .second, .val (.long bp), .second, .val (.long bd), .second, .val (.ref r8), .val (.ref r9), .val (.ref r11), .val (.ref r13), .val (.ref b15), .val (.ref b18), .unset, .unset, .unset, .unset] [(.int (own_b dt))])) (fun _ kgo => XS.iload X20.here hx rfl (hb hby at_243) rfl kgo) ?_
                    have J21 : own_Go p e below (own_PostW s QQ 40 4288) T20 (mkF m 263 #[.val (.long q0), .second, .val (.long q1), .second, .val (.long q2), .second, .val (.long q3), .second, .val (.int p4), .val (.int p5), .val (.long dl), .second, .val (.int (own_b dt)), .val (.int (own_b dp)), .val (.int (own_b dd)), .val (.long bt), .second, .val (.long bp), .second, .val (.long bd), .second, .val (.ref r8), .val (.ref r9), .val (.ref r11), .val (.ref r13), .val (.ref b15), .val (.ref b18), .unset, .unset, .unset, .unset] [(.int (own_b ((!dt && (!dp && !dd)))))]) := by
                      suffices JNe_ex : ∀ ex : Bool, ex = ((!dt && (!dp && !dd))) → own_Go p e below (own_PostW s QQ 40 4288) T20 (mkF m 263 #[.val (.long q0), .second, .val (.long q1), .second, .val (.long q2), .second, .val (.long q3), .second, .val (.int p4), .val (.int p5), .val (.long dl), .second, .val (.int (own_b dt)), .val (.int (own_b dp)), .val (.int (own_b dd)), .val (.long bt), .second, .val (.long bp), .second, .val (.long bd), .second, .val (.ref r8), .val (.ref r9), .val (.ref r11), .val (.ref r13), .val (.ref b15), .val (.ref b18), .unset, .unset, .unset, .unset] [(.int (own_b ex))]) from JNe_ex _ (rfl)
                      intro ex e_ex
                      refine own_go (g' := (mkF m 265 #[.val (.long q0), .second, .val (.long q1), .second, .val (.long q2), .second, .val (.long q3), .second, .val (.int p4), .val (.int p5), .val (.long dl), .second, .val (.int (own_b dt)), .val (.int (own_b dp)), .val (.int (own_b dd)), .val (.long bt), .second, .val (.long bp), .second, .val (.long bd), .second, .val (.ref r8), .val (.ref r9), .val (.ref r11), .val (.ref r13), .val (.ref b15), .val (.ref b18), .val (.int (own_b ex)), .unset, .unset, .unset] [])) (fun _ kgo => XS.istore X20.here hx rfl (hb hby at_263) rfl (l' := #[.val (.long q0), .second, .val (.long q1), .second, .val (.long q2), .second, .val (.long q3), .second, .val (.int p4), .val (.int p5), .val (.long dl), .second, .val (.int (own_b dt)), .val (.int (own_b dp)), .val (.int (own_b dd)), .val (.long bt), .second, .val (.long bp), .second, .val (.long bd), .second, .val (.ref r8), .val (.ref r9), .val (.ref r11), .val (.ref r13), .val (.ref b15), .val (.ref b18), .val (.int (own_b ex)), .unset, .unset, .unset]) rfl kgo) ?_
                      refine own_go (g' := (mkF m 267 #[.val (.long q0), .second, .val (.long q1), .second, .val (.long q2), .second, .val (.long q3), .second, .val (.int p4), .val (.int p5), .val (.long dl), .second, .val (.int (own_b dt)), .val (.int (own_b dp)), .val (.int (own_b dd)), .val (.long bt), .second, .val (.long bp), .second, .val (.long bd), .second, .val (.ref r8), .val (.ref r9), .val (.ref r11), .val (.ref r13), .val (.ref b15), .val (.ref b18), .val (.int (own_b ex)), .unset, .unset, .unset] [(.ref b15)])) (fun _ kgo => XS.aload X20.here hx rfl (hb hby at_265) rfl rfl kgo) ?_
                      refine own_go (g' := (mkF m 269 #[.val (.long q0), .second, .val (.long q1), .second, .val (.long q2), .second, .val (.long q3), .second, .val (.int p4), .val (.int p5), .val (.long dl), .second, .val (.int (own_b dt)), .val (.int (own_b dp)), .val (.int (own_b dd)), .val (.long bt), .second, .val (.long bp), .second, .val (.long bd), .second, .val (.ref r8), .val (.ref r9), .val (.ref r11), .val (.ref r13), .val (.ref b15), .val (.ref b18), .val (.int (own_b ex)), .unset, .unset, .unset] [(.ref b18), (.ref b15)])) (fun _ kgo => XS.aload X20.here hx rfl (hb hby at_267) rfl rfl kgo) ?_
                      have fx23 : Fld Z T20.heap b15 "com/example/uptik/uptik/model/Holdings" "terms" "J" (.long q0) := (Fld.keep (Fld.ext E18 q17_1) Kq20 (ninS ne_b15_b18 nin0))
                      have fx24 : Fld Z T20.heap b15 "com/example/uptik/uptik/model/Holdings" "postings" "J" (.long q1) := (Fld.keep (Fld.ext E18 q17_2) Kq20 (ninS ne_b15_b18 nin0))
                      have fx25 : Fld Z T20.heap b15 "com/example/uptik/uptik/model/Holdings" "digest" "J" (.long q2) := (Fld.keep (Fld.ext E18 q17_3) Kq20 (ninS ne_b15_b18 nin0))
                      have fx26 : Exa Z T20.heap b15 "com/example/uptik/uptik/model/Holdings" := (Exa.keep (Exa.ext E18 q17_0) Kq20)
                      obtain ⟨v22, T22, L22, hQ22, X22, st22⟩ := own_callV X20 hx hZ (y := (⟨"com/example/uptik/uptik/model/Holdings", "sameListsAs", "(Lcom/example/uptik/uptik/model/Holdings;)Z"⟩ : MethodName)) (z := (⟨"com/example/uptik/uptik/model/Holdings", "sameListsAs", "(Lcom/example/uptik/uptik/model/Holdings;)Z"⟩ : MethodName)) hown (hw _ (List.mem_of_getElem? (i := 68) rfl)) (hw _ (List.mem_of_getElem? (i := 69) rfl)) (notFace_of_selects (args := #[]) (mvT hZ (hw _ (List.mem_of_getElem? (i := 71) rfl)))) (hw _ (List.mem_of_getElem? (i := 71) rfl)) (hw _ (List.mem_of_getElem? (i := 70) rfl)) (hw _ (List.mem_of_getElem? (i := 28) rfl)) (hw _ (List.mem_of_getElem? (i := 72) rfl)) ⟨by decide, by decide⟩ (a := b15) (argsL := [(.ref b18)]) (rm9 l Z a0 hw b15 b18 q0 q1 q2 bt bp bd T20.heap fx23 fx24 fx25 q20_1 q20_2 q20_3) rfl fx26 (g := (mkF m 269 #[.val (.long q0), .second, .val (.long q1), .second, .val (.long q2), .second, .val (.long q3), .second, .val (.int p4), .val (.int p5), .val (.long dl), .second, .val (.int (own_b dt)), .val (.int (own_b dp)), .val (.int (own_b dd)), .val (.long bt), .second, .val (.long bp), .second, .val (.long bd), .second, .val (.ref r8), .val (.ref r9), .val (.ref r11), .val (.ref r13), .val (.ref b15), .val (.ref b18), .val (.int (own_b ex)), .unset, .unset, .unset] [(.ref b18), (.ref b15)])) rfl (by rw [hml]; rfl) (rest := []) (lenOf pd0_2 rfl) rfl (hb hby at_269) (W := 0) (by show 2 * 0 + _ ≤ _; exact Nat.le_of_eq rfl) (by decide) (by decide) (by decide) (by decide)
                      obtain ⟨rfl, e22, rfl⟩ := hQ22
                      have N22 := Fr.app N20 (Fr.nil n0)
                      refine own_go (g' := (mkF m 272 #[.val (.long q0), .second, .val (.long q1), .second, .val (.long q2), .second, .val (.long q3), .second, .val (.int p4), .val (.int p5), .val (.long dl), .second, .val (.int (own_b dt)), .val (.int (own_b dp)), .val (.int (own_b dd)), .val (.long bt), .second, .val (.long bp), .second, .val (.long bd), .second, .val (.ref r8), .val (.ref r9), .val (.ref r11), .val (.ref r13), .val (.ref b15), .val (.ref b18), .val (.int (own_b ex)), .unset, .unset, .unset] [(.int (own_b (decide (q0 = bt ∧ q1 = bp ∧ q2 = bd))))])) (st22) ?_
                      suffices JNe_ra : ∀ ra : Bool, ra = (decide (q0 = bt ∧ q1 = bp ∧ q2 = bd)) → own_Go p e below (own_PostW s QQ 40 4288) T22 (mkF m 272 #[.val (.long q0), .second, .val (.long q1), .second, .val (.long q2), .second, .val (.long q3), .second, .val (.int p4), .val (.int p5), .val (.long dl), .second, .val (.int (own_b dt)), .val (.int (own_b dp)), .val (.int (own_b dd)), .val (.long bt), .second, .val (.long bp), .second, .val (.long bd), .second, .val (.ref r8), .val (.ref r9), .val (.ref r11), .val (.ref r13), .val (.ref b15), .val (.ref b18), .val (.int (own_b ex)), .unset, .unset, .unset] [(.int (own_b ra))]) from JNe_ra _ (rfl)
                      intro ra e_ra
                      refine own_go (g' := (mkF m 274 #[.val (.long q0), .second, .val (.long q1), .second, .val (.long q2), .second, .val (.long q3), .second, .val (.int p4), .val (.int p5), .val (.long dl), .second, .val (.int (own_b dt)), .val (.int (own_b dp)), .val (.int (own_b dd)), .val (.long bt), .second, .val (.long bp), .second, .val (.long bd), .second, .val (.ref r8), .val (.ref r9), .val (.ref r11), .val (.ref r13), .val (.ref b15), .val (.ref b18), .val (.int (own_b ex)), .val (.int (own_b ra)), .unset, .unset] [])) (fun _ kgo => XS.istore X22.here hx rfl (hb hby at_272) rfl (l' := #[.val (.long q0), .second, .val (.long q1), .second, .val (.long q2), .second, .val (.long q3), .second, .val (.int p4), .val (.int p5), .val (.long dl), .second, .val (.int (own_b dt)), .val (.int (own_b dp)), .val (.int (own_b dd)), .val (.long bt), .second, .val (.long bp), .second, .val (.long bd), .second, .val (.ref r8), .val (.ref r9), .val (.ref r11), .val (.ref r13), .val (.ref b15), .val (.ref b18), .val (.int (own_b ex)), .val (.int (own_b ra)), .unset, .unset]) rfl kgo) ?_
                      refine own_go (g' := (mkF m 276 #[.val (.long q0), .second, .val (.long q1), .second, .val (.long q2), .second, .val (.long q3), .second, .val (.int p4), .val (.int p5), .val (.long dl), .second, .val (.int (own_b dt)), .val (.int (own_b dp)), .val (.int (own_b dd)), .val (.long bt), .second, .val (.long bp), .second, .val (.long bd), .second, .val (.ref r8), .val (.ref r9), .val (.ref r11), .val (.ref r13), .val (.ref b15), .val (.ref b18), .val (.int (own_b ex)), .val (.int (own_b ra)), .unset, .unset] [(.ref b18)])) (fun _ kgo => XS.aload X22.here hx rfl (hb hby at_274) rfl rfl kgo) ?_
                      refine own_go (g' := (mkF m 278 #[.val (.long q0), .second, .val (.long q1), .second, .val (.long q2), .second, .val (.long q3), .second, .val (.int p4), .val (.int p5), .val (.long dl), .second, .val (.int (own_b dt)), .val (.int (own_b dp)), .val (.int (own_b dd)), .val (.long bt), .second, .val (.long bp), .second, .val (.long bd), .second, .val (.ref r8), .val (.ref r9), .val (.ref r11), .val (.ref r13), .val (.ref b15), .val (.ref b18), .val (.int (own_b ex)), .val (.int (own_b ra)), .unset, .unset] [(.ref b15), (.ref b18)])) (fun _ kgo => XS.aload X22.here hx rfl (hb hby at_276) rfl rfl kgo) ?_
                      obtain ⟨v27, T27, L27, hQ27, X27, st27⟩ := own_callV X22 hx hZ (y := (⟨"com/example/uptik/uptik/model/Holdings", "sameListsAs", "(Lcom/example/uptik/uptik/model/Holdings;)Z"⟩ : MethodName)) (z := (⟨"com/example/uptik/uptik/model/Holdings", "sameListsAs", "(Lcom/example/uptik/uptik/model/Holdings;)Z"⟩ : MethodName)) hown (hw _ (List.mem_of_getElem? (i := 68) rfl)) (hw _ (List.mem_of_getElem? (i := 69) rfl)) (notFace_of_selects (args := #[]) (mvT hZ (hw _ (List.mem_of_getElem? (i := 71) rfl)))) (hw _ (List.mem_of_getElem? (i := 71) rfl)) (hw _ (List.mem_of_getElem? (i := 70) rfl)) (hw _ (List.mem_of_getElem? (i := 28) rfl)) (hw _ (List.mem_of_getElem? (i := 72) rfl)) ⟨by decide, by decide⟩ (a := b18) (argsL := [(.ref b15)]) (rm9 l Z a0 hw b18 b15 bt bp bd q0 q1 q2 T20.heap q20_1 q20_2 q20_3 fx23 fx24 fx25) e22 q20_0 (g := (mkF m 278 #[.val (.long q0), .second, .val (.long q1), .second, .val (.long q2), .second, .val (.long q3), .second, .val (.int p4), .val (.int p5), .val (.long dl), .second, .val (.int (own_b dt)), .val (.int (own_b dp)), .val (.int (own_b dd)), .val (.long bt), .second, .val (.long bp), .second, .val (.long bd), .second, .val (.ref r8), .val (.ref r9), .val (.ref r11), .val (.ref r13), .val (.ref b15), .val (.ref b18), .val (.int (own_b ex)), .val (.int (own_b ra)), .unset, .unset] [(.ref b15), (.ref b18)])) rfl (by rw [hml]; rfl) (rest := []) (lenOf pd0_2 rfl) rfl (hb hby at_278) (W := 0) (by show 2 * 0 + _ ≤ _; exact Nat.le_of_eq rfl) (by decide) (by decide) (by decide) (by decide)
                      obtain ⟨rfl, e27, rfl⟩ := hQ27
                      have N27 := Fr.app N22 (Fr.nil n0)
                      refine own_go (g' := (mkF m 281 #[.val (.long q0), .second, .val (.long q1), .second, .val (.long q2), .second, .val (.long q3), .second, .val (.int p4), .val (.int p5), .val (.long dl), .second, .val (.int (own_b dt)), .val (.int (own_b dp)), .val (.int (own_b dd)), .val (.long bt), .second, .val (.long bp), .second, .val (.long bd), .second, .val (.ref r8), .val (.ref r9), .val (.ref r11), .val (.ref r13), .val (.ref b15), .val (.ref b18), .val (.int (own_b ex)), .val (.int (own_b ra)), .unset, .unset] [(.int (own_b (decide (bt = q0 ∧ bp = q1 ∧ bd = q2))))])) (st27) ?_
                      suffices JNe_rb : ∀ rb : Bool, rb = (decide (bt = q0 ∧ bp = q1 ∧ bd = q2)) → own_Go p e below (own_PostW s QQ 40 4288) T27 (mkF m 281 #[.val (.long q0), .second, .val (.long q1), .second, .val (.long q2), .second, .val (.long q3), .second, .val (.int p4), .val (.int p5), .val (.long dl), .second, .val (.int (own_b dt)), .val (.int (own_b dp)), .val (.int (own_b dd)), .val (.long bt), .second, .val (.long bp), .second, .val (.long bd), .second, .val (.ref r8), .val (.ref r9), .val (.ref r11), .val (.ref r13), .val (.ref b15), .val (.ref b18), .val (.int (own_b ex)), .val (.int (own_b ra)), .unset, .unset] [(.int (own_b rb))]) from JNe_rb _ (rfl)
                      intro rb e_rb
                      refine own_go (g' := (mkF m 283 #[.val (.long q0), .second, .val (.long q1), .second, .val (.long q2), .second, .val (.long q3), .second, .val (.int p4), .val (.int p5), .val (.long dl), .second, .val (.int (own_b dt)), .val (.int (own_b dp)), .val (.int (own_b dd)), .val (.long bt), .second, .val (.long bp), .second, .val (.long bd), .second, .val (.ref r8), .val (.ref r9), .val (.ref r11), .val (.ref r13), .val (.ref b15), .val (.ref b18), .val (.int (own_b ex)), .val (.int (own_b ra)), .val (.int (own_b rb)), .unset] [])) (fun _ kgo => XS.istore X27.here hx rfl (hb hby at_281) rfl (l' := #[.val (.long q0), .second, .val (.long q1), .second, .val (.long q2), .second, .val (.long q3), .second, .val (.int p4), .val (.int p5), .val (.long dl), .second, .val (.int (own_b dt)), .val (.int (own_b dp)), .val (.int (own_b dd)), .val (.long bt), .second, .val (.long bp), .second, .val (.long bd), .second, .val (.ref r8), .val (.ref r9), .val (.ref r11), .val (.ref r13), .val (.ref b15), .val (.ref b18), .val (.int (own_b ex)), .val (.int (own_b ra)), .val (.int (own_b rb)), .unset]) rfl kgo) ?_
                      refine own_go (g' := (mkF m 285 #[.val (.long q0), .second, .val (.long q1), .second, .val (.long q2), .second, .val (.long q3), .second, .val (.int p4), .val (.int p5), .val (.long dl), .second, .val (.int (own_b dt)), .val (.int (own_b dp)), .val (.int (own_b dd)), .val (.long bt), .second, .val (.long bp), .second, .val (.long bd), .second, .val (.ref r8), .val (.ref r9), .val (.ref r11), .val (.ref r13), .val (.ref b15), .val (.ref b18), .val (.int (own_b ex)), .val (.int (own_b ra)), .val (.int (own_b rb)), .unset] [(.ref b15)])) (fun _ kgo => XS.aload X27.here hx rfl (hb hby at_283) rfl rfl kgo) ?_
                      refine own_go (g' := (mkF m 287 #[.val (.long q0), .second, .val (.long q1), .second, .val (.long q2), .second, .val (.long q3), .second, .val (.int p4), .val (.int p5), .val (.long dl), .second, .val (.int (own_b dt)), .val (.int (own_b dp)), .val (.int (own_b dd)), .val (.long bt), .second, .val (.long bp), .second, .val (.long bd), .second, .val (.ref r8), .val (.ref r9), .val (.ref r11), .val (.ref r13), .val (.ref b15), .val (.ref b18), .val (.int (own_b ex)), .val (.int (own_b ra)), .val (.int (own_b rb)), .unset] [(.ref b15), (.ref b15)])) (fun _ kgo => XS.aload X27.here hx rfl (hb hby at_285) rfl rfl kgo) ?_
                      obtain ⟨v28, T28, L28, hQ28, X28, st28⟩ := own_callV X27 hx hZ (y := (⟨"com/example/uptik/uptik/model/Holdings", "sameListsAs", "(Lcom/example/uptik/uptik/model/Holdings;)Z"⟩ : MethodName)) (z := (⟨"com/example/uptik/uptik/model/Holdings", "sameListsAs", "(Lcom/example/uptik/uptik/model/Holdings;)Z"⟩ : MethodName)) hown (hw _ (List.mem_of_getElem? (i := 68) rfl)) (hw _ (List.mem_of_getElem? (i := 69) rfl)) (notFace_of_selects (args := #[]) (mvT hZ (hw _ (List.mem_of_getElem? (i := 71) rfl)))) (hw _ (List.mem_of_getElem? (i := 71) rfl)) (hw _ (List.mem_of_getElem? (i := 70) rfl)) (hw _ (List.mem_of_getElem? (i := 28) rfl)) (hw _ (List.mem_of_getElem? (i := 72) rfl)) ⟨by decide, by decide⟩ (a := b15) (argsL := [(.ref b15)]) (rm9 l Z a0 hw b15 b15 q0 q1 q2 q0 q1 q2 T20.heap fx23 fx24 fx25 fx23 fx24 fx25) e27 fx26 (g := (mkF m 287 #[.val (.long q0), .second, .val (.long q1), .second, .val (.long q2), .second, .val (.long q3), .second, .val (.int p4), .val (.int p5), .val (.long dl), .second, .val (.int (own_b dt)), .val (.int (own_b dp)), .val (.int (own_b dd)), .val (.long bt), .second, .val (.long bp), .second, .val (.long bd), .second, .val (.ref r8), .val (.ref r9), .val (.ref r11), .val (.ref r13), .val (.ref b15), .val (.ref b18), .val (.int (own_b ex)), .val (.int (own_b ra)), .val (.int (own_b rb)), .unset] [(.ref b15), (.ref b15)])) rfl (by rw [hml]; rfl) (rest := []) (lenOf pd0_2 rfl) rfl (hb hby at_287) (W := 0) (by show 2 * 0 + _ ≤ _; exact Nat.le_of_eq rfl) (by decide) (by decide) (by decide) (by decide)
                      obtain ⟨rfl, e28, rfl⟩ := hQ28
                      have N28 := Fr.app N27 (Fr.nil n0)
                      refine own_go (g' := (mkF m 290 #[.val (.long q0), .second, .val (.long q1), .second, .val (.long q2), .second, .val (.long q3), .second, .val (.int p4), .val (.int p5), .val (.long dl), .second, .val (.int (own_b dt)), .val (.int (own_b dp)), .val (.int (own_b dd)), .val (.long bt), .second, .val (.long bp), .second, .val (.long bd), .second, .val (.ref r8), .val (.ref r9), .val (.ref r11), .val (.ref r13), .val (.ref b15), .val (.ref b18), .val (.int (own_b ex)), .val (.int (own_b ra)), .val (.int (own_b rb)), .unset] [(.int (own_b (decide (q0 = q0 ∧ q1 = q1 ∧ q2 = q2))))])) (st28) ?_
                      suffices JNe_rc : ∀ rc : Bool, rc = (decide (q0 = q0 ∧ q1 = q1 ∧ q2 = q2)) → own_Go p e below (own_PostW s QQ 40 4288) T28 (mkF m 290 #[.val (.long q0), .second, .val (.long q1), .second, .val (.long q2), .second, .val (.long q3), .second, .val (.int p4), .val (.int p5), .val (.long dl), .second, .val (.int (own_b dt)), .val (.int (own_b dp)), .val (.int (own_b dd)), .val (.long bt), .second, .val (.long bp), .second, .val (.long bd), .second, .val (.ref r8), .val (.ref r9), .val (.ref r11), .val (.ref r13), .val (.ref b15), .val (.ref b18), .val (.int (own_b ex)), .val (.int (own_b ra)), .val (.int (own_b rb)), .unset] [(.int (own_b rc))]) from JNe_rc _ (rfl)
                      intro rc e_rc
                      refine own_go (g' := (mkF m 292 #[.val (.long q0), .second, .val (.long q1), .second, .val (.long q2), .second, .val (.long q3), .second, .val (.int p4), .val (.int p5), .val (.long dl), .second, .val (.int (own_b dt)), .val (.int (own_b dp)), .val (.int (own_b dd)), .val (.long bt), .second, .val (.long bp), .second, .val (.long bd), .second, .val (.ref r8), .val (.ref r9), .val (.ref r11), .val (.ref r13), .val (.ref b15), .val (.ref b18), .val (.int (own_b ex)), .val (.int (own_b ra)), .val (.int (own_b rb)), .val (.int (own_b rc))] [])) (fun _ kgo => XS.istore X28.here hx rfl (hb hby at_290) rfl (l' := #[.val (.long q0), .second, .val (.long q1), .second, .val (.long q2), .second, .val (.long q3), .second, .val (.int p4), .val (.int p5), .val (.long dl), .second, .val (.int (own_b dt)), .val (.int (own_b dp)), .val (.int (own_b dd)), .val (.long bt), .second, .val (.long bp), .second, .val (.long bd), .second, .val (.ref r8), .val (.ref r9), .val (.ref r11), .val (.ref r13), .val (.ref b15), .val (.ref b18), .val (.int (own_b ex)), .val (.int (own_b ra)), .val (.int (own_b rb)), .val (.int (own_b rc))]) rfl kgo) ?_
                      refine own_go (g' := (mkF m 294 #[.val (.long q0), .second, .val (.long q1), .second, .val (.long q2), .second, .val (.long q3), .second, .val (.int p4), .val (.int p5), .val (.long dl), .second, .val (.int (own_b dt)), .val (.int (own_b dp)), .val (.int (own_b dd)), .val (.long bt), .second, .val (.long bp), .second, .val (.long bd), .second, .val (.ref r8), .val (.ref r9), .val (.ref r11), .val (.ref r13), .val (.ref b15), .val (.ref b18), .val (.int (own_b ex)), .val (.int (own_b ra)), .val (.int (own_b rb)), .val (.int (own_b rc))] [(.int (own_b ra))])) (fun _ kgo => XS.iload X28.here hx rfl (hb hby at_292) rfl kgo) ?_
                      refine own_go (g' := (mkF m 296 #[.val (.long q0), .second, .val (.long q1), .second, .val (.long q2), .second, .val (.long q3), .second, .val (.int p4), .val (.int p5), .val (.long dl), .second, .val (.int (own_b dt)), .val (.int (own_b dp)), .val (.int (own_b dd)), .val (.long bt), .second, .val (.long bp), .second, .val (.long bd), .second, .val (.ref r8), .val (.ref r9), .val (.ref r11), .val (.ref r13), .val (.ref b15), .val (.ref b18), .val (.int (own_b ex)), .val (.int (own_b ra)), .val (.int (own_b rb)), .val (.int (own_b rc))] [(.int (own_b ex)), (.int (own_b ra))])) (fun _ kgo => XS.iload X28.here hx rfl (hb hby at_294) rfl kgo) ?_
                      refine own_go (g' := (mkF m 299 #[.val (.long q0), .second, .val (.long q1), .second, .val (.long q2), .second, .val (.long q3), .second, .val (.int p4), .val (.int p5), .val (.long dl), .second, .val (.int (own_b dt)), .val (.int (own_b dp)), .val (.int (own_b dd)), .val (.long bt), .second, .val (.long bp), .second, .val (.long bd), .second, .val (.ref r8), .val (.ref r9), .val (.ref r11), .val (.ref r13), .val (.ref b15), .val (.ref b18), .val (.int (own_b ex)), .val (.int (own_b ra)), .val (.int (own_b rb)), .val (.int (own_b rc))] [])) (fun _ kgo => XS.icmpNo X28.here hx rfl (hb hby at_296) rfl (teq (congrArg own_b (show ra = ex from by rw [e_ra, e_ex, own_ex4 hbt hbp hbd]))).2 kgo) ?_
                      refine own_go (g' := (mkF m 301 #[.val (.long q0), .second, .val (.long q1), .second, .val (.long q2), .second, .val (.long q3), .second, .val (.int p4), .val (.int p5), .val (.long dl), .second, .val (.int (own_b dt)), .val (.int (own_b dp)), .val (.int (own_b dd)), .val (.long bt), .second, .val (.long bp), .second, .val (.long bd), .second, .val (.ref r8), .val (.ref r9), .val (.ref r11), .val (.ref r13), .val (.ref b15), .val (.ref b18), .val (.int (own_b ex)), .val (.int (own_b ra)), .val (.int (own_b rb)), .val (.int (own_b rc))] [(.int (own_b rb))])) (fun _ kgo => XS.iload X28.here hx rfl (hb hby at_299) rfl kgo) ?_
                      refine own_go (g' := (mkF m 303 #[.val (.long q0), .second, .val (.long q1), .second, .val (.long q2), .second, .val (.long q3), .second, .val (.int p4), .val (.int p5), .val (.long dl), .second, .val (.int (own_b dt)), .val (.int (own_b dp)), .val (.int (own_b dd)), .val (.long bt), .second, .val (.long bp), .second, .val (.long bd), .second, .val (.ref r8), .val (.ref r9), .val (.ref r11), .val (.ref r13), .val (.ref b15), .val (.ref b18), .val (.int (own_b ex)), .val (.int (own_b ra)), .val (.int (own_b rb)), .val (.int (own_b rc))] [(.int (own_b ex)), (.int (own_b rb))])) (fun _ kgo => XS.iload X28.here hx rfl (hb hby at_301) rfl kgo) ?_
                      refine own_go (g' := (mkF m 306 #[.val (.long q0), .second, .val (.long q1), .second, .val (.long q2), .second, .val (.long q3), .second, .val (.int p4), .val (.int p5), .val (.long dl), .second, .val (.int (own_b dt)), .val (.int (own_b dp)), .val (.int (own_b dd)), .val (.long bt), .second, .val (.long bp), .second, .val (.long bd), .second, .val (.ref r8), .val (.ref r9), .val (.ref r11), .val (.ref r13), .val (.ref b15), .val (.ref b18), .val (.int (own_b ex)), .val (.int (own_b ra)), .val (.int (own_b rb)), .val (.int (own_b rc))] [])) (fun _ kgo => XS.icmpNo X28.here hx rfl (hb hby at_303) rfl (teq (congrArg own_b (show rb = ex from by rw [e_rb, e_ex, own_ex3 hbt hbp hbd]))).2 kgo) ?_
                      refine own_go (g' := (mkF m 308 #[.val (.long q0), .second, .val (.long q1), .second, .val (.long q2), .second, .val (.long q3), .second, .val (.int p4), .val (.int p5), .val (.long dl), .second, .val (.int (own_b dt)), .val (.int (own_b dp)), .val (.int (own_b dd)), .val (.long bt), .second, .val (.long bp), .second, .val (.long bd), .second, .val (.ref r8), .val (.ref r9), .val (.ref r11), .val (.ref r13), .val (.ref b15), .val (.ref b18), .val (.int (own_b ex)), .val (.int (own_b ra)), .val (.int (own_b rb)), .val (.int (own_b rc))] [(.int (own_b rc))])) (fun _ kgo => XS.iload X28.here hx rfl (hb hby at_306) rfl kgo) ?_
                      refine own_go (g' := (mkF m 311 #[.val (.long q0), .second, .val (.long q1), .second, .val (.long q2), .second, .val (.long q3), .second, .val (.int p4), .val (.int p5), .val (.long dl), .second, .val (.int (own_b dt)), .val (.int (own_b dp)), .val (.int (own_b dd)), .val (.long bt), .second, .val (.long bp), .second, .val (.long bd), .second, .val (.ref r8), .val (.ref r9), .val (.ref r11), .val (.ref r13), .val (.ref b15), .val (.ref b18), .val (.int (own_b ex)), .val (.int (own_b ra)), .val (.int (own_b rb)), .val (.int (own_b rc))] [])) (fun _ kgo => XS.ifNo X28.here hx rfl (hb hby at_308) rfl ((if0 _ _).trans (feq (own_b_n (by rw [e_rc]; exact decide_eq_true ⟨rfl, rfl, rfl⟩))).1) kgo) ?_
                      refine own_go (g' := (mkF m 312 #[.val (.long q0), .second, .val (.long q1), .second, .val (.long q2), .second, .val (.long q3), .second, .val (.int p4), .val (.int p5), .val (.long dl), .second, .val (.int (own_b dt)), .val (.int (own_b dp)), .val (.int (own_b dd)), .val (.long bt), .second, .val (.long bp), .second, .val (.long bd), .second, .val (.ref r8), .val (.ref r9), .val (.ref r11), .val (.ref r13), .val (.ref b15), .val (.ref b18), .val (.int (own_b ex)), .val (.int (own_b ra)), .val (.int (own_b rb)), .val (.int (own_b rc))] [(.int (1 : Int32))])) (fun _ kgo => XS.iconst X28.here hx rfl (hb hby at_311) kgo) ?_
                      refine own_go (g' := (mkF m 316 #[.val (.long q0), .second, .val (.long q1), .second, .val (.long q2), .second, .val (.long q3), .second, .val (.int p4), .val (.int p5), .val (.long dl), .second, .val (.int (own_b dt)), .val (.int (own_b dp)), .val (.int (own_b dd)), .val (.long bt), .second, .val (.long bp), .second, .val (.long bd), .second, .val (.ref r8), .val (.ref r9), .val (.ref r11), .val (.ref r13), .val (.ref b15), .val (.ref b18), .val (.int (own_b ex)), .val (.int (own_b ra)), .val (.int (own_b rb)), .val (.int (own_b rc))] [(.int (1 : Int32))])) (fun _ kgo => XS.goto X28.here hx rfl (pc0 := 312) (pc' := 316) rfl (hb hby at_312) (by decide) (by decide) kgo) ?_
                      refine own_retNW X28 hx hS20 e28 hk20 .boolean Bd.returns Bd.notSynchronized (by simp) (hb hby at_316) (by decide) (by decide) ?_
                      show QQ _ T28.heap _
                      rw [e28]
                      rw [← hQQ]
                      exact ⟨rfl, N28⟩
                    by_cases hc29 : dt = true
                    ·
                      refine own_go (g' := (mkF m 262 #[.val (.long q0), .second, .val (.long q1), .second, .val (.long q2), .second, .val (.long q3), .second, .val (.int p4), .val (.int p5), .val (.long dl), .second, .val (.int (own_b dt)), .val (.int (own_b dp)), .val (.int (own_b dd)), .val (.long bt), .second, .val (.long bp), .second, .val (.long bd), .second, .val (.ref r8), .val (.ref r9), .val (.ref r11), .val (.ref r13), .val (.ref b15), .val (.ref b18), .unset, .unset, .unset, .unset] [])) (fun _ kgo => XS.ifYes X20.here hx rfl (pc0 := 245) (pc' := 262) rfl (hb hby at_245) rfl ((if0 _ _).trans (feq (own_b_n hc29)).2) (by decide) (by decide) kgo) ?_
                      refine own_go (g' := (mkF m 263 #[.val (.long q0), .second, .val (.long q1), .second, .val (.long q2), .second, .val (.long q3), .second, .val (.int p4), .val (.int p5), .val (.long dl), .second, .val (.int (own_b dt)), .val (.int (own_b dp)), .val (.int (own_b dd)), .val (.long bt), .second, .val (.long bp), .second, .val (.long bd), .second, .val (.ref r8), .val (.ref r9), .val (.ref r11), .val (.ref r13), .val (.ref b15), .val (.ref b18), .unset, .unset, .unset, .unset] [(.int (0 : Int32))])) (fun _ kgo => XS.iconst X20.here hx rfl (hb hby at_262) kgo) ?_
                      have hE21 : own_b ((!dt && (!dp && !dd))) = (0 : Int32) := by simp only [hc29]; first | done | rfl
                      exact own_cast (by rw [hE21]) J21
                    ·
                      refine own_go (g' := (mkF m 248 #[.val (.long q0), .second, .val (.long q1), .second, .val (.long q2), .second, .val (.long q3), .second, .val (.int p4), .val (.int p5), .val (.long dl), .second, .val (.int (own_b dt)), .val (.int (own_b dp)), .val (.int (own_b dd)), .val (.long bt), .second, .val (.long bp), .second, .val (.long bd), .second, .val (.ref r8), .val (.ref r9), .val (.ref r11), .val (.ref r13), .val (.ref b15), .val (.ref b18), .unset, .unset, .unset, .unset] [])) (fun _ kgo => XS.ifNo X20.here hx rfl (hb hby at_245) rfl ((if0 _ _).trans (teq (own_b_f hc29)).2) kgo) ?_
                      refine own_go (g' := (mkF m 250 #[.val (.long q0), .second, .val (.long q1), .second, .val (.long q2), .second, .val (.long q3), .second, .val (.int p4), .val (.int p5), .val (.long dl), .second, .val (.int (own_b dt)), .val (.int (own_b dp)), .val (.int (own_b dd)), .val (.long bt), .second, .val (.long bp), .second, .val (.long bd), .second, .val (.ref r8), .val (.ref r9), .val (.ref r11), .val (.ref r13), .val (.ref b15), .val (.ref b18), .unset, .unset, .unset, .unset] [(.int (own_b dp))])) (fun _ kgo => XS.iload X20.here hx rfl (hb hby at_248) rfl kgo) ?_
                      have J30 : own_Go p e below (own_PostW s QQ 40 4288) T20 (mkF m 263 #[.val (.long q0), .second, .val (.long q1), .second, .val (.long q2), .second, .val (.long q3), .second, .val (.int p4), .val (.int p5), .val (.long dl), .second, .val (.int (own_b dt)), .val (.int (own_b dp)), .val (.int (own_b dd)), .val (.long bt), .second, .val (.long bp), .second, .val (.long bd), .second, .val (.ref r8), .val (.ref r9), .val (.ref r11), .val (.ref r13), .val (.ref b15), .val (.ref b18), .unset, .unset, .unset, .unset] [(.int (own_b ((!dp && !dd))))]) := by
                        have hE21 : own_b ((!dt && (!dp && !dd))) = (own_b ((!dp && !dd))) := by simp only [(Bool.eq_false_iff.mpr hc29)]; first | done | rfl
                        exact own_cast (by rw [hE21]) J21
                      by_cases hc31 : dp = true
                      ·
                        refine own_go (g' := (mkF m 262 #[.val (.long q0), .second, .val (.long q1), .second, .val (.long q2), .second, .val (.long q3), .second, .val (.int p4), .val (.int p5), .val (.long dl), .second, .val (.int (own_b dt)), .val (.int (own_b dp)), .val (.int (own_b dd)), .val (.long bt), .second, .val (.long bp), .second, .val (.long bd), .second, .val (.ref r8), .val (.ref r9), .val (.ref r11), .val (.ref r13), .val (.ref b15), .val (.ref b18), .unset, .unset, .unset, .unset] [])) (fun _ kgo => XS.ifYes X20.here hx rfl (pc0 := 250) (pc' := 262) rfl (hb hby at_250) rfl ((if0 _ _).trans (feq (own_b_n hc31)).2) (by decide) (by decide) kgo) ?_
                        refine own_go (g' := (mkF m 263 #[.val (.long q0), .second, .val (.long q1), .second, .val (.long q2), .second, .val (.long q3), .second, .val (.int p4), .val (.int p5), .val (.long dl), .second, .val (.int (own_b dt)), .val (.int (own_b dp)), .val (.int (own_b dd)), .val (.long bt), .second, .val (.long bp), .second, .val (.long bd), .second, .val (.ref r8), .val (.ref r9), .val (.ref r11), .val (.ref r13), .val (.ref b15), .val (.ref b18), .unset, .unset, .unset, .unset] [(.int (0 : Int32))])) (fun _ kgo => XS.iconst X20.here hx rfl (hb hby at_262) kgo) ?_
                        have hE30 : own_b ((!dp && !dd)) = (0 : Int32) := by simp only [hc31]; first | done | rfl
                        exact own_cast (by rw [hE30]) J30
                      ·
                        refine own_go (g' := (mkF m 253 #[.val (.long q0), .second, .val (.long q1), .second, .val (.long q2), .second, .val (.long q3), .second, .val (.int p4), .val (.int p5), .val (.long dl), .second, .val (.int (own_b dt)), .val (.int (own_b dp)), .val (.int (own_b dd)), .val (.long bt), .second, .val (.long bp), .second, .val (.long bd), .second, .val (.ref r8), .val (.ref r9), .val (.ref r11), .val (.ref r13), .val (.ref b15), .val (.ref b18), .unset, .unset, .unset, .unset] [])) (fun _ kgo => XS.ifNo X20.here hx rfl (hb hby at_250) rfl ((if0 _ _).trans (teq (own_b_f hc31)).2) kgo) ?_
                        refine own_go (g' := (mkF m 255 #[.val (.long q0), .second, .val (.long q1), .second, .val (.long q2), .second, .val (.long q3), .second, .val (.int p4), .val (.int p5), .val (.long dl), .second, .val (.int (own_b dt)), .val (.int (own_b dp)), .val (.int (own_b dd)), .val (.long bt), .second, .val (.long bp), .second, .val (.long bd), .second, .val (.ref r8), .val (.ref r9), .val (.ref r11), .val (.ref r13), .val (.ref b15), .val (.ref b18), .unset, .unset, .unset, .unset] [(.int (own_b dd))])) (fun _ kgo => XS.iload X20.here hx rfl (hb hby at_253) rfl kgo) ?_
                        have J32 : own_Go p e below (own_PostW s QQ 40 4288) T20 (mkF m 263 #[.val (.long q0), .second, .val (.long q1), .second, .val (.long q2), .second, .val (.long q3), .second, .val (.int p4), .val (.int p5), .val (.long dl), .second, .val (.int (own_b dt)), .val (.int (own_b dp)), .val (.int (own_b dd)), .val (.long bt), .second, .val (.long bp), .second, .val (.long bd), .second, .val (.ref r8), .val (.ref r9), .val (.ref r11), .val (.ref r13), .val (.ref b15), .val (.ref b18), .unset, .unset, .unset, .unset] [(.int (own_b (!dd)))]) := by
                          have hE30 : own_b ((!dp && !dd)) = (own_b (!dd)) := by simp only [(Bool.eq_false_iff.mpr hc31)]; first | done | rfl
                          exact own_cast (by rw [hE30]) J30
                        by_cases hc33 : dd = true
                        ·
                          refine own_go (g' := (mkF m 262 #[.val (.long q0), .second, .val (.long q1), .second, .val (.long q2), .second, .val (.long q3), .second, .val (.int p4), .val (.int p5), .val (.long dl), .second, .val (.int (own_b dt)), .val (.int (own_b dp)), .val (.int (own_b dd)), .val (.long bt), .second, .val (.long bp), .second, .val (.long bd), .second, .val (.ref r8), .val (.ref r9), .val (.ref r11), .val (.ref r13), .val (.ref b15), .val (.ref b18), .unset, .unset, .unset, .unset] [])) (fun _ kgo => XS.ifYes X20.here hx rfl (pc0 := 255) (pc' := 262) rfl (hb hby at_255) rfl ((if0 _ _).trans (feq (own_b_n hc33)).2) (by decide) (by decide) kgo) ?_
                          refine own_go (g' := (mkF m 263 #[.val (.long q0), .second, .val (.long q1), .second, .val (.long q2), .second, .val (.long q3), .second, .val (.int p4), .val (.int p5), .val (.long dl), .second, .val (.int (own_b dt)), .val (.int (own_b dp)), .val (.int (own_b dd)), .val (.long bt), .second, .val (.long bp), .second, .val (.long bd), .second, .val (.ref r8), .val (.ref r9), .val (.ref r11), .val (.ref r13), .val (.ref b15), .val (.ref b18), .unset, .unset, .unset, .unset] [(.int (0 : Int32))])) (fun _ kgo => XS.iconst X20.here hx rfl (hb hby at_262) kgo) ?_
                          have hE32 : own_b (!dd) = (0 : Int32) := by simp only [hc33]; first | done | rfl
                          exact own_cast (by rw [hE32]) J32
                        ·
                          refine own_go (g' := (mkF m 258 #[.val (.long q0), .second, .val (.long q1), .second, .val (.long q2), .second, .val (.long q3), .second, .val (.int p4), .val (.int p5), .val (.long dl), .second, .val (.int (own_b dt)), .val (.int (own_b dp)), .val (.int (own_b dd)), .val (.long bt), .second, .val (.long bp), .second, .val (.long bd), .second, .val (.ref r8), .val (.ref r9), .val (.ref r11), .val (.ref r13), .val (.ref b15), .val (.ref b18), .unset, .unset, .unset, .unset] [])) (fun _ kgo => XS.ifNo X20.here hx rfl (hb hby at_255) rfl ((if0 _ _).trans (teq (own_b_f hc33)).2) kgo) ?_
                          refine own_go (g' := (mkF m 259 #[.val (.long q0), .second, .val (.long q1), .second, .val (.long q2), .second, .val (.long q3), .second, .val (.int p4), .val (.int p5), .val (.long dl), .second, .val (.int (own_b dt)), .val (.int (own_b dp)), .val (.int (own_b dd)), .val (.long bt), .second, .val (.long bp), .second, .val (.long bd), .second, .val (.ref r8), .val (.ref r9), .val (.ref r11), .val (.ref r13), .val (.ref b15), .val (.ref b18), .unset, .unset, .unset, .unset] [(.int (1 : Int32))])) (fun _ kgo => XS.iconst X20.here hx rfl (hb hby at_258) kgo) ?_
                          refine own_go (g' := (mkF m 263 #[.val (.long q0), .second, .val (.long q1), .second, .val (.long q2), .second, .val (.long q3), .second, .val (.int p4), .val (.int p5), .val (.long dl), .second, .val (.int (own_b dt)), .val (.int (own_b dp)), .val (.int (own_b dd)), .val (.long bt), .second, .val (.long bp), .second, .val (.long bd), .second, .val (.ref r8), .val (.ref r9), .val (.ref r11), .val (.ref r13), .val (.ref b15), .val (.ref b18), .unset, .unset, .unset, .unset] [(.int (1 : Int32))])) (fun _ kgo => XS.goto X20.here hx rfl (pc0 := 259) (pc' := 263) rfl (hb hby at_259) (by decide) (by decide) kgo) ?_
                          have hE32 : own_b (!dd) = (1 : Int32) := by simp only [(Bool.eq_false_iff.mpr hc33)]; first | done | rfl
                          exact own_cast (by rw [hE32]) J32
                  by_cases hc34 : (p4 &&& (16 : Int32)) = (0 : Int32)
                  ·
                    refine own_go (g' := (mkF m 237 #[.val (.long q0), .second, .val (.long q1), .second, .val (.long q2), .second, .val (.long q3), .second, .val (.int p4), .val (.int p5), .val (.long dl), .second, .val (.int (own_b dt)), .val (.int (own_b dp)), .val (.int (own_b dd)), .val (.long bt), .second, .val (.long bp), .second, .val (.long bd), .second, .val (.ref r8), .val (.ref r9), .val (.ref r11), .val (.ref r13), .val (.ref b15), .unset, .unset, .unset, .unset, .unset] [(.long ((p5.toInt64) ^^^ q0)), (.long q3), (.ref r8), (.ref r9), (.ref r11), (.ref r13), (.long bd), (.long bp), (.long bt), (.ref b18), (.ref b18)])) (fun _ kgo => XS.ifYes X18.here hx rfl (pc0 := 230) (pc' := 237) rfl (hb hby at_230) rfl ((if0 _ _).trans (teq hc34).1) (by decide) (by decide) kgo) ?_
                    refine own_go (g' := (mkF m 238 #[.val (.long q0), .second, .val (.long q1), .second, .val (.long q2), .second, .val (.long q3), .second, .val (.int p4), .val (.int p5), .val (.long dl), .second, .val (.int (own_b dt)), .val (.int (own_b dp)), .val (.int (own_b dd)), .val (.long bt), .second, .val (.long bp), .second, .val (.long bd), .second, .val (.ref r8), .val (.ref r9), .val (.ref r11), .val (.ref r13), .val (.ref b15), .unset, .unset, .unset, .unset, .unset] [(.int (0 : Int32)), (.long ((p5.toInt64) ^^^ q0)), (.long q3), (.ref r8), (.ref r9), (.ref r11), (.ref r13), (.long bd), (.long bp), (.long bt), (.ref b18), (.ref b18)])) (fun _ kgo => XS.iconst X18.here hx rfl (hb hby at_237) kgo) ?_
                    have hE19 : own_b (!decide ((p4 &&& (16 : Int32)) = (0 : Int32))) = (0 : Int32) := by simp only [decide_eq_true hc34]; first | done | rfl
                    exact own_cast (by rw [hE19]) J19
                  ·
                    refine own_go (g' := (mkF m 233 #[.val (.long q0), .second, .val (.long q1), .second, .val (.long q2), .second, .val (.long q3), .second, .val (.int p4), .val (.int p5), .val (.long dl), .second, .val (.int (own_b dt)), .val (.int (own_b dp)), .val (.int (own_b dd)), .val (.long bt), .second, .val (.long bp), .second, .val (.long bd), .second, .val (.ref r8), .val (.ref r9), .val (.ref r11), .val (.ref r13), .val (.ref b15), .unset, .unset, .unset, .unset, .unset] [(.long ((p5.toInt64) ^^^ q0)), (.long q3), (.ref r8), (.ref r9), (.ref r11), (.ref r13), (.long bd), (.long bp), (.long bt), (.ref b18), (.ref b18)])) (fun _ kgo => XS.ifNo X18.here hx rfl (hb hby at_230) rfl ((if0 _ _).trans (feq hc34).1) kgo) ?_
                    refine own_go (g' := (mkF m 234 #[.val (.long q0), .second, .val (.long q1), .second, .val (.long q2), .second, .val (.long q3), .second, .val (.int p4), .val (.int p5), .val (.long dl), .second, .val (.int (own_b dt)), .val (.int (own_b dp)), .val (.int (own_b dd)), .val (.long bt), .second, .val (.long bp), .second, .val (.long bd), .second, .val (.ref r8), .val (.ref r9), .val (.ref r11), .val (.ref r13), .val (.ref b15), .unset, .unset, .unset, .unset, .unset] [(.int (1 : Int32)), (.long ((p5.toInt64) ^^^ q0)), (.long q3), (.ref r8), (.ref r9), (.ref r11), (.ref r13), (.long bd), (.long bp), (.long bt), (.ref b18), (.ref b18)])) (fun _ kgo => XS.iconst X18.here hx rfl (hb hby at_233) kgo) ?_
                    refine own_go (g' := (mkF m 238 #[.val (.long q0), .second, .val (.long q1), .second, .val (.long q2), .second, .val (.long q3), .second, .val (.int p4), .val (.int p5), .val (.long dl), .second, .val (.int (own_b dt)), .val (.int (own_b dp)), .val (.int (own_b dd)), .val (.long bt), .second, .val (.long bp), .second, .val (.long bd), .second, .val (.ref r8), .val (.ref r9), .val (.ref r11), .val (.ref r13), .val (.ref b15), .unset, .unset, .unset, .unset, .unset] [(.int (1 : Int32)), (.long ((p5.toInt64) ^^^ q0)), (.long q3), (.ref r8), (.ref r9), (.ref r11), (.ref r13), (.long bd), (.long bp), (.long bt), (.ref b18), (.ref b18)])) (fun _ kgo => XS.goto X18.here hx rfl (pc0 := 234) (pc' := 238) rfl (hb hby at_234) (by decide) (by decide) kgo) ?_
                    have hE19 : own_b (!decide ((p4 &&& (16 : Int32)) = (0 : Int32))) = (1 : Int32) := by simp only [decide_eq_false hc34]; first | done | rfl
                    exact own_cast (by rw [hE19]) J19
                by_cases hc35 : (p4 &&& (8 : Int32)) = (0 : Int32)
                ·
                  refine own_go (g' := (mkF m 194 #[.val (.long q0), .second, .val (.long q1), .second, .val (.long q2), .second, .val (.long q3), .second, .val (.int p4), .val (.int p5), .val (.long dl), .second, .val (.int (own_b dt)), .val (.int (own_b dp)), .val (.int (own_b dd)), .val (.long bt), .second, .val (.long bp), .second, .val (.long bd), .second, .val (.ref r8), .val (.ref r9), .val (.ref r11), .val (.ref r13), .unset, .unset, .unset, .unset, .unset, .unset] [(.long q3), (.long (p5.toInt64)), (.ref r13), (.ref r11), (.ref r9), (.ref r8), (.long q2), (.long q1), (.long q0), (.ref b15), (.ref b15)])) (fun _ kgo => XS.ifYes X15.here hx rfl (pc0 := 187) (pc' := 194) rfl (hb hby at_187) rfl ((if0 _ _).trans (teq hc35).1) (by decide) (by decide) kgo) ?_
                  refine own_go (g' := (mkF m 195 #[.val (.long q0), .second, .val (.long q1), .second, .val (.long q2), .second, .val (.long q3), .second, .val (.int p4), .val (.int p5), .val (.long dl), .second, .val (.int (own_b dt)), .val (.int (own_b dp)), .val (.int (own_b dd)), .val (.long bt), .second, .val (.long bp), .second, .val (.long bd), .second, .val (.ref r8), .val (.ref r9), .val (.ref r11), .val (.ref r13), .unset, .unset, .unset, .unset, .unset, .unset] [(.int (0 : Int32)), (.long q3), (.long (p5.toInt64)), (.ref r13), (.ref r11), (.ref r9), (.ref r8), (.long q2), (.long q1), (.long q0), (.ref b15), (.ref b15)])) (fun _ kgo => XS.iconst X15.here hx rfl (hb hby at_194) kgo) ?_
                  have hE16 : own_b (!decide ((p4 &&& (8 : Int32)) = (0 : Int32))) = (0 : Int32) := by simp only [decide_eq_true hc35]; first | done | rfl
                  exact own_cast (by rw [hE16]) J16
                ·
                  refine own_go (g' := (mkF m 190 #[.val (.long q0), .second, .val (.long q1), .second, .val (.long q2), .second, .val (.long q3), .second, .val (.int p4), .val (.int p5), .val (.long dl), .second, .val (.int (own_b dt)), .val (.int (own_b dp)), .val (.int (own_b dd)), .val (.long bt), .second, .val (.long bp), .second, .val (.long bd), .second, .val (.ref r8), .val (.ref r9), .val (.ref r11), .val (.ref r13), .unset, .unset, .unset, .unset, .unset, .unset] [(.long q3), (.long (p5.toInt64)), (.ref r13), (.ref r11), (.ref r9), (.ref r8), (.long q2), (.long q1), (.long q0), (.ref b15), (.ref b15)])) (fun _ kgo => XS.ifNo X15.here hx rfl (hb hby at_187) rfl ((if0 _ _).trans (feq hc35).1) kgo) ?_
                  refine own_go (g' := (mkF m 191 #[.val (.long q0), .second, .val (.long q1), .second, .val (.long q2), .second, .val (.long q3), .second, .val (.int p4), .val (.int p5), .val (.long dl), .second, .val (.int (own_b dt)), .val (.int (own_b dp)), .val (.int (own_b dd)), .val (.long bt), .second, .val (.long bp), .second, .val (.long bd), .second, .val (.ref r8), .val (.ref r9), .val (.ref r11), .val (.ref r13), .unset, .unset, .unset, .unset, .unset, .unset] [(.int (1 : Int32)), (.long q3), (.long (p5.toInt64)), (.ref r13), (.ref r11), (.ref r9), (.ref r8), (.long q2), (.long q1), (.long q0), (.ref b15), (.ref b15)])) (fun _ kgo => XS.iconst X15.here hx rfl (hb hby at_190) kgo) ?_
                  refine own_go (g' := (mkF m 195 #[.val (.long q0), .second, .val (.long q1), .second, .val (.long q2), .second, .val (.long q3), .second, .val (.int p4), .val (.int p5), .val (.long dl), .second, .val (.int (own_b dt)), .val (.int (own_b dp)), .val (.int (own_b dd)), .val (.long bt), .second, .val (.long bp), .second, .val (.long bd), .second, .val (.ref r8), .val (.ref r9), .val (.ref r11), .val (.ref r13), .unset, .unset, .unset, .unset, .unset, .unset] [(.int (1 : Int32)), (.long q3), (.long (p5.toInt64)), (.ref r13), (.ref r11), (.ref r9), (.ref r8), (.long q2), (.long q1), (.long q0), (.ref b15), (.ref b15)])) (fun _ kgo => XS.goto X15.here hx rfl (pc0 := 191) (pc' := 195) rfl (hb hby at_191) (by decide) (by decide) kgo) ?_
                  have hE16 : own_b (!decide ((p4 &&& (8 : Int32)) = (0 : Int32))) = (1 : Int32) := by simp only [decide_eq_false hc35]; first | done | rfl
                  exact own_cast (by rw [hE16]) J16
              by_cases hc36 : dd = true
              ·
                refine own_go (g' := (mkF m 92 #[.val (.long q0), .second, .val (.long q1), .second, .val (.long q2), .second, .val (.long q3), .second, .val (.int p4), .val (.int p5), .val (.long dl), .second, .val (.int (own_b dt)), .val (.int (own_b dp)), .val (.int (own_b dd)), .val (.long bt), .second, .val (.long bp), .second, .unset, .unset, .unset, .unset, .unset, .unset, .unset, .unset, .unset, .unset, .unset, .unset] [])) (fun _ kgo => XS.ifNo X0.here hx rfl (hb hby at_89) rfl ((if0 _ _).trans (feq (own_b_n hc36)).1) kgo) ?_
                refine own_go (g' := (mkF m 94 #[.val (.long q0), .second, .val (.long q1), .second, .val (.long q2), .second, .val (.long q3), .second, .val (.int p4), .val (.int p5), .val (.long dl), .second, .val (.int (own_b dt)), .val (.int (own_b dp)), .val (.int (own_b dd)), .val (.long bt), .second, .val (.long bp), .second, .unset, .unset, .unset, .unset, .unset, .unset, .unset, .unset, .unset, .unset, .unset, .unset] [(.long q2)])) (fun _ kgo => XS.lload X0.here hx rfl (hb hby at_92) rfl kgo) ?_
                refine own_go (g' := (mkF m 96 #[.val (.long q0), .second, .val (.long q1), .second, .val (.long q2), .second, .val (.long q3), .second, .val (.int p4), .val (.int p5), .val (.long dl), .second, .val (.int (own_b dt)), .val (.int (own_b dp)), .val (.int (own_b dd)), .val (.long bt), .second, .val (.long bp), .second, .unset, .unset, .unset, .unset, .unset, .unset, .unset, .unset, .unset, .unset, .unset, .unset] [(.long dl), (.long q2)])) (fun _ kgo => XS.lload X0.here hx rfl (hb hby at_94) rfl kgo) ?_
                refine own_go (g' := (mkF m 97 #[.val (.long q0), .second, .val (.long q1), .second, .val (.long q2), .second, .val (.long q3), .second, .val (.int p4), .val (.int p5), .val (.long dl), .second, .val (.int (own_b dt)), .val (.int (own_b dp)), .val (.int (own_b dd)), .val (.long bt), .second, .val (.long bp), .second, .unset, .unset, .unset, .unset, .unset, .unset, .unset, .unset, .unset, .unset, .unset, .unset] [(.long (q2 ^^^ dl))])) (fun _ kgo => XS.lxor X0.here hx rfl (hb hby at_96) rfl kgo) ?_
                refine own_go (g' := (mkF m 102 #[.val (.long q0), .second, .val (.long q1), .second, .val (.long q2), .second, .val (.long q3), .second, .val (.int p4), .val (.int p5), .val (.long dl), .second, .val (.int (own_b dt)), .val (.int (own_b dp)), .val (.int (own_b dd)), .val (.long bt), .second, .val (.long bp), .second, .unset, .unset, .unset, .unset, .unset, .unset, .unset, .unset, .unset, .unset, .unset, .unset] [(.long (q2 ^^^ dl))])) (fun _ kgo => XS.goto X0.here hx rfl (pc0 := 97) (pc' := 102) rfl (hb hby at_97) (by decide) (by decide) kgo) ?_
                exact J7 (q2 ^^^ dl) ⟨fun _ => own_xne hdl, fun q => absurd (hc36.symm.trans q) (by decide)⟩
              ·
                refine own_go (g' := (mkF m 100 #[.val (.long q0), .second, .val (.long q1), .second, .val (.long q2), .second, .val (.long q3), .second, .val (.int p4), .val (.int p5), .val (.long dl), .second, .val (.int (own_b dt)), .val (.int (own_b dp)), .val (.int (own_b dd)), .val (.long bt), .second, .val (.long bp), .second, .unset, .unset, .unset, .unset, .unset, .unset, .unset, .unset, .unset, .unset, .unset, .unset] [])) (fun _ kgo => XS.ifYes X0.here hx rfl (pc0 := 89) (pc' := 100) rfl (hb hby at_89) rfl ((if0 _ _).trans (teq (own_b_f hc36)).1) (by decide) (by decide) kgo) ?_
                refine own_go (g' := (mkF m 102 #[.val (.long q0), .second, .val (.long q1), .second, .val (.long q2), .second, .val (.long q3), .second, .val (.int p4), .val (.int p5), .val (.long dl), .second, .val (.int (own_b dt)), .val (.int (own_b dp)), .val (.int (own_b dd)), .val (.long bt), .second, .val (.long bp), .second, .unset, .unset, .unset, .unset, .unset, .unset, .unset, .unset, .unset, .unset, .unset, .unset] [(.long q2)])) (fun _ kgo => XS.lload X0.here hx rfl (hb hby at_100) rfl kgo) ?_
                exact J7 q2 ⟨fun q => absurd q hc36, fun _ => rfl⟩
            by_cases hc37 : dp = true
            ·
              refine own_go (g' := (mkF m 77 #[.val (.long q0), .second, .val (.long q1), .second, .val (.long q2), .second, .val (.long q3), .second, .val (.int p4), .val (.int p5), .val (.long dl), .second, .val (.int (own_b dt)), .val (.int (own_b dp)), .val (.int (own_b dd)), .val (.long bt), .second, .unset, .unset, .unset, .unset, .unset, .unset, .unset, .unset, .unset, .unset, .unset, .unset, .unset, .unset] [])) (fun _ kgo => XS.ifNo X0.here hx rfl (hb hby at_74) rfl ((if0 _ _).trans (feq (own_b_n hc37)).1) kgo) ?_
              refine own_go (g' := (mkF m 78 #[.val (.long q0), .second, .val (.long q1), .second, .val (.long q2), .second, .val (.long q3), .second, .val (.int p4), .val (.int p5), .val (.long dl), .second, .val (.int (own_b dt)), .val (.int (own_b dp)), .val (.int (own_b dd)), .val (.long bt), .second, .unset, .unset, .unset, .unset, .unset, .unset, .unset, .unset, .unset, .unset, .unset, .unset, .unset, .unset] [(.long q1)])) (fun _ kgo => XS.lloadN X0.here hx rfl (hb hby at_77) rfl kgo) ?_
              refine own_go (g' := (mkF m 80 #[.val (.long q0), .second, .val (.long q1), .second, .val (.long q2), .second, .val (.long q3), .second, .val (.int p4), .val (.int p5), .val (.long dl), .second, .val (.int (own_b dt)), .val (.int (own_b dp)), .val (.int (own_b dd)), .val (.long bt), .second, .unset, .unset, .unset, .unset, .unset, .unset, .unset, .unset, .unset, .unset, .unset, .unset, .unset, .unset] [(.long dl), (.long q1)])) (fun _ kgo => XS.lload X0.here hx rfl (hb hby at_78) rfl kgo) ?_
              refine own_go (g' := (mkF m 81 #[.val (.long q0), .second, .val (.long q1), .second, .val (.long q2), .second, .val (.long q3), .second, .val (.int p4), .val (.int p5), .val (.long dl), .second, .val (.int (own_b dt)), .val (.int (own_b dp)), .val (.int (own_b dd)), .val (.long bt), .second, .unset, .unset, .unset, .unset, .unset, .unset, .unset, .unset, .unset, .unset, .unset, .unset, .unset, .unset] [(.long (q1 ^^^ dl))])) (fun _ kgo => XS.lxor X0.here hx rfl (hb hby at_80) rfl kgo) ?_
              refine own_go (g' := (mkF m 85 #[.val (.long q0), .second, .val (.long q1), .second, .val (.long q2), .second, .val (.long q3), .second, .val (.int p4), .val (.int p5), .val (.long dl), .second, .val (.int (own_b dt)), .val (.int (own_b dp)), .val (.int (own_b dd)), .val (.long bt), .second, .unset, .unset, .unset, .unset, .unset, .unset, .unset, .unset, .unset, .unset, .unset, .unset, .unset, .unset] [(.long (q1 ^^^ dl))])) (fun _ kgo => XS.goto X0.here hx rfl (pc0 := 81) (pc' := 85) rfl (hb hby at_81) (by decide) (by decide) kgo) ?_
              exact J6 (q1 ^^^ dl) ⟨fun _ => own_xne hdl, fun q => absurd (hc37.symm.trans q) (by decide)⟩
            ·
              refine own_go (g' := (mkF m 84 #[.val (.long q0), .second, .val (.long q1), .second, .val (.long q2), .second, .val (.long q3), .second, .val (.int p4), .val (.int p5), .val (.long dl), .second, .val (.int (own_b dt)), .val (.int (own_b dp)), .val (.int (own_b dd)), .val (.long bt), .second, .unset, .unset, .unset, .unset, .unset, .unset, .unset, .unset, .unset, .unset, .unset, .unset, .unset, .unset] [])) (fun _ kgo => XS.ifYes X0.here hx rfl (pc0 := 74) (pc' := 84) rfl (hb hby at_74) rfl ((if0 _ _).trans (teq (own_b_f hc37)).1) (by decide) (by decide) kgo) ?_
              refine own_go (g' := (mkF m 85 #[.val (.long q0), .second, .val (.long q1), .second, .val (.long q2), .second, .val (.long q3), .second, .val (.int p4), .val (.int p5), .val (.long dl), .second, .val (.int (own_b dt)), .val (.int (own_b dp)), .val (.int (own_b dd)), .val (.long bt), .second, .unset, .unset, .unset, .unset, .unset, .unset, .unset, .unset, .unset, .unset, .unset, .unset, .unset, .unset] [(.long q1)])) (fun _ kgo => XS.lloadN X0.here hx rfl (hb hby at_84) rfl kgo) ?_
              exact J6 q1 ⟨fun q => absurd q hc37, fun _ => rfl⟩
          by_cases hc38 : dt = true
          ·
            refine own_go (g' := (mkF m 62 #[.val (.long q0), .second, .val (.long q1), .second, .val (.long q2), .second, .val (.long q3), .second, .val (.int p4), .val (.int p5), .val (.long dl), .second, .val (.int (own_b dt)), .val (.int (own_b dp)), .val (.int (own_b dd)), .unset, .unset, .unset, .unset, .unset, .unset, .unset, .unset, .unset, .unset, .unset, .unset, .unset, .unset, .unset, .unset] [])) (fun _ kgo => XS.ifNo X0.here hx rfl (hb hby at_59) rfl ((if0 _ _).trans (feq (own_b_n hc38)).1) kgo) ?_
            refine own_go (g' := (mkF m 63 #[.val (.long q0), .second, .val (.long q1), .second, .val (.long q2), .second, .val (.long q3), .second, .val (.int p4), .val (.int p5), .val (.long dl), .second, .val (.int (own_b dt)), .val (.int (own_b dp)), .val (.int (own_b dd)), .unset, .unset, .unset, .unset, .unset, .unset, .unset, .unset, .unset, .unset, .unset, .unset, .unset, .unset, .unset, .unset] [(.long q0)])) (fun _ kgo => XS.lloadN X0.here hx rfl (hb hby at_62) rfl kgo) ?_
            refine own_go (g' := (mkF m 65 #[.val (.long q0), .second, .val (.long q1), .second, .val (.long q2), .second, .val (.long q3), .second, .val (.int p4), .val (.int p5), .val (.long dl), .second, .val (.int (own_b dt)), .val (.int (own_b dp)), .val (.int (own_b dd)), .unset, .unset, .unset, .unset, .unset, .unset, .unset, .unset, .unset, .unset, .unset, .unset, .unset, .unset, .unset, .unset] [(.long dl), (.long q0)])) (fun _ kgo => XS.lload X0.here hx rfl (hb hby at_63) rfl kgo) ?_
            refine own_go (g' := (mkF m 66 #[.val (.long q0), .second, .val (.long q1), .second, .val (.long q2), .second, .val (.long q3), .second, .val (.int p4), .val (.int p5), .val (.long dl), .second, .val (.int (own_b dt)), .val (.int (own_b dp)), .val (.int (own_b dd)), .unset, .unset, .unset, .unset, .unset, .unset, .unset, .unset, .unset, .unset, .unset, .unset, .unset, .unset, .unset, .unset] [(.long (q0 ^^^ dl))])) (fun _ kgo => XS.lxor X0.here hx rfl (hb hby at_65) rfl kgo) ?_
            refine own_go (g' := (mkF m 70 #[.val (.long q0), .second, .val (.long q1), .second, .val (.long q2), .second, .val (.long q3), .second, .val (.int p4), .val (.int p5), .val (.long dl), .second, .val (.int (own_b dt)), .val (.int (own_b dp)), .val (.int (own_b dd)), .unset, .unset, .unset, .unset, .unset, .unset, .unset, .unset, .unset, .unset, .unset, .unset, .unset, .unset, .unset, .unset] [(.long (q0 ^^^ dl))])) (fun _ kgo => XS.goto X0.here hx rfl (pc0 := 66) (pc' := 70) rfl (hb hby at_66) (by decide) (by decide) kgo) ?_
            exact J5 (q0 ^^^ dl) ⟨fun _ => own_xne hdl, fun q => absurd (hc38.symm.trans q) (by decide)⟩
          ·
            refine own_go (g' := (mkF m 69 #[.val (.long q0), .second, .val (.long q1), .second, .val (.long q2), .second, .val (.long q3), .second, .val (.int p4), .val (.int p5), .val (.long dl), .second, .val (.int (own_b dt)), .val (.int (own_b dp)), .val (.int (own_b dd)), .unset, .unset, .unset, .unset, .unset, .unset, .unset, .unset, .unset, .unset, .unset, .unset, .unset, .unset, .unset, .unset] [])) (fun _ kgo => XS.ifYes X0.here hx rfl (pc0 := 59) (pc' := 69) rfl (hb hby at_59) rfl ((if0 _ _).trans (teq (own_b_f hc38)).1) (by decide) (by decide) kgo) ?_
            refine own_go (g' := (mkF m 70 #[.val (.long q0), .second, .val (.long q1), .second, .val (.long q2), .second, .val (.long q3), .second, .val (.int p4), .val (.int p5), .val (.long dl), .second, .val (.int (own_b dt)), .val (.int (own_b dp)), .val (.int (own_b dd)), .unset, .unset, .unset, .unset, .unset, .unset, .unset, .unset, .unset, .unset, .unset, .unset, .unset, .unset, .unset, .unset] [(.long q0)])) (fun _ kgo => XS.lloadN X0.here hx rfl (hb hby at_69) rfl kgo) ?_
            exact J5 q0 ⟨fun q => absurd q hc38, fun _ => rfl⟩
        by_cases hc39 : (p4 &&& (4 : Int32)) = (0 : Int32)
        ·
          refine own_go (g' := (mkF m 54 #[.val (.long q0), .second, .val (.long q1), .second, .val (.long q2), .second, .val (.long q3), .second, .val (.int p4), .val (.int p5), .val (.long dl), .second, .val (.int (own_b dt)), .val (.int (own_b dp)), .unset, .unset, .unset, .unset, .unset, .unset, .unset, .unset, .unset, .unset, .unset, .unset, .unset, .unset, .unset, .unset, .unset] [])) (fun _ kgo => XS.ifYes X0.here hx rfl (pc0 := 47) (pc' := 54) rfl (hb hby at_47) rfl ((if0 _ _).trans (teq hc39).1) (by decide) (by decide) kgo) ?_
          refine own_go (g' := (mkF m 55 #[.val (.long q0), .second, .val (.long q1), .second, .val (.long q2), .second, .val (.long q3), .second, .val (.int p4), .val (.int p5), .val (.long dl), .second, .val (.int (own_b dt)), .val (.int (own_b dp)), .unset, .unset, .unset, .unset, .unset, .unset, .unset, .unset, .unset, .unset, .unset, .unset, .unset, .unset, .unset, .unset, .unset] [(.int (0 : Int32))])) (fun _ kgo => XS.iconst X0.here hx rfl (hb hby at_54) kgo) ?_
          have hE4 : own_b (!decide ((p4 &&& (4 : Int32)) = (0 : Int32))) = (0 : Int32) := by simp only [decide_eq_true hc39]; first | done | rfl
          exact own_cast (by rw [hE4]) J4
        ·
          refine own_go (g' := (mkF m 50 #[.val (.long q0), .second, .val (.long q1), .second, .val (.long q2), .second, .val (.long q3), .second, .val (.int p4), .val (.int p5), .val (.long dl), .second, .val (.int (own_b dt)), .val (.int (own_b dp)), .unset, .unset, .unset, .unset, .unset, .unset, .unset, .unset, .unset, .unset, .unset, .unset, .unset, .unset, .unset, .unset, .unset] [])) (fun _ kgo => XS.ifNo X0.here hx rfl (hb hby at_47) rfl ((if0 _ _).trans (feq hc39).1) kgo) ?_
          refine own_go (g' := (mkF m 51 #[.val (.long q0), .second, .val (.long q1), .second, .val (.long q2), .second, .val (.long q3), .second, .val (.int p4), .val (.int p5), .val (.long dl), .second, .val (.int (own_b dt)), .val (.int (own_b dp)), .unset, .unset, .unset, .unset, .unset, .unset, .unset, .unset, .unset, .unset, .unset, .unset, .unset, .unset, .unset, .unset, .unset] [(.int (1 : Int32))])) (fun _ kgo => XS.iconst X0.here hx rfl (hb hby at_50) kgo) ?_
          refine own_go (g' := (mkF m 55 #[.val (.long q0), .second, .val (.long q1), .second, .val (.long q2), .second, .val (.long q3), .second, .val (.int p4), .val (.int p5), .val (.long dl), .second, .val (.int (own_b dt)), .val (.int (own_b dp)), .unset, .unset, .unset, .unset, .unset, .unset, .unset, .unset, .unset, .unset, .unset, .unset, .unset, .unset, .unset, .unset, .unset] [(.int (1 : Int32))])) (fun _ kgo => XS.goto X0.here hx rfl (pc0 := 51) (pc' := 55) rfl (hb hby at_51) (by decide) (by decide) kgo) ?_
          have hE4 : own_b (!decide ((p4 &&& (4 : Int32)) = (0 : Int32))) = (1 : Int32) := by simp only [decide_eq_false hc39]; first | done | rfl
          exact own_cast (by rw [hE4]) J4
      by_cases hc40 : (p4 &&& (2 : Int32)) = (0 : Int32)
      ·
        refine own_go (g' := (mkF m 40 #[.val (.long q0), .second, .val (.long q1), .second, .val (.long q2), .second, .val (.long q3), .second, .val (.int p4), .val (.int p5), .val (.long dl), .second, .val (.int (own_b dt)), .unset, .unset, .unset, .unset, .unset, .unset, .unset, .unset, .unset, .unset, .unset, .unset, .unset, .unset, .unset, .unset, .unset, .unset] [])) (fun _ kgo => XS.ifYes X0.here hx rfl (pc0 := 33) (pc' := 40) rfl (hb hby at_33) rfl ((if0 _ _).trans (teq hc40).1) (by decide) (by decide) kgo) ?_
        refine own_go (g' := (mkF m 41 #[.val (.long q0), .second, .val (.long q1), .second, .val (.long q2), .second, .val (.long q3), .second, .val (.int p4), .val (.int p5), .val (.long dl), .second, .val (.int (own_b dt)), .unset, .unset, .unset, .unset, .unset, .unset, .unset, .unset, .unset, .unset, .unset, .unset, .unset, .unset, .unset, .unset, .unset, .unset] [(.int (0 : Int32))])) (fun _ kgo => XS.iconst X0.here hx rfl (hb hby at_40) kgo) ?_
        have hE3 : own_b (!decide ((p4 &&& (2 : Int32)) = (0 : Int32))) = (0 : Int32) := by simp only [decide_eq_true hc40]; first | done | rfl
        exact own_cast (by rw [hE3]) J3
      ·
        refine own_go (g' := (mkF m 36 #[.val (.long q0), .second, .val (.long q1), .second, .val (.long q2), .second, .val (.long q3), .second, .val (.int p4), .val (.int p5), .val (.long dl), .second, .val (.int (own_b dt)), .unset, .unset, .unset, .unset, .unset, .unset, .unset, .unset, .unset, .unset, .unset, .unset, .unset, .unset, .unset, .unset, .unset, .unset] [])) (fun _ kgo => XS.ifNo X0.here hx rfl (hb hby at_33) rfl ((if0 _ _).trans (feq hc40).1) kgo) ?_
        refine own_go (g' := (mkF m 37 #[.val (.long q0), .second, .val (.long q1), .second, .val (.long q2), .second, .val (.long q3), .second, .val (.int p4), .val (.int p5), .val (.long dl), .second, .val (.int (own_b dt)), .unset, .unset, .unset, .unset, .unset, .unset, .unset, .unset, .unset, .unset, .unset, .unset, .unset, .unset, .unset, .unset, .unset, .unset] [(.int (1 : Int32))])) (fun _ kgo => XS.iconst X0.here hx rfl (hb hby at_36) kgo) ?_
        refine own_go (g' := (mkF m 41 #[.val (.long q0), .second, .val (.long q1), .second, .val (.long q2), .second, .val (.long q3), .second, .val (.int p4), .val (.int p5), .val (.long dl), .second, .val (.int (own_b dt)), .unset, .unset, .unset, .unset, .unset, .unset, .unset, .unset, .unset, .unset, .unset, .unset, .unset, .unset, .unset, .unset, .unset, .unset] [(.int (1 : Int32))])) (fun _ kgo => XS.goto X0.here hx rfl (pc0 := 37) (pc' := 41) rfl (hb hby at_37) (by decide) (by decide) kgo) ?_
        have hE3 : own_b (!decide ((p4 &&& (2 : Int32)) = (0 : Int32))) = (1 : Int32) := by simp only [decide_eq_false hc40]; first | done | rfl
        exact own_cast (by rw [hE3]) J3
    by_cases hc41 : (p4 &&& (1 : Int32)) = (0 : Int32)
    ·
      refine own_go (g' := (mkF m 26 #[.val (.long q0), .second, .val (.long q1), .second, .val (.long q2), .second, .val (.long q3), .second, .val (.int p4), .val (.int p5), .val (.long dl), .second, .unset, .unset, .unset, .unset, .unset, .unset, .unset, .unset, .unset, .unset, .unset, .unset, .unset, .unset, .unset, .unset, .unset, .unset, .unset] [])) (fun _ kgo => XS.ifYes X0.here hx rfl (pc0 := 19) (pc' := 26) rfl (hb hby at_19) rfl ((if0 _ _).trans (teq hc41).1) (by decide) (by decide) kgo) ?_
      refine own_go (g' := (mkF m 27 #[.val (.long q0), .second, .val (.long q1), .second, .val (.long q2), .second, .val (.long q3), .second, .val (.int p4), .val (.int p5), .val (.long dl), .second, .unset, .unset, .unset, .unset, .unset, .unset, .unset, .unset, .unset, .unset, .unset, .unset, .unset, .unset, .unset, .unset, .unset, .unset, .unset] [(.int (0 : Int32))])) (fun _ kgo => XS.iconst X0.here hx rfl (hb hby at_26) kgo) ?_
      have hE2 : own_b (!decide ((p4 &&& (1 : Int32)) = (0 : Int32))) = (0 : Int32) := by simp only [decide_eq_true hc41]; first | done | rfl
      exact own_cast (by rw [hE2]) J2
    ·
      refine own_go (g' := (mkF m 22 #[.val (.long q0), .second, .val (.long q1), .second, .val (.long q2), .second, .val (.long q3), .second, .val (.int p4), .val (.int p5), .val (.long dl), .second, .unset, .unset, .unset, .unset, .unset, .unset, .unset, .unset, .unset, .unset, .unset, .unset, .unset, .unset, .unset, .unset, .unset, .unset, .unset] [])) (fun _ kgo => XS.ifNo X0.here hx rfl (hb hby at_19) rfl ((if0 _ _).trans (feq hc41).1) kgo) ?_
      refine own_go (g' := (mkF m 23 #[.val (.long q0), .second, .val (.long q1), .second, .val (.long q2), .second, .val (.long q3), .second, .val (.int p4), .val (.int p5), .val (.long dl), .second, .unset, .unset, .unset, .unset, .unset, .unset, .unset, .unset, .unset, .unset, .unset, .unset, .unset, .unset, .unset, .unset, .unset, .unset, .unset] [(.int (1 : Int32))])) (fun _ kgo => XS.iconst X0.here hx rfl (hb hby at_22) kgo) ?_
      refine own_go (g' := (mkF m 27 #[.val (.long q0), .second, .val (.long q1), .second, .val (.long q2), .second, .val (.long q3), .second, .val (.int p4), .val (.int p5), .val (.long dl), .second, .unset, .unset, .unset, .unset, .unset, .unset, .unset, .unset, .unset, .unset, .unset, .unset, .unset, .unset, .unset, .unset, .unset, .unset, .unset] [(.int (1 : Int32))])) (fun _ kgo => XS.goto X0.here hx rfl (pc0 := 23) (pc' := 27) rfl (hb hby at_23) (by decide) (by decide) kgo) ?_
      have hE2 : own_b (!decide ((p4 &&& (1 : Int32)) = (0 : Int32))) = (1 : Int32) := by simp only [decide_eq_false hc41]; first | done | rfl
      exact own_cast (by rw [hE2]) J2
  by_cases hc42 : q3 = (0 : Int64)
  ·
    refine own_go (g' := (mkF m 7 #[.val (.long q0), .second, .val (.long q1), .second, .val (.long q2), .second, .val (.long q3), .second, .val (.int p4), .val (.int p5), .unset, .unset, .unset, .unset, .unset, .unset, .unset, .unset, .unset, .unset, .unset, .unset, .unset, .unset, .unset, .unset, .unset, .unset, .unset, .unset, .unset] [])) (fun _ kgo => XS.ifNo X0.here hx rfl (hb hby at_4) rfl ((if0 _ _).trans (teq ((lw_eq _ _).mpr hc42)).2) kgo) ?_
    refine own_go (g' := (mkF m 8 #[.val (.long q0), .second, .val (.long q1), .second, .val (.long q2), .second, .val (.long q3), .second, .val (.int p4), .val (.int p5), .unset, .unset, .unset, .unset, .unset, .unset, .unset, .unset, .unset, .unset, .unset, .unset, .unset, .unset, .unset, .unset, .unset, .unset, .unset, .unset, .unset] [(.long (1 : Int64))])) (fun _ kgo => XS.lconst X0.here hx rfl (hb hby at_7) kgo) ?_
    refine own_go (g' := (mkF m 13 #[.val (.long q0), .second, .val (.long q1), .second, .val (.long q2), .second, .val (.long q3), .second, .val (.int p4), .val (.int p5), .unset, .unset, .unset, .unset, .unset, .unset, .unset, .unset, .unset, .unset, .unset, .unset, .unset, .unset, .unset, .unset, .unset, .unset, .unset, .unset, .unset] [(.long (1 : Int64))])) (fun _ kgo => XS.goto X0.here hx rfl (pc0 := 8) (pc' := 13) rfl (hb hby at_8) (by decide) (by decide) kgo) ?_
    exact J1 (1 : Int64) (by decide)
  ·
    refine own_go (g' := (mkF m 11 #[.val (.long q0), .second, .val (.long q1), .second, .val (.long q2), .second, .val (.long q3), .second, .val (.int p4), .val (.int p5), .unset, .unset, .unset, .unset, .unset, .unset, .unset, .unset, .unset, .unset, .unset, .unset, .unset, .unset, .unset, .unset, .unset, .unset, .unset, .unset, .unset] [])) (fun _ kgo => XS.ifYes X0.here hx rfl (pc0 := 4) (pc' := 11) rfl (hb hby at_4) rfl ((if0 _ _).trans (feq (mt (lw_eq _ _).mp hc42)).2) (by decide) (by decide) kgo) ?_
    refine own_go (g' := (mkF m 13 #[.val (.long q0), .second, .val (.long q1), .second, .val (.long q2), .second, .val (.long q3), .second, .val (.int p4), .val (.int p5), .unset, .unset, .unset, .unset, .unset, .unset, .unset, .unset, .unset, .unset, .unset, .unset, .unset, .unset, .unset, .unset, .unset, .unset, .unset, .unset, .unset] [(.long q3)])) (fun _ kgo => XS.lload X0.here hx rfl (hb hby at_11) rfl kgo) ?_
    exact J1 q3 hc42
set_option maxRecDepth 65536 in
set_option maxHeartbeats 40000000 in
theorem comes_1 {Post : Tables → Env → Array Value → State → Outcome → State → Prop} (hpost : ∀ tb e args s v u, (limb_1_1.after args s (.returned v) u = true ∧ limb_1_2.after args s (.returned v) u = true ∧ True) → ReturnedEndW s (.returned v) u (Jvm.fieldLocs frame_1_writes args s ++ Jvm.arrayLocs frame_1_arrays args s ++ Jvm.staticLocs frame_1_statics s) 40 4288 → Post tb e args s (.returned v) u) :
    ArmFor flags0 classFile x code maxLocals ret World_1 tables_1 room_1 Calls_1 rest_1 Pre_1 Post := by
  intro l hfl _ _ p e ha hc hk s m args below hf hA hF happ hP
  obtain ⟨hcalls, hrest, hpre⟩ := hP
  obtain ⟨-, -, -, hnamed, -, -, -, hat⟩ := (Spec.applies_iff hf).mp happ
  obtain ⟨hg, hn⟩ := and_e (Cond.before_iff.mp (show (Jvm.Cond.and given_1 narrow_1).before args s = true from hpre))
  obtain ⟨g1, g2⟩ := and_e hg
  obtain ⟨g3, g4⟩ := and_e g2
  obtain ⟨g5, g6⟩ := and_e g4
  obtain ⟨g7, g8⟩ := and_e g6
  obtain ⟨g9, g10⟩ := and_e g8
  obtain ⟨g11, g12⟩ := and_e g10
  obtain ⟨w0, w1, w2, w3, w4, w5, rfl⟩ : ∃ w0 w1 w2 w3 w4 w5 : Value, args = #[w0, w1, w2, w3, w4, w5] := by
    have hs : args.size = 6 := by simpa [Cond.value, given_1] using g1
    obtain ⟨L⟩ := args
    match L, hs with
    | [w0, w1, w2, w3, w4, w5], _ => exact ⟨w0, w1, w2, w3, w4, w5, rfl⟩
  have hw := fun d (hd : d ∈ tables_1) => atoms_spec (ws := Jvm.Cond.code x code maxLocals ret :: tables_1) hat d (List.mem_cons_of_mem _ hd)
  have hfit : Fit s := fun {y c} hc i hi => by
    obtain ⟨ha, rfl⟩ := Array.getElem?_eq_some_iff.mp hc
    have q := List.all_eq_true.mp ((Array.all_eq_true_iff_forall_mem.mp hF) _ (Array.getElem_mem ha)) i (List.mem_range.mpr hi)
    simpa [Array.getElem?_eq_getElem hi] using q
  obtain ⟨hsets, hown0⟩ := atoms_of _ (rest_1_c_eq ▸ (show rest_1_c.before _ s = true from hrest))
  obtain ⟨i0, ei0⟩ := isL_v g3
  obtain rfl : w0 = (.long i0) := Option.some.inj ei0
  obtain ⟨i1, ei1⟩ := isL_v g5
  obtain rfl : w1 = (.long i1) := Option.some.inj ei1
  obtain ⟨i2, ei2⟩ := isL_v g7
  obtain rfl : w2 = (.long i2) := Option.some.inj ei2
  obtain ⟨i3, ei3⟩ := isL_v g9
  obtain rfl : w3 = (.long i3) := Option.some.inj ei3
  obtain ⟨i4, ei4⟩ := is_v g11
  obtain rfl : w4 = (.int i4) := Option.some.inj ei4
  obtain ⟨i5, ei5⟩ := is_v g12
  obtain rfl : w5 = (.int i5) := Option.some.inj ei5
  have n3 := not_v (Cond.before_iff.mp (hsets _ (List.mem_of_getElem? (i := 2) rfl)))
  obtain ⟨i77, e6⟩ := is_v (Cond.before_iff.mp (hsets _ (List.mem_of_getElem? (i := 1) rfl)))
  have S8 : Sta s s.heap "java/lang/String" "COMPACT_STRINGS" "Z" (.int i77) := Sta.start e6 (Or.inl (hsets _ (List.mem_of_getElem? (i := 0) rfl)))
  have c9 : ¬ (i77 = (0 : Int32)) := gotF (Cond.eq_ints e6 (Term.int_eval (0))) n3
  obtain ⟨n, o, h1, h2, h3, _, L, rfl, ⟨rfl, N⟩, hq⟩ := rm0 l s _ hw i0 i1 i2 i3 i4 i5 i77 s.heap s.heap.size (Nat.le_refl _) (Old.start s) S8 c9 p e ha hc hk s m _ below hf ((Spec.applies_iff_loose hf).mp happ).1 ⟨rfl, State.Warmed39.refl s, rfl⟩ trivial
  refine ⟨n, _, h1, h2, h3, hpost _ _ _ _ _ _ ⟨Cond.after_iff.mpr rfl, Cond.after_iff.mpr (eq_i res_at (Term.int_eval (1)) rfl), trivial⟩ ⟨hq.1, hq.2.1, hq.2.2.1, (hq.2.2.2.sift fun y hy => Or.inr (N y hy)).mono (by decide) (by decide)⟩⟩
theorem main_1_1 : Claimed_1_1 := comes_1 fun _ _ _ _ _ _ h hF => ⟨h.1, hF⟩
theorem main_1_2 : Claimed_1_2 := comes_1 fun _ _ _ _ _ _ h hF => ⟨h.2.1, hF⟩
end Jvm.Pilot.@@N@@
namespace Jvm.Pilot.@@N@@
open Jvm Jvm.ClassFile Sem Op Lib Jvm.Free Jvm.Stand Jvm.Pilot.@@N@@.Jvm.D
/-! MADE BY PROGRAM (witnessworld.py) out of the Statement's table words and the real class files: 19 classes; the members and pool entries that the words name. The judged class is class 1, her method 1. -/
namespace start1
open Jvm.ClassFile
def u (s : String) : CpInfo := .utf8 (stringToUtf16 s)
/-- a pool by its gaps: so many unusable entries, then the entry; so many at the end -/
def gap : Nat → List CpInfo → List CpInfo
  | 0, r => r
  | n + 1, r => .unusable :: gap n r
def poolList (es : List (Nat × CpInfo)) (last : Nat) : List CpInfo := es.foldr (fun e r => gap e.1 (e.2 :: r)) (gap last [])
def pool (es : List (Nat × CpInfo)) (last : Nat) : Array CpInfo := ⟨poolList es last⟩
def fileOf (pool : Array CpInfo) (this : Nat) (attrs : Array Attribute := #[]) (ms : Array MethodInfo := #[]) (fl : Nat := 33) (sup : Nat := 0) (ifs : Array Nat := #[]) (fds : Array FieldInfo := #[]) : ClassFile where
  minorVersion := 0
  majorVersion := 65
  constantPool := pool
  accessFlags := fl
  thisClass := this
  superClass := sup
  interfaces := ifs
  fields := fds
  methods := ms
  attributes := attrs
def plain (name : String) (sup : Option ClassId) : Class where
  name := name
  kind := .ordinary
  loader := none
  accessFlags := 33
  super := sup
  interfaces := #[]
  cf := none
  fields := #[]
  methods := #[]
  instanceTypes := #[]
  staticTypes := #[]
  resolved := #[]
  callSites := []
  init := .initialized
  statics := none
  mirror := none

def pool0 : Array CpInfo := pool [(5, u "<init>"), (0, u "()V"), (1, .class_ 10), (1, u "java/lang/Object")] 113

def k0c0 : Code := { maxStack := 0, maxLocals := 1, code := object_method_1_code, exceptionTable := #[], attributes := #[] }
def k0m0 : Method := { name := "<init>", desc := "()V", sig := { parameters := [], returnType := none }, accessFlags := 1, code := some k0c0 }
/-- java/lang/Object -/
def k0 : Class := { plain "java/lang/Object" none with
  accessFlags := 33
  interfaces := #[]
  cf := some (fileOf pool0 8 #[] #[{ accessFlags := 1, nameIndex := 5, descriptorIndex := 6, attributes := #[] }] 33 0 #[] #[])
  fields := #[]
  methods := #[k0m0]
  instanceTypes := #[]
  staticTypes := #[]
  resolved := Array.replicate 124 none
  statics := none }

def pool1 : Array CpInfo := pool [(2, .class_ 4), (1, u "java/lang/Object"), (0, u "<init>"), (0, u "()V"), (0, .methodref 8 9), (0, .class_ 10), (0, .nameAndType 11 12), (0, u "java/lang/String"), (0, u "valueOf"), (0, u "(C)Ljava/lang/String;"), (0, .class_ 14), (0, u "com/example/uptik/uptik/model/Holdings"), (0, .methodref 13 16), (0, .nameAndType 5 17), (0, u "(JJJLjava/lang/String;Ljava/lang/String;Ljava/lang/String;Ljava/lang/String;JJZ)V"), (0, .methodref 13 19), (0, .nameAndType 20 21), (0, u "sameListsAs"), (0, u "(Lcom/example/uptik/uptik/model/Holdings;)Z"), (0, .class_ 23), (0, u "com/example/uptik/uptik/model/HoldingsSameListsAsPinLaw"), (2, u "law"), (0, u "(JJJJII)Z")] 3

def k1m0 : Method := { name := "<init>", desc := "()V", sig := { parameters := [], returnType := none }, accessFlags := 1, code := none }
def k1c1 : Code := { maxStack := 18, maxLocals := 31, code := code, exceptionTable := #[], attributes := #[] }
def k1m1 : Method := { name := "law", desc := "(JJJJII)Z", sig := { parameters := [.long, .long, .long, .long, .int, .int], returnType := some .boolean }, accessFlags := 9, code := some k1c1 }
/-- com/example/uptik/uptik/model/HoldingsSameListsAsPinLaw -/
def k1 : Class := { plain "com/example/uptik/uptik/model/HoldingsSameListsAsPinLaw" (some 0) with
  accessFlags := 49
  interfaces := #[]
  cf := some (fileOf pool1 22 #[] #[{ accessFlags := 1, nameIndex := 5, descriptorIndex := 6, attributes := #[] }, { accessFlags := 9, nameIndex := 26, descriptorIndex := 27, attributes := #[] }] 49 2 #[] #[])
  fields := #[]
  methods := #[k1m0, k1m1]
  instanceTypes := #[]
  staticTypes := #[]
  resolved := Array.replicate 31 none
  statics := none }

def pool2 : Array CpInfo := pool [(1, .class_ 2), (0, u "java/io/Serializable"), (0, .class_ 4), (0, u "java/lang/Object")] 2

/-- java/io/Serializable -/
def k2 : Class := { plain "java/io/Serializable" (some 0) with
  accessFlags := 1537
  interfaces := #[]
  cf := some (fileOf pool2 1 #[] #[] 1537 3 #[] #[])
  fields := #[]
  methods := #[]
  instanceTypes := #[]
  staticTypes := #[]
  resolved := Array.replicate 7 none
  statics := none }

def pool3 : Array CpInfo := pool [(1, .class_ 2), (0, u "java/lang/Comparable"), (0, .class_ 4), (0, u "java/lang/Object")] 7

/-- java/lang/Comparable -/
def k3 : Class := { plain "java/lang/Comparable" (some 0) with
  accessFlags := 1537
  interfaces := #[]
  cf := some (fileOf pool3 1 #[] #[] 1537 3 #[] #[])
  fields := #[]
  methods := #[]
  instanceTypes := #[]
  staticTypes := #[]
  resolved := Array.replicate 12 none
  statics := none }

def pool4 : Array CpInfo := pool [(2, .class_ 4), (1, u "java/lang/CharSequence"), (42, .class_ 48), (0, u "java/lang/CharSequence$1CodePointIterator"), (10, .class_ 60), (0, u "java/lang/CharSequence$1CharIterator"), (5, .class_ 67), (0, u "java/lang/Object")] 63

/-- java/lang/CharSequence -/
def k4 : Class := { plain "java/lang/CharSequence" (some 0) with
  accessFlags := 1537
  interfaces := #[]
  cf := some (fileOf pool4 2 #[.nestMembers #[47, 59]] #[] 1537 66 #[] #[])
  fields := #[]
  methods := #[]
  instanceTypes := #[]
  staticTypes := #[]
  resolved := Array.replicate 131 none
  statics := none }

def pool5 : Array CpInfo := pool [(1, .class_ 2), (0, u "java/lang/constant/Constable"), (0, .class_ 4), (0, u "java/lang/Object")] 6

/-- java/lang/constant/Constable -/
def k5 : Class := { plain "java/lang/constant/Constable" (some 0) with
  accessFlags := 1537
  interfaces := #[]
  cf := some (fileOf pool5 1 #[] #[] 1537 3 #[] #[])
  fields := #[]
  methods := #[]
  instanceTypes := #[]
  staticTypes := #[]
  resolved := Array.replicate 11 none
  statics := none }

def pool6 : Array CpInfo := pool [(1, .class_ 2), (0, u "java/lang/constant/ConstantDesc"), (0, .class_ 4), (0, u "java/lang/Object")] 32

/-- java/lang/constant/ConstantDesc -/
def k6 : Class := { plain "java/lang/constant/ConstantDesc" (some 0) with
  accessFlags := 1537
  interfaces := #[]
  cf := some (fileOf pool6 1 #[] #[] 1537 3 #[] #[])
  fields := #[]
  methods := #[]
  instanceTypes := #[]
  staticTypes := #[]
  resolved := Array.replicate 37 none
  statics := none }

def pool7 : Array CpInfo := pool [(1, .methodref 2 3), (0, .class_ 4), (0, .nameAndType 5 6), (0, u "java/lang/Object"), (0, u "<init>"), (0, u "()V"), (2, .fieldref 10 11), (0, .class_ 12), (0, .nameAndType 13 14), (0, u "java/lang/String"), (0, u "value"), (0, u "[B"), (0, .fieldref 10 16), (0, .nameAndType 17 18), (0, u "coder"), (0, u "B"), (2, u "hash"), (0, u "I"), (2, u "hashIsZero"), (0, u "Z"), (11, .fieldref 10 39), (0, .nameAndType 40 26), (0, u "COMPACT_STRINGS"), (12, u "toBytes"), (53, .class_ 109), (1, u "java/lang/StringLatin1"), (99, .methodref 10 210), (0, .nameAndType 5 211), (0, u "([BB)V"), (157, u "(C)Z"), (205, .class_ 576), (0, u "java/lang/CharSequence"), (22, u "CASE_INSENSITIVE_ORDER"), (0, u "Ljava/util/Comparator;"), (181, u "valueOf"), (0, u "(C)Ljava/lang/String;"), (231, .methodref 107 1016), (0, .nameAndType 1017 369), (0, u "canEncode"), (0, .methodref 107 1019), (0, .nameAndType 53 1020), (0, u "(C)[B"), (80, u "serialPersistentFields"), (0, u "[Ljava/io/ObjectStreamField;"), (0, .class_ 1104), (0, u "java/lang/String$CaseInsensitiveComparator"), (1, .class_ 1107), (0, u "java/io/Serializable"), (0, .class_ 1109), (0, u "java/lang/Comparable"), (0, .class_ 1111), (0, u "java/lang/constant/Constable"), (0, .class_ 1113), (0, u "java/lang/constant/ConstantDesc"), (2, u "serialVersionUID"), (0, u "J"), (3, u "REPL"), (0, u "C"), (2, u "LATIN1"), (1, u "UTF16")] 323

def k7m0 : Method := { name := "<init>", desc := "()V", sig := { parameters := [], returnType := none }, accessFlags := 1, code := none }
def k7c1 : Code := { maxStack := 4, maxLocals := 1, code := jdk_42_method_139_code, exceptionTable := #[], attributes := #[] }
def k7m1 : Method := { name := "valueOf", desc := "(C)Ljava/lang/String;", sig := { parameters := [.char], returnType := some (.object "java/lang/String") }, accessFlags := 9, code := some k7c1 }
def k7c2 : Code := { maxStack := 2, maxLocals := 3, code := jdk_42_method_151_code, exceptionTable := #[], attributes := #[] }
def k7m2 : Method := { name := "<init>", desc := "([BB)V", sig := { parameters := [(.array .byte), .byte], returnType := none }, accessFlags := 0, code := some k7c2 }
/-- java/lang/String -/
def k7 : Class := { plain "java/lang/String" (some 0) with
  accessFlags := 49
  interfaces := #[2, 3, 4, 5, 6]
  cf := some (fileOf pool7 10 #[.nestMembers #[1103]] #[{ accessFlags := 1, nameIndex := 5, descriptorIndex := 6, attributes := #[] }, { accessFlags := 9, nameIndex := 782, descriptorIndex := 783, attributes := #[] }, { accessFlags := 0, nameIndex := 5, descriptorIndex := 211, attributes := #[] }] 49 2 #[1106, 1108, 575, 1110, 1112] #[{ accessFlags := 18, nameIndex := 13, descriptorIndex := 14, attributes := #[] }, { accessFlags := 18, nameIndex := 17, descriptorIndex := 18, attributes := #[] }, { accessFlags := 2, nameIndex := 21, descriptorIndex := 22, attributes := #[] }, { accessFlags := 2, nameIndex := 25, descriptorIndex := 26, attributes := #[] }, { accessFlags := 26, nameIndex := 1116, descriptorIndex := 1117, attributes := #[] }, { accessFlags := 24, nameIndex := 40, descriptorIndex := 26, attributes := #[] }, { accessFlags := 26, nameIndex := 1101, descriptorIndex := 1102, attributes := #[] }, { accessFlags := 26, nameIndex := 1121, descriptorIndex := 1122, attributes := #[] }, { accessFlags := 25, nameIndex := 599, descriptorIndex := 600, attributes := #[] }, { accessFlags := 24, nameIndex := 1125, descriptorIndex := 18, attributes := #[] }, { accessFlags := 24, nameIndex := 1127, descriptorIndex := 18, attributes := #[] }])
  fields := #[{ name := "value", type := (.array .byte), accessFlags := 18, slot := 0, constantValue := 0 }, { name := "coder", type := .byte, accessFlags := 18, slot := 1, constantValue := 0 }, { name := "hash", type := .int, accessFlags := 2, slot := 2, constantValue := 0 }, { name := "hashIsZero", type := .boolean, accessFlags := 2, slot := 3, constantValue := 0 }, { name := "serialVersionUID", type := .long, accessFlags := 26, slot := 0, constantValue := 0 }, { name := "COMPACT_STRINGS", type := .boolean, accessFlags := 24, slot := 1, constantValue := 0 }, { name := "serialPersistentFields", type := (.array (.object "java/io/ObjectStreamField")), accessFlags := 26, slot := 2, constantValue := 0 }, { name := "REPL", type := .char, accessFlags := 26, slot := 3, constantValue := 0 }, { name := "CASE_INSENSITIVE_ORDER", type := (.object "java/util/Comparator"), accessFlags := 25, slot := 4, constantValue := 0 }, { name := "LATIN1", type := .byte, accessFlags := 24, slot := 5, constantValue := 0 }, { name := "UTF16", type := .byte, accessFlags := 24, slot := 6, constantValue := 0 }]
  methods := #[k7m0, k7m1, k7m2]
  instanceTypes := #[(.array .byte), .byte, .int, .boolean]
  staticTypes := #[.long, .boolean, (.array (.object "java/io/ObjectStreamField")), .char, (.object "java/util/Comparator"), .byte, .byte]
  resolved := Array.replicate 1451 none
  statics := some 0 }

def pool8 : Array CpInfo := pool [(4, .class_ 6), (1, u "java/lang/Object"), (0, u "<init>"), (0, u "()V"), (5, .class_ 16), (1, u "java/lang/StringLatin1"), (73, u "canEncode"), (14, u "(C)Z"), (15, u "$assertionsDisabled"), (0, u "Z"), (98, .class_ 223), (1, u "java/lang/StringLatin1$LinesSpliterator"), (156, u "toBytes"), (1, u "(C)[B"), (7, .class_ 391), (0, u "java/lang/StringLatin1$CharsSpliterator")] 3

def k8m0 : Method := { name := "<init>", desc := "()V", sig := { parameters := [], returnType := none }, accessFlags := 0, code := none }
def k8c1 : Code := { maxStack := 2, maxLocals := 1, code := jdk_43_method_3_code, exceptionTable := #[], attributes := #[] }
def k8m1 : Method := { name := "canEncode", desc := "(C)Z", sig := { parameters := [.char], returnType := some .boolean }, accessFlags := 9, code := some k8c1 }
def k8c2 : Code := { maxStack := 4, maxLocals := 1, code := jdk_43_method_46_code, exceptionTable := #[], attributes := #[] }
def k8m2 : Method := { name := "toBytes", desc := "(C)[B", sig := { parameters := [.char], returnType := some (.array .byte) }, accessFlags := 9, code := some k8c2 }
/-- java/lang/StringLatin1 -/
def k8 : Class := { plain "java/lang/StringLatin1" (some 0) with
  accessFlags := 48
  interfaces := #[]
  cf := some (fileOf pool8 14 #[.nestMembers #[390, 221]] #[{ accessFlags := 0, nameIndex := 7, descriptorIndex := 8, attributes := #[] }, { accessFlags := 9, nameIndex := 90, descriptorIndex := 105, attributes := #[] }, { accessFlags := 9, nameIndex := 380, descriptorIndex := 382, attributes := #[] }] 48 4 #[] #[{ accessFlags := 4120, nameIndex := 121, descriptorIndex := 122, attributes := #[] }])
  fields := #[{ name := "$assertionsDisabled", type := .boolean, accessFlags := 4120, slot := 0, constantValue := 0 }]
  methods := #[k8m0, k8m1, k8m2]
  instanceTypes := #[]
  staticTypes := #[.boolean]
  resolved := Array.replicate 395 none
  statics := none }

def pool9 : Array CpInfo := pool [(1, .methodref 2 3), (0, .class_ 4), (0, .nameAndType 5 6), (0, u "java/lang/Object"), (0, u "<init>"), (0, u "()V"), (0, .class_ 8), (0, u "java/lang/Record")] 13

def k9c0 : Code := { maxStack := 1, maxLocals := 1, code := jdk_30_method_1_code, exceptionTable := #[], attributes := #[] }
def k9m0 : Method := { name := "<init>", desc := "()V", sig := { parameters := [], returnType := none }, accessFlags := 4, code := some k9c0 }
/-- java/lang/Record -/
def k9 : Class := { plain "java/lang/Record" (some 0) with
  accessFlags := 1057
  interfaces := #[]
  cf := some (fileOf pool9 7 #[] #[{ accessFlags := 4, nameIndex := 5, descriptorIndex := 6, attributes := #[] }] 1057 2 #[] #[])
  fields := #[]
  methods := #[k9m0]
  instanceTypes := #[]
  staticTypes := #[]
  resolved := Array.replicate 22 none
  statics := none }

def pool10 : Array CpInfo := pool [(1, .methodref 2 3), (0, .class_ 4), (0, .nameAndType 5 6), (0, u "java/lang/Record"), (0, u "<init>"), (0, u "()V"), (0, .string 8), (0, u "whole"), (0, .methodref 10 11), (0, .class_ 12), (0, .nameAndType 13 14), (0, u "java/util/Objects"), (0, u "requireNonNull"), (0, u "(Ljava/lang/Object;Ljava/lang/String;)Ljava/lang/Object;"), (0, .string 16), (0, u "former"), (0, .string 18), (0, u "remembered"), (0, .string 20), (0, u "custody"), (0, .fieldref 22 23), (0, .class_ 24), (0, .nameAndType 25 26), (0, u "com/example/uptik/uptik/model/Holdings"), (0, u "terms"), (0, u "J"), (0, .fieldref 22 28), (0, .nameAndType 29 26), (0, u "postings"), (0, .fieldref 22 31), (0, .nameAndType 32 26), (0, u "digest"), (0, .fieldref 22 34), (0, .nameAndType 8 35), (0, u "Ljava/lang/String;"), (0, .fieldref 22 37), (0, .nameAndType 16 35), (0, .fieldref 22 39), (0, .nameAndType 18 35), (0, .fieldref 22 41), (0, .nameAndType 20 35), (0, .fieldref 22 43), (0, .nameAndType 44 26), (0, u "documents"), (0, .fieldref 22 46), (0, .nameAndType 47 26), (0, u "documentDigest"), (0, .fieldref 22 49), (0, .nameAndType 50 51), (0, u "recordWhole"), (0, u "Z"), (12, u "(JJJLjava/lang/String;Ljava/lang/String;Ljava/lang/String;Ljava/lang/String;JJZ)V"), (3, u "sameListsAs"), (0, u "(Lcom/example/uptik/uptik/model/Holdings;)Z")] 36

def k10c0 : Code := { maxStack := 3, maxLocals := 16, code := prog_47_method_1_code, exceptionTable := #[], attributes := #[] }
def k10m0 : Method := { name := "<init>", desc := "(JJJLjava/lang/String;Ljava/lang/String;Ljava/lang/String;Ljava/lang/String;JJZ)V", sig := { parameters := [.long, .long, .long, (.object "java/lang/String"), (.object "java/lang/String"), (.object "java/lang/String"), (.object "java/lang/String"), .long, .long, .boolean], returnType := none }, accessFlags := 1, code := some k10c0 }
def k10c1 : Code := { maxStack := 4, maxLocals := 2, code := prog_47_method_2_code, exceptionTable := #[], attributes := #[] }
def k10m1 : Method := { name := "sameListsAs", desc := "(Lcom/example/uptik/uptik/model/Holdings;)Z", sig := { parameters := [(.object "com/example/uptik/uptik/model/Holdings")], returnType := some .boolean }, accessFlags := 1, code := some k10c1 }
/-- com/example/uptik/uptik/model/Holdings -/
def k10 : Class := { plain "com/example/uptik/uptik/model/Holdings" (some 9) with
  accessFlags := 49
  interfaces := #[]
  cf := some (fileOf pool10 22 #[] #[{ accessFlags := 1, nameIndex := 5, descriptorIndex := 64, attributes := #[] }, { accessFlags := 1, nameIndex := 68, descriptorIndex := 69, attributes := #[] }] 49 2 #[] #[{ accessFlags := 18, nameIndex := 25, descriptorIndex := 26, attributes := #[] }, { accessFlags := 18, nameIndex := 29, descriptorIndex := 26, attributes := #[] }, { accessFlags := 18, nameIndex := 32, descriptorIndex := 26, attributes := #[] }, { accessFlags := 18, nameIndex := 8, descriptorIndex := 35, attributes := #[] }, { accessFlags := 18, nameIndex := 16, descriptorIndex := 35, attributes := #[] }, { accessFlags := 18, nameIndex := 18, descriptorIndex := 35, attributes := #[] }, { accessFlags := 18, nameIndex := 20, descriptorIndex := 35, attributes := #[] }, { accessFlags := 18, nameIndex := 44, descriptorIndex := 26, attributes := #[] }, { accessFlags := 18, nameIndex := 47, descriptorIndex := 26, attributes := #[] }, { accessFlags := 18, nameIndex := 50, descriptorIndex := 51, attributes := #[] }])
  fields := #[{ name := "terms", type := .long, accessFlags := 18, slot := 0, constantValue := 0 }, { name := "postings", type := .long, accessFlags := 18, slot := 1, constantValue := 0 }, { name := "digest", type := .long, accessFlags := 18, slot := 2, constantValue := 0 }, { name := "whole", type := (.object "java/lang/String"), accessFlags := 18, slot := 3, constantValue := 0 }, { name := "former", type := (.object "java/lang/String"), accessFlags := 18, slot := 4, constantValue := 0 }, { name := "remembered", type := (.object "java/lang/String"), accessFlags := 18, slot := 5, constantValue := 0 }, { name := "custody", type := (.object "java/lang/String"), accessFlags := 18, slot := 6, constantValue := 0 }, { name := "documents", type := .long, accessFlags := 18, slot := 7, constantValue := 0 }, { name := "documentDigest", type := .long, accessFlags := 18, slot := 8, constantValue := 0 }, { name := "recordWhole", type := .boolean, accessFlags := 18, slot := 9, constantValue := 0 }]
  methods := #[k10m0, k10m1]
  instanceTypes := #[.long, .long, .long, (.object "java/lang/String"), (.object "java/lang/String"), (.object "java/lang/String"), (.object "java/lang/String"), .long, .long, .boolean]
  staticTypes := #[]
  resolved := Array.replicate 106 none
  statics := none }

def pool11 : Array CpInfo := pool [(2, .class_ 4), (1, u "java/lang/Object"), (0, u "<init>"), (0, u "()V"), (35, .class_ 44), (1, u "java/util/Objects"), (0, u "requireNonNull"), (48, u "(Ljava/lang/Object;Ljava/lang/String;)Ljava/lang/Object;")] 89

def k11m0 : Method := { name := "<init>", desc := "()V", sig := { parameters := [], returnType := none }, accessFlags := 2, code := none }
def k11c1 : Code := { maxStack := 3, maxLocals := 2, code := jdk_31_method_11_code, exceptionTable := #[], attributes := #[] }
def k11m1 : Method := { name := "requireNonNull", desc := "(Ljava/lang/Object;Ljava/lang/String;)Ljava/lang/Object;", sig := { parameters := [(.object "java/lang/Object"), (.object "java/lang/String")], returnType := some (.object "java/lang/Object") }, accessFlags := 9, code := some k11c1 }
/-- java/util/Objects -/
def k11 : Class := { plain "java/util/Objects" (some 0) with
  accessFlags := 49
  interfaces := #[]
  cf := some (fileOf pool11 42 #[] #[{ accessFlags := 2, nameIndex := 5, descriptorIndex := 6, attributes := #[] }, { accessFlags := 9, nameIndex := 45, descriptorIndex := 94, attributes := #[] }] 49 2 #[] #[])
  fields := #[]
  methods := #[k11m0, k11m1]
  instanceTypes := #[]
  staticTypes := #[]
  resolved := Array.replicate 184 none
  statics := none }

def pool12 : Array CpInfo := pool [(2, .class_ 4), (1, u "java/lang/Object"), (0, u "<init>"), (0, u "()V"), (17, .class_ 26), (1, u "jdk/internal/util/Preconditions"), (28, .class_ 56), (0, u "jdk/internal/util/Preconditions$4"), (57, .class_ 115), (0, u "jdk/internal/util/Preconditions$1"), (7, u "SIOOBE_FORMATTER"), (0, u "Ljava/util/function/BiFunction;"), (0, .class_ 126), (0, u "jdk/internal/util/Preconditions$2"), (3, u "AIOOBE_FORMATTER"), (0, .class_ 132), (0, u "jdk/internal/util/Preconditions$3"), (3, u "IOOBE_FORMATTER")] 57

def k12m0 : Method := { name := "<init>", desc := "()V", sig := { parameters := [], returnType := none }, accessFlags := 1, code := none }
/-- jdk/internal/util/Preconditions -/
def k12 : Class := { plain "jdk/internal/util/Preconditions" (some 0) with
  accessFlags := 33
  interfaces := #[]
  cf := some (fileOf pool12 24 #[.nestMembers #[55, 131, 125, 114]] #[{ accessFlags := 1, nameIndex := 5, descriptorIndex := 6, attributes := #[] }] 33 2 #[] #[{ accessFlags := 25, nameIndex := 123, descriptorIndex := 124, attributes := #[] }, { accessFlags := 25, nameIndex := 130, descriptorIndex := 124, attributes := #[] }, { accessFlags := 25, nameIndex := 136, descriptorIndex := 124, attributes := #[] }])
  fields := #[{ name := "SIOOBE_FORMATTER", type := (.object "java/util/function/BiFunction"), accessFlags := 25, slot := 0, constantValue := 0 }, { name := "AIOOBE_FORMATTER", type := (.object "java/util/function/BiFunction"), accessFlags := 25, slot := 1, constantValue := 0 }, { name := "IOOBE_FORMATTER", type := (.object "java/util/function/BiFunction"), accessFlags := 25, slot := 2, constantValue := 0 }]
  methods := #[k12m0]
  instanceTypes := #[]
  staticTypes := #[(.object "java/util/function/BiFunction"), (.object "java/util/function/BiFunction"), (.object "java/util/function/BiFunction")]
  resolved := Array.replicate 194 none
  statics := some 1 }

def pool13 : Array CpInfo := pool [(9, u "<init>"), (6, .class_ 18), (1, u "java/lang/Object"), (0, u "()V"), (1, .class_ 23), (1, u "jdk/internal/util/ArraysSupport"), (0, u "LOG2_ARRAY_LONG_INDEX_SCALE"), (0, u "I"), (2, u "U"), (0, u "Ljdk/internal/misc/Unsafe;"), (8, u "BIG_ENDIAN"), (0, u "Z"), (8, u "LOG2_BYTE_BIT_SIZE"), (4, u "LOG2_ARRAY_INT_INDEX_SCALE"), (54, u "JLA"), (0, u "Ljdk/internal/access/JavaLangAccess;"), (11, u "LOG2_ARRAY_BOOLEAN_INDEX_SCALE"), (9, u "LOG2_ARRAY_BYTE_INDEX_SCALE"), (5, u "LOG2_ARRAY_CHAR_INDEX_SCALE"), (5, u "LOG2_ARRAY_SHORT_INDEX_SCALE"), (18, u "LOG2_ARRAY_FLOAT_INDEX_SCALE"), (24, u "LOG2_ARRAY_DOUBLE_INDEX_SCALE"), (89, u "T_BOOLEAN"), (2, u "T_CHAR"), (1, u "T_FLOAT"), (1, u "T_DOUBLE"), (1, u "T_BYTE"), (1, u "T_SHORT"), (1, u "T_INT"), (1, u "T_LONG"), (1, u "SOFT_MAX_ARRAY_LENGTH")] 83

def k13m0 : Method := { name := "<init>", desc := "()V", sig := { parameters := [], returnType := none }, accessFlags := 2, code := none }
/-- jdk/internal/util/ArraysSupport -/
def k13 : Class := { plain "jdk/internal/util/ArraysSupport" (some 0) with
  accessFlags := 33
  interfaces := #[]
  cf := some (fileOf pool13 21 #[] #[{ accessFlags := 2, nameIndex := 9, descriptorIndex := 19, attributes := #[] }] 33 16 #[] #[{ accessFlags := 24, nameIndex := 28, descriptorIndex := 29, attributes := #[] }, { accessFlags := 26, nameIndex := 38, descriptorIndex := 39, attributes := #[] }, { accessFlags := 25, nameIndex := 121, descriptorIndex := 25, attributes := #[] }, { accessFlags := 25, nameIndex := 131, descriptorIndex := 25, attributes := #[] }, { accessFlags := 25, nameIndex := 137, descriptorIndex := 25, attributes := #[] }, { accessFlags := 25, nameIndex := 143, descriptorIndex := 25, attributes := #[] }, { accessFlags := 25, nameIndex := 53, descriptorIndex := 25, attributes := #[] }, { accessFlags := 25, nameIndex := 24, descriptorIndex := 25, attributes := #[] }, { accessFlags := 25, nameIndex := 162, descriptorIndex := 25, attributes := #[] }, { accessFlags := 25, nameIndex := 187, descriptorIndex := 25, attributes := #[] }, { accessFlags := 26, nameIndex := 48, descriptorIndex := 25, attributes := #[] }, { accessFlags := 25, nameIndex := 277, descriptorIndex := 25, attributes := #[] }, { accessFlags := 25, nameIndex := 280, descriptorIndex := 25, attributes := #[] }, { accessFlags := 25, nameIndex := 282, descriptorIndex := 25, attributes := #[] }, { accessFlags := 25, nameIndex := 284, descriptorIndex := 25, attributes := #[] }, { accessFlags := 25, nameIndex := 286, descriptorIndex := 25, attributes := #[] }, { accessFlags := 25, nameIndex := 288, descriptorIndex := 25, attributes := #[] }, { accessFlags := 25, nameIndex := 290, descriptorIndex := 25, attributes := #[] }, { accessFlags := 25, nameIndex := 292, descriptorIndex := 25, attributes := #[] }, { accessFlags := 26, nameIndex := 108, descriptorIndex := 109, attributes := #[] }, { accessFlags := 25, nameIndex := 294, descriptorIndex := 25, attributes := #[] }])
  fields := #[{ name := "U", type := (.object "jdk/internal/misc/Unsafe"), accessFlags := 24, slot := 0, constantValue := 0 }, { name := "BIG_ENDIAN", type := .boolean, accessFlags := 26, slot := 1, constantValue := 0 }, { name := "LOG2_ARRAY_BOOLEAN_INDEX_SCALE", type := .int, accessFlags := 25, slot := 2, constantValue := 0 }, { name := "LOG2_ARRAY_BYTE_INDEX_SCALE", type := .int, accessFlags := 25, slot := 3, constantValue := 0 }, { name := "LOG2_ARRAY_CHAR_INDEX_SCALE", type := .int, accessFlags := 25, slot := 4, constantValue := 0 }, { name := "LOG2_ARRAY_SHORT_INDEX_SCALE", type := .int, accessFlags := 25, slot := 5, constantValue := 0 }, { name := "LOG2_ARRAY_INT_INDEX_SCALE", type := .int, accessFlags := 25, slot := 6, constantValue := 0 }, { name := "LOG2_ARRAY_LONG_INDEX_SCALE", type := .int, accessFlags := 25, slot := 7, constantValue := 0 }, { name := "LOG2_ARRAY_FLOAT_INDEX_SCALE", type := .int, accessFlags := 25, slot := 8, constantValue := 0 }, { name := "LOG2_ARRAY_DOUBLE_INDEX_SCALE", type := .int, accessFlags := 25, slot := 9, constantValue := 0 }, { name := "LOG2_BYTE_BIT_SIZE", type := .int, accessFlags := 26, slot := 10, constantValue := 0 }, { name := "T_BOOLEAN", type := .int, accessFlags := 25, slot := 11, constantValue := 0 }, { name := "T_CHAR", type := .int, accessFlags := 25, slot := 12, constantValue := 0 }, { name := "T_FLOAT", type := .int, accessFlags := 25, slot := 13, constantValue := 0 }, { name := "T_DOUBLE", type := .int, accessFlags := 25, slot := 14, constantValue := 0 }, { name := "T_BYTE", type := .int, accessFlags := 25, slot := 15, constantValue := 0 }, { name := "T_SHORT", type := .int, accessFlags := 25, slot := 16, constantValue := 0 }, { name := "T_INT", type := .int, accessFlags := 25, slot := 17, constantValue := 0 }, { name := "T_LONG", type := .int, accessFlags := 25, slot := 18, constantValue := 0 }, { name := "JLA", type := (.object "jdk/internal/access/JavaLangAccess"), accessFlags := 26, slot := 19, constantValue := 0 }, { name := "SOFT_MAX_ARRAY_LENGTH", type := .int, accessFlags := 25, slot := 20, constantValue := 0 }]
  methods := #[k13m0]
  instanceTypes := #[]
  staticTypes := #[(.object "jdk/internal/misc/Unsafe"), .boolean, .int, .int, .int, .int, .int, .int, .int, .int, .int, .int, .int, .int, .int, .int, .int, .int, .int, (.object "jdk/internal/access/JavaLangAccess"), .int]
  resolved := Array.replicate 378 none
  statics := none }

def pool14 : Array CpInfo := pool [(1, u "java/lang/Cloneable"), (0, .class_ 1), (0, u "java/lang/Object"), (0, .class_ 3)] 3

/-- java/lang/Cloneable -/
def k14 : Class := { plain "java/lang/Cloneable" (some 0) with
  accessFlags := 1537
  interfaces := #[]
  cf := some (fileOf pool14 2 #[] #[] 1537 4 #[] #[])
  fields := #[]
  methods := #[]
  instanceTypes := #[]
  staticTypes := #[]
  resolved := Array.replicate 8 none
  statics := none }

/-- the primitive byte -/
def k15 : Class := { plain "byte" none with kind := .primitive 'B', accessFlags := 0x411 }
/-- [B -/
def k16 : Class := { plain "[B" (some 0) with kind := .array 15 .byte, interfaces := #[14, 2], accessFlags := 1041 }

/-- the primitive int -/
def k17 : Class := { plain "int" none with kind := .primitive 'I', accessFlags := 0x411 }
/-- [I -/
def k18 : Class := { plain "[I" (some 0) with kind := .array 17 .int, interfaces := #[14, 2], accessFlags := 1041 }

def heap : Heap := #[{ cls := 7, slots := #[.long 0, .int 1, .null, .int 0, .null, .int 0, .int 0], vm := .statics 7 },
  { cls := 12, slots := #[.null, .null, .null], vm := .statics 12 }]
def classes : Array Class := #[k0, k1, k2, k3, k4, k5, k6, k7, k8, k9, k10, k11, k12, k13, k14, k15, k16, k17, k18]
def interned : List (Array UInt16 × Addr) := []
def slotsUsed : Nat := 10
def theMethod : MethodId := ⟨1, 1⟩
def args0 : Array Value := #[.long 5, .long 7, .long 9, .long 10, .int 3, .int 1094795585]
def aboutOver (below : List Frame) : State where
  vm := { classes := classes, interned := interned.toArray }
  heap := heap
  slotsUsed := slotsUsed
  threads := #[{ frames := .invoking theMethod args0 :: below }]
def below0 : List Frame := [.native { method := ⟨0, 0⟩, args := #[] }]
def about1 : State := aboutOver below0
def p0 : Program := .bare "" "" ""
def e0 : Env := launch0.env 0 0 0
theorem w_frames : about1.frames = Frame.invoking theMethod args0 :: below0 := rfl
set_option maxRecDepth 65536 in
theorem w_args : argsFit about1.vm theMethod args0 = true := by decide +kernel
set_option maxRecDepth 65536 in
theorem w_heap : heapFits about1 = true := by decide +kernel
set_option maxRecDepth 65536 in
theorem w_runnable : about1.curStatus? = some .runnable := by decide +kernel
set_option maxRecDepth 65536 in
theorem w_alone : about1.alone = true := by decide +kernel
set_option maxRecDepth 65536 in
theorem w_named : about1.methodNamed? x = some theMethod := by decide +kernel
set_option maxRecDepth 65536 in
theorem w_hears : about1.hears theMethod below0 = true := by decide +kernel
set_option maxRecDepth 65536 in
theorem w_ripe : about1.ripe theMethod args0 below0 = true := by decide +kernel
theorem w_running : about1.status = .running := rfl
set_option maxRecDepth 65536 in
theorem w_room : about1.hasRoom e0.platform room_1 = true :=
  launch0.hasRoom_least _ room_1 (by decide +kernel) (by decide +kernel) (by decide +kernel) (by decide +kernel) (by decide +kernel) (by decide +kernel)
theorem allAtoms_all (ts : List Jvm.Cond) (a : Array Jvm.Value) (st : Jvm.State) : (allAtoms ts).before a st = ts.all (fun c => c.before a st) := by
  induction ts with
  | nil => rfl
  | cons c t ih =>
    show (Jvm.Cond.and c (allAtoms t)).before a st = _
    rw [Jvm.Cond.before_and, ih, List.all_cons]
def words1 : List Jvm.Cond := Jvm.Cond.code x code maxLocals ret :: tables_1
/-- a 'code' word, met by the world's own term for the bytes: nothing is compared byte by byte -/
theorem code_word {y : MethodName} {bytes : ByteArray} {mx : Nat} {rt : Option FieldType} {a : Array Value} {s : State} {m : MethodId} {meth : Method} {c : Code} (h1 : s.methodNamed? y = some m) (h2 : s.vm.method? m = some meth) (h3 : meth.code = some c) (h4 : c.code = bytes)
    (h5 : (c.maxLocals == mx && c.exceptionTable.isEmpty && decide (c.maxStack ≤ mostOperands) && decide (meth.sig.returnType = rt) && !meth.locks && decide (parseMethodDescriptor y.desc = some meth.sig)) = true) : (Jvm.Cond.code y bytes mx rt).before a s = true := by
  simp only [Bool.and_eq_true, beq_iff_eq, Bool.not_eq_true', decide_eq_true_eq] at h5
  obtain ⟨⟨⟨⟨⟨g1, g2⟩, g3⟩, g4⟩, g5⟩, g6⟩ := h5
  simp [Cond.before, Cond.holds, Cond.value, h1, h2, h3, h4, g1, g2, g3, g4, g5, g6]
def isCode : Jvm.Cond → Bool
  | .code _ _ _ _ => true
  | _ => false
theorem all_split {L : List Jvm.Cond} {P : Jvm.Cond → Bool} (h1 : L.all (fun c => isCode c || P c) = true) (h2 : ∀ c ∈ L.filter isCode, P c = true) : L.all P = true := by
  refine List.all_eq_true.mpr fun c hc => ?_
  have h := List.all_eq_true.mp h1 c hc
  rcases Bool.eq_false_or_eq_true (isCode c) with hi | hi
  · exact h2 c (List.mem_filter.mpr ⟨hc, hi⟩)
  · simpa [hi] using h
set_option maxRecDepth 65536 in
theorem w_c0 : (Jvm.Cond.code x code maxLocals ret).before args0 about1 = true := code_word (m := ⟨1, 1⟩) (meth := k1m1) (c := k1c1) (by decide +kernel) rfl rfl rfl (by decide +kernel)
set_option maxRecDepth 65536 in
theorem w_c1 : (Jvm.Cond.code ({ cls := "java/lang/String", name := "valueOf", desc := "(C)Ljava/lang/String;" } : Jvm.MethodName) jdk_42_method_139_code (1 : Nat) (Option.some (Jvm.ClassFile.FieldType.object "java/lang/String"))).before args0 about1 = true := code_word (m := ⟨7, 1⟩) (meth := k7m1) (c := k7c1) (by decide +kernel) rfl rfl rfl (by decide +kernel)
set_option maxRecDepth 65536 in
theorem w_c2 : (Jvm.Cond.code ({ cls := "java/lang/StringLatin1", name := "canEncode", desc := "(C)Z" } : Jvm.MethodName) jdk_43_method_3_code (1 : Nat) (Option.some Jvm.ClassFile.FieldType.boolean)).before args0 about1 = true := code_word (m := ⟨8, 1⟩) (meth := k8m1) (c := k8c1) (by decide +kernel) rfl rfl rfl (by decide +kernel)
set_option maxRecDepth 65536 in
theorem w_c3 : (Jvm.Cond.code ({ cls := "java/lang/StringLatin1", name := "toBytes", desc := "(C)[B" } : Jvm.MethodName) jdk_43_method_46_code (1 : Nat) (Option.some (Jvm.ClassFile.FieldType.array Jvm.ClassFile.FieldType.byte))).before args0 about1 = true := code_word (m := ⟨8, 2⟩) (meth := k8m2) (c := k8c2) (by decide +kernel) rfl rfl rfl (by decide +kernel)
set_option maxRecDepth 65536 in
theorem w_c4 : (Jvm.Cond.code ({ cls := "java/lang/String", name := "<init>", desc := "([BB)V" } : Jvm.MethodName) jdk_42_method_151_code (3 : Nat) (Option.none : Option Jvm.ClassFile.FieldType)).before args0 about1 = true := code_word (m := ⟨7, 2⟩) (meth := k7m2) (c := k7c2) (by decide +kernel) rfl rfl rfl (by decide +kernel)
set_option maxRecDepth 65536 in
theorem w_c5 : (Jvm.Cond.code ({ cls := "java/lang/Object", name := "<init>", desc := "()V" } : Jvm.MethodName) object_method_1_code (1 : Nat) (Option.none : Option Jvm.ClassFile.FieldType)).before args0 about1 = true := code_word (m := ⟨0, 0⟩) (meth := k0m0) (c := k0c0) (by decide +kernel) rfl rfl rfl (by decide +kernel)
set_option maxRecDepth 65536 in
theorem w_c6 : (Jvm.Cond.code ({ cls := "com/example/uptik/uptik/model/Holdings", name := "<init>", desc := "(JJJLjava/lang/String;Ljava/lang/String;Ljava/lang/String;Ljava/lang/String;JJZ)V" } : Jvm.MethodName) prog_47_method_1_code (16 : Nat) (Option.none : Option Jvm.ClassFile.FieldType)).before args0 about1 = true := code_word (m := ⟨10, 0⟩) (meth := k10m0) (c := k10c0) (by decide +kernel) rfl rfl rfl (by decide +kernel)
set_option maxRecDepth 65536 in
theorem w_c7 : (Jvm.Cond.code ({ cls := "java/lang/Record", name := "<init>", desc := "()V" } : Jvm.MethodName) jdk_30_method_1_code (1 : Nat) (Option.none : Option Jvm.ClassFile.FieldType)).before args0 about1 = true := code_word (m := ⟨9, 0⟩) (meth := k9m0) (c := k9c0) (by decide +kernel) rfl rfl rfl (by decide +kernel)
set_option maxRecDepth 65536 in
theorem w_c8 : (Jvm.Cond.code ({ cls := "java/util/Objects", name := "requireNonNull", desc := "(Ljava/lang/Object;Ljava/lang/String;)Ljava/lang/Object;" } : Jvm.MethodName) jdk_31_method_11_code (2 : Nat) (Option.some (Jvm.ClassFile.FieldType.object "java/lang/Object"))).before args0 about1 = true := code_word (m := ⟨11, 1⟩) (meth := k11m1) (c := k11c1) (by decide +kernel) rfl rfl rfl (by decide +kernel)
set_option maxRecDepth 65536 in
theorem w_c9 : (Jvm.Cond.code ({ cls := "com/example/uptik/uptik/model/Holdings", name := "sameListsAs", desc := "(Lcom/example/uptik/uptik/model/Holdings;)Z" } : Jvm.MethodName) prog_47_method_2_code (2 : Nat) (Option.some Jvm.ClassFile.FieldType.boolean)).before args0 about1 = true := code_word (m := ⟨10, 1⟩) (meth := k10m1) (c := k10c1) (by decide +kernel) rfl rfl rfl (by decide +kernel)
def codes1 : List Jvm.Cond := [Jvm.Cond.code x code maxLocals ret, Jvm.Cond.code ({ cls := "java/lang/String", name := "valueOf", desc := "(C)Ljava/lang/String;" } : Jvm.MethodName) jdk_42_method_139_code (1 : Nat) (Option.some (Jvm.ClassFile.FieldType.object "java/lang/String")), Jvm.Cond.code ({ cls := "java/lang/StringLatin1", name := "canEncode", desc := "(C)Z" } : Jvm.MethodName) jdk_43_method_3_code (1 : Nat) (Option.some Jvm.ClassFile.FieldType.boolean), Jvm.Cond.code ({ cls := "java/lang/StringLatin1", name := "toBytes", desc := "(C)[B" } : Jvm.MethodName) jdk_43_method_46_code (1 : Nat) (Option.some (Jvm.ClassFile.FieldType.array Jvm.ClassFile.FieldType.byte)), Jvm.Cond.code ({ cls := "java/lang/String", name := "<init>", desc := "([BB)V" } : Jvm.MethodName) jdk_42_method_151_code (3 : Nat) (Option.none : Option Jvm.ClassFile.FieldType), Jvm.Cond.code ({ cls := "java/lang/Object", name := "<init>", desc := "()V" } : Jvm.MethodName) object_method_1_code (1 : Nat) (Option.none : Option Jvm.ClassFile.FieldType), Jvm.Cond.code ({ cls := "com/example/uptik/uptik/model/Holdings", name := "<init>", desc := "(JJJLjava/lang/String;Ljava/lang/String;Ljava/lang/String;Ljava/lang/String;JJZ)V" } : Jvm.MethodName) prog_47_method_1_code (16 : Nat) (Option.none : Option Jvm.ClassFile.FieldType), Jvm.Cond.code ({ cls := "java/lang/Record", name := "<init>", desc := "()V" } : Jvm.MethodName) jdk_30_method_1_code (1 : Nat) (Option.none : Option Jvm.ClassFile.FieldType), Jvm.Cond.code ({ cls := "java/util/Objects", name := "requireNonNull", desc := "(Ljava/lang/Object;Ljava/lang/String;)Ljava/lang/Object;" } : Jvm.MethodName) jdk_31_method_11_code (2 : Nat) (Option.some (Jvm.ClassFile.FieldType.object "java/lang/Object")), Jvm.Cond.code ({ cls := "com/example/uptik/uptik/model/Holdings", name := "sameListsAs", desc := "(Lcom/example/uptik/uptik/model/Holdings;)Z" } : Jvm.MethodName) prog_47_method_2_code (2 : Nat) (Option.some Jvm.ClassFile.FieldType.boolean)]
set_option maxRecDepth 65536 in
theorem codes_eq : words1.filter isCode = codes1 := rfl
theorem w_codes : ∀ c ∈ words1.filter isCode, c.before args0 about1 = true := by
  rw [codes_eq]
  intro c hc
  simp only [codes1, List.mem_cons, List.not_mem_nil, or_false] at hc
  rcases hc with rfl | rfl | rfl | rfl | rfl | rfl | rfl | rfl | rfl | rfl
  · exact w_c0
  · exact w_c1
  · exact w_c2
  · exact w_c3
  · exact w_c4
  · exact w_c5
  · exact w_c6
  · exact w_c7
  · exact w_c8
  · exact w_c9
set_option maxRecDepth 65536 in
theorem w_t1 : (words1.take 24).all (fun c => isCode c || c.before args0 about1) = true := by decide +kernel
set_option maxRecDepth 65536 in
theorem w_t2 : ((words1.drop 24).take 24).all (fun c => isCode c || c.before args0 about1) = true := by decide +kernel
set_option maxRecDepth 65536 in
theorem w_t3 : (((words1.drop 24).drop 24).take 24).all (fun c => isCode c || c.before args0 about1) = true := by decide +kernel
set_option maxRecDepth 65536 in
theorem w_t4 : (((words1.drop 24).drop 24).drop 24).all (fun c => isCode c || c.before args0 about1) = true := by decide +kernel
theorem w_tables : (allAtoms (Jvm.Cond.code x code maxLocals ret :: tables_1)).before args0 about1 = true := by
  rw [allAtoms_all]
  show words1.all (fun c => c.before args0 about1) = true
  refine all_split ?_ w_codes
  rw [← List.take_append_drop 24 words1, List.all_append, w_t1, ← List.take_append_drop 24 (words1.drop 24), List.all_append, w_t2, ← List.take_append_drop 24 ((words1.drop 24).drop 24), List.all_append, w_t3, w_t4]
  rfl
set_option maxRecDepth 65536 in
theorem w_rest : rest_1_c.before args0 about1 = true := by decide +kernel
set_option maxRecDepth 65536 in
theorem w_case : (Jvm.Cond.and given_1 narrow_1).before args0 about1 = true := by decide +kernel
theorem w_applies : (headSpec (Jvm.Cond.code x code maxLocals ret :: tables_1) room_1).applies x e0.platform about1 = true :=
  (Spec.applies_iff w_frames).mpr ⟨w_running, w_runnable, w_alone, w_named, w_hears, w_ripe, w_room, w_tables⟩
theorem atStart : AtStart classFile x code maxLocals ret World_1 tables_1 room_1 Calls_1 rest_1 Pre_1 launch0 p0 e0 about1 theMethod args0 below0 :=
  ⟨lists_1, trivial, launch0.admits_env _ _ _, launch0.least_env, fairChoices_fair.cas, fairChoices_fair.clock, w_frames, w_args, w_heap, w_applies, trivial, w_rest, w_case⟩
end start1
theorem witness_1 : WitnessClaimed_1 := ⟨start1.p0, start1.e0, start1.about1, start1.theMethod, start1.args0, start1.below0, start1.atStart⟩
end Jvm.Pilot.@@N@@
