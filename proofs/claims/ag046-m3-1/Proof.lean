import JvmDerived
import JvmDerived.Pilot.@@N@@Statement
import JvmDerived.Pilot.@@N@@Code
set_option linter.unusedVariables false
set_option linter.unusedSimpArgs false
namespace Jvm.Pilot.@@N@@
open Jvm Jvm.ClassFile Sem Op Lib Jvm.Free Jvm.Stand Jvm.LawKit Jvm.RoadKit Bundle Jvm.Pilot.@@N@@.Jvm.D
/-! own_..: the walk in goal form: own_Go says that from a frame on the run comes to its end as the contract says; every step turns the goal for one frame into the goal for the next, so a branch is a case split and a join a 'have'. -/
def own_Post (s : State) (Q : Option Value → Heap → List Loc → Prop) (cs ss : Nat) (o : Outcome) (u : State) : Prop := ∃ v L, o = .returned v ∧ Q v u.heap L ∧ FrameEnd s o u L cs ss
def own_Go (p : Program) (e : Env) (below : List Frame) (Qf : Outcome → State → Prop) (T : State) (g : JFrame) : Prop := ∃ s₂ o, Steps p.tables e below (T.setTop g) s₂ ∧ s₂.status = .running ∧ Ended s₂ below o ∧ Qf o s₂
abbrev own_Met (l : Launch) (Z : State) (y : MethodName) (bytes : ByteArray) (maxL : Nat) (ret : Option FieldType) (ws : List Jvm.Cond) (rm : Room) (as' : Array Value) (h0 : Heap) (cs ss : Nat) (Q : Option Value → Heap → List Loc → Prop) : Prop :=
  MetFree l y (head1 (Jvm.Cond.code y bytes maxL ret :: ws) rm) (fun a U => a = as' ∧ Z.Warmed39 U.vm ∧ U.heap = h0) (fun _ _ _ _ _ => True) (fun _ U o U' => ∃ v L, o = .returned v ∧ Q v U'.heap L ∧ FrameEnd U o U' L cs ss)
def own_b (b : Bool) : Int32 := if b then 1 else 0
theorem own_b_t {b : Bool} (h : b = true) : own_b b = 1 := by subst h; rfl
theorem own_b_f {b : Bool} (h : ¬ b = true) : own_b b = 0 := by rw [Bool.eq_false_iff.mpr h]; rfl
theorem own_b_n {b : Bool} (h : b = true) : ¬ own_b b = 0 := by subst h; decide
theorem own_b_nar (b : Bool) : nar .boolean (own_b b) = own_b b := by cases b <;> rfl
theorem own_b_fits (b : Bool) : fits .boolean (.int (own_b b)) = true := by cases b <;> rfl
theorem own_b_inj {a b : Bool} (h : own_b a = own_b b) : a = b := by cases a <;> cases b <;> first | rfl | exact absurd h (by decide)
section Own
variable {p : Program} {l : Launch} {e : Env} {R : Room} {s : State} {m : MethodId} {args : Array Value} {below : List Frame} {meth : Method} {c : Code} {T T' : State} {locs : List Loc} {cells slots : Nat} {Z : State} {a0 : Array Value} {h : Heap}
theorem own_go {Qf : Outcome → State → Prop} {g g' : JFrame} (h : ∀ t, Steps p.tables e below (T'.setTop g') t → Steps p.tables e below (T.setTop g) t) (k : own_Go p e below Qf T' g') : own_Go p e below Qf T g := by
  obtain ⟨s₂, o, h1, h2⟩ := k
  exact ⟨s₂, o, h _ h1, h2⟩
theorem own_cast {Qf : Outcome → State → Prop} {g g' : JFrame} (q : g = g') (k : own_Go p e below Qf T g') : own_Go p e below Qf T g := q ▸ k
theorem own_met {y : MethodName} {bytes : ByteArray} {maxL : Nat} {ret : Option FieldType} {ws : List Jvm.Cond} {rm : Room} {as' : Array Value} {h0 : Heap} {cs ss : Nat} {Q : Option Value → Heap → List Loc → Prop} (hp : plainFor y = true)
    (body : ∀ (p : Program) (e : Env) (s : State) (m : MethodId) (below : List Frame) (meth : Method) (c : Code) (s₁ : State), BodyLoose p l y (head1 (Jvm.Cond.code y bytes maxL ret :: ws) rm) bytes maxL ret e s m as' below meth c s₁ → c.maxLocals = maxL → Z.Warmed39 s.vm →
      Stand p l e rm s m as' below meth c s₁ [] 0 0 → s₁.heap = h0 → own_Go p e below (own_Post s Q cs ss) s₁ (entryFrame m as' maxL)) : own_Met l Z y bytes maxL ret ws rm as' h0 cs ss Q := by
  refine MetFree.of_bodySF hp hisR ?_
  intro p e s m args below meth c s₁ Bd hml0 hP hK
  obtain ⟨rfl, hZ, hh⟩ := hP
  exact body p e s m below meth c s₁ Bd hml0 hZ (Stand.of_body Bd) (by rw [← hh, Bd.state]; rfl)
theorem own_retN (X : Stand p l e R s m args below meth c T locs cells slots) (hx : p.tables.exec = Jvm.exec) (t : FieldType) (hret : meth.sig.returnType = some t) (hlk : meth.locks = false) (ht : t = .boolean ∨ t = .byte ∨ t = .char ∨ t = .short) {pc : Nat} {Ls : Array Slot} {z : Int32} {rest : List Value} (hd : decode c.code pc = .ok (.ireturn, 1))
    {Q : Option Value → Heap → List Loc → Prop} {cs ss : Nat} (hc : cells ≤ cs) (hs : slots ≤ ss) (hQ : Q (some (.int (nar t z))) T.heap locs) : own_Go p e below (own_Post s Q cs ss) T (mkF m pc Ls (.int z :: rest)) := by
  obtain ⟨fs, hr, hrun, hended, hW, hsame⟩ := X.leave (v := some (.int (nar t z))) (fun h => by rw [hret] at h; cases h) hlk
  exact ⟨_, _, retN X hx hret ht hd hr, hrun, hended, _, _, rfl, hQ, ⟨_, rfl⟩, hW, hsame.mono hc hs⟩
theorem own_retI (X : Stand p l e R s m args below meth c T locs cells slots) (hx : p.tables.exec = Jvm.exec) (hret : meth.sig.returnType = some .int) (hlk : meth.locks = false) {pc : Nat} {Ls : Array Slot} {z : Int32} {rest : List Value} (hd : decode c.code pc = .ok (.ireturn, 1))
    {Q : Option Value → Heap → List Loc → Prop} {cs ss : Nat} (hc : cells ≤ cs) (hs : slots ≤ ss) (hQ : Q (some (.int z)) T.heap locs) : own_Go p e below (own_Post s Q cs ss) T (mkF m pc Ls (.int z :: rest)) := by
  obtain ⟨fs, hr, hrun, hended, hW, hsame⟩ := X.leave (v := some (.int z)) (fun h => by rw [hret] at h; cases h) hlk
  exact ⟨_, _, retOut X hx hret rfl (Or.inl ⟨rfl, Or.inl rfl, _, rfl⟩) hd hr, hrun, hended, _, _, rfl, hQ, ⟨_, rfl⟩, hW, hsame.mono hc hs⟩
theorem own_retJ (X : Stand p l e R s m args below meth c T locs cells slots) (hx : p.tables.exec = Jvm.exec) (hret : meth.sig.returnType = some .long) (hlk : meth.locks = false) {pc : Nat} {Ls : Array Slot} {z : Int64} {rest : List Value} (hd : decode c.code pc = .ok (.lreturn, 1))
    {Q : Option Value → Heap → List Loc → Prop} {cs ss : Nat} (hc : cells ≤ cs) (hs : slots ≤ ss) (hQ : Q (some (.long z)) T.heap locs) : own_Go p e below (own_Post s Q cs ss) T (mkF m pc Ls (.long z :: rest)) := by
  obtain ⟨fs, hr, hrun, hended, hW, hsame⟩ := X.leave (v := some (.long z)) (fun h => by rw [hret] at h; cases h) hlk
  exact ⟨_, _, retOut X hx hret rfl (Or.inr (Or.inl ⟨rfl, rfl, _, rfl⟩)) hd hr, hrun, hended, _, _, rfl, hQ, ⟨_, rfl⟩, hW, hsame.mono hc hs⟩
theorem own_retA (X : Stand p l e R s m args below meth c T locs cells slots) (hx : p.tables.exec = Jvm.exec) {t : FieldType} (hret : meth.sig.returnType = some t) (hlk : meth.locks = false) (ht : t.isReference = true) {pc : Nat} {Ls : Array Slot} {w : Value} {rest : List Value} (hw : w.isRef = true) (hd : decode c.code pc = .ok (.areturn, 1))
    {Q : Option Value → Heap → List Loc → Prop} {cs ss : Nat} (hc : cells ≤ cs) (hs : slots ≤ ss) (hQ : Q (some w) T.heap locs) : own_Go p e below (own_Post s Q cs ss) T (mkF m pc Ls (w :: rest)) := by
  obtain ⟨fs, hr, hrun, hended, hW, hsame⟩ := X.leave (v := some w) (fun h => by rw [hret] at h; cases h) hlk
  have hn : narrow t w = w := by rcases ref_cases hw with rfl | ⟨a, rfl⟩ <;> cases t <;> first | rfl | cases ht
  exact ⟨_, _, retOut X hx hret hn (Or.inr (Or.inr (Or.inr (Or.inr ⟨rfl, ht, hw⟩)))) hd hr, hrun, hended, _, _, rfl, hQ, ⟨_, rfl⟩, hW, hsame.mono hc hs⟩
theorem own_retV (X : Stand p l e R s m args below meth c T locs cells slots) (hx : p.tables.exec = Jvm.exec) (hret : meth.sig.returnType = none) (hlk : meth.locks = false) {pc : Nat} {Ls : Array Slot} (hd : decode c.code pc = .ok (.return_, 1))
    {Q : Option Value → Heap → List Loc → Prop} {cs ss : Nat} (hc : cells ≤ cs) (hs : slots ≤ ss) (hQ : Q none T.heap locs) : own_Go p e below (own_Post s Q cs ss) T (mkF m pc Ls []) := by
  obtain ⟨fs, hr, hrun, hended, hW, hsame⟩ := X.leave (v := none) (fun _ => rfl) hlk
  exact ⟨_, _, X.returnOut hx hret hd hr, hrun, hended, _, _, rfl, hQ, ⟨_, rfl⟩, hW, hsame.mono hc hs⟩
theorem own_callS (X : Stand p l e R s m args below meth c T locs cells slots) (hx : p.tables.exec = Jvm.exec) (hZ : Z.Warmed39 s.vm) {own : String} {index : Nat} {y : MethodName} {bytes : ByteArray} {maxL : Nat} {ret : Option FieldType} (hown : s.vm.findClass own = some m.cls)
    (w1 : (Jvm.Cond.methodLink own index y).before a0 Z = true) (w2 : (Jvm.Cond.static y).before a0 Z = true) (w3 : (Jvm.Cond.initialized y.cls).before a0 Z = true) (w4 : (Jvm.Cond.code y bytes maxL ret).before a0 Z = true)
    (hy : y.cls ≠ "java/lang/invoke/MethodHandle" ∧ y.cls ≠ "java/lang/invoke/VarHandle") {rm : Room} {argsL : List Value} {Q : Option Value → Heap → List Loc → Prop} (hM : own_Met l Z y bytes maxL ret [] rm argsL.toArray h rm.cells rm.slots Q) (eT : T.heap = h)
    {g : JFrame} (hg : g.method = m) (hsize : g.locals.size = c.maxLocals) {rest : List Value} (hlen : ∀ sig, parseMethodDescriptor y.desc = some sig → argsL.length = sig.parameters.length) (hstack : g.stack = argsL.reverse ++ rest)
    (hdg : decode c.code g.pc = .ok (.invokestatic index, 3)) {W : Nat} (hW : 2 * g.monitorRoom + (rest.map fun v => v.category).sum ≤ W) (hf : rm.frames + 1 ≤ R.frames) (hl : W + (maxL + 11) + rm.locals ≤ R.locals) (hc : cells + rm.cells ≤ R.cells) (hs : slots + rm.slots ≤ R.slots) :
    ∃ (v : Option Value) (T' : State) (L : List Loc), Q v T'.heap L ∧ Stand p l e R s m args below meth c T' (locs ++ L) (cells + rm.cells) (slots + rm.slots) ∧
      ∀ t, Steps p.tables e below (T'.setTop { g with pc := g.pc + 3, stack := v.toList ++ rest }) t → Steps p.tables e below (T.setTop g) t := by
  obtain ⟨v, _, ⟨T', L', k', n'⟩, -, X', ⟨L, hQ, l1, l2, l3⟩, st⟩ := Jvm.LawKit.callS X hx hown (mvT hZ w1) (mvT hZ w2) (mvT hZ w3) (mvT hZ w4) hy (backOf (W := W) hM hZ w4 w3 hf hl) hg hsize hlen hstack hW hdg (fun _ _ => ⟨rfl, eT, hc, hs⟩)
  dsimp only [Pt.U, Pt.locs, Pt.cells, Pt.slots] at X' l1 l2 l3 st hQ
  subst l1 l2 l3
  exact ⟨v, T', L, hQ, X', st⟩
theorem own_callI (X : Stand p l e R s m args below meth c T locs cells slots) (hx : p.tables.exec = Jvm.exec) (hZ : Z.Warmed39 s.vm) {own : String} {index : Nat} {y : MethodName} {bytes : ByteArray} {maxL : Nat} (hy1 : y.name = "<init>") (hown : s.vm.findClass own = some m.cls)
    (w1 : (Jvm.Cond.methodLink own index y).before a0 Z = true) (w2 : (Jvm.Cond.instanceMethod y).before a0 Z = true) (w3 : (Jvm.Cond.initialized y.cls).before a0 Z = true) (w4 : (Jvm.Cond.code y bytes maxL none).before a0 Z = true)
    (hy : y.cls ≠ "java/lang/invoke/MethodHandle" ∧ y.cls ≠ "java/lang/invoke/VarHandle") {rm : Room} {a : Addr} {argsL : List Value} {Q : Option Value → Heap → List Loc → Prop} (hM : own_Met l Z y bytes maxL none [] rm (.ref a :: argsL).toArray h rm.cells rm.slots Q) (eT : T.heap = h)
    {g : JFrame} (hg : g.method = m) (hsize : g.locals.size = c.maxLocals) {rest : List Value} (hlen : ∀ sig, parseMethodDescriptor y.desc = some sig → argsL.length = sig.parameters.length) (hstack : g.stack = argsL.reverse ++ .ref a :: rest)
    (hdg : decode c.code g.pc = .ok (.invokespecial index, 3)) {W : Nat} (hW : 2 * g.monitorRoom + (rest.map fun v => v.category).sum ≤ W) (hf : rm.frames + 1 ≤ R.frames) (hl : W + (maxL + 11) + rm.locals ≤ R.locals) (hc : cells + rm.cells ≤ R.cells) (hs : slots + rm.slots ≤ R.slots) :
    ∃ (v : Option Value) (T' : State) (L : List Loc), Q v T'.heap L ∧ Stand p l e R s m args below meth c T' (locs ++ L) (cells + rm.cells) (slots + rm.slots) ∧
      ∀ t, Steps p.tables e below (T'.setTop { g with pc := g.pc + 3, stack := v.toList ++ rest }) t → Steps p.tables e below (T.setTop g) t := by
  obtain ⟨v, _, ⟨T', L', k', n'⟩, -, X', ⟨L, hQ, l1, l2, l3⟩, st⟩ := X.specialBack hx hy1 hown (mvT hZ w1) (mvT hZ w2) (mvT hZ w4) hy (backOf (W := W) hM hZ w4 w3 hf hl) hg hsize (Steps.refl _) hlen hstack hW hdg (fun _ _ => ⟨rfl, eT, hc, hs⟩)
  dsimp only [Pt.U, Pt.locs, Pt.cells, Pt.slots] at X' l1 l2 l3 st hQ
  subst l1 l2 l3
  exact ⟨v, T', L, hQ, X', fun _ k => st.trans k⟩
theorem own_callV (X : Stand p l e R s m args below meth c T locs cells slots) (hx : p.tables.exec = Jvm.exec) (hZ : Z.Warmed39 s.vm) {own C : String} {index : Nat} {y z : MethodName} {bytes : ByteArray} {maxL : Nat} {ret : Option FieldType} (hown : s.vm.findClass own = some m.cls)
    (w1 : (Jvm.Cond.methodLink own index y).before a0 Z = true) (w2 : (Jvm.Cond.declares y).before a0 Z = true) (hnf : NotFace s y) (ws : (Jvm.Cond.selects C y z).before a0 Z = true) (wi : (Jvm.Cond.instanceMethod z).before a0 Z = true) (w3 : (Jvm.Cond.initialized z.cls).before a0 Z = true) (w4 : (Jvm.Cond.code z bytes maxL ret).before a0 Z = true)
    (hy : y.cls ≠ "java/lang/invoke/MethodHandle" ∧ y.cls ≠ "java/lang/invoke/VarHandle") {rm : Room} {a : Addr} {argsL : List Value} {Q : Option Value → Heap → List Loc → Prop} (hM : own_Met l Z z bytes maxL ret [] rm (.ref a :: argsL).toArray h rm.cells rm.slots Q) (eT : T.heap = h) (E : Exa Z h a C)
    {g : JFrame} (hg : g.method = m) (hsize : g.locals.size = c.maxLocals) {rest : List Value} (hlen : ∀ sig, parseMethodDescriptor y.desc = some sig → argsL.length = sig.parameters.length) (hstack : g.stack = argsL.reverse ++ .ref a :: rest)
    (hdg : decode c.code g.pc = .ok (.invokevirtual index, 3)) {W : Nat} (hW : 2 * g.monitorRoom + (rest.map fun v => v.category).sum ≤ W) (hf : rm.frames + 1 ≤ R.frames) (hl : W + (maxL + 11) + rm.locals ≤ R.locals) (hc : cells + rm.cells ≤ R.cells) (hs : slots + rm.slots ≤ R.slots) :
    ∃ (v : Option Value) (T' : State) (L : List Loc), Q v T'.heap L ∧ Stand p l e R s m args below meth c T' (locs ++ L) (cells + rm.cells) (slots + rm.slots) ∧
      ∀ t, Steps p.tables e below (T'.setTop { g with pc := g.pc + 3, stack := v.toList ++ rest }) t → Steps p.tables e below (T.setTop g) t := by
  obtain ⟨cq, kq, qa, qb, qc⟩ := isOf hZ eT E
  obtain ⟨v, _, ⟨T', L', k', n'⟩, -, X', ⟨L, hQ, l1, l2, l3⟩, st⟩ := X.virtualBack hx hown (mvT hZ w1) (mvT hZ w2) hnf (mvT hZ ws) (mvT hZ wi) hy (backOf (W := W) hM hZ w4 w3 hf hl) qa qc hg hsize (Steps.refl _) hlen hstack hW hdg (fun _ _ => ⟨rfl, eT, hc, hs⟩)
  dsimp only [Pt.U, Pt.locs, Pt.cells, Pt.slots] at X' l1 l2 l3 st hQ
  subst l1 l2 l3
  exact ⟨v, T', L, hQ, X', fun _ k => st.trans k⟩
theorem own_callF (X : Stand p l e R s m args below meth c T locs cells slots) (hx : p.tables.exec = Jvm.exec) (hZ : Z.Warmed39 s.vm) {own C : String} {index count : Nat} {xi y : MethodName} {bytes : ByteArray} {maxL : Nat} {ret : Option FieldType} (hown : s.vm.findClass own = some m.cls)
    (w1 : (Jvm.Cond.methodLink own index xi).before args s = true) (w2 : (Jvm.Cond.declares xi).before args s = true) (wf : (Jvm.Cond.interfaceMethod xi.cls xi.cls xi.name xi.desc).before args s = true) (ws : (Jvm.Cond.selects C xi y).before args s = true) (wi : (Jvm.Cond.instanceMethod y).before args s = true) (wp : (Jvm.Cond.publicMethod y).before args s = true) (wu : (Jvm.Cond.unhidden C xi.name xi.desc).before args s = true) (wc : (Jvm.Cond.castable C xi.cls).before args s = true) (w3 : (Jvm.Cond.initialized y.cls).before a0 Z = true) (w4 : (Jvm.Cond.code y bytes maxL ret).before a0 Z = true)
    (hy : xi.cls ≠ "java/lang/invoke/MethodHandle" ∧ xi.cls ≠ "java/lang/invoke/VarHandle") {rm : Room} {a : Addr} {argsL : List Value} {Q : Option Value → Heap → List Loc → Prop} (hM : own_Met l Z y bytes maxL ret [] rm (.ref a :: argsL).toArray h rm.cells rm.slots Q) (eT : T.heap = h) (E : Exa Z h a C)
    {g : JFrame} (hg : g.method = m) (hsize : g.locals.size = c.maxLocals) {rest : List Value} (hlen : ∀ sig, parseMethodDescriptor xi.desc = some sig → argsL.length = sig.parameters.length) (hstack : g.stack = argsL.reverse ++ .ref a :: rest)
    (hdg : decode c.code g.pc = .ok (.invokeinterface index count, 5)) {W : Nat} (hW : 2 * g.monitorRoom + (rest.map fun v => v.category).sum ≤ W) (hf : rm.frames + 1 ≤ R.frames) (hl : W + (maxL + 11) + rm.locals ≤ R.locals) (hc : cells + rm.cells ≤ R.cells) (hs : slots + rm.slots ≤ R.slots) :
    ∃ (v : Option Value) (T' : State) (L : List Loc), Q v T'.heap L ∧ Stand p l e R s m args below meth c T' (locs ++ L) (cells + rm.cells) (slots + rm.slots) ∧
      ∀ t, Steps p.tables e below (T'.setTop { g with pc := g.pc + 5, stack := v.toList ++ rest }) t → Steps p.tables e below (T.setTop g) t := by
  obtain ⟨cq, kq, qa, qb, qc⟩ := isOf hZ eT E
  obtain ⟨v, _, ⟨T', L', k', n'⟩, -, X', ⟨L, hQ, l1, l2, l3⟩, st⟩ := X.interfaceBack hx hown w1 w2 wf ws wi wp wu wc hy (backOf (W := W) hM hZ w4 w3 hf hl) qa qb qc hg hsize (Steps.refl _) hlen hstack hW hdg (fun _ _ => ⟨rfl, eT, hc, hs⟩)
  dsimp only [Pt.U, Pt.locs, Pt.cells, Pt.slots] at X' l1 l2 l3 st hQ
  subst l1 l2 l3
  exact ⟨v, T', L, hQ, X', fun _ k => st.trans k⟩
theorem own_irem {g : JFrame} {target : State} (X : Stand p l e R s m args below meth c T locs cells slots) (hx : p.tables.exec = Jvm.exec) (hg : g.method = m) {x y : Int32} {rest : List Value} (hd : decode c.code g.pc = .ok (.irem, 1)) (hs : g.stack = .int y :: .int x :: rest) (hy : y ≠ 0)
    (hr : Steps p.tables e below (T.setTop { g with pc := g.pc + 1, stack := .int (x % y) :: rest }) target) : Steps p.tables e below (T.setTop g) target := iremM X hx hg hd hs hy hr
theorem own_lrem {g : JFrame} {target : State} (X : Stand p l e R s m args below meth c T locs cells slots) (hx : p.tables.exec = Jvm.exec) (hg : g.method = m) {x y : Int64} {rest : List Value} (hd : decode c.code g.pc = .ok (.lrem, 1)) (hs : g.stack = .long y :: .long x :: rest) (hy : y ≠ 0)
    (hr : Steps p.tables e below (T.setTop { g with pc := g.pc + 1, stack := .long (x % y) :: rest }) target) : Steps p.tables e below (T.setTop g) target :=
  XS.lrem X.here hx hg hd hs hy (by rw [lrem_mod]; exact hr)
theorem own_pop2 {g : JFrame} {target : State} (X : Stand p l e R s m args below meth c T locs cells slots) (hx : p.tables.exec = Jvm.exec) (hg : g.method = m) {x : Int64} {rest : List Value} (hd : decode c.code g.pc = .ok (.pop2, 1)) (hs : g.stack = .long x :: rest)
    (hr : Steps p.tables e below (T.setTop { g with pc := g.pc + 1, stack := rest }) target) : Steps p.tables e below (T.setTop g) target := by
  subst hg
  jvm_step X.here [X.here.top, hx, hd, hs, Value.category]
  exact hr
theorem own_fldJ {t : Term} {C n d : String} {a : Addr} {z : Int64} (ht : t.eval args s none [] s = some (.ref a)) (q : (Jvm.Cond.eq (.field t C n d) (.long z)).value args s none s [] = some true) : Fld s s.heap a C n d (.long z) := by
  obtain ⟨x, y, ha, hb, -, k2⟩ := cmp_v (Or.inl q)
  obtain rfl : y = .long z := Option.some.inj (hb.symm.trans (long_at z))
  obtain ⟨w, rfl⟩ := k2
  have e : w = z := gotT (eq_L ha hb) q
  subst e
  exact Fld.start ((fld_at ht).symm.trans ha)
theorem own_staI {C n d : String} {z : Int32} (q : (Jvm.Cond.eq (.static C n d) (.int z)).value args s none s [] = some true) (hi : (Jvm.Cond.initializedFor C n d).before args s = true ∨ ((Jvm.Cond.initialized C).before args s = true ∧ (Jvm.Cond.laysStatic C n d).before args s = true)) : Sta s s.heap C n d (.int z) := by
  obtain ⟨x, y, ha, hb, -, k2⟩ := cmp_v (Or.inl q)
  obtain rfl : y = .int z := Option.some.inj (hb.symm.trans (Term.int_eval z))
  obtain ⟨w, rfl⟩ := k2
  have e : w = z := gotT (Cond.eq_ints ha hb) q
  subst e
  exact Sta.start ha hi
theorem own_ns_exa {a : Addr} {C : String} (E : Exa Z h a C) : ∃ c : Cell, h[a]? = some c ∧ c.vm.isStatics = false := by
  obtain ⟨c, k, h1, -, -, h4, -⟩ := E
  exact ⟨c, h1, h4⟩
theorem own_ns_arv {a : Addr} {k : ClassId} {ty : FieldType} {z : Int32} {vs : List Value} {dv : Value} (F : Arv Z h a k ty z vs dv) : ∃ c : Cell, h[a]? = some c ∧ c.vm.isStatics = false := by
  obtain ⟨c, A, -⟩ := F
  exact ⟨c, A.1, A.plain⟩
theorem own_sta_keep {h' : Heap} {C n d : String} {w : Value} {ws : List Addr} (F : Sta Z h C n d w) (K : Keep h h' ws) (hn : ∀ x ∈ ws, ∃ c : Cell, h[x]? = some c ∧ c.vm.isStatics = false) : Sta Z h' C n d w := by
  obtain ⟨cf, i, k, f, st, cell, h1, h2, h3, h4, h5, h6, h7⟩ := F
  exact ⟨cf, i, k, f, st, cell, h1, h2, h3, h4, K.2.1 st cell h5 (fun q => by obtain ⟨c, e1, e2⟩ := hn st q; cases h5.symm.trans e1; rw [e2] at h6; cases h6), h6, h7⟩
end Own
/-! own_..W: the same walk where String constants may be loaded cold (by the body or by a callee): the Stand is over the start with the tables at hand, 'Since' beside it. -/
def own_PostW (s : State) (Q : Option Value → Heap → List Loc → Prop) (cs ss : Nat) (o : Outcome) (u : State) : Prop := ∃ v L, o = .returned v ∧ Q v u.heap L ∧ ReturnedEndW s o u L cs ss
abbrev own_MetW (l : Launch) (Z : State) (y : MethodName) (bytes : ByteArray) (maxL : Nat) (ret : Option FieldType) (ws : List Jvm.Cond) (rm : Room) (as' : Array Value) (h0 : Heap) (cs ss : Nat) (Q : Option Value → Heap → List Loc → Prop) : Prop :=
  MetFree l y (head1 (Jvm.Cond.code y bytes maxL ret :: ws) rm) (fun a U => a = as' ∧ Z.Warmed39 U.vm ∧ U.heap = h0) (fun _ _ _ _ _ => True) (fun _ U o U' => ∃ v L, o = .returned v ∧ Q v U'.heap L ∧ ReturnedEndW U o U' L cs ss)
section OwnW
variable {p : Program} {l : Launch} {e : Env} {R : Room} {s : State} {m : MethodId} {args : Array Value} {below : List Frame} {meth : Method} {c : Code} {T T' : State} {locs : List Loc} {cells slots : Nat} {Z : State} {a0 : Array Value} {h : Heap} {vm0 : Vm} {k0 : Nat}
theorem own_metW {y : MethodName} {bytes : ByteArray} {maxL : Nat} {ret : Option FieldType} {ws : List Jvm.Cond} {rm : Room} {as' : Array Value} {h0 : Heap} {cs ss : Nat} {Q : Option Value → Heap → List Loc → Prop} (hp : plainFor y = true)
    (body : ∀ (p : Program) (e : Env) (s : State) (m : MethodId) (below : List Frame) (meth : Method) (c : Code) (s₁ : State), BodyLoose p l y (head1 (Jvm.Cond.code y bytes maxL ret :: ws) rm) bytes maxL ret e s m as' below meth c s₁ → c.maxLocals = maxL → Z.Warmed39 (s.setVm s.vm).vm →
      Stand p l e rm (s.setVm s.vm) m as' below meth c s₁ [] 0 0 → s₁.heap = h0 → s.Since s.vm 0 → own_Go p e below (own_PostW s Q cs ss) s₁ (entryFrame m as' maxL)) : own_MetW l Z y bytes maxL ret ws rm as' h0 cs ss Q := by
  refine MetFree.of_bodySF hp hisR ?_
  intro p e s m args below meth c s₁ Bd hml0 hP hK
  obtain ⟨rfl, hZ, hh⟩ := hP
  exact body p e s m below meth c s₁ Bd hml0 hZ (Stand.of_body Bd) (by rw [← hh, Bd.state]; rfl) ((State.WarmedH.refl s).since 0)
theorem own_endW {o : Outcome} {u : State} {L : List Loc} {a b a' b' : Nat} (q : ReturnedEndW s o u L a b) (h1 : a ≤ a') (h2 : b ≤ b') : ReturnedEndW s o u L a' b' := ⟨q.1, q.2.1, q.2.2.1, q.2.2.2.mono h1 h2⟩
theorem own_retNW (X : Stand p l e R (s.setVm vm0) m args below meth c T locs cells slots) (hx : p.tables.exec = Jvm.exec) (hS : s.Since vm0 k0) (eT : T.heap = h) (hk : k0 ≤ h.size) (t : FieldType) (hret : meth.sig.returnType = some t) (hlk : meth.locks = false) (ht : t = .boolean ∨ t = .byte ∨ t = .char ∨ t = .short) {pc : Nat} {Ls : Array Slot} {z : Int32} {rest : List Value} (hd : decode c.code pc = .ok (.ireturn, 1))
    {Q : Option Value → Heap → List Loc → Prop} {cs ss : Nat} (hc : cells ≤ cs) (hs : slots ≤ ss) (hQ : Q (some (.int (nar t z))) T.heap locs) : own_Go p e below (own_PostW s Q cs ss) T (mkF m pc Ls (.int z :: rest)) := by
  obtain ⟨fs, hr, hrun, hended, hW⟩ := X.leaveW hS (eT ▸ hk) (v := some (.int (nar t z))) (fun h => by rw [hret] at h; cases h) hlk
  exact ⟨_, _, retN X hx hret ht hd hr, hrun, hended, _, _, rfl, hQ, own_endW hW hc hs⟩
theorem own_retAW (X : Stand p l e R (s.setVm vm0) m args below meth c T locs cells slots) (hx : p.tables.exec = Jvm.exec) (hS : s.Since vm0 k0) (eT : T.heap = h) (hk : k0 ≤ h.size) {t : FieldType} (hret : meth.sig.returnType = some t) (hlk : meth.locks = false) (ht : t.isReference = true) {pc : Nat} {Ls : Array Slot} {w : Value} {rest : List Value} (hw : w.isRef = true) (hd : decode c.code pc = .ok (.areturn, 1))
    {Q : Option Value → Heap → List Loc → Prop} {cs ss : Nat} (hc : cells ≤ cs) (hs : slots ≤ ss) (hQ : Q (some w) T.heap locs) : own_Go p e below (own_PostW s Q cs ss) T (mkF m pc Ls (w :: rest)) := by
  obtain ⟨fs, hr, hrun, hended, hW⟩ := X.leaveW hS (eT ▸ hk) (v := some w) (fun h => by rw [hret] at h; cases h) hlk
  have hn : narrow t w = w := by rcases ref_cases hw with rfl | ⟨a, rfl⟩ <;> cases t <;> first | rfl | cases ht
  exact ⟨_, _, retOut X hx hret hn (Or.inr (Or.inr (Or.inr (Or.inr ⟨rfl, ht, hw⟩)))) hd hr, hrun, hended, _, _, rfl, hQ, own_endW hW hc hs⟩
theorem own_retVW (X : Stand p l e R (s.setVm vm0) m args below meth c T locs cells slots) (hx : p.tables.exec = Jvm.exec) (hS : s.Since vm0 k0) (eT : T.heap = h) (hk : k0 ≤ h.size) (hret : meth.sig.returnType = none) (hlk : meth.locks = false) {pc : Nat} {Ls : Array Slot} (hd : decode c.code pc = .ok (.return_, 1))
    {Q : Option Value → Heap → List Loc → Prop} {cs ss : Nat} (hc : cells ≤ cs) (hs : slots ≤ ss) (hQ : Q none T.heap locs) : own_Go p e below (own_PostW s Q cs ss) T (mkF m pc Ls []) := by
  obtain ⟨fs, hr, hrun, hended, hW⟩ := X.leaveW hS (eT ▸ hk) (v := none) (fun _ => rfl) hlk
  exact ⟨_, _, X.returnOut hx hret hd hr, hrun, hended, _, _, rfl, hQ, own_endW hW hc hs⟩
theorem own_callIW (X : Stand p l e R (s.setVm vm0) m args below meth c T locs cells slots) (hx : p.tables.exec = Jvm.exec) (hZ : Z.Warmed39 (s.setVm vm0).vm) (hS : s.Since vm0 k0) (hk : k0 ≤ h.size) {own : String} {index : Nat} {y : MethodName} {bytes : ByteArray} {maxL : Nat} (hy1 : y.name = "<init>") (hown : (s.setVm vm0).vm.findClass own = some m.cls)
    (w1 : (Jvm.Cond.methodLink own index y).before a0 Z = true) (w2 : (Jvm.Cond.instanceMethod y).before a0 Z = true) (w3 : (Jvm.Cond.initialized y.cls).before a0 Z = true) (w4 : (Jvm.Cond.code y bytes maxL none).before a0 Z = true)
    (hy : y.cls ≠ "java/lang/invoke/MethodHandle" ∧ y.cls ≠ "java/lang/invoke/VarHandle") {rm : Room} {a : Addr} {argsL : List Value} {Q : Option Value → Heap → List Loc → Prop} (hM : own_MetW l Z y bytes maxL none [] rm (.ref a :: argsL).toArray h rm.cells rm.slots Q) (eT : T.heap = h)
    {g : JFrame} (hg : g.method = m) (hsize : g.locals.size = c.maxLocals) {rest : List Value} (hlen : ∀ sig, parseMethodDescriptor y.desc = some sig → argsL.length = sig.parameters.length) (hstack : g.stack = argsL.reverse ++ .ref a :: rest)
    (hdg : decode c.code g.pc = .ok (.invokespecial index, 3)) {W : Nat} (hW : 2 * g.monitorRoom + (rest.map fun v => v.category).sum ≤ W) (hf : rm.frames + 1 ≤ R.frames) (hl : W + (maxL + 11) + rm.locals ≤ R.locals) (hc : cells + rm.cells ≤ R.cells) (hs : slots + rm.slots ≤ R.slots) :
    ∃ (v : Option Value) (T' : State) (L : List Loc), Q v T'.heap L ∧ Stand p l e R (s.setVm T'.vm) m args below meth c T' (locs ++ L) (cells + rm.cells) (slots + rm.slots) ∧ s.Since T'.vm T'.heap.size ∧ Z.Warmed39 (s.setVm T'.vm).vm ∧ (s.setVm T'.vm).vm.findClass own = some m.cls ∧
      ∀ t, Steps p.tables e below (T'.setTop { g with pc := g.pc + 3, stack := v.toList ++ rest }) t → Steps p.tables e below (T.setTop g) t := by
  obtain ⟨v, _, ⟨T', L', k', n'⟩, -, X', hS', hgr, ⟨L, hQ, l1, l2, l3⟩, st⟩ := X.specialBackS hx hy1 hown (mvT hZ w1) (mvT hZ w2) (mvT hZ w4) hy (backOfS (W := W) hM hZ w4 w3 hf hl) hg hsize (Steps.refl _) hlen hstack hW hdg (fun _ _ => ⟨rfl, eT, hc, hs⟩)
  dsimp only [Pt.U, Pt.locs, Pt.cells, Pt.slots] at X' hS' hgr l1 l2 l3 st hQ
  subst l1 l2 l3
  obtain ⟨q1, q2, q3, q4⟩ := rebS hS hk X' hS' (by rw [← eT]; exact hgr) hZ hown
  exact ⟨v, T', L, hQ, q1, q2, q3, q4, fun _ k => st.trans k⟩
end OwnW
theorem own_strw : ∀ d ∈ Bundle.stringAtoms, d ∈ tables_1 := by
  intro d hd
  simp only [Bundle.stringAtoms, List.mem_cons, List.not_mem_nil, or_false] at hd
  rcases hd with rfl | rfl | rfl | rfl | rfl | rfl | rfl
  · exact List.mem_of_getElem? (i := 3) rfl
  · exact List.mem_of_getElem? (i := 2) rfl
  · exact List.mem_of_getElem? (i := 19) rfl
  · exact List.mem_of_getElem? (i := 29) rfl
  · exact List.mem_of_getElem? (i := 27) rfl
  · exact List.mem_of_getElem? (i := 43) rfl
  · exact List.mem_of_getElem? (i := 44) rfl
theorem own_ch (x : Int32) : ¬ (255 : Int32) < nar .char ((x &&& (255 : Int32)).toUInt32.toUInt16.toUInt32.toInt32) := by
  have h1 := c_mask x (255 : Int32) 8 (by decide) (by decide)
  have h2 := c_i2c (x &&& (255 : Int32))
  have h3 := c_i2c ((x &&& (255 : Int32)).toUInt32.toUInt16.toUInt32.toInt32)
  simp only [Nat.reducePow, Int.cast_ofNat_Int] at h1
  show ¬ (255 : Int32) < ((x &&& (255 : Int32)).toUInt32.toUInt16.toUInt32.toInt32).toUInt32.toUInt16.toUInt32.toInt32
  simp only [Int32.lt_iff_toInt_lt, Int32.reduceToInt]
  omega
theorem d5_0 : decode jdk_52_method_21_code 0 = .ok (.iconst 0, 1) := by decide +kernel
theorem d5_1 : decode jdk_52_method_21_code 1 = .ok (.istore 5, 2) := by decide +kernel
theorem d5_3 : decode jdk_52_method_21_code 3 = .ok (.iload 5, 2) := by decide +kernel
theorem d5_5 : decode jdk_52_method_21_code 5 = .ok (.iload 4, 2) := by decide +kernel
theorem d5_7 : decode jdk_52_method_21_code 7 = .ok (.if_icmp .ge 37, 3) := by decide +kernel
theorem d5_10 : decode jdk_52_method_21_code 10 = .ok (.aload_n 0, 1) := by decide +kernel
theorem d5_11 : decode jdk_52_method_21_code 11 = .ok (.iload_n 1, 1) := by decide +kernel
theorem d5_12 : decode jdk_52_method_21_code 12 = .ok (.caload, 1) := by decide +kernel
theorem d5_13 : decode jdk_52_method_21_code 13 = .ok (.istore 6, 2) := by decide +kernel
theorem d5_15 : decode jdk_52_method_21_code 15 = .ok (.iload 6, 2) := by decide +kernel
theorem d5_17 : decode jdk_52_method_21_code 17 = .ok (.sipush 255, 3) := by decide +kernel
theorem d5_20 : decode jdk_52_method_21_code 20 = .ok (.if_icmp .le 6, 3) := by decide +kernel
theorem d5_26 : decode jdk_52_method_21_code 26 = .ok (.aload_n 2, 1) := by decide +kernel
theorem d5_27 : decode jdk_52_method_21_code 27 = .ok (.iload_n 3, 1) := by decide +kernel
theorem d5_28 : decode jdk_52_method_21_code 28 = .ok (.iload 6, 2) := by decide +kernel
theorem d5_30 : decode jdk_52_method_21_code 30 = .ok (.i2b, 1) := by decide +kernel
theorem d5_31 : decode jdk_52_method_21_code 31 = .ok (.bastore, 1) := by decide +kernel
theorem d5_32 : decode jdk_52_method_21_code 32 = .ok (.iinc 1 1, 3) := by decide +kernel
theorem d5_35 : decode jdk_52_method_21_code 35 = .ok (.iinc 3 1, 3) := by decide +kernel
theorem d5_38 : decode jdk_52_method_21_code 38 = .ok (.iinc 5 1, 3) := by decide +kernel
theorem d5_41 : decode jdk_52_method_21_code 41 = .ok (.goto (-38), 3) := by decide +kernel
theorem d5_44 : decode jdk_52_method_21_code 44 = .ok (.iload 4, 2) := by decide +kernel
theorem d5_46 : decode jdk_52_method_21_code 46 = .ok (.ireturn, 1) := by decide +kernel
theorem pn_cpa1 : plainName "java/lang/StringUTF16" = true := by first | (simp [plainName, overriddenIn]; done) | decide +kernel
theorem ef_cpa1 (m : MethodId) (o0 : Addr) (o2 : Addr) : entryFrame m #[(.ref o0), (.int (0 : Int32)), (.ref o2), (.int (0 : Int32)), (.int (1 : Int32))] 7 = mkF m 0 #[.val (.ref o0), .val (.int (0 : Int32)), .val (.ref o2), .val (.int (0 : Int32)), .val (.int (1 : Int32)), .unset, .unset] [] := by first | (simp [entryFrame, mkF, argsToLocals, Value.category]; done) | rfl
set_option maxRecDepth 65536 in
set_option maxHeartbeats 40000000 in
theorem cpa1 (l : Launch) (Z : State) (a0 : Array Value) (hw : ∀ d ∈ tables_1, d.before a0 Z = true) (o0 : Addr) (o2 : Addr) (c0_ : Int32) (kc_ : ClassId) (kb_ : ClassId) (h0 : Heap) (n0 : Nat) (Z0 : n0 ≤ h0.size) (g_o2 : n0 ≤ o2) (P0 : Arv Z h0 o0 kc_ .char (1 : Int32) [(.int c0_)] (.int (0 : Int32))) (P1 : Arv Z h0 o2 kb_ .byte (1 : Int32) [(.int (0 : Int32))] (.int (0 : Int32))) (hc0_ : ¬ (255 : Int32) < c0_) (hne : o0 ≠ o2) :
    own_Met l Z (⟨"java/lang/StringUTF16", "compress", "([CI[BII)I"⟩ : MethodName) jdk_52_method_21_code 7 (some .int) [] ({ frames := 0, cells := 0, slots := 0, locals := 0 } : Room) #[(.ref o0), (.int (0 : Int32)), (.ref o2), (.int (0 : Int32)), (.int (1 : Int32))] h0 0 0 (fun v h L => v = some (.int (1 : Int32)) ∧ Fr n0 L ∧ Keep h0 h [o2] ∧ Arv Z h o0 kc_ .char (1 : Int32) [(.int c0_)] (.int (0 : Int32)) ∧ Arv Z h o2 kb_ .byte (1 : Int32) [(.int ((c0_.toInt8.toInt32)).toInt8.toInt32)] (.int (0 : Int32))) := by
  refine own_met (plainFor_of_name pn_cpa1) ?_
  intro p e s m below meth c s₁ Bd hml0 hZ X0 e0
  have hx := Bd.exec
  have hby := Bd.bytes
  have hml : c.maxLocals = 7 := hml0
  have hown : s.vm.findClass "java/lang/StringUTF16" = some m.cls := findClass_of_methodNamed Bd.named
  have hnm := (name_of_methodNamed Bd.named Bd.method).1
  refine own_cast (ef_cpa1 m o0 o2) ?_
  generalize hQQ : (fun (v : Option Value) (h : Heap) (L : List Loc) => v = some (.int (1 : Int32)) ∧ Fr n0 L ∧ Keep h0 h [o2] ∧ Arv Z h o0 kc_ .char (1 : Int32) [(.int c0_)] (.int (0 : Int32)) ∧ Arv Z h o2 kb_ .byte (1 : Int32) [(.int ((c0_.toInt8.toInt32)).toInt8.toInt32)] (.int (0 : Int32))) = QQ
  have N0 := Fr.nil n0
  have K0 := Keep.refl h0 [o2]
  refine own_go (g' := (mkF m 1 #[.val (.ref o0), .val (.int (0 : Int32)), .val (.ref o2), .val (.int (0 : Int32)), .val (.int (1 : Int32)), .unset, .unset] [(.int (0 : Int32))])) (fun _ kgo => XS.iconst X0.here hx rfl (hb hby d5_0) kgo) ?_
  refine own_go (g' := (mkF m 3 #[.val (.ref o0), .val (.int (0 : Int32)), .val (.ref o2), .val (.int (0 : Int32)), .val (.int (1 : Int32)), .val (.int (0 : Int32)), .unset] [])) (fun _ kgo => XS.istore X0.here hx rfl (hb hby d5_1) rfl (l' := #[.val (.ref o0), .val (.int (0 : Int32)), .val (.ref o2), .val (.int (0 : Int32)), .val (.int (1 : Int32)), .val (.int (0 : Int32)), .unset]) rfl kgo) ?_
  refine own_go (g' := (mkF m 5 #[.val (.ref o0), .val (.int (0 : Int32)), .val (.ref o2), .val (.int (0 : Int32)), .val (.int (1 : Int32)), .val (.int (0 : Int32)), .unset] [(.int (0 : Int32))])) (fun _ kgo => XS.iload X0.here hx rfl (hb hby d5_3) rfl kgo) ?_
  refine own_go (g' := (mkF m 7 #[.val (.ref o0), .val (.int (0 : Int32)), .val (.ref o2), .val (.int (0 : Int32)), .val (.int (1 : Int32)), .val (.int (0 : Int32)), .unset] [(.int (1 : Int32)), (.int (0 : Int32))])) (fun _ kgo => XS.iload X0.here hx rfl (hb hby d5_5) rfl kgo) ?_
  refine own_go (g' := (mkF m 10 #[.val (.ref o0), .val (.int (0 : Int32)), .val (.ref o2), .val (.int (0 : Int32)), .val (.int (1 : Int32)), .val (.int (0 : Int32)), .unset] [])) (fun _ kgo => XS.icmpNo X0.here hx rfl (hb hby d5_7) rfl (tlt (by decide)).2.1 kgo) ?_
  refine own_go (g' := (mkF m 11 #[.val (.ref o0), .val (.int (0 : Int32)), .val (.ref o2), .val (.int (0 : Int32)), .val (.int (1 : Int32)), .val (.int (0 : Int32)), .unset] [(.ref o0)])) (fun _ kgo => XS.aloadN X0.here hx rfl (hb hby d5_10) rfl rfl kgo) ?_
  refine own_go (g' := (mkF m 12 #[.val (.ref o0), .val (.int (0 : Int32)), .val (.ref o2), .val (.int (0 : Int32)), .val (.int (1 : Int32)), .val (.int (0 : Int32)), .unset] [(.int (0 : Int32)), (.ref o0)])) (fun _ kgo => XS.iloadN X0.here hx rfl (hb hby d5_11) rfl kgo) ?_
  obtain ⟨cl1, Ar1, qk1, sz1, nn1, Hs1, Gs1⟩ := id P0
  have hin1 : ¬ ((0 : Int32) < 0 ∨ cl1.slots.size ≤ ((0 : Int32)).toNatClampNeg) := inb_of sz1 ⟨by decide, by decide⟩
  have hat1 : cl1.slots[((0 : Int32)).toNatClampNeg]? = some (.int c0_) := Has.at Hs1 hin1 rfl
  refine own_go (g' := (mkF m 13 #[.val (.ref o0), .val (.int (0 : Int32)), .val (.ref o2), .val (.int (0 : Int32)), .val (.int (1 : Int32)), .val (.int (0 : Int32)), .unset] [(.int c0_)])) (X0.caload hx (j := (0 : Int32)) (v := (.int c0_)) (by rw [e0]; exact Ar1.1) (State.isArrayOf_alike hZ.alike Ar1.2.1) Ar1.2.2 hin1 hat1 (g := (mkF m 12 #[.val (.ref o0), .val (.int (0 : Int32)), .val (.ref o2), .val (.int (0 : Int32)), .val (.int (1 : Int32)), .val (.int (0 : Int32)), .unset] [(.int (0 : Int32)), (.ref o0)])) rfl rfl (hb hby d5_12)) ?_
  refine own_go (g' := (mkF m 15 #[.val (.ref o0), .val (.int (0 : Int32)), .val (.ref o2), .val (.int (0 : Int32)), .val (.int (1 : Int32)), .val (.int (0 : Int32)), .val (.int c0_)] [])) (fun _ kgo => XS.istore X0.here hx rfl (hb hby d5_13) rfl (l' := #[.val (.ref o0), .val (.int (0 : Int32)), .val (.ref o2), .val (.int (0 : Int32)), .val (.int (1 : Int32)), .val (.int (0 : Int32)), .val (.int c0_)]) rfl kgo) ?_
  refine own_go (g' := (mkF m 17 #[.val (.ref o0), .val (.int (0 : Int32)), .val (.ref o2), .val (.int (0 : Int32)), .val (.int (1 : Int32)), .val (.int (0 : Int32)), .val (.int c0_)] [(.int c0_)])) (fun _ kgo => XS.iload X0.here hx rfl (hb hby d5_15) rfl kgo) ?_
  refine own_go (g' := (mkF m 20 #[.val (.ref o0), .val (.int (0 : Int32)), .val (.ref o2), .val (.int (0 : Int32)), .val (.int (1 : Int32)), .val (.int (0 : Int32)), .val (.int c0_)] [(.int (255 : Int32)), (.int c0_)])) (fun _ kgo => XS.sipush X0.here hx rfl (hb hby d5_17) kgo) ?_
  refine own_go (g' := (mkF m 26 #[.val (.ref o0), .val (.int (0 : Int32)), .val (.ref o2), .val (.int (0 : Int32)), .val (.int (1 : Int32)), .val (.int (0 : Int32)), .val (.int c0_)] [])) (fun _ kgo => XS.icmpYes X0.here hx rfl (pc0 := 20) (pc' := 26) rfl (hb hby d5_20) rfl (flt hc0_).2.2.2 (by decide) (by decide) kgo) ?_
  refine own_go (g' := (mkF m 27 #[.val (.ref o0), .val (.int (0 : Int32)), .val (.ref o2), .val (.int (0 : Int32)), .val (.int (1 : Int32)), .val (.int (0 : Int32)), .val (.int c0_)] [(.ref o2)])) (fun _ kgo => XS.aloadN X0.here hx rfl (hb hby d5_26) rfl rfl kgo) ?_
  refine own_go (g' := (mkF m 28 #[.val (.ref o0), .val (.int (0 : Int32)), .val (.ref o2), .val (.int (0 : Int32)), .val (.int (1 : Int32)), .val (.int (0 : Int32)), .val (.int c0_)] [(.int (0 : Int32)), (.ref o2)])) (fun _ kgo => XS.iloadN X0.here hx rfl (hb hby d5_27) rfl kgo) ?_
  refine own_go (g' := (mkF m 30 #[.val (.ref o0), .val (.int (0 : Int32)), .val (.ref o2), .val (.int (0 : Int32)), .val (.int (1 : Int32)), .val (.int (0 : Int32)), .val (.int c0_)] [(.int c0_), (.int (0 : Int32)), (.ref o2)])) (fun _ kgo => XS.iload X0.here hx rfl (hb hby d5_28) rfl kgo) ?_
  refine own_go (g' := (mkF m 31 #[.val (.ref o0), .val (.int (0 : Int32)), .val (.ref o2), .val (.int (0 : Int32)), .val (.int (1 : Int32)), .val (.int (0 : Int32)), .val (.int c0_)] [(.int (c0_.toInt8.toInt32)), (.int (0 : Int32)), (.ref o2)])) (fun _ kgo => XS.i2b X0.here hx rfl (hb hby d5_30) rfl kgo) ?_
  obtain ⟨cl2, Ar2, qk2, sz2, nn2, Hs2, Gs2⟩ := id P1
  have hin2 : ¬ ((0 : Int32) < 0 ∨ cl2.slots.size ≤ ((0 : Int32)).toNatClampNeg) := inb_of sz2 ⟨by decide, by decide⟩
  obtain ⟨T2, h2, X2, e2, W2, st2⟩ := stB X0 hx hZ e0 Ar2 (j := (0 : Int32)) hin2 (g := (mkF m 31 #[.val (.ref o0), .val (.int (0 : Int32)), .val (.ref o2), .val (.int (0 : Int32)), .val (.int (1 : Int32)), .val (.int (0 : Int32)), .val (.int c0_)] [(.int (c0_.toInt8.toInt32)), (.int (0 : Int32)), (.ref o2)])) rfl rfl (hb hby d5_31)
  have V2 : Arv Z h2 o2 kb_ .byte (1 : Int32) [(.int ((c0_.toInt8.toInt32)).toInt8.toInt32)] (.int (0 : Int32)) := Arv.set Ar2 qk2 sz2 nn2 Hs2 Gs2 (fits_nar_byte _) W2 0 rfl (Nat.le_of_ble_eq_true rfl)
  have N2 := Fr.snoc X2 N0 g_o2
  have Z2 : n0 ≤ h2.size := by rw [W2.size]; exact Z0
  have K2 : Keep h0 h2 [o2] := K0.wr W2 (Or.inl (List.mem_of_getElem? (i := 0) rfl))
  refine own_go (g' := (mkF m 32 #[.val (.ref o0), .val (.int (0 : Int32)), .val (.ref o2), .val (.int (0 : Int32)), .val (.int (1 : Int32)), .val (.int (0 : Int32)), .val (.int c0_)] [])) (st2) ?_
  refine own_go (g' := (mkF m 35 #[.val (.ref o0), .val (.int (1 : Int32)), .val (.ref o2), .val (.int (0 : Int32)), .val (.int (1 : Int32)), .val (.int (0 : Int32)), .val (.int c0_)] [])) (fun _ kgo => XS.iinc X2.here hx rfl (hb hby d5_32) rfl (l' := #[.val (.ref o0), .val (.int (1 : Int32)), .val (.ref o2), .val (.int (0 : Int32)), .val (.int (1 : Int32)), .val (.int (0 : Int32)), .val (.int c0_)]) rfl kgo) ?_
  refine own_go (g' := (mkF m 38 #[.val (.ref o0), .val (.int (1 : Int32)), .val (.ref o2), .val (.int (1 : Int32)), .val (.int (1 : Int32)), .val (.int (0 : Int32)), .val (.int c0_)] [])) (fun _ kgo => XS.iinc X2.here hx rfl (hb hby d5_35) rfl (l' := #[.val (.ref o0), .val (.int (1 : Int32)), .val (.ref o2), .val (.int (1 : Int32)), .val (.int (1 : Int32)), .val (.int (0 : Int32)), .val (.int c0_)]) rfl kgo) ?_
  refine own_go (g' := (mkF m 41 #[.val (.ref o0), .val (.int (1 : Int32)), .val (.ref o2), .val (.int (1 : Int32)), .val (.int (1 : Int32)), .val (.int (1 : Int32)), .val (.int c0_)] [])) (fun _ kgo => XS.iinc X2.here hx rfl (hb hby d5_38) rfl (l' := #[.val (.ref o0), .val (.int (1 : Int32)), .val (.ref o2), .val (.int (1 : Int32)), .val (.int (1 : Int32)), .val (.int (1 : Int32)), .val (.int c0_)]) rfl kgo) ?_
  refine own_go (g' := (mkF m 3 #[.val (.ref o0), .val (.int (1 : Int32)), .val (.ref o2), .val (.int (1 : Int32)), .val (.int (1 : Int32)), .val (.int (1 : Int32)), .val (.int c0_)] [])) (fun _ kgo => XS.goto X2.here hx rfl (pc0 := 41) (pc' := 3) rfl (hb hby d5_41) (by decide) (by decide) kgo) ?_
  refine own_go (g' := (mkF m 5 #[.val (.ref o0), .val (.int (1 : Int32)), .val (.ref o2), .val (.int (1 : Int32)), .val (.int (1 : Int32)), .val (.int (1 : Int32)), .val (.int c0_)] [(.int (1 : Int32))])) (fun _ kgo => XS.iload X2.here hx rfl (hb hby d5_3) rfl kgo) ?_
  refine own_go (g' := (mkF m 7 #[.val (.ref o0), .val (.int (1 : Int32)), .val (.ref o2), .val (.int (1 : Int32)), .val (.int (1 : Int32)), .val (.int (1 : Int32)), .val (.int c0_)] [(.int (1 : Int32)), (.int (1 : Int32))])) (fun _ kgo => XS.iload X2.here hx rfl (hb hby d5_5) rfl kgo) ?_
  refine own_go (g' := (mkF m 44 #[.val (.ref o0), .val (.int (1 : Int32)), .val (.ref o2), .val (.int (1 : Int32)), .val (.int (1 : Int32)), .val (.int (1 : Int32)), .val (.int c0_)] [])) (fun _ kgo => XS.icmpYes X2.here hx rfl (pc0 := 7) (pc' := 44) rfl (hb hby d5_7) rfl (flt (by decide)).2.1 (by decide) (by decide) kgo) ?_
  refine own_go (g' := (mkF m 46 #[.val (.ref o0), .val (.int (1 : Int32)), .val (.ref o2), .val (.int (1 : Int32)), .val (.int (1 : Int32)), .val (.int (1 : Int32)), .val (.int c0_)] [(.int (1 : Int32))])) (fun _ kgo => XS.iload X2.here hx rfl (hb hby d5_44) rfl kgo) ?_
  refine own_retI X2 hx Bd.returns Bd.notSynchronized (hb hby d5_46) (by decide) (by decide) ?_
  show QQ _ T2.heap _
  rw [e2]
  have fx3 : Arv Z h2 o0 kc_ .char (1 : Int32) [(.int c0_)] (.int (0 : Int32)) := (Arv.other P0 W2 hne)
  rw [← hQQ]
  exact ⟨rfl, N2, K2, fx3, V2⟩
theorem d4_0 : decode jdk_52_method_16_code 0 = .ok (.iload_n 2, 1) := by decide +kernel
theorem d4_1 : decode jdk_52_method_16_code 1 = .ok (.newarray .byte, 2) := by decide +kernel
theorem d4_3 : decode jdk_52_method_16_code 3 = .ok (.astore_n 3, 1) := by decide +kernel
theorem d4_4 : decode jdk_52_method_16_code 4 = .ok (.aload_n 0, 1) := by decide +kernel
theorem d4_5 : decode jdk_52_method_16_code 5 = .ok (.iload_n 1, 1) := by decide +kernel
theorem d4_6 : decode jdk_52_method_16_code 6 = .ok (.aload_n 3, 1) := by decide +kernel
theorem d4_7 : decode jdk_52_method_16_code 7 = .ok (.iconst 0, 1) := by decide +kernel
theorem d4_8 : decode jdk_52_method_16_code 8 = .ok (.iload_n 2, 1) := by decide +kernel
theorem d4_9 : decode jdk_52_method_16_code 9 = .ok (.invokestatic 115, 3) := by decide +kernel
theorem d4_12 : decode jdk_52_method_16_code 12 = .ok (.istore 4, 2) := by decide +kernel
theorem d4_14 : decode jdk_52_method_16_code 14 = .ok (.iload 4, 2) := by decide +kernel
theorem d4_16 : decode jdk_52_method_16_code 16 = .ok (.iload_n 2, 1) := by decide +kernel
theorem d4_17 : decode jdk_52_method_16_code 17 = .ok (.if_icmp .eq 40, 3) := by decide +kernel
theorem d4_57 : decode jdk_52_method_16_code 57 = .ok (.aload_n 3, 1) := by decide +kernel
theorem d4_58 : decode jdk_52_method_16_code 58 = .ok (.areturn, 1) := by decide +kernel
theorem pn_cpb1 : plainName "java/lang/StringUTF16" = true := by first | (simp [plainName, overriddenIn]; done) | decide +kernel
theorem pd4_0 : parseMethodDescriptor "([CI[BII)I" = some ⟨[(.array .char), .int, (.array .byte), .int, .int], some .int⟩ := by decide +kernel
theorem ef_cpb1 (m : MethodId) (o0 : Addr) : entryFrame m #[(.ref o0), (.int (0 : Int32)), (.int (1 : Int32))] 6 = mkF m 0 #[.val (.ref o0), .val (.int (0 : Int32)), .val (.int (1 : Int32)), .unset, .unset, .unset] [] := by first | (simp [entryFrame, mkF, argsToLocals, Value.category]; done) | rfl
set_option maxRecDepth 65536 in
set_option maxHeartbeats 40000000 in
theorem cpb1 (l : Launch) (Z : State) (a0 : Array Value) (hw : ∀ d ∈ tables_1, d.before a0 Z = true) (o0 : Addr) (c0_ : Int32) (kc_ : ClassId) (h0 : Heap) (n0 : Nat) (Z0 : n0 ≤ h0.size) (P0 : Arv Z h0 o0 kc_ .char (1 : Int32) [(.int c0_)] (.int (0 : Int32))) (hc0_ : ¬ (255 : Int32) < c0_) :
    own_Met l Z (⟨"java/lang/StringUTF16", "compress", "([CII)[B"⟩ : MethodName) jdk_52_method_16_code 6 (some (.array .byte)) [] ({ frames := 1, cells := 1, slots := 1, locals := 18 } : Room) #[(.ref o0), (.int (0 : Int32)), (.int (1 : Int32))] h0 1 1 (fun v h L => ∃ (r : Addr), ∃ (kr : ClassId), v = some (.ref r) ∧ Fr n0 L ∧ Keep h0 h [] ∧ h0.size ≤ r ∧ Arv Z h r kr .byte (1 : Int32) [(.int ((c0_.toInt8.toInt32)).toInt8.toInt32)] (.int (0 : Int32))) := by
  refine own_met (plainFor_of_name pn_cpb1) ?_
  intro p e s m below meth c s₁ Bd hml0 hZ X0 e0
  have hx := Bd.exec
  have hby := Bd.bytes
  have hml : c.maxLocals = 6 := hml0
  have hown : s.vm.findClass "java/lang/StringUTF16" = some m.cls := findClass_of_methodNamed Bd.named
  have hnm := (name_of_methodNamed Bd.named Bd.method).1
  refine own_cast (ef_cpb1 m o0) ?_
  generalize hQQ : (fun (v : Option Value) (h : Heap) (L : List Loc) => ∃ (r : Addr), ∃ (kr : ClassId), v = some (.ref r) ∧ Fr n0 L ∧ Keep h0 h [] ∧ h0.size ≤ r ∧ Arv Z h r kr .byte (1 : Int32) [(.int ((c0_.toInt8.toInt32)).toInt8.toInt32)] (.int (0 : Int32))) = QQ
  have N0 := Fr.nil n0
  have K0 := Keep.refl h0 []
  refine own_go (g' := (mkF m 1 #[.val (.ref o0), .val (.int (0 : Int32)), .val (.int (1 : Int32)), .unset, .unset, .unset] [(.int (1 : Int32))])) (fun _ kgo => XS.iloadN X0.here hx rfl (hb hby d4_0) rfl kgo) ?_
  obtain ⟨T1, h1, k1, X1, e1, E1, A1, st1⟩ := newP X0 hx hZ (hw _ (List.mem_of_getElem? (i := 19) rfl)) e0 (g := (mkF m 1 #[.val (.ref o0), .val (.int (0 : Int32)), .val (.int (1 : Int32)), .unset, .unset, .unset] [(.int (1 : Int32))])) rfl (hb hby d4_1) rfl (by decide) (cap := 1) (by decide) (by decide) (by decide) (by decide)
  obtain ⟨b1, ad1⟩ : ∃ z, z = h0.size := ⟨_, rfl⟩
  rw [← ad1] at A1 st1
  have ne_o0_b1 : o0 ≠ b1 := Nat.ne_of_lt (by rw [ad1]; exact P0.lt)
  have ge_b1 : n0 ≤ b1 := by rw [ad1]; exact Z0
  have sz_b1 : h0.size ≤ b1 := by rw [ad1]; exact K0.1
  have Z1 : n0 ≤ h1.size := Nat.le_trans Z0 E1.1
  have K1 : Keep h0 h1 [] := K0.ext E1
  have V1 : Arv Z h1 b1 k1 .byte (1 : Int32) [(.int (0 : Int32))] (.int (0 : Int32)) := (Arv.new A1 (by decide)).pad (pad_rep [] (.int (0 : Int32)) 1)
  refine own_go (g' := (mkF m 3 #[.val (.ref o0), .val (.int (0 : Int32)), .val (.int (1 : Int32)), .unset, .unset, .unset] [(.ref b1)])) (st1) ?_
  refine own_go (g' := (mkF m 4 #[.val (.ref o0), .val (.int (0 : Int32)), .val (.int (1 : Int32)), .val (.ref b1), .unset, .unset] [])) (fun _ kgo => XS.astoreN X1.here hx rfl (hb hby d4_3) rfl rfl (l' := #[.val (.ref o0), .val (.int (0 : Int32)), .val (.int (1 : Int32)), .val (.ref b1), .unset, .unset]) rfl kgo) ?_
  refine own_go (g' := (mkF m 5 #[.val (.ref o0), .val (.int (0 : Int32)), .val (.int (1 : Int32)), .val (.ref b1), .unset, .unset] [(.ref o0)])) (fun _ kgo => XS.aloadN X1.here hx rfl (hb hby d4_4) rfl rfl kgo) ?_
  refine own_go (g' := (mkF m 6 #[.val (.ref o0), .val (.int (0 : Int32)), .val (.int (1 : Int32)), .val (.ref b1), .unset, .unset] [(.int (0 : Int32)), (.ref o0)])) (fun _ kgo => XS.iloadN X1.here hx rfl (hb hby d4_5) rfl kgo) ?_
  refine own_go (g' := (mkF m 7 #[.val (.ref o0), .val (.int (0 : Int32)), .val (.int (1 : Int32)), .val (.ref b1), .unset, .unset] [(.ref b1), (.int (0 : Int32)), (.ref o0)])) (fun _ kgo => XS.aloadN X1.here hx rfl (hb hby d4_6) rfl rfl kgo) ?_
  refine own_go (g' := (mkF m 8 #[.val (.ref o0), .val (.int (0 : Int32)), .val (.int (1 : Int32)), .val (.ref b1), .unset, .unset] [(.int (0 : Int32)), (.ref b1), (.int (0 : Int32)), (.ref o0)])) (fun _ kgo => XS.iconst X1.here hx rfl (hb hby d4_7) kgo) ?_
  refine own_go (g' := (mkF m 9 #[.val (.ref o0), .val (.int (0 : Int32)), .val (.int (1 : Int32)), .val (.ref b1), .unset, .unset] [(.int (1 : Int32)), (.int (0 : Int32)), (.ref b1), (.int (0 : Int32)), (.ref o0)])) (fun _ kgo => XS.iloadN X1.here hx rfl (hb hby d4_8) rfl kgo) ?_
  have fx3 : Arv Z h1 o0 kc_ .char (1 : Int32) [(.int c0_)] (.int (0 : Int32)) := (Arv.ext P0 E1)
  obtain ⟨v2, T2, L2, hQ2, X2, st2⟩ := own_callS X1 hx hZ (y := (⟨"java/lang/StringUTF16", "compress", "([CI[BII)I"⟩ : MethodName)) hown (hw _ (List.mem_of_getElem? (i := 20) rfl)) (hw _ (List.mem_of_getElem? (i := 21) rfl)) (hw _ (List.mem_of_getElem? (i := 17) rfl)) (hw _ (List.mem_of_getElem? (i := 22) rfl)) ⟨by decide, by decide⟩ (argsL := [(.ref o0), (.int (0 : Int32)), (.ref b1), (.int (0 : Int32)), (.int (1 : Int32))]) (cpa1 l Z a0 hw o0 b1 c0_ kc_ k1 h1 n0 Z1 ge_b1 fx3 V1 hc0_ ne_o0_b1) e1 (g := (mkF m 9 #[.val (.ref o0), .val (.int (0 : Int32)), .val (.int (1 : Int32)), .val (.ref b1), .unset, .unset] [(.int (1 : Int32)), (.int (0 : Int32)), (.ref b1), (.int (0 : Int32)), (.ref o0)])) rfl (by rw [hml]; rfl) (rest := []) (lenOf pd4_0 rfl) rfl (hb hby d4_9) (W := 0) (by show 2 * 0 + _ ≤ _; exact Nat.le_of_eq rfl) (by decide) (by decide) (by decide) (by decide)
  obtain ⟨rfl, Nq2, Kq2, q2_0, q2_1⟩ := hQ2
  have N2 := Fr.app N0 Nq2
  have Z2 : n0 ≤ T2.heap.size := Nat.le_trans Z1 Kq2.1
  have KK2 : Keep h0 T2.heap [] := K1.trans Kq2 (allS (Or.inr sz_b1) all0)
  refine own_go (g' := (mkF m 12 #[.val (.ref o0), .val (.int (0 : Int32)), .val (.int (1 : Int32)), .val (.ref b1), .unset, .unset] [(.int (1 : Int32))])) (st2) ?_
  refine own_go (g' := (mkF m 14 #[.val (.ref o0), .val (.int (0 : Int32)), .val (.int (1 : Int32)), .val (.ref b1), .val (.int (1 : Int32)), .unset] [])) (fun _ kgo => XS.istore X2.here hx rfl (hb hby d4_12) rfl (l' := #[.val (.ref o0), .val (.int (0 : Int32)), .val (.int (1 : Int32)), .val (.ref b1), .val (.int (1 : Int32)), .unset]) rfl kgo) ?_
  refine own_go (g' := (mkF m 16 #[.val (.ref o0), .val (.int (0 : Int32)), .val (.int (1 : Int32)), .val (.ref b1), .val (.int (1 : Int32)), .unset] [(.int (1 : Int32))])) (fun _ kgo => XS.iload X2.here hx rfl (hb hby d4_14) rfl kgo) ?_
  refine own_go (g' := (mkF m 17 #[.val (.ref o0), .val (.int (0 : Int32)), .val (.int (1 : Int32)), .val (.ref b1), .val (.int (1 : Int32)), .unset] [(.int (1 : Int32)), (.int (1 : Int32))])) (fun _ kgo => XS.iloadN X2.here hx rfl (hb hby d4_16) rfl kgo) ?_
  refine own_go (g' := (mkF m 57 #[.val (.ref o0), .val (.int (0 : Int32)), .val (.int (1 : Int32)), .val (.ref b1), .val (.int (1 : Int32)), .unset] [])) (fun _ kgo => XS.icmpYes X2.here hx rfl (pc0 := 17) (pc' := 57) rfl (hb hby d4_17) rfl (teq (by decide)).1 (by decide) (by decide) kgo) ?_
  refine own_go (g' := (mkF m 58 #[.val (.ref o0), .val (.int (0 : Int32)), .val (.int (1 : Int32)), .val (.ref b1), .val (.int (1 : Int32)), .unset] [(.ref b1)])) (fun _ kgo => XS.aloadN X2.here hx rfl (hb hby d4_57) rfl rfl kgo) ?_
  refine own_retA X2 hx Bd.returns Bd.notSynchronized rfl rfl (hb hby d4_58) (by decide) (by decide) ?_
  show QQ _ T2.heap _
  rw [← hQQ]
  exact ⟨b1, k1, rfl, N2, KK2, sz_b1, q2_1⟩
theorem d6_0 : decode jdk_52_method_15_code 0 = .ok (.iload_n 1, 1) := by decide +kernel
theorem d6_1 : decode jdk_52_method_15_code 1 = .ok (.aload_n 0, 1) := by decide +kernel
theorem d6_2 : decode jdk_52_method_15_code 2 = .ok (.arraylength, 1) := by decide +kernel
theorem d6_3 : decode jdk_52_method_15_code 3 = .ok (.isub, 1) := by decide +kernel
theorem d6_4 : decode jdk_52_method_15_code 4 = .ok (.bipush 31, 2) := by decide +kernel
theorem d6_6 : decode jdk_52_method_15_code 6 = .ok (.iushr, 1) := by decide +kernel
theorem d6_7 : decode jdk_52_method_15_code 7 = .ok (.i2b, 1) := by decide +kernel
theorem d6_8 : decode jdk_52_method_15_code 8 = .ok (.ireturn, 1) := by decide +kernel
theorem pn_cfa1 : plainName "java/lang/StringUTF16" = true := by first | (simp [plainName, overriddenIn]; done) | decide +kernel
theorem ef_cfa1 (m : MethodId) (o0 : Addr) : entryFrame m #[(.ref o0), (.int (1 : Int32))] 2 = mkF m 0 #[.val (.ref o0), .val (.int (1 : Int32))] [] := by first | (simp [entryFrame, mkF, argsToLocals, Value.category]; done) | rfl
set_option maxRecDepth 65536 in
set_option maxHeartbeats 40000000 in
theorem cfa1 (l : Launch) (Z : State) (a0 : Array Value) (hw : ∀ d ∈ tables_1, d.before a0 Z = true) (o0 : Addr) (b0_ : Int32) (kb_ : ClassId) (h0 : Heap) (P0 : Arv Z h0 o0 kb_ .byte (1 : Int32) [(.int b0_)] (.int (0 : Int32))) :
    own_Met l Z (⟨"java/lang/StringUTF16", "coderFromArrayLen", "([BI)B"⟩ : MethodName) jdk_52_method_15_code 2 (some .byte) [] ({ frames := 0, cells := 0, slots := 0, locals := 0 } : Room) #[(.ref o0), (.int (1 : Int32))] h0 0 0 (fun v h L => v = some (.int (0 : Int32)) ∧ h = h0 ∧ L = []) := by
  refine own_met (plainFor_of_name pn_cfa1) ?_
  intro p e s m below meth c s₁ Bd hml0 hZ X0 e0
  have hx := Bd.exec
  have hby := Bd.bytes
  have hml : c.maxLocals = 2 := hml0
  have hown : s.vm.findClass "java/lang/StringUTF16" = some m.cls := findClass_of_methodNamed Bd.named
  have hnm := (name_of_methodNamed Bd.named Bd.method).1
  refine own_cast (ef_cfa1 m o0) ?_
  generalize hQQ : (fun (v : Option Value) (h : Heap) (L : List Loc) => v = some (.int (0 : Int32)) ∧ h = h0 ∧ L = []) = QQ
  refine own_go (g' := (mkF m 1 #[.val (.ref o0), .val (.int (1 : Int32))] [(.int (1 : Int32))])) (fun _ kgo => XS.iloadN X0.here hx rfl (hb hby d6_0) rfl kgo) ?_
  refine own_go (g' := (mkF m 2 #[.val (.ref o0), .val (.int (1 : Int32))] [(.ref o0), (.int (1 : Int32))])) (fun _ kgo => XS.aloadN X0.here hx rfl (hb hby d6_1) rfl rfl kgo) ?_
  obtain ⟨cl1, Ar1, -, sz1, nn1, -, -⟩ := id P0
  refine own_go (g' := (mkF m 3 #[.val (.ref o0), .val (.int (1 : Int32))] [(.int (1 : Int32)), (.int (1 : Int32))])) (by have q := X0.arraylength hx (by rw [e0]; exact Ar1.1) (State.isArrayOf_alike hZ.alike Ar1.2.1) (g := (mkF m 2 #[.val (.ref o0), .val (.int (1 : Int32))] [(.ref o0), (.int (1 : Int32))])) rfl rfl (hb hby d6_2); rw [len_of sz1 nn1] at q; exact q) ?_
  refine own_go (g' := (mkF m 4 #[.val (.ref o0), .val (.int (1 : Int32))] [(.int (0 : Int32))])) (fun _ kgo => XS.isub X0.here hx rfl (hb hby d6_3) rfl kgo) ?_
  refine own_go (g' := (mkF m 6 #[.val (.ref o0), .val (.int (1 : Int32))] [(.int (31 : Int32)), (.int (0 : Int32))])) (fun _ kgo => XS.bipush X0.here hx rfl (hb hby d6_4) kgo) ?_
  refine own_go (g' := (mkF m 7 #[.val (.ref o0), .val (.int (1 : Int32))] [(.int (0 : Int32))])) (fun _ kgo => XS.iushr X0.here hx rfl (hb hby d6_6) rfl kgo) ?_
  refine own_go (g' := (mkF m 8 #[.val (.ref o0), .val (.int (1 : Int32))] [(.int ((0 : Int32).toInt8.toInt32))])) (fun _ kgo => XS.i2b X0.here hx rfl (hb hby d6_7) rfl kgo) ?_
  refine own_retN X0 hx .byte Bd.returns Bd.notSynchronized (by simp) (hb hby d6_8) (by decide) (by decide) ?_
  show QQ _ s₁.heap _
  rw [e0]
  rw [← hQQ]
  exact ⟨by first | rfl | decide, rfl, rfl⟩
theorem d2_0 : decode jdk_42_method_149_code 0 = .ok (.aload_n 0, 1) := by decide +kernel
theorem d2_1 : decode jdk_42_method_149_code 1 = .ok (.invokespecial 1, 3) := by decide +kernel
theorem d2_4 : decode jdk_42_method_149_code 4 = .ok (.iload_n 3, 1) := by decide +kernel
theorem d2_5 : decode jdk_42_method_149_code 5 = .ok (.ifCond .ne 22, 3) := by decide +kernel
theorem d2_27 : decode jdk_42_method_149_code 27 = .ok (.getstatic 38, 3) := by decide +kernel
theorem d2_30 : decode jdk_42_method_149_code 30 = .ok (.ifCond .eq 28, 3) := by decide +kernel
theorem d2_33 : decode jdk_42_method_149_code 33 = .ok (.aload_n 1, 1) := by decide +kernel
theorem d2_34 : decode jdk_42_method_149_code 34 = .ok (.iload_n 2, 1) := by decide +kernel
theorem d2_35 : decode jdk_42_method_149_code 35 = .ok (.iload_n 3, 1) := by decide +kernel
theorem d2_36 : decode jdk_42_method_149_code 36 = .ok (.invokestatic 177, 3) := by decide +kernel
theorem d2_39 : decode jdk_42_method_149_code 39 = .ok (.astore 5, 2) := by decide +kernel
theorem d2_41 : decode jdk_42_method_149_code 41 = .ok (.aload_n 0, 1) := by decide +kernel
theorem d2_42 : decode jdk_42_method_149_code 42 = .ok (.aload 5, 2) := by decide +kernel
theorem d2_44 : decode jdk_42_method_149_code 44 = .ok (.iload_n 3, 1) := by decide +kernel
theorem d2_45 : decode jdk_42_method_149_code 45 = .ok (.invokestatic 47, 3) := by decide +kernel
theorem d2_48 : decode jdk_42_method_149_code 48 = .ok (.putfield 15, 3) := by decide +kernel
theorem d2_51 : decode jdk_42_method_149_code 51 = .ok (.aload_n 0, 1) := by decide +kernel
theorem d2_52 : decode jdk_42_method_149_code 52 = .ok (.aload 5, 2) := by decide +kernel
theorem d2_54 : decode jdk_42_method_149_code 54 = .ok (.putfield 9, 3) := by decide +kernel
theorem d2_57 : decode jdk_42_method_149_code 57 = .ok (.return_, 1) := by decide +kernel
theorem pn_sia1 : plainName "java/lang/String" = true := by first | (simp [plainName, overriddenIn]; done) | decide +kernel
theorem pd2_0 : parseMethodDescriptor "([CII)[B" = some ⟨[(.array .char), .int, .int], some (.array .byte)⟩ := by decide +kernel
theorem pd2_1 : parseMethodDescriptor "([BI)B" = some ⟨[(.array .byte), .int], some .byte⟩ := by decide +kernel
theorem ef_sia1 (m : MethodId) (o0 : Addr) (o1 : Addr) : entryFrame m #[(.ref o0), (.ref o1), (.int (0 : Int32)), (.int (1 : Int32)), .null] 6 = mkF m 0 #[.val (.ref o0), .val (.ref o1), .val (.int (0 : Int32)), .val (.int (1 : Int32)), .val .null, .unset] [] := by first | (simp [entryFrame, mkF, argsToLocals, Value.category]; done) | rfl
set_option maxRecDepth 65536 in
set_option maxHeartbeats 40000000 in
theorem sia1 (l : Launch) (Z : State) (a0 : Array Value) (hw : ∀ d ∈ tables_1, d.before a0 Z = true) (o0 : Addr) (o1 : Addr) (c0_ : Int32) (kc_ : ClassId) (cs : Int32) (h0 : Heap) (n0 : Nat) (Z0 : n0 ≤ h0.size) (g_o0 : n0 ≤ o0) (P0 : Exa Z h0 o0 "java/lang/String") (P1 : Fld Z h0 o0 "java/lang/String" "value" "[B" .null) (P2 : Fld Z h0 o0 "java/lang/String" "coder" "B" (.int (0 : Int32))) (P3 : Arv Z h0 o1 kc_ .char (1 : Int32) [(.int c0_)] (.int (0 : Int32))) (P4 : Sta Z h0 "java/lang/String" "COMPACT_STRINGS" "Z" (.int cs)) (hc0_ : ¬ (255 : Int32) < c0_) (hcs : ¬ cs = (0 : Int32)) (hne : o1 ≠ o0) :
    own_Met l Z (⟨"java/lang/String", "<init>", "([CIILjava/lang/Void;)V"⟩ : MethodName) jdk_42_method_149_code 6 none [] ({ frames := 2, cells := 1, slots := 1, locals := 35 } : Room) #[(.ref o0), (.ref o1), (.int (0 : Int32)), (.int (1 : Int32)), .null] h0 1 1 (fun v h L => ∃ (r : Addr), ∃ (kr : ClassId), v = none ∧ Fr n0 L ∧ Keep h0 h [o0] ∧ h0.size ≤ r ∧ Exa Z h o0 "java/lang/String" ∧ Fld Z h o0 "java/lang/String" "value" "[B" (.ref r) ∧ Fld Z h o0 "java/lang/String" "coder" "B" (.int (0 : Int32)) ∧ Arv Z h r kr .byte (1 : Int32) [(.int ((c0_.toInt8.toInt32)).toInt8.toInt32)] (.int (0 : Int32))) := by
  refine own_met (plainFor_of_name pn_sia1) ?_
  intro p e s m below meth c s₁ Bd hml0 hZ X0 e0
  have hx := Bd.exec
  have hby := Bd.bytes
  have hml : c.maxLocals = 6 := hml0
  have hown : s.vm.findClass "java/lang/String" = some m.cls := findClass_of_methodNamed Bd.named
  have hnm := (name_of_methodNamed Bd.named Bd.method).1
  refine own_cast (ef_sia1 m o0 o1) ?_
  generalize hQQ : (fun (v : Option Value) (h : Heap) (L : List Loc) => ∃ (r : Addr), ∃ (kr : ClassId), v = none ∧ Fr n0 L ∧ Keep h0 h [o0] ∧ h0.size ≤ r ∧ Exa Z h o0 "java/lang/String" ∧ Fld Z h o0 "java/lang/String" "value" "[B" (.ref r) ∧ Fld Z h o0 "java/lang/String" "coder" "B" (.int (0 : Int32)) ∧ Arv Z h r kr .byte (1 : Int32) [(.int ((c0_.toInt8.toInt32)).toInt8.toInt32)] (.int (0 : Int32))) = QQ
  have N0 := Fr.nil n0
  have K0 := Keep.refl h0 [o0]
  refine own_go (g' := (mkF m 1 #[.val (.ref o0), .val (.ref o1), .val (.int (0 : Int32)), .val (.int (1 : Int32)), .val .null, .unset] [(.ref o0)])) (fun _ kgo => XS.aloadN X0.here hx rfl (hb hby d2_0) rfl rfl kgo) ?_
  obtain ⟨T1, X1, e1, st1⟩ := initO X0 hx hZ hown (hw _ (List.mem_of_getElem? (i := 11) rfl)) (hw _ (List.mem_of_getElem? (i := 12) rfl)) (hw _ (List.mem_of_getElem? (i := 13) rfl)) e0 (g := (mkF m 1 #[.val (.ref o0), .val (.ref o1), .val (.int (0 : Int32)), .val (.int (1 : Int32)), .val .null, .unset] [(.ref o0)])) rfl (by rw [hml]; rfl) rfl (hb hby d2_1) (by decide) (W := 0) (by show 2 * 0 + _ ≤ _; exact Nat.le_of_eq rfl) (by decide)
  refine own_go (g' := (mkF m 4 #[.val (.ref o0), .val (.ref o1), .val (.int (0 : Int32)), .val (.int (1 : Int32)), .val .null, .unset] [])) (st1) ?_
  refine own_go (g' := (mkF m 5 #[.val (.ref o0), .val (.ref o1), .val (.int (0 : Int32)), .val (.int (1 : Int32)), .val .null, .unset] [(.int (1 : Int32))])) (fun _ kgo => XS.iloadN X1.here hx rfl (hb hby d2_4) rfl kgo) ?_
  refine own_go (g' := (mkF m 27 #[.val (.ref o0), .val (.ref o1), .val (.int (0 : Int32)), .val (.int (1 : Int32)), .val .null, .unset] [])) (fun _ kgo => XS.ifYes X1.here hx rfl (pc0 := 5) (pc' := 27) rfl (hb hby d2_5) rfl ((if0 _ _).trans (feq (by decide)).2) (by decide) (by decide) kgo) ?_
  obtain ⟨T2, X2, e2, st2⟩ := getS2 X1 hx hZ hown (host := "") (Or.inl (hw _ (List.mem_of_getElem? (i := 14) rfl))) Via.refl e1 P4 (g := (mkF m 27 #[.val (.ref o0), .val (.ref o1), .val (.int (0 : Int32)), .val (.int (1 : Int32)), .val .null, .unset] [])) rfl (hb hby d2_27)
  refine own_go (g' := (mkF m 30 #[.val (.ref o0), .val (.ref o1), .val (.int (0 : Int32)), .val (.int (1 : Int32)), .val .null, .unset] [(.int cs)])) (st2) ?_
  refine own_go (g' := (mkF m 33 #[.val (.ref o0), .val (.ref o1), .val (.int (0 : Int32)), .val (.int (1 : Int32)), .val .null, .unset] [])) (fun _ kgo => XS.ifNo X2.here hx rfl (hb hby d2_30) rfl ((if0 _ _).trans (feq hcs).1) kgo) ?_
  refine own_go (g' := (mkF m 34 #[.val (.ref o0), .val (.ref o1), .val (.int (0 : Int32)), .val (.int (1 : Int32)), .val .null, .unset] [(.ref o1)])) (fun _ kgo => XS.aloadN X2.here hx rfl (hb hby d2_33) rfl rfl kgo) ?_
  refine own_go (g' := (mkF m 35 #[.val (.ref o0), .val (.ref o1), .val (.int (0 : Int32)), .val (.int (1 : Int32)), .val .null, .unset] [(.int (0 : Int32)), (.ref o1)])) (fun _ kgo => XS.iloadN X2.here hx rfl (hb hby d2_34) rfl kgo) ?_
  refine own_go (g' := (mkF m 36 #[.val (.ref o0), .val (.ref o1), .val (.int (0 : Int32)), .val (.int (1 : Int32)), .val .null, .unset] [(.int (1 : Int32)), (.int (0 : Int32)), (.ref o1)])) (fun _ kgo => XS.iloadN X2.here hx rfl (hb hby d2_35) rfl kgo) ?_
  obtain ⟨v3, T3, L3, hQ3, X3, st3⟩ := own_callS X2 hx hZ (y := (⟨"java/lang/StringUTF16", "compress", "([CII)[B"⟩ : MethodName)) hown (hw _ (List.mem_of_getElem? (i := 15) rfl)) (hw _ (List.mem_of_getElem? (i := 16) rfl)) (hw _ (List.mem_of_getElem? (i := 17) rfl)) (hw _ (List.mem_of_getElem? (i := 18) rfl)) ⟨by decide, by decide⟩ (argsL := [(.ref o1), (.int (0 : Int32)), (.int (1 : Int32))]) (cpb1 l Z a0 hw o1 c0_ kc_ h0 n0 Z0 P3 hc0_) e2 (g := (mkF m 36 #[.val (.ref o0), .val (.ref o1), .val (.int (0 : Int32)), .val (.int (1 : Int32)), .val .null, .unset] [(.int (1 : Int32)), (.int (0 : Int32)), (.ref o1)])) rfl (by rw [hml]; rfl) (rest := []) (lenOf pd2_0 rfl) rfl (hb hby d2_36) (W := 0) (by show 2 * 0 + _ ≤ _; exact Nat.le_of_eq rfl) (by decide) (by decide) (by decide) (by decide)
  obtain ⟨r3, kr3, rfl, Nq3, Kq3, pr3_0, q3_0⟩ := hQ3
  have ne_o0_r3 : o0 ≠ r3 := Nat.ne_of_lt (Nat.lt_of_lt_of_le P0.lt pr3_0)
  have ne_o1_r3 : o1 ≠ r3 := Nat.ne_of_lt (Nat.lt_of_lt_of_le P3.lt pr3_0)
  have ge_r3 : n0 ≤ r3 := Nat.le_trans Z0 pr3_0
  have sz_r3 : h0.size ≤ r3 := Nat.le_trans K0.1 pr3_0
  have N3 := Fr.app N0 Nq3
  have Z3 : n0 ≤ T3.heap.size := Nat.le_trans Z0 Kq3.1
  have KK3 : Keep h0 T3.heap [o0] := K0.trans Kq3 all0
  refine own_go (g' := (mkF m 39 #[.val (.ref o0), .val (.ref o1), .val (.int (0 : Int32)), .val (.int (1 : Int32)), .val .null, .unset] [(.ref r3)])) (st3) ?_
  refine own_go (g' := (mkF m 41 #[.val (.ref o0), .val (.ref o1), .val (.int (0 : Int32)), .val (.int (1 : Int32)), .val .null, .val (.ref r3)] [])) (fun _ kgo => XS.astore X3.here hx rfl (hb hby d2_39) rfl rfl (l' := #[.val (.ref o0), .val (.ref o1), .val (.int (0 : Int32)), .val (.int (1 : Int32)), .val .null, .val (.ref r3)]) rfl kgo) ?_
  refine own_go (g' := (mkF m 42 #[.val (.ref o0), .val (.ref o1), .val (.int (0 : Int32)), .val (.int (1 : Int32)), .val .null, .val (.ref r3)] [(.ref o0)])) (fun _ kgo => XS.aloadN X3.here hx rfl (hb hby d2_41) rfl rfl kgo) ?_
  refine own_go (g' := (mkF m 44 #[.val (.ref o0), .val (.ref o1), .val (.int (0 : Int32)), .val (.int (1 : Int32)), .val .null, .val (.ref r3)] [(.ref r3), (.ref o0)])) (fun _ kgo => XS.aload X3.here hx rfl (hb hby d2_42) rfl rfl kgo) ?_
  refine own_go (g' := (mkF m 45 #[.val (.ref o0), .val (.ref o1), .val (.int (0 : Int32)), .val (.int (1 : Int32)), .val .null, .val (.ref r3)] [(.int (1 : Int32)), (.ref r3), (.ref o0)])) (fun _ kgo => XS.iloadN X3.here hx rfl (hb hby d2_44) rfl kgo) ?_
  obtain ⟨v4, T4, L4, hQ4, X4, st4⟩ := own_callS X3 hx hZ (y := (⟨"java/lang/StringUTF16", "coderFromArrayLen", "([BI)B"⟩ : MethodName)) hown (hw _ (List.mem_of_getElem? (i := 23) rfl)) (hw _ (List.mem_of_getElem? (i := 24) rfl)) (hw _ (List.mem_of_getElem? (i := 17) rfl)) (hw _ (List.mem_of_getElem? (i := 25) rfl)) ⟨by decide, by decide⟩ (argsL := [(.ref r3), (.int (1 : Int32))]) (cfa1 l Z a0 hw r3 ((c0_.toInt8.toInt32)).toInt8.toInt32 kr3 T3.heap q3_0) rfl (g := (mkF m 45 #[.val (.ref o0), .val (.ref o1), .val (.int (0 : Int32)), .val (.int (1 : Int32)), .val .null, .val (.ref r3)] [(.int (1 : Int32)), (.ref r3), (.ref o0)])) rfl (by rw [hml]; rfl) (rest := [(.ref o0)]) (lenOf pd2_1 rfl) rfl (hb hby d2_45) (W := 1) (by show 2 * 0 + _ ≤ _; exact Nat.le_of_eq rfl) (by decide) (by decide) (by decide) (by decide)
  obtain ⟨rfl, e4, rfl⟩ := hQ4
  have N4 := Fr.app N3 (Fr.nil n0)
  refine own_go (g' := (mkF m 48 #[.val (.ref o0), .val (.ref o1), .val (.int (0 : Int32)), .val (.int (1 : Int32)), .val .null, .val (.ref r3)] [(.int (0 : Int32)), (.ref o0)])) (st4) ?_
  have fx5 : Fld Z T3.heap o0 "java/lang/String" "coder" "B" (.int (0 : Int32)) := (Fld.keep P2 Kq3 nin0)
  have fx6 : Exa Z T3.heap o0 "java/lang/String" := (Exa.keep P0 Kq3)
  obtain ⟨T7, h7, X7, e7, W7, st7⟩ := putFN X4 hx hZ hown (hw _ (List.mem_of_getElem? (i := 26) rfl)) Via.refl e4 fx5 fx6 (Or.inr ⟨(hw _ (List.mem_of_getElem? (i := 27) rfl)), rfl, hnm⟩) (hw _ (List.mem_of_getElem? (i := 2) rfl)) (ty := .byte) (v := (.int (0 : Int32))) (v' := (.int (0 : Int32))) (by decide) rfl rfl (g := (mkF m 48 #[.val (.ref o0), .val (.ref o1), .val (.int (0 : Int32)), .val (.int (1 : Int32)), .val .null, .val (.ref r3)] [(.int (0 : Int32)), (.ref o0)])) rfl rfl (hb hby d2_48)
  have fw7 := Fld.same W7 fx5
  have N7 := Fr.snoc X7 N4 g_o0
  have Z7 : n0 ≤ h7.size := by rw [W7.size]; exact Z3
  have K7 : Keep h0 h7 [o0] := KK3.wr W7 (Or.inl (List.mem_of_getElem? (i := 0) rfl))
  refine own_go (g' := (mkF m 51 #[.val (.ref o0), .val (.ref o1), .val (.int (0 : Int32)), .val (.int (1 : Int32)), .val .null, .val (.ref r3)] [])) (st7) ?_
  refine own_go (g' := (mkF m 52 #[.val (.ref o0), .val (.ref o1), .val (.int (0 : Int32)), .val (.int (1 : Int32)), .val .null, .val (.ref r3)] [(.ref o0)])) (fun _ kgo => XS.aloadN X7.here hx rfl (hb hby d2_51) rfl rfl kgo) ?_
  refine own_go (g' := (mkF m 54 #[.val (.ref o0), .val (.ref o1), .val (.int (0 : Int32)), .val (.int (1 : Int32)), .val .null, .val (.ref r3)] [(.ref r3), (.ref o0)])) (fun _ kgo => XS.aload X7.here hx rfl (hb hby d2_52) rfl rfl kgo) ?_
  have fx8 : Fld Z h7 o0 "java/lang/String" "value" "[B" .null := (Fld.other W7 (Fld.keep P1 Kq3 nin0) (Or.inr (slot_ne (Or.inr (hw _ (List.mem_of_getElem? (i := 29) rfl))) (Or.inr (hw _ (List.mem_of_getElem? (i := 27) rfl))) (by decide) (t := (.array .byte)) (t' := .byte) (by decide) (by decide))))
  have fx9 : Exa Z h7 o0 "java/lang/String" := (Exa.wr W7 fx6)
  obtain ⟨T10, h10, X10, e10, W10, st10⟩ := putF X7 hx hZ hown (host := "") (Or.inl (hw _ (List.mem_of_getElem? (i := 28) rfl))) Via.refl e7 fx8 fx9 (Or.inr ⟨(hw _ (List.mem_of_getElem? (i := 29) rfl)), rfl, hnm⟩) (hw _ (List.mem_of_getElem? (i := 2) rfl)) (ty := (.array .byte)) (by decide) rfl rfl (g := (mkF m 54 #[.val (.ref o0), .val (.ref o1), .val (.int (0 : Int32)), .val (.int (1 : Int32)), .val .null, .val (.ref r3)] [(.ref r3), (.ref o0)])) rfl rfl (hb hby d2_54)
  have fw10 := Fld.same W10 fx8
  have N10 := Fr.snoc X10 N7 g_o0
  have Z10 : n0 ≤ h10.size := by rw [W10.size]; exact Z7
  have K10 : Keep h0 h10 [o0] := K7.wr W10 (Or.inl (List.mem_of_getElem? (i := 0) rfl))
  refine own_go (g' := (mkF m 57 #[.val (.ref o0), .val (.ref o1), .val (.int (0 : Int32)), .val (.int (1 : Int32)), .val .null, .val (.ref r3)] [])) (st10) ?_
  refine own_retV X10 hx Bd.returns Bd.notSynchronized (hb hby d2_57) (by decide) (by decide) ?_
  show QQ _ T10.heap _
  rw [e10]
  have fx11 : Exa Z h10 o0 "java/lang/String" := (Exa.wr W10 fx9)
  have fx12 : Fld Z h10 o0 "java/lang/String" "coder" "B" (.int (0 : Int32)) := (Fld.other W10 fw7 (Or.inr (slot_ne (Or.inr (hw _ (List.mem_of_getElem? (i := 27) rfl))) (Or.inr (hw _ (List.mem_of_getElem? (i := 29) rfl))) (by decide) (t := .byte) (t' := (.array .byte)) (by decide) (by decide))))
  have fx13 : Arv Z h10 r3 kr3 .byte (1 : Int32) [(.int ((c0_.toInt8.toInt32)).toInt8.toInt32)] (.int (0 : Int32)) := (Arv.other (Arv.other q3_0 W7 (Ne.symm ne_o0_r3)) W10 (Ne.symm ne_o0_r3))
  rw [← hQQ]
  exact ⟨r3, kr3, rfl, N10, K10, sz_r3, fx11, fw10, fx12, fx13⟩
theorem d1_0 : decode jdk_42_method_3_code 0 = .ok (.aload_n 0, 1) := by decide +kernel
theorem d1_1 : decode jdk_42_method_3_code 1 = .ok (.aload_n 1, 1) := by decide +kernel
theorem d1_2 : decode jdk_42_method_3_code 2 = .ok (.iconst 0, 1) := by decide +kernel
theorem d1_3 : decode jdk_42_method_3_code 3 = .ok (.aload_n 1, 1) := by decide +kernel
theorem d1_4 : decode jdk_42_method_3_code 4 = .ok (.arraylength, 1) := by decide +kernel
theorem d1_5 : decode jdk_42_method_3_code 5 = .ok (.aconst_null, 1) := by decide +kernel
theorem d1_6 : decode jdk_42_method_3_code 6 = .ok (.invokespecial 27, 3) := by decide +kernel
theorem d1_9 : decode jdk_42_method_3_code 9 = .ok (.return_, 1) := by decide +kernel
theorem pn_sib1 : plainName "java/lang/String" = true := by first | (simp [plainName, overriddenIn]; done) | decide +kernel
theorem pd1_0 : parseMethodDescriptor "([CIILjava/lang/Void;)V" = some ⟨[(.array .char), .int, .int, (.object "java/lang/Void")], none⟩ := by decide +kernel
theorem ef_sib1 (m : MethodId) (o0 : Addr) (o1 : Addr) : entryFrame m #[(.ref o0), (.ref o1)] 2 = mkF m 0 #[.val (.ref o0), .val (.ref o1)] [] := by first | (simp [entryFrame, mkF, argsToLocals, Value.category]; done) | rfl
set_option maxRecDepth 65536 in
set_option maxHeartbeats 40000000 in
theorem sib1 (l : Launch) (Z : State) (a0 : Array Value) (hw : ∀ d ∈ tables_1, d.before a0 Z = true) (o0 : Addr) (o1 : Addr) (c0_ : Int32) (kc_ : ClassId) (cs : Int32) (h0 : Heap) (n0 : Nat) (Z0 : n0 ≤ h0.size) (g_o0 : n0 ≤ o0) (P0 : Exa Z h0 o0 "java/lang/String") (P1 : Fld Z h0 o0 "java/lang/String" "value" "[B" .null) (P2 : Fld Z h0 o0 "java/lang/String" "coder" "B" (.int (0 : Int32))) (P3 : Arv Z h0 o1 kc_ .char (1 : Int32) [(.int c0_)] (.int (0 : Int32))) (P4 : Sta Z h0 "java/lang/String" "COMPACT_STRINGS" "Z" (.int cs)) (hc0_ : ¬ (255 : Int32) < c0_) (hcs : ¬ cs = (0 : Int32)) (hne : o1 ≠ o0) :
    own_Met l Z (⟨"java/lang/String", "<init>", "([C)V"⟩ : MethodName) jdk_42_method_3_code 2 none [] ({ frames := 3, cells := 1, slots := 1, locals := 52 } : Room) #[(.ref o0), (.ref o1)] h0 1 1 (fun v h L => ∃ (r : Addr), ∃ (kr : ClassId), v = none ∧ Fr n0 L ∧ Keep h0 h [o0] ∧ h0.size ≤ r ∧ Exa Z h o0 "java/lang/String" ∧ Fld Z h o0 "java/lang/String" "value" "[B" (.ref r) ∧ Fld Z h o0 "java/lang/String" "coder" "B" (.int (0 : Int32)) ∧ Arv Z h r kr .byte (1 : Int32) [(.int ((c0_.toInt8.toInt32)).toInt8.toInt32)] (.int (0 : Int32))) := by
  refine own_met (plainFor_of_name pn_sib1) ?_
  intro p e s m below meth c s₁ Bd hml0 hZ X0 e0
  have hx := Bd.exec
  have hby := Bd.bytes
  have hml : c.maxLocals = 2 := hml0
  have hown : s.vm.findClass "java/lang/String" = some m.cls := findClass_of_methodNamed Bd.named
  have hnm := (name_of_methodNamed Bd.named Bd.method).1
  refine own_cast (ef_sib1 m o0 o1) ?_
  generalize hQQ : (fun (v : Option Value) (h : Heap) (L : List Loc) => ∃ (r : Addr), ∃ (kr : ClassId), v = none ∧ Fr n0 L ∧ Keep h0 h [o0] ∧ h0.size ≤ r ∧ Exa Z h o0 "java/lang/String" ∧ Fld Z h o0 "java/lang/String" "value" "[B" (.ref r) ∧ Fld Z h o0 "java/lang/String" "coder" "B" (.int (0 : Int32)) ∧ Arv Z h r kr .byte (1 : Int32) [(.int ((c0_.toInt8.toInt32)).toInt8.toInt32)] (.int (0 : Int32))) = QQ
  have N0 := Fr.nil n0
  have K0 := Keep.refl h0 [o0]
  refine own_go (g' := (mkF m 1 #[.val (.ref o0), .val (.ref o1)] [(.ref o0)])) (fun _ kgo => XS.aloadN X0.here hx rfl (hb hby d1_0) rfl rfl kgo) ?_
  refine own_go (g' := (mkF m 2 #[.val (.ref o0), .val (.ref o1)] [(.ref o1), (.ref o0)])) (fun _ kgo => XS.aloadN X0.here hx rfl (hb hby d1_1) rfl rfl kgo) ?_
  refine own_go (g' := (mkF m 3 #[.val (.ref o0), .val (.ref o1)] [(.int (0 : Int32)), (.ref o1), (.ref o0)])) (fun _ kgo => XS.iconst X0.here hx rfl (hb hby d1_2) kgo) ?_
  refine own_go (g' := (mkF m 4 #[.val (.ref o0), .val (.ref o1)] [(.ref o1), (.int (0 : Int32)), (.ref o1), (.ref o0)])) (fun _ kgo => XS.aloadN X0.here hx rfl (hb hby d1_3) rfl rfl kgo) ?_
  obtain ⟨cl1, Ar1, -, sz1, nn1, -, -⟩ := id P3
  refine own_go (g' := (mkF m 5 #[.val (.ref o0), .val (.ref o1)] [(.int (1 : Int32)), (.int (0 : Int32)), (.ref o1), (.ref o0)])) (by have q := X0.arraylength hx (by rw [e0]; exact Ar1.1) (State.isArrayOf_alike hZ.alike Ar1.2.1) (g := (mkF m 4 #[.val (.ref o0), .val (.ref o1)] [(.ref o1), (.int (0 : Int32)), (.ref o1), (.ref o0)])) rfl rfl (hb hby d1_4); rw [len_of sz1 nn1] at q; exact q) ?_
  refine own_go (g' := (mkF m 6 #[.val (.ref o0), .val (.ref o1)] [.null, (.int (1 : Int32)), (.int (0 : Int32)), (.ref o1), (.ref o0)])) (fun _ kgo => XS.aconstNull X0.here hx rfl (hb hby d1_5) kgo) ?_
  obtain ⟨v2, T2, L2, hQ2, X2, st2⟩ := own_callI X0 hx hZ (y := (⟨"java/lang/String", "<init>", "([CIILjava/lang/Void;)V"⟩ : MethodName)) rfl hown (hw _ (List.mem_of_getElem? (i := 7) rfl)) (hw _ (List.mem_of_getElem? (i := 8) rfl)) (hw _ (List.mem_of_getElem? (i := 3) rfl)) (hw _ (List.mem_of_getElem? (i := 10) rfl)) ⟨by decide, by decide⟩ (a := o0) (argsL := [(.ref o1), (.int (0 : Int32)), (.int (1 : Int32)), .null]) (sia1 l Z a0 hw o0 o1 c0_ kc_ cs h0 n0 Z0 g_o0 P0 P1 P2 P3 P4 hc0_ hcs hne) e0 (g := (mkF m 6 #[.val (.ref o0), .val (.ref o1)] [.null, (.int (1 : Int32)), (.int (0 : Int32)), (.ref o1), (.ref o0)])) rfl (by rw [hml]; rfl) (rest := []) (lenOf pd1_0 rfl) rfl (hb hby d1_6) (W := 0) (by show 2 * 0 + _ ≤ _; exact Nat.le_of_eq rfl) (by decide) (by decide) (by decide) (by decide)
  obtain ⟨r2, kr2, rfl, Nq2, Kq2, pr2_0, q2_0, q2_1, q2_2, q2_3⟩ := hQ2
  have ne_o0_r2 : o0 ≠ r2 := Nat.ne_of_lt (Nat.lt_of_lt_of_le P0.lt pr2_0)
  have ne_o1_r2 : o1 ≠ r2 := Nat.ne_of_lt (Nat.lt_of_lt_of_le P3.lt pr2_0)
  have ge_r2 : n0 ≤ r2 := Nat.le_trans Z0 pr2_0
  have sz_r2 : h0.size ≤ r2 := Nat.le_trans K0.1 pr2_0
  have N2 := Fr.app N0 Nq2
  have Z2 : n0 ≤ T2.heap.size := Nat.le_trans Z0 Kq2.1
  have KK2 : Keep h0 T2.heap [o0] := K0.trans Kq2 (allS (Or.inl (List.mem_of_getElem? (i := 0) rfl)) all0)
  refine own_go (g' := (mkF m 9 #[.val (.ref o0), .val (.ref o1)] [])) (st2) ?_
  refine own_retV X2 hx Bd.returns Bd.notSynchronized (hb hby d1_9) (by decide) (by decide) ?_
  show QQ _ T2.heap _
  rw [← hQQ]
  exact ⟨r2, kr2, rfl, N2, KK2, sz_r2, q2_0, q2_1, q2_2, q2_3⟩
theorem pn_cpa2 : plainName "java/lang/StringUTF16" = true := by first | (simp [plainName, overriddenIn]; done) | decide +kernel
theorem ef_cpa2 (m : MethodId) (o0 : Addr) (o2 : Addr) : entryFrame m #[(.ref o0), (.int (0 : Int32)), (.ref o2), (.int (0 : Int32)), (.int (2 : Int32))] 7 = mkF m 0 #[.val (.ref o0), .val (.int (0 : Int32)), .val (.ref o2), .val (.int (0 : Int32)), .val (.int (2 : Int32)), .unset, .unset] [] := by first | (simp [entryFrame, mkF, argsToLocals, Value.category]; done) | rfl
set_option maxRecDepth 65536 in
set_option maxHeartbeats 40000000 in
theorem cpa2 (l : Launch) (Z : State) (a0 : Array Value) (hw : ∀ d ∈ tables_1, d.before a0 Z = true) (o0 : Addr) (o2 : Addr) (c0_ : Int32) (c1_ : Int32) (kc_ : ClassId) (kb_ : ClassId) (h0 : Heap) (n0 : Nat) (Z0 : n0 ≤ h0.size) (g_o2 : n0 ≤ o2) (P0 : Arv Z h0 o0 kc_ .char (2 : Int32) [(.int c0_), (.int c1_)] (.int (0 : Int32))) (P1 : Arv Z h0 o2 kb_ .byte (2 : Int32) [(.int (0 : Int32)), (.int (0 : Int32))] (.int (0 : Int32))) (hc0_ : ¬ (255 : Int32) < c0_) (hc1_ : ¬ (255 : Int32) < c1_) (hne : o0 ≠ o2) :
    own_Met l Z (⟨"java/lang/StringUTF16", "compress", "([CI[BII)I"⟩ : MethodName) jdk_52_method_21_code 7 (some .int) [] ({ frames := 0, cells := 0, slots := 0, locals := 0 } : Room) #[(.ref o0), (.int (0 : Int32)), (.ref o2), (.int (0 : Int32)), (.int (2 : Int32))] h0 0 0 (fun v h L => v = some (.int (2 : Int32)) ∧ Fr n0 L ∧ Keep h0 h [o2] ∧ Arv Z h o0 kc_ .char (2 : Int32) [(.int c0_), (.int c1_)] (.int (0 : Int32)) ∧ Arv Z h o2 kb_ .byte (2 : Int32) [(.int ((c0_.toInt8.toInt32)).toInt8.toInt32), (.int ((c1_.toInt8.toInt32)).toInt8.toInt32)] (.int (0 : Int32))) := by
  refine own_met (plainFor_of_name pn_cpa2) ?_
  intro p e s m below meth c s₁ Bd hml0 hZ X0 e0
  have hx := Bd.exec
  have hby := Bd.bytes
  have hml : c.maxLocals = 7 := hml0
  have hown : s.vm.findClass "java/lang/StringUTF16" = some m.cls := findClass_of_methodNamed Bd.named
  have hnm := (name_of_methodNamed Bd.named Bd.method).1
  refine own_cast (ef_cpa2 m o0 o2) ?_
  generalize hQQ : (fun (v : Option Value) (h : Heap) (L : List Loc) => v = some (.int (2 : Int32)) ∧ Fr n0 L ∧ Keep h0 h [o2] ∧ Arv Z h o0 kc_ .char (2 : Int32) [(.int c0_), (.int c1_)] (.int (0 : Int32)) ∧ Arv Z h o2 kb_ .byte (2 : Int32) [(.int ((c0_.toInt8.toInt32)).toInt8.toInt32), (.int ((c1_.toInt8.toInt32)).toInt8.toInt32)] (.int (0 : Int32))) = QQ
  have N0 := Fr.nil n0
  have K0 := Keep.refl h0 [o2]
  refine own_go (g' := (mkF m 1 #[.val (.ref o0), .val (.int (0 : Int32)), .val (.ref o2), .val (.int (0 : Int32)), .val (.int (2 : Int32)), .unset, .unset] [(.int (0 : Int32))])) (fun _ kgo => XS.iconst X0.here hx rfl (hb hby d5_0) kgo) ?_
  refine own_go (g' := (mkF m 3 #[.val (.ref o0), .val (.int (0 : Int32)), .val (.ref o2), .val (.int (0 : Int32)), .val (.int (2 : Int32)), .val (.int (0 : Int32)), .unset] [])) (fun _ kgo => XS.istore X0.here hx rfl (hb hby d5_1) rfl (l' := #[.val (.ref o0), .val (.int (0 : Int32)), .val (.ref o2), .val (.int (0 : Int32)), .val (.int (2 : Int32)), .val (.int (0 : Int32)), .unset]) rfl kgo) ?_
  refine own_go (g' := (mkF m 5 #[.val (.ref o0), .val (.int (0 : Int32)), .val (.ref o2), .val (.int (0 : Int32)), .val (.int (2 : Int32)), .val (.int (0 : Int32)), .unset] [(.int (0 : Int32))])) (fun _ kgo => XS.iload X0.here hx rfl (hb hby d5_3) rfl kgo) ?_
  refine own_go (g' := (mkF m 7 #[.val (.ref o0), .val (.int (0 : Int32)), .val (.ref o2), .val (.int (0 : Int32)), .val (.int (2 : Int32)), .val (.int (0 : Int32)), .unset] [(.int (2 : Int32)), (.int (0 : Int32))])) (fun _ kgo => XS.iload X0.here hx rfl (hb hby d5_5) rfl kgo) ?_
  refine own_go (g' := (mkF m 10 #[.val (.ref o0), .val (.int (0 : Int32)), .val (.ref o2), .val (.int (0 : Int32)), .val (.int (2 : Int32)), .val (.int (0 : Int32)), .unset] [])) (fun _ kgo => XS.icmpNo X0.here hx rfl (hb hby d5_7) rfl (tlt (by decide)).2.1 kgo) ?_
  refine own_go (g' := (mkF m 11 #[.val (.ref o0), .val (.int (0 : Int32)), .val (.ref o2), .val (.int (0 : Int32)), .val (.int (2 : Int32)), .val (.int (0 : Int32)), .unset] [(.ref o0)])) (fun _ kgo => XS.aloadN X0.here hx rfl (hb hby d5_10) rfl rfl kgo) ?_
  refine own_go (g' := (mkF m 12 #[.val (.ref o0), .val (.int (0 : Int32)), .val (.ref o2), .val (.int (0 : Int32)), .val (.int (2 : Int32)), .val (.int (0 : Int32)), .unset] [(.int (0 : Int32)), (.ref o0)])) (fun _ kgo => XS.iloadN X0.here hx rfl (hb hby d5_11) rfl kgo) ?_
  obtain ⟨cl1, Ar1, qk1, sz1, nn1, Hs1, Gs1⟩ := id P0
  have hin1 : ¬ ((0 : Int32) < 0 ∨ cl1.slots.size ≤ ((0 : Int32)).toNatClampNeg) := inb_of sz1 ⟨by decide, by decide⟩
  have hat1 : cl1.slots[((0 : Int32)).toNatClampNeg]? = some (.int c0_) := Has.at Hs1 hin1 rfl
  refine own_go (g' := (mkF m 13 #[.val (.ref o0), .val (.int (0 : Int32)), .val (.ref o2), .val (.int (0 : Int32)), .val (.int (2 : Int32)), .val (.int (0 : Int32)), .unset] [(.int c0_)])) (X0.caload hx (j := (0 : Int32)) (v := (.int c0_)) (by rw [e0]; exact Ar1.1) (State.isArrayOf_alike hZ.alike Ar1.2.1) Ar1.2.2 hin1 hat1 (g := (mkF m 12 #[.val (.ref o0), .val (.int (0 : Int32)), .val (.ref o2), .val (.int (0 : Int32)), .val (.int (2 : Int32)), .val (.int (0 : Int32)), .unset] [(.int (0 : Int32)), (.ref o0)])) rfl rfl (hb hby d5_12)) ?_
  refine own_go (g' := (mkF m 15 #[.val (.ref o0), .val (.int (0 : Int32)), .val (.ref o2), .val (.int (0 : Int32)), .val (.int (2 : Int32)), .val (.int (0 : Int32)), .val (.int c0_)] [])) (fun _ kgo => XS.istore X0.here hx rfl (hb hby d5_13) rfl (l' := #[.val (.ref o0), .val (.int (0 : Int32)), .val (.ref o2), .val (.int (0 : Int32)), .val (.int (2 : Int32)), .val (.int (0 : Int32)), .val (.int c0_)]) rfl kgo) ?_
  refine own_go (g' := (mkF m 17 #[.val (.ref o0), .val (.int (0 : Int32)), .val (.ref o2), .val (.int (0 : Int32)), .val (.int (2 : Int32)), .val (.int (0 : Int32)), .val (.int c0_)] [(.int c0_)])) (fun _ kgo => XS.iload X0.here hx rfl (hb hby d5_15) rfl kgo) ?_
  refine own_go (g' := (mkF m 20 #[.val (.ref o0), .val (.int (0 : Int32)), .val (.ref o2), .val (.int (0 : Int32)), .val (.int (2 : Int32)), .val (.int (0 : Int32)), .val (.int c0_)] [(.int (255 : Int32)), (.int c0_)])) (fun _ kgo => XS.sipush X0.here hx rfl (hb hby d5_17) kgo) ?_
  refine own_go (g' := (mkF m 26 #[.val (.ref o0), .val (.int (0 : Int32)), .val (.ref o2), .val (.int (0 : Int32)), .val (.int (2 : Int32)), .val (.int (0 : Int32)), .val (.int c0_)] [])) (fun _ kgo => XS.icmpYes X0.here hx rfl (pc0 := 20) (pc' := 26) rfl (hb hby d5_20) rfl (flt hc0_).2.2.2 (by decide) (by decide) kgo) ?_
  refine own_go (g' := (mkF m 27 #[.val (.ref o0), .val (.int (0 : Int32)), .val (.ref o2), .val (.int (0 : Int32)), .val (.int (2 : Int32)), .val (.int (0 : Int32)), .val (.int c0_)] [(.ref o2)])) (fun _ kgo => XS.aloadN X0.here hx rfl (hb hby d5_26) rfl rfl kgo) ?_
  refine own_go (g' := (mkF m 28 #[.val (.ref o0), .val (.int (0 : Int32)), .val (.ref o2), .val (.int (0 : Int32)), .val (.int (2 : Int32)), .val (.int (0 : Int32)), .val (.int c0_)] [(.int (0 : Int32)), (.ref o2)])) (fun _ kgo => XS.iloadN X0.here hx rfl (hb hby d5_27) rfl kgo) ?_
  refine own_go (g' := (mkF m 30 #[.val (.ref o0), .val (.int (0 : Int32)), .val (.ref o2), .val (.int (0 : Int32)), .val (.int (2 : Int32)), .val (.int (0 : Int32)), .val (.int c0_)] [(.int c0_), (.int (0 : Int32)), (.ref o2)])) (fun _ kgo => XS.iload X0.here hx rfl (hb hby d5_28) rfl kgo) ?_
  refine own_go (g' := (mkF m 31 #[.val (.ref o0), .val (.int (0 : Int32)), .val (.ref o2), .val (.int (0 : Int32)), .val (.int (2 : Int32)), .val (.int (0 : Int32)), .val (.int c0_)] [(.int (c0_.toInt8.toInt32)), (.int (0 : Int32)), (.ref o2)])) (fun _ kgo => XS.i2b X0.here hx rfl (hb hby d5_30) rfl kgo) ?_
  obtain ⟨cl2, Ar2, qk2, sz2, nn2, Hs2, Gs2⟩ := id P1
  have hin2 : ¬ ((0 : Int32) < 0 ∨ cl2.slots.size ≤ ((0 : Int32)).toNatClampNeg) := inb_of sz2 ⟨by decide, by decide⟩
  obtain ⟨T2, h2, X2, e2, W2, st2⟩ := stB X0 hx hZ e0 Ar2 (j := (0 : Int32)) hin2 (g := (mkF m 31 #[.val (.ref o0), .val (.int (0 : Int32)), .val (.ref o2), .val (.int (0 : Int32)), .val (.int (2 : Int32)), .val (.int (0 : Int32)), .val (.int c0_)] [(.int (c0_.toInt8.toInt32)), (.int (0 : Int32)), (.ref o2)])) rfl rfl (hb hby d5_31)
  have V2 : Arv Z h2 o2 kb_ .byte (2 : Int32) [(.int ((c0_.toInt8.toInt32)).toInt8.toInt32), (.int (0 : Int32))] (.int (0 : Int32)) := Arv.set Ar2 qk2 sz2 nn2 Hs2 Gs2 (fits_nar_byte _) W2 0 rfl (Nat.le_of_ble_eq_true rfl)
  have N2 := Fr.snoc X2 N0 g_o2
  have Z2 : n0 ≤ h2.size := by rw [W2.size]; exact Z0
  have K2 : Keep h0 h2 [o2] := K0.wr W2 (Or.inl (List.mem_of_getElem? (i := 0) rfl))
  refine own_go (g' := (mkF m 32 #[.val (.ref o0), .val (.int (0 : Int32)), .val (.ref o2), .val (.int (0 : Int32)), .val (.int (2 : Int32)), .val (.int (0 : Int32)), .val (.int c0_)] [])) (st2) ?_
  refine own_go (g' := (mkF m 35 #[.val (.ref o0), .val (.int (1 : Int32)), .val (.ref o2), .val (.int (0 : Int32)), .val (.int (2 : Int32)), .val (.int (0 : Int32)), .val (.int c0_)] [])) (fun _ kgo => XS.iinc X2.here hx rfl (hb hby d5_32) rfl (l' := #[.val (.ref o0), .val (.int (1 : Int32)), .val (.ref o2), .val (.int (0 : Int32)), .val (.int (2 : Int32)), .val (.int (0 : Int32)), .val (.int c0_)]) rfl kgo) ?_
  refine own_go (g' := (mkF m 38 #[.val (.ref o0), .val (.int (1 : Int32)), .val (.ref o2), .val (.int (1 : Int32)), .val (.int (2 : Int32)), .val (.int (0 : Int32)), .val (.int c0_)] [])) (fun _ kgo => XS.iinc X2.here hx rfl (hb hby d5_35) rfl (l' := #[.val (.ref o0), .val (.int (1 : Int32)), .val (.ref o2), .val (.int (1 : Int32)), .val (.int (2 : Int32)), .val (.int (0 : Int32)), .val (.int c0_)]) rfl kgo) ?_
  refine own_go (g' := (mkF m 41 #[.val (.ref o0), .val (.int (1 : Int32)), .val (.ref o2), .val (.int (1 : Int32)), .val (.int (2 : Int32)), .val (.int (1 : Int32)), .val (.int c0_)] [])) (fun _ kgo => XS.iinc X2.here hx rfl (hb hby d5_38) rfl (l' := #[.val (.ref o0), .val (.int (1 : Int32)), .val (.ref o2), .val (.int (1 : Int32)), .val (.int (2 : Int32)), .val (.int (1 : Int32)), .val (.int c0_)]) rfl kgo) ?_
  refine own_go (g' := (mkF m 3 #[.val (.ref o0), .val (.int (1 : Int32)), .val (.ref o2), .val (.int (1 : Int32)), .val (.int (2 : Int32)), .val (.int (1 : Int32)), .val (.int c0_)] [])) (fun _ kgo => XS.goto X2.here hx rfl (pc0 := 41) (pc' := 3) rfl (hb hby d5_41) (by decide) (by decide) kgo) ?_
  refine own_go (g' := (mkF m 5 #[.val (.ref o0), .val (.int (1 : Int32)), .val (.ref o2), .val (.int (1 : Int32)), .val (.int (2 : Int32)), .val (.int (1 : Int32)), .val (.int c0_)] [(.int (1 : Int32))])) (fun _ kgo => XS.iload X2.here hx rfl (hb hby d5_3) rfl kgo) ?_
  refine own_go (g' := (mkF m 7 #[.val (.ref o0), .val (.int (1 : Int32)), .val (.ref o2), .val (.int (1 : Int32)), .val (.int (2 : Int32)), .val (.int (1 : Int32)), .val (.int c0_)] [(.int (2 : Int32)), (.int (1 : Int32))])) (fun _ kgo => XS.iload X2.here hx rfl (hb hby d5_5) rfl kgo) ?_
  refine own_go (g' := (mkF m 10 #[.val (.ref o0), .val (.int (1 : Int32)), .val (.ref o2), .val (.int (1 : Int32)), .val (.int (2 : Int32)), .val (.int (1 : Int32)), .val (.int c0_)] [])) (fun _ kgo => XS.icmpNo X2.here hx rfl (hb hby d5_7) rfl (tlt (by decide)).2.1 kgo) ?_
  refine own_go (g' := (mkF m 11 #[.val (.ref o0), .val (.int (1 : Int32)), .val (.ref o2), .val (.int (1 : Int32)), .val (.int (2 : Int32)), .val (.int (1 : Int32)), .val (.int c0_)] [(.ref o0)])) (fun _ kgo => XS.aloadN X2.here hx rfl (hb hby d5_10) rfl rfl kgo) ?_
  refine own_go (g' := (mkF m 12 #[.val (.ref o0), .val (.int (1 : Int32)), .val (.ref o2), .val (.int (1 : Int32)), .val (.int (2 : Int32)), .val (.int (1 : Int32)), .val (.int c0_)] [(.int (1 : Int32)), (.ref o0)])) (fun _ kgo => XS.iloadN X2.here hx rfl (hb hby d5_11) rfl kgo) ?_
  have fx3 : Arv Z h2 o0 kc_ .char (2 : Int32) [(.int c0_), (.int c1_)] (.int (0 : Int32)) := (Arv.other P0 W2 hne)
  obtain ⟨cl4, Ar4, qk4, sz4, nn4, Hs4, Gs4⟩ := id fx3
  have hin4 : ¬ ((1 : Int32) < 0 ∨ cl4.slots.size ≤ ((1 : Int32)).toNatClampNeg) := inb_of sz4 ⟨by decide, by decide⟩
  have hat4 : cl4.slots[((1 : Int32)).toNatClampNeg]? = some (.int c1_) := Has.at Hs4 hin4 rfl
  refine own_go (g' := (mkF m 13 #[.val (.ref o0), .val (.int (1 : Int32)), .val (.ref o2), .val (.int (1 : Int32)), .val (.int (2 : Int32)), .val (.int (1 : Int32)), .val (.int c0_)] [(.int c1_)])) (X2.caload hx (j := (1 : Int32)) (v := (.int c1_)) (by rw [e2]; exact Ar4.1) (State.isArrayOf_alike hZ.alike Ar4.2.1) Ar4.2.2 hin4 hat4 (g := (mkF m 12 #[.val (.ref o0), .val (.int (1 : Int32)), .val (.ref o2), .val (.int (1 : Int32)), .val (.int (2 : Int32)), .val (.int (1 : Int32)), .val (.int c0_)] [(.int (1 : Int32)), (.ref o0)])) rfl rfl (hb hby d5_12)) ?_
  refine own_go (g' := (mkF m 15 #[.val (.ref o0), .val (.int (1 : Int32)), .val (.ref o2), .val (.int (1 : Int32)), .val (.int (2 : Int32)), .val (.int (1 : Int32)), .val (.int c1_)] [])) (fun _ kgo => XS.istore X2.here hx rfl (hb hby d5_13) rfl (l' := #[.val (.ref o0), .val (.int (1 : Int32)), .val (.ref o2), .val (.int (1 : Int32)), .val (.int (2 : Int32)), .val (.int (1 : Int32)), .val (.int c1_)]) rfl kgo) ?_
  refine own_go (g' := (mkF m 17 #[.val (.ref o0), .val (.int (1 : Int32)), .val (.ref o2), .val (.int (1 : Int32)), .val (.int (2 : Int32)), .val (.int (1 : Int32)), .val (.int c1_)] [(.int c1_)])) (fun _ kgo => XS.iload X2.here hx rfl (hb hby d5_15) rfl kgo) ?_
  refine own_go (g' := (mkF m 20 #[.val (.ref o0), .val (.int (1 : Int32)), .val (.ref o2), .val (.int (1 : Int32)), .val (.int (2 : Int32)), .val (.int (1 : Int32)), .val (.int c1_)] [(.int (255 : Int32)), (.int c1_)])) (fun _ kgo => XS.sipush X2.here hx rfl (hb hby d5_17) kgo) ?_
  refine own_go (g' := (mkF m 26 #[.val (.ref o0), .val (.int (1 : Int32)), .val (.ref o2), .val (.int (1 : Int32)), .val (.int (2 : Int32)), .val (.int (1 : Int32)), .val (.int c1_)] [])) (fun _ kgo => XS.icmpYes X2.here hx rfl (pc0 := 20) (pc' := 26) rfl (hb hby d5_20) rfl (flt hc1_).2.2.2 (by decide) (by decide) kgo) ?_
  refine own_go (g' := (mkF m 27 #[.val (.ref o0), .val (.int (1 : Int32)), .val (.ref o2), .val (.int (1 : Int32)), .val (.int (2 : Int32)), .val (.int (1 : Int32)), .val (.int c1_)] [(.ref o2)])) (fun _ kgo => XS.aloadN X2.here hx rfl (hb hby d5_26) rfl rfl kgo) ?_
  refine own_go (g' := (mkF m 28 #[.val (.ref o0), .val (.int (1 : Int32)), .val (.ref o2), .val (.int (1 : Int32)), .val (.int (2 : Int32)), .val (.int (1 : Int32)), .val (.int c1_)] [(.int (1 : Int32)), (.ref o2)])) (fun _ kgo => XS.iloadN X2.here hx rfl (hb hby d5_27) rfl kgo) ?_
  refine own_go (g' := (mkF m 30 #[.val (.ref o0), .val (.int (1 : Int32)), .val (.ref o2), .val (.int (1 : Int32)), .val (.int (2 : Int32)), .val (.int (1 : Int32)), .val (.int c1_)] [(.int c1_), (.int (1 : Int32)), (.ref o2)])) (fun _ kgo => XS.iload X2.here hx rfl (hb hby d5_28) rfl kgo) ?_
  refine own_go (g' := (mkF m 31 #[.val (.ref o0), .val (.int (1 : Int32)), .val (.ref o2), .val (.int (1 : Int32)), .val (.int (2 : Int32)), .val (.int (1 : Int32)), .val (.int c1_)] [(.int (c1_.toInt8.toInt32)), (.int (1 : Int32)), (.ref o2)])) (fun _ kgo => XS.i2b X2.here hx rfl (hb hby d5_30) rfl kgo) ?_
  obtain ⟨cl5, Ar5, qk5, sz5, nn5, Hs5, Gs5⟩ := id V2
  have hin5 : ¬ ((1 : Int32) < 0 ∨ cl5.slots.size ≤ ((1 : Int32)).toNatClampNeg) := inb_of sz5 ⟨by decide, by decide⟩
  obtain ⟨T5, h5, X5, e5, W5, st5⟩ := stB X2 hx hZ e2 Ar5 (j := (1 : Int32)) hin5 (g := (mkF m 31 #[.val (.ref o0), .val (.int (1 : Int32)), .val (.ref o2), .val (.int (1 : Int32)), .val (.int (2 : Int32)), .val (.int (1 : Int32)), .val (.int c1_)] [(.int (c1_.toInt8.toInt32)), (.int (1 : Int32)), (.ref o2)])) rfl rfl (hb hby d5_31)
  have V5 : Arv Z h5 o2 kb_ .byte (2 : Int32) [(.int ((c0_.toInt8.toInt32)).toInt8.toInt32), (.int ((c1_.toInt8.toInt32)).toInt8.toInt32)] (.int (0 : Int32)) := Arv.set Ar5 qk5 sz5 nn5 Hs5 Gs5 (fits_nar_byte _) W5 1 rfl (Nat.le_of_ble_eq_true rfl)
  have N5 := Fr.snoc X5 N2 g_o2
  have Z5 : n0 ≤ h5.size := by rw [W5.size]; exact Z2
  have K5 : Keep h0 h5 [o2] := K2.wr W5 (Or.inl (List.mem_of_getElem? (i := 0) rfl))
  refine own_go (g' := (mkF m 32 #[.val (.ref o0), .val (.int (1 : Int32)), .val (.ref o2), .val (.int (1 : Int32)), .val (.int (2 : Int32)), .val (.int (1 : Int32)), .val (.int c1_)] [])) (st5) ?_
  refine own_go (g' := (mkF m 35 #[.val (.ref o0), .val (.int (2 : Int32)), .val (.ref o2), .val (.int (1 : Int32)), .val (.int (2 : Int32)), .val (.int (1 : Int32)), .val (.int c1_)] [])) (fun _ kgo => XS.iinc X5.here hx rfl (hb hby d5_32) rfl (l' := #[.val (.ref o0), .val (.int (2 : Int32)), .val (.ref o2), .val (.int (1 : Int32)), .val (.int (2 : Int32)), .val (.int (1 : Int32)), .val (.int c1_)]) rfl kgo) ?_
  refine own_go (g' := (mkF m 38 #[.val (.ref o0), .val (.int (2 : Int32)), .val (.ref o2), .val (.int (2 : Int32)), .val (.int (2 : Int32)), .val (.int (1 : Int32)), .val (.int c1_)] [])) (fun _ kgo => XS.iinc X5.here hx rfl (hb hby d5_35) rfl (l' := #[.val (.ref o0), .val (.int (2 : Int32)), .val (.ref o2), .val (.int (2 : Int32)), .val (.int (2 : Int32)), .val (.int (1 : Int32)), .val (.int c1_)]) rfl kgo) ?_
  refine own_go (g' := (mkF m 41 #[.val (.ref o0), .val (.int (2 : Int32)), .val (.ref o2), .val (.int (2 : Int32)), .val (.int (2 : Int32)), .val (.int (2 : Int32)), .val (.int c1_)] [])) (fun _ kgo => XS.iinc X5.here hx rfl (hb hby d5_38) rfl (l' := #[.val (.ref o0), .val (.int (2 : Int32)), .val (.ref o2), .val (.int (2 : Int32)), .val (.int (2 : Int32)), .val (.int (2 : Int32)), .val (.int c1_)]) rfl kgo) ?_
  refine own_go (g' := (mkF m 3 #[.val (.ref o0), .val (.int (2 : Int32)), .val (.ref o2), .val (.int (2 : Int32)), .val (.int (2 : Int32)), .val (.int (2 : Int32)), .val (.int c1_)] [])) (fun _ kgo => XS.goto X5.here hx rfl (pc0 := 41) (pc' := 3) rfl (hb hby d5_41) (by decide) (by decide) kgo) ?_
  refine own_go (g' := (mkF m 5 #[.val (.ref o0), .val (.int (2 : Int32)), .val (.ref o2), .val (.int (2 : Int32)), .val (.int (2 : Int32)), .val (.int (2 : Int32)), .val (.int c1_)] [(.int (2 : Int32))])) (fun _ kgo => XS.iload X5.here hx rfl (hb hby d5_3) rfl kgo) ?_
  refine own_go (g' := (mkF m 7 #[.val (.ref o0), .val (.int (2 : Int32)), .val (.ref o2), .val (.int (2 : Int32)), .val (.int (2 : Int32)), .val (.int (2 : Int32)), .val (.int c1_)] [(.int (2 : Int32)), (.int (2 : Int32))])) (fun _ kgo => XS.iload X5.here hx rfl (hb hby d5_5) rfl kgo) ?_
  refine own_go (g' := (mkF m 44 #[.val (.ref o0), .val (.int (2 : Int32)), .val (.ref o2), .val (.int (2 : Int32)), .val (.int (2 : Int32)), .val (.int (2 : Int32)), .val (.int c1_)] [])) (fun _ kgo => XS.icmpYes X5.here hx rfl (pc0 := 7) (pc' := 44) rfl (hb hby d5_7) rfl (flt (by decide)).2.1 (by decide) (by decide) kgo) ?_
  refine own_go (g' := (mkF m 46 #[.val (.ref o0), .val (.int (2 : Int32)), .val (.ref o2), .val (.int (2 : Int32)), .val (.int (2 : Int32)), .val (.int (2 : Int32)), .val (.int c1_)] [(.int (2 : Int32))])) (fun _ kgo => XS.iload X5.here hx rfl (hb hby d5_44) rfl kgo) ?_
  refine own_retI X5 hx Bd.returns Bd.notSynchronized (hb hby d5_46) (by decide) (by decide) ?_
  show QQ _ T5.heap _
  rw [e5]
  have fx6 : Arv Z h5 o0 kc_ .char (2 : Int32) [(.int c0_), (.int c1_)] (.int (0 : Int32)) := (Arv.other fx3 W5 hne)
  rw [← hQQ]
  exact ⟨rfl, N5, K5, fx6, V5⟩
theorem pn_cpb2 : plainName "java/lang/StringUTF16" = true := by first | (simp [plainName, overriddenIn]; done) | decide +kernel
theorem ef_cpb2 (m : MethodId) (o0 : Addr) : entryFrame m #[(.ref o0), (.int (0 : Int32)), (.int (2 : Int32))] 6 = mkF m 0 #[.val (.ref o0), .val (.int (0 : Int32)), .val (.int (2 : Int32)), .unset, .unset, .unset] [] := by first | (simp [entryFrame, mkF, argsToLocals, Value.category]; done) | rfl
set_option maxRecDepth 65536 in
set_option maxHeartbeats 40000000 in
theorem cpb2 (l : Launch) (Z : State) (a0 : Array Value) (hw : ∀ d ∈ tables_1, d.before a0 Z = true) (o0 : Addr) (c0_ : Int32) (c1_ : Int32) (kc_ : ClassId) (h0 : Heap) (n0 : Nat) (Z0 : n0 ≤ h0.size) (P0 : Arv Z h0 o0 kc_ .char (2 : Int32) [(.int c0_), (.int c1_)] (.int (0 : Int32))) (hc0_ : ¬ (255 : Int32) < c0_) (hc1_ : ¬ (255 : Int32) < c1_) :
    own_Met l Z (⟨"java/lang/StringUTF16", "compress", "([CII)[B"⟩ : MethodName) jdk_52_method_16_code 6 (some (.array .byte)) [] ({ frames := 1, cells := 1, slots := 2, locals := 18 } : Room) #[(.ref o0), (.int (0 : Int32)), (.int (2 : Int32))] h0 1 2 (fun v h L => ∃ (r : Addr), ∃ (kr : ClassId), v = some (.ref r) ∧ Fr n0 L ∧ Keep h0 h [] ∧ h0.size ≤ r ∧ Arv Z h r kr .byte (2 : Int32) [(.int ((c0_.toInt8.toInt32)).toInt8.toInt32), (.int ((c1_.toInt8.toInt32)).toInt8.toInt32)] (.int (0 : Int32))) := by
  refine own_met (plainFor_of_name pn_cpb2) ?_
  intro p e s m below meth c s₁ Bd hml0 hZ X0 e0
  have hx := Bd.exec
  have hby := Bd.bytes
  have hml : c.maxLocals = 6 := hml0
  have hown : s.vm.findClass "java/lang/StringUTF16" = some m.cls := findClass_of_methodNamed Bd.named
  have hnm := (name_of_methodNamed Bd.named Bd.method).1
  refine own_cast (ef_cpb2 m o0) ?_
  generalize hQQ : (fun (v : Option Value) (h : Heap) (L : List Loc) => ∃ (r : Addr), ∃ (kr : ClassId), v = some (.ref r) ∧ Fr n0 L ∧ Keep h0 h [] ∧ h0.size ≤ r ∧ Arv Z h r kr .byte (2 : Int32) [(.int ((c0_.toInt8.toInt32)).toInt8.toInt32), (.int ((c1_.toInt8.toInt32)).toInt8.toInt32)] (.int (0 : Int32))) = QQ
  have N0 := Fr.nil n0
  have K0 := Keep.refl h0 []
  refine own_go (g' := (mkF m 1 #[.val (.ref o0), .val (.int (0 : Int32)), .val (.int (2 : Int32)), .unset, .unset, .unset] [(.int (2 : Int32))])) (fun _ kgo => XS.iloadN X0.here hx rfl (hb hby d4_0) rfl kgo) ?_
  obtain ⟨T1, h1, k1, X1, e1, E1, A1, st1⟩ := newP X0 hx hZ (hw _ (List.mem_of_getElem? (i := 19) rfl)) e0 (g := (mkF m 1 #[.val (.ref o0), .val (.int (0 : Int32)), .val (.int (2 : Int32)), .unset, .unset, .unset] [(.int (2 : Int32))])) rfl (hb hby d4_1) rfl (by decide) (cap := 2) (by decide) (by decide) (by decide) (by decide)
  obtain ⟨b1, ad1⟩ : ∃ z, z = h0.size := ⟨_, rfl⟩
  rw [← ad1] at A1 st1
  have ne_o0_b1 : o0 ≠ b1 := Nat.ne_of_lt (by rw [ad1]; exact P0.lt)
  have ge_b1 : n0 ≤ b1 := by rw [ad1]; exact Z0
  have sz_b1 : h0.size ≤ b1 := by rw [ad1]; exact K0.1
  have Z1 : n0 ≤ h1.size := Nat.le_trans Z0 E1.1
  have K1 : Keep h0 h1 [] := K0.ext E1
  have V1 : Arv Z h1 b1 k1 .byte (2 : Int32) [(.int (0 : Int32)), (.int (0 : Int32))] (.int (0 : Int32)) := (Arv.new A1 (by decide)).pad (pad_rep [] (.int (0 : Int32)) 2)
  refine own_go (g' := (mkF m 3 #[.val (.ref o0), .val (.int (0 : Int32)), .val (.int (2 : Int32)), .unset, .unset, .unset] [(.ref b1)])) (st1) ?_
  refine own_go (g' := (mkF m 4 #[.val (.ref o0), .val (.int (0 : Int32)), .val (.int (2 : Int32)), .val (.ref b1), .unset, .unset] [])) (fun _ kgo => XS.astoreN X1.here hx rfl (hb hby d4_3) rfl rfl (l' := #[.val (.ref o0), .val (.int (0 : Int32)), .val (.int (2 : Int32)), .val (.ref b1), .unset, .unset]) rfl kgo) ?_
  refine own_go (g' := (mkF m 5 #[.val (.ref o0), .val (.int (0 : Int32)), .val (.int (2 : Int32)), .val (.ref b1), .unset, .unset] [(.ref o0)])) (fun _ kgo => XS.aloadN X1.here hx rfl (hb hby d4_4) rfl rfl kgo) ?_
  refine own_go (g' := (mkF m 6 #[.val (.ref o0), .val (.int (0 : Int32)), .val (.int (2 : Int32)), .val (.ref b1), .unset, .unset] [(.int (0 : Int32)), (.ref o0)])) (fun _ kgo => XS.iloadN X1.here hx rfl (hb hby d4_5) rfl kgo) ?_
  refine own_go (g' := (mkF m 7 #[.val (.ref o0), .val (.int (0 : Int32)), .val (.int (2 : Int32)), .val (.ref b1), .unset, .unset] [(.ref b1), (.int (0 : Int32)), (.ref o0)])) (fun _ kgo => XS.aloadN X1.here hx rfl (hb hby d4_6) rfl rfl kgo) ?_
  refine own_go (g' := (mkF m 8 #[.val (.ref o0), .val (.int (0 : Int32)), .val (.int (2 : Int32)), .val (.ref b1), .unset, .unset] [(.int (0 : Int32)), (.ref b1), (.int (0 : Int32)), (.ref o0)])) (fun _ kgo => XS.iconst X1.here hx rfl (hb hby d4_7) kgo) ?_
  refine own_go (g' := (mkF m 9 #[.val (.ref o0), .val (.int (0 : Int32)), .val (.int (2 : Int32)), .val (.ref b1), .unset, .unset] [(.int (2 : Int32)), (.int (0 : Int32)), (.ref b1), (.int (0 : Int32)), (.ref o0)])) (fun _ kgo => XS.iloadN X1.here hx rfl (hb hby d4_8) rfl kgo) ?_
  have fx3 : Arv Z h1 o0 kc_ .char (2 : Int32) [(.int c0_), (.int c1_)] (.int (0 : Int32)) := (Arv.ext P0 E1)
  obtain ⟨v2, T2, L2, hQ2, X2, st2⟩ := own_callS X1 hx hZ (y := (⟨"java/lang/StringUTF16", "compress", "([CI[BII)I"⟩ : MethodName)) hown (hw _ (List.mem_of_getElem? (i := 20) rfl)) (hw _ (List.mem_of_getElem? (i := 21) rfl)) (hw _ (List.mem_of_getElem? (i := 17) rfl)) (hw _ (List.mem_of_getElem? (i := 22) rfl)) ⟨by decide, by decide⟩ (argsL := [(.ref o0), (.int (0 : Int32)), (.ref b1), (.int (0 : Int32)), (.int (2 : Int32))]) (cpa2 l Z a0 hw o0 b1 c0_ c1_ kc_ k1 h1 n0 Z1 ge_b1 fx3 V1 hc0_ hc1_ ne_o0_b1) e1 (g := (mkF m 9 #[.val (.ref o0), .val (.int (0 : Int32)), .val (.int (2 : Int32)), .val (.ref b1), .unset, .unset] [(.int (2 : Int32)), (.int (0 : Int32)), (.ref b1), (.int (0 : Int32)), (.ref o0)])) rfl (by rw [hml]; rfl) (rest := []) (lenOf pd4_0 rfl) rfl (hb hby d4_9) (W := 0) (by show 2 * 0 + _ ≤ _; exact Nat.le_of_eq rfl) (by decide) (by decide) (by decide) (by decide)
  obtain ⟨rfl, Nq2, Kq2, q2_0, q2_1⟩ := hQ2
  have N2 := Fr.app N0 Nq2
  have Z2 : n0 ≤ T2.heap.size := Nat.le_trans Z1 Kq2.1
  have KK2 : Keep h0 T2.heap [] := K1.trans Kq2 (allS (Or.inr sz_b1) all0)
  refine own_go (g' := (mkF m 12 #[.val (.ref o0), .val (.int (0 : Int32)), .val (.int (2 : Int32)), .val (.ref b1), .unset, .unset] [(.int (2 : Int32))])) (st2) ?_
  refine own_go (g' := (mkF m 14 #[.val (.ref o0), .val (.int (0 : Int32)), .val (.int (2 : Int32)), .val (.ref b1), .val (.int (2 : Int32)), .unset] [])) (fun _ kgo => XS.istore X2.here hx rfl (hb hby d4_12) rfl (l' := #[.val (.ref o0), .val (.int (0 : Int32)), .val (.int (2 : Int32)), .val (.ref b1), .val (.int (2 : Int32)), .unset]) rfl kgo) ?_
  refine own_go (g' := (mkF m 16 #[.val (.ref o0), .val (.int (0 : Int32)), .val (.int (2 : Int32)), .val (.ref b1), .val (.int (2 : Int32)), .unset] [(.int (2 : Int32))])) (fun _ kgo => XS.iload X2.here hx rfl (hb hby d4_14) rfl kgo) ?_
  refine own_go (g' := (mkF m 17 #[.val (.ref o0), .val (.int (0 : Int32)), .val (.int (2 : Int32)), .val (.ref b1), .val (.int (2 : Int32)), .unset] [(.int (2 : Int32)), (.int (2 : Int32))])) (fun _ kgo => XS.iloadN X2.here hx rfl (hb hby d4_16) rfl kgo) ?_
  refine own_go (g' := (mkF m 57 #[.val (.ref o0), .val (.int (0 : Int32)), .val (.int (2 : Int32)), .val (.ref b1), .val (.int (2 : Int32)), .unset] [])) (fun _ kgo => XS.icmpYes X2.here hx rfl (pc0 := 17) (pc' := 57) rfl (hb hby d4_17) rfl (teq (by decide)).1 (by decide) (by decide) kgo) ?_
  refine own_go (g' := (mkF m 58 #[.val (.ref o0), .val (.int (0 : Int32)), .val (.int (2 : Int32)), .val (.ref b1), .val (.int (2 : Int32)), .unset] [(.ref b1)])) (fun _ kgo => XS.aloadN X2.here hx rfl (hb hby d4_57) rfl rfl kgo) ?_
  refine own_retA X2 hx Bd.returns Bd.notSynchronized rfl rfl (hb hby d4_58) (by decide) (by decide) ?_
  show QQ _ T2.heap _
  rw [← hQQ]
  exact ⟨b1, k1, rfl, N2, KK2, sz_b1, q2_1⟩
theorem pn_cfa2 : plainName "java/lang/StringUTF16" = true := by first | (simp [plainName, overriddenIn]; done) | decide +kernel
theorem ef_cfa2 (m : MethodId) (o0 : Addr) : entryFrame m #[(.ref o0), (.int (2 : Int32))] 2 = mkF m 0 #[.val (.ref o0), .val (.int (2 : Int32))] [] := by first | (simp [entryFrame, mkF, argsToLocals, Value.category]; done) | rfl
set_option maxRecDepth 65536 in
set_option maxHeartbeats 40000000 in
theorem cfa2 (l : Launch) (Z : State) (a0 : Array Value) (hw : ∀ d ∈ tables_1, d.before a0 Z = true) (o0 : Addr) (b0_ : Int32) (b1_ : Int32) (kb_ : ClassId) (h0 : Heap) (P0 : Arv Z h0 o0 kb_ .byte (2 : Int32) [(.int b0_), (.int b1_)] (.int (0 : Int32))) :
    own_Met l Z (⟨"java/lang/StringUTF16", "coderFromArrayLen", "([BI)B"⟩ : MethodName) jdk_52_method_15_code 2 (some .byte) [] ({ frames := 0, cells := 0, slots := 0, locals := 0 } : Room) #[(.ref o0), (.int (2 : Int32))] h0 0 0 (fun v h L => v = some (.int (0 : Int32)) ∧ h = h0 ∧ L = []) := by
  refine own_met (plainFor_of_name pn_cfa2) ?_
  intro p e s m below meth c s₁ Bd hml0 hZ X0 e0
  have hx := Bd.exec
  have hby := Bd.bytes
  have hml : c.maxLocals = 2 := hml0
  have hown : s.vm.findClass "java/lang/StringUTF16" = some m.cls := findClass_of_methodNamed Bd.named
  have hnm := (name_of_methodNamed Bd.named Bd.method).1
  refine own_cast (ef_cfa2 m o0) ?_
  generalize hQQ : (fun (v : Option Value) (h : Heap) (L : List Loc) => v = some (.int (0 : Int32)) ∧ h = h0 ∧ L = []) = QQ
  refine own_go (g' := (mkF m 1 #[.val (.ref o0), .val (.int (2 : Int32))] [(.int (2 : Int32))])) (fun _ kgo => XS.iloadN X0.here hx rfl (hb hby d6_0) rfl kgo) ?_
  refine own_go (g' := (mkF m 2 #[.val (.ref o0), .val (.int (2 : Int32))] [(.ref o0), (.int (2 : Int32))])) (fun _ kgo => XS.aloadN X0.here hx rfl (hb hby d6_1) rfl rfl kgo) ?_
  obtain ⟨cl1, Ar1, -, sz1, nn1, -, -⟩ := id P0
  refine own_go (g' := (mkF m 3 #[.val (.ref o0), .val (.int (2 : Int32))] [(.int (2 : Int32)), (.int (2 : Int32))])) (by have q := X0.arraylength hx (by rw [e0]; exact Ar1.1) (State.isArrayOf_alike hZ.alike Ar1.2.1) (g := (mkF m 2 #[.val (.ref o0), .val (.int (2 : Int32))] [(.ref o0), (.int (2 : Int32))])) rfl rfl (hb hby d6_2); rw [len_of sz1 nn1] at q; exact q) ?_
  refine own_go (g' := (mkF m 4 #[.val (.ref o0), .val (.int (2 : Int32))] [(.int (0 : Int32))])) (fun _ kgo => XS.isub X0.here hx rfl (hb hby d6_3) rfl kgo) ?_
  refine own_go (g' := (mkF m 6 #[.val (.ref o0), .val (.int (2 : Int32))] [(.int (31 : Int32)), (.int (0 : Int32))])) (fun _ kgo => XS.bipush X0.here hx rfl (hb hby d6_4) kgo) ?_
  refine own_go (g' := (mkF m 7 #[.val (.ref o0), .val (.int (2 : Int32))] [(.int (0 : Int32))])) (fun _ kgo => XS.iushr X0.here hx rfl (hb hby d6_6) rfl kgo) ?_
  refine own_go (g' := (mkF m 8 #[.val (.ref o0), .val (.int (2 : Int32))] [(.int ((0 : Int32).toInt8.toInt32))])) (fun _ kgo => XS.i2b X0.here hx rfl (hb hby d6_7) rfl kgo) ?_
  refine own_retN X0 hx .byte Bd.returns Bd.notSynchronized (by simp) (hb hby d6_8) (by decide) (by decide) ?_
  show QQ _ s₁.heap _
  rw [e0]
  rw [← hQQ]
  exact ⟨by first | rfl | decide, rfl, rfl⟩
theorem pn_sia2 : plainName "java/lang/String" = true := by first | (simp [plainName, overriddenIn]; done) | decide +kernel
theorem ef_sia2 (m : MethodId) (o0 : Addr) (o1 : Addr) : entryFrame m #[(.ref o0), (.ref o1), (.int (0 : Int32)), (.int (2 : Int32)), .null] 6 = mkF m 0 #[.val (.ref o0), .val (.ref o1), .val (.int (0 : Int32)), .val (.int (2 : Int32)), .val .null, .unset] [] := by first | (simp [entryFrame, mkF, argsToLocals, Value.category]; done) | rfl
set_option maxRecDepth 65536 in
set_option maxHeartbeats 40000000 in
theorem sia2 (l : Launch) (Z : State) (a0 : Array Value) (hw : ∀ d ∈ tables_1, d.before a0 Z = true) (o0 : Addr) (o1 : Addr) (c0_ : Int32) (c1_ : Int32) (kc_ : ClassId) (cs : Int32) (h0 : Heap) (n0 : Nat) (Z0 : n0 ≤ h0.size) (g_o0 : n0 ≤ o0) (P0 : Exa Z h0 o0 "java/lang/String") (P1 : Fld Z h0 o0 "java/lang/String" "value" "[B" .null) (P2 : Fld Z h0 o0 "java/lang/String" "coder" "B" (.int (0 : Int32))) (P3 : Arv Z h0 o1 kc_ .char (2 : Int32) [(.int c0_), (.int c1_)] (.int (0 : Int32))) (P4 : Sta Z h0 "java/lang/String" "COMPACT_STRINGS" "Z" (.int cs)) (hc0_ : ¬ (255 : Int32) < c0_) (hc1_ : ¬ (255 : Int32) < c1_) (hcs : ¬ cs = (0 : Int32)) (hne : o1 ≠ o0) :
    own_Met l Z (⟨"java/lang/String", "<init>", "([CIILjava/lang/Void;)V"⟩ : MethodName) jdk_42_method_149_code 6 none [] ({ frames := 2, cells := 1, slots := 2, locals := 35 } : Room) #[(.ref o0), (.ref o1), (.int (0 : Int32)), (.int (2 : Int32)), .null] h0 1 2 (fun v h L => ∃ (r : Addr), ∃ (kr : ClassId), v = none ∧ Fr n0 L ∧ Keep h0 h [o0] ∧ h0.size ≤ r ∧ Exa Z h o0 "java/lang/String" ∧ Fld Z h o0 "java/lang/String" "value" "[B" (.ref r) ∧ Fld Z h o0 "java/lang/String" "coder" "B" (.int (0 : Int32)) ∧ Arv Z h r kr .byte (2 : Int32) [(.int ((c0_.toInt8.toInt32)).toInt8.toInt32), (.int ((c1_.toInt8.toInt32)).toInt8.toInt32)] (.int (0 : Int32))) := by
  refine own_met (plainFor_of_name pn_sia2) ?_
  intro p e s m below meth c s₁ Bd hml0 hZ X0 e0
  have hx := Bd.exec
  have hby := Bd.bytes
  have hml : c.maxLocals = 6 := hml0
  have hown : s.vm.findClass "java/lang/String" = some m.cls := findClass_of_methodNamed Bd.named
  have hnm := (name_of_methodNamed Bd.named Bd.method).1
  refine own_cast (ef_sia2 m o0 o1) ?_
  generalize hQQ : (fun (v : Option Value) (h : Heap) (L : List Loc) => ∃ (r : Addr), ∃ (kr : ClassId), v = none ∧ Fr n0 L ∧ Keep h0 h [o0] ∧ h0.size ≤ r ∧ Exa Z h o0 "java/lang/String" ∧ Fld Z h o0 "java/lang/String" "value" "[B" (.ref r) ∧ Fld Z h o0 "java/lang/String" "coder" "B" (.int (0 : Int32)) ∧ Arv Z h r kr .byte (2 : Int32) [(.int ((c0_.toInt8.toInt32)).toInt8.toInt32), (.int ((c1_.toInt8.toInt32)).toInt8.toInt32)] (.int (0 : Int32))) = QQ
  have N0 := Fr.nil n0
  have K0 := Keep.refl h0 [o0]
  refine own_go (g' := (mkF m 1 #[.val (.ref o0), .val (.ref o1), .val (.int (0 : Int32)), .val (.int (2 : Int32)), .val .null, .unset] [(.ref o0)])) (fun _ kgo => XS.aloadN X0.here hx rfl (hb hby d2_0) rfl rfl kgo) ?_
  obtain ⟨T1, X1, e1, st1⟩ := initO X0 hx hZ hown (hw _ (List.mem_of_getElem? (i := 11) rfl)) (hw _ (List.mem_of_getElem? (i := 12) rfl)) (hw _ (List.mem_of_getElem? (i := 13) rfl)) e0 (g := (mkF m 1 #[.val (.ref o0), .val (.ref o1), .val (.int (0 : Int32)), .val (.int (2 : Int32)), .val .null, .unset] [(.ref o0)])) rfl (by rw [hml]; rfl) rfl (hb hby d2_1) (by decide) (W := 0) (by show 2 * 0 + _ ≤ _; exact Nat.le_of_eq rfl) (by decide)
  refine own_go (g' := (mkF m 4 #[.val (.ref o0), .val (.ref o1), .val (.int (0 : Int32)), .val (.int (2 : Int32)), .val .null, .unset] [])) (st1) ?_
  refine own_go (g' := (mkF m 5 #[.val (.ref o0), .val (.ref o1), .val (.int (0 : Int32)), .val (.int (2 : Int32)), .val .null, .unset] [(.int (2 : Int32))])) (fun _ kgo => XS.iloadN X1.here hx rfl (hb hby d2_4) rfl kgo) ?_
  refine own_go (g' := (mkF m 27 #[.val (.ref o0), .val (.ref o1), .val (.int (0 : Int32)), .val (.int (2 : Int32)), .val .null, .unset] [])) (fun _ kgo => XS.ifYes X1.here hx rfl (pc0 := 5) (pc' := 27) rfl (hb hby d2_5) rfl ((if0 _ _).trans (feq (by decide)).2) (by decide) (by decide) kgo) ?_
  obtain ⟨T2, X2, e2, st2⟩ := getS2 X1 hx hZ hown (host := "") (Or.inl (hw _ (List.mem_of_getElem? (i := 14) rfl))) Via.refl e1 P4 (g := (mkF m 27 #[.val (.ref o0), .val (.ref o1), .val (.int (0 : Int32)), .val (.int (2 : Int32)), .val .null, .unset] [])) rfl (hb hby d2_27)
  refine own_go (g' := (mkF m 30 #[.val (.ref o0), .val (.ref o1), .val (.int (0 : Int32)), .val (.int (2 : Int32)), .val .null, .unset] [(.int cs)])) (st2) ?_
  refine own_go (g' := (mkF m 33 #[.val (.ref o0), .val (.ref o1), .val (.int (0 : Int32)), .val (.int (2 : Int32)), .val .null, .unset] [])) (fun _ kgo => XS.ifNo X2.here hx rfl (hb hby d2_30) rfl ((if0 _ _).trans (feq hcs).1) kgo) ?_
  refine own_go (g' := (mkF m 34 #[.val (.ref o0), .val (.ref o1), .val (.int (0 : Int32)), .val (.int (2 : Int32)), .val .null, .unset] [(.ref o1)])) (fun _ kgo => XS.aloadN X2.here hx rfl (hb hby d2_33) rfl rfl kgo) ?_
  refine own_go (g' := (mkF m 35 #[.val (.ref o0), .val (.ref o1), .val (.int (0 : Int32)), .val (.int (2 : Int32)), .val .null, .unset] [(.int (0 : Int32)), (.ref o1)])) (fun _ kgo => XS.iloadN X2.here hx rfl (hb hby d2_34) rfl kgo) ?_
  refine own_go (g' := (mkF m 36 #[.val (.ref o0), .val (.ref o1), .val (.int (0 : Int32)), .val (.int (2 : Int32)), .val .null, .unset] [(.int (2 : Int32)), (.int (0 : Int32)), (.ref o1)])) (fun _ kgo => XS.iloadN X2.here hx rfl (hb hby d2_35) rfl kgo) ?_
  obtain ⟨v3, T3, L3, hQ3, X3, st3⟩ := own_callS X2 hx hZ (y := (⟨"java/lang/StringUTF16", "compress", "([CII)[B"⟩ : MethodName)) hown (hw _ (List.mem_of_getElem? (i := 15) rfl)) (hw _ (List.mem_of_getElem? (i := 16) rfl)) (hw _ (List.mem_of_getElem? (i := 17) rfl)) (hw _ (List.mem_of_getElem? (i := 18) rfl)) ⟨by decide, by decide⟩ (argsL := [(.ref o1), (.int (0 : Int32)), (.int (2 : Int32))]) (cpb2 l Z a0 hw o1 c0_ c1_ kc_ h0 n0 Z0 P3 hc0_ hc1_) e2 (g := (mkF m 36 #[.val (.ref o0), .val (.ref o1), .val (.int (0 : Int32)), .val (.int (2 : Int32)), .val .null, .unset] [(.int (2 : Int32)), (.int (0 : Int32)), (.ref o1)])) rfl (by rw [hml]; rfl) (rest := []) (lenOf pd2_0 rfl) rfl (hb hby d2_36) (W := 0) (by show 2 * 0 + _ ≤ _; exact Nat.le_of_eq rfl) (by decide) (by decide) (by decide) (by decide)
  obtain ⟨r3, kr3, rfl, Nq3, Kq3, pr3_0, q3_0⟩ := hQ3
  have ne_o0_r3 : o0 ≠ r3 := Nat.ne_of_lt (Nat.lt_of_lt_of_le P0.lt pr3_0)
  have ne_o1_r3 : o1 ≠ r3 := Nat.ne_of_lt (Nat.lt_of_lt_of_le P3.lt pr3_0)
  have ge_r3 : n0 ≤ r3 := Nat.le_trans Z0 pr3_0
  have sz_r3 : h0.size ≤ r3 := Nat.le_trans K0.1 pr3_0
  have N3 := Fr.app N0 Nq3
  have Z3 : n0 ≤ T3.heap.size := Nat.le_trans Z0 Kq3.1
  have KK3 : Keep h0 T3.heap [o0] := K0.trans Kq3 all0
  refine own_go (g' := (mkF m 39 #[.val (.ref o0), .val (.ref o1), .val (.int (0 : Int32)), .val (.int (2 : Int32)), .val .null, .unset] [(.ref r3)])) (st3) ?_
  refine own_go (g' := (mkF m 41 #[.val (.ref o0), .val (.ref o1), .val (.int (0 : Int32)), .val (.int (2 : Int32)), .val .null, .val (.ref r3)] [])) (fun _ kgo => XS.astore X3.here hx rfl (hb hby d2_39) rfl rfl (l' := #[.val (.ref o0), .val (.ref o1), .val (.int (0 : Int32)), .val (.int (2 : Int32)), .val .null, .val (.ref r3)]) rfl kgo) ?_
  refine own_go (g' := (mkF m 42 #[.val (.ref o0), .val (.ref o1), .val (.int (0 : Int32)), .val (.int (2 : Int32)), .val .null, .val (.ref r3)] [(.ref o0)])) (fun _ kgo => XS.aloadN X3.here hx rfl (hb hby d2_41) rfl rfl kgo) ?_
  refine own_go (g' := (mkF m 44 #[.val (.ref o0), .val (.ref o1), .val (.int (0 : Int32)), .val (.int (2 : Int32)), .val .null, .val (.ref r3)] [(.ref r3), (.ref o0)])) (fun _ kgo => XS.aload X3.here hx rfl (hb hby d2_42) rfl rfl kgo) ?_
  refine own_go (g' := (mkF m 45 #[.val (.ref o0), .val (.ref o1), .val (.int (0 : Int32)), .val (.int (2 : Int32)), .val .null, .val (.ref r3)] [(.int (2 : Int32)), (.ref r3), (.ref o0)])) (fun _ kgo => XS.iloadN X3.here hx rfl (hb hby d2_44) rfl kgo) ?_
  obtain ⟨v4, T4, L4, hQ4, X4, st4⟩ := own_callS X3 hx hZ (y := (⟨"java/lang/StringUTF16", "coderFromArrayLen", "([BI)B"⟩ : MethodName)) hown (hw _ (List.mem_of_getElem? (i := 23) rfl)) (hw _ (List.mem_of_getElem? (i := 24) rfl)) (hw _ (List.mem_of_getElem? (i := 17) rfl)) (hw _ (List.mem_of_getElem? (i := 25) rfl)) ⟨by decide, by decide⟩ (argsL := [(.ref r3), (.int (2 : Int32))]) (cfa2 l Z a0 hw r3 ((c0_.toInt8.toInt32)).toInt8.toInt32 ((c1_.toInt8.toInt32)).toInt8.toInt32 kr3 T3.heap q3_0) rfl (g := (mkF m 45 #[.val (.ref o0), .val (.ref o1), .val (.int (0 : Int32)), .val (.int (2 : Int32)), .val .null, .val (.ref r3)] [(.int (2 : Int32)), (.ref r3), (.ref o0)])) rfl (by rw [hml]; rfl) (rest := [(.ref o0)]) (lenOf pd2_1 rfl) rfl (hb hby d2_45) (W := 1) (by show 2 * 0 + _ ≤ _; exact Nat.le_of_eq rfl) (by decide) (by decide) (by decide) (by decide)
  obtain ⟨rfl, e4, rfl⟩ := hQ4
  have N4 := Fr.app N3 (Fr.nil n0)
  refine own_go (g' := (mkF m 48 #[.val (.ref o0), .val (.ref o1), .val (.int (0 : Int32)), .val (.int (2 : Int32)), .val .null, .val (.ref r3)] [(.int (0 : Int32)), (.ref o0)])) (st4) ?_
  have fx5 : Fld Z T3.heap o0 "java/lang/String" "coder" "B" (.int (0 : Int32)) := (Fld.keep P2 Kq3 nin0)
  have fx6 : Exa Z T3.heap o0 "java/lang/String" := (Exa.keep P0 Kq3)
  obtain ⟨T7, h7, X7, e7, W7, st7⟩ := putFN X4 hx hZ hown (hw _ (List.mem_of_getElem? (i := 26) rfl)) Via.refl e4 fx5 fx6 (Or.inr ⟨(hw _ (List.mem_of_getElem? (i := 27) rfl)), rfl, hnm⟩) (hw _ (List.mem_of_getElem? (i := 2) rfl)) (ty := .byte) (v := (.int (0 : Int32))) (v' := (.int (0 : Int32))) (by decide) rfl rfl (g := (mkF m 48 #[.val (.ref o0), .val (.ref o1), .val (.int (0 : Int32)), .val (.int (2 : Int32)), .val .null, .val (.ref r3)] [(.int (0 : Int32)), (.ref o0)])) rfl rfl (hb hby d2_48)
  have fw7 := Fld.same W7 fx5
  have N7 := Fr.snoc X7 N4 g_o0
  have Z7 : n0 ≤ h7.size := by rw [W7.size]; exact Z3
  have K7 : Keep h0 h7 [o0] := KK3.wr W7 (Or.inl (List.mem_of_getElem? (i := 0) rfl))
  refine own_go (g' := (mkF m 51 #[.val (.ref o0), .val (.ref o1), .val (.int (0 : Int32)), .val (.int (2 : Int32)), .val .null, .val (.ref r3)] [])) (st7) ?_
  refine own_go (g' := (mkF m 52 #[.val (.ref o0), .val (.ref o1), .val (.int (0 : Int32)), .val (.int (2 : Int32)), .val .null, .val (.ref r3)] [(.ref o0)])) (fun _ kgo => XS.aloadN X7.here hx rfl (hb hby d2_51) rfl rfl kgo) ?_
  refine own_go (g' := (mkF m 54 #[.val (.ref o0), .val (.ref o1), .val (.int (0 : Int32)), .val (.int (2 : Int32)), .val .null, .val (.ref r3)] [(.ref r3), (.ref o0)])) (fun _ kgo => XS.aload X7.here hx rfl (hb hby d2_52) rfl rfl kgo) ?_
  have fx8 : Fld Z h7 o0 "java/lang/String" "value" "[B" .null := (Fld.other W7 (Fld.keep P1 Kq3 nin0) (Or.inr (slot_ne (Or.inr (hw _ (List.mem_of_getElem? (i := 29) rfl))) (Or.inr (hw _ (List.mem_of_getElem? (i := 27) rfl))) (by decide) (t := (.array .byte)) (t' := .byte) (by decide) (by decide))))
  have fx9 : Exa Z h7 o0 "java/lang/String" := (Exa.wr W7 fx6)
  obtain ⟨T10, h10, X10, e10, W10, st10⟩ := putF X7 hx hZ hown (host := "") (Or.inl (hw _ (List.mem_of_getElem? (i := 28) rfl))) Via.refl e7 fx8 fx9 (Or.inr ⟨(hw _ (List.mem_of_getElem? (i := 29) rfl)), rfl, hnm⟩) (hw _ (List.mem_of_getElem? (i := 2) rfl)) (ty := (.array .byte)) (by decide) rfl rfl (g := (mkF m 54 #[.val (.ref o0), .val (.ref o1), .val (.int (0 : Int32)), .val (.int (2 : Int32)), .val .null, .val (.ref r3)] [(.ref r3), (.ref o0)])) rfl rfl (hb hby d2_54)
  have fw10 := Fld.same W10 fx8
  have N10 := Fr.snoc X10 N7 g_o0
  have Z10 : n0 ≤ h10.size := by rw [W10.size]; exact Z7
  have K10 : Keep h0 h10 [o0] := K7.wr W10 (Or.inl (List.mem_of_getElem? (i := 0) rfl))
  refine own_go (g' := (mkF m 57 #[.val (.ref o0), .val (.ref o1), .val (.int (0 : Int32)), .val (.int (2 : Int32)), .val .null, .val (.ref r3)] [])) (st10) ?_
  refine own_retV X10 hx Bd.returns Bd.notSynchronized (hb hby d2_57) (by decide) (by decide) ?_
  show QQ _ T10.heap _
  rw [e10]
  have fx11 : Exa Z h10 o0 "java/lang/String" := (Exa.wr W10 fx9)
  have fx12 : Fld Z h10 o0 "java/lang/String" "coder" "B" (.int (0 : Int32)) := (Fld.other W10 fw7 (Or.inr (slot_ne (Or.inr (hw _ (List.mem_of_getElem? (i := 27) rfl))) (Or.inr (hw _ (List.mem_of_getElem? (i := 29) rfl))) (by decide) (t := .byte) (t' := (.array .byte)) (by decide) (by decide))))
  have fx13 : Arv Z h10 r3 kr3 .byte (2 : Int32) [(.int ((c0_.toInt8.toInt32)).toInt8.toInt32), (.int ((c1_.toInt8.toInt32)).toInt8.toInt32)] (.int (0 : Int32)) := (Arv.other (Arv.other q3_0 W7 (Ne.symm ne_o0_r3)) W10 (Ne.symm ne_o0_r3))
  rw [← hQQ]
  exact ⟨r3, kr3, rfl, N10, K10, sz_r3, fx11, fw10, fx12, fx13⟩
theorem pn_sib2 : plainName "java/lang/String" = true := by first | (simp [plainName, overriddenIn]; done) | decide +kernel
theorem ef_sib2 (m : MethodId) (o0 : Addr) (o1 : Addr) : entryFrame m #[(.ref o0), (.ref o1)] 2 = mkF m 0 #[.val (.ref o0), .val (.ref o1)] [] := by first | (simp [entryFrame, mkF, argsToLocals, Value.category]; done) | rfl
set_option maxRecDepth 65536 in
set_option maxHeartbeats 40000000 in
theorem sib2 (l : Launch) (Z : State) (a0 : Array Value) (hw : ∀ d ∈ tables_1, d.before a0 Z = true) (o0 : Addr) (o1 : Addr) (c0_ : Int32) (c1_ : Int32) (kc_ : ClassId) (cs : Int32) (h0 : Heap) (n0 : Nat) (Z0 : n0 ≤ h0.size) (g_o0 : n0 ≤ o0) (P0 : Exa Z h0 o0 "java/lang/String") (P1 : Fld Z h0 o0 "java/lang/String" "value" "[B" .null) (P2 : Fld Z h0 o0 "java/lang/String" "coder" "B" (.int (0 : Int32))) (P3 : Arv Z h0 o1 kc_ .char (2 : Int32) [(.int c0_), (.int c1_)] (.int (0 : Int32))) (P4 : Sta Z h0 "java/lang/String" "COMPACT_STRINGS" "Z" (.int cs)) (hc0_ : ¬ (255 : Int32) < c0_) (hc1_ : ¬ (255 : Int32) < c1_) (hcs : ¬ cs = (0 : Int32)) (hne : o1 ≠ o0) :
    own_Met l Z (⟨"java/lang/String", "<init>", "([C)V"⟩ : MethodName) jdk_42_method_3_code 2 none [] ({ frames := 3, cells := 1, slots := 2, locals := 52 } : Room) #[(.ref o0), (.ref o1)] h0 1 2 (fun v h L => ∃ (r : Addr), ∃ (kr : ClassId), v = none ∧ Fr n0 L ∧ Keep h0 h [o0] ∧ h0.size ≤ r ∧ Exa Z h o0 "java/lang/String" ∧ Fld Z h o0 "java/lang/String" "value" "[B" (.ref r) ∧ Fld Z h o0 "java/lang/String" "coder" "B" (.int (0 : Int32)) ∧ Arv Z h r kr .byte (2 : Int32) [(.int ((c0_.toInt8.toInt32)).toInt8.toInt32), (.int ((c1_.toInt8.toInt32)).toInt8.toInt32)] (.int (0 : Int32))) := by
  refine own_met (plainFor_of_name pn_sib2) ?_
  intro p e s m below meth c s₁ Bd hml0 hZ X0 e0
  have hx := Bd.exec
  have hby := Bd.bytes
  have hml : c.maxLocals = 2 := hml0
  have hown : s.vm.findClass "java/lang/String" = some m.cls := findClass_of_methodNamed Bd.named
  have hnm := (name_of_methodNamed Bd.named Bd.method).1
  refine own_cast (ef_sib2 m o0 o1) ?_
  generalize hQQ : (fun (v : Option Value) (h : Heap) (L : List Loc) => ∃ (r : Addr), ∃ (kr : ClassId), v = none ∧ Fr n0 L ∧ Keep h0 h [o0] ∧ h0.size ≤ r ∧ Exa Z h o0 "java/lang/String" ∧ Fld Z h o0 "java/lang/String" "value" "[B" (.ref r) ∧ Fld Z h o0 "java/lang/String" "coder" "B" (.int (0 : Int32)) ∧ Arv Z h r kr .byte (2 : Int32) [(.int ((c0_.toInt8.toInt32)).toInt8.toInt32), (.int ((c1_.toInt8.toInt32)).toInt8.toInt32)] (.int (0 : Int32))) = QQ
  have N0 := Fr.nil n0
  have K0 := Keep.refl h0 [o0]
  refine own_go (g' := (mkF m 1 #[.val (.ref o0), .val (.ref o1)] [(.ref o0)])) (fun _ kgo => XS.aloadN X0.here hx rfl (hb hby d1_0) rfl rfl kgo) ?_
  refine own_go (g' := (mkF m 2 #[.val (.ref o0), .val (.ref o1)] [(.ref o1), (.ref o0)])) (fun _ kgo => XS.aloadN X0.here hx rfl (hb hby d1_1) rfl rfl kgo) ?_
  refine own_go (g' := (mkF m 3 #[.val (.ref o0), .val (.ref o1)] [(.int (0 : Int32)), (.ref o1), (.ref o0)])) (fun _ kgo => XS.iconst X0.here hx rfl (hb hby d1_2) kgo) ?_
  refine own_go (g' := (mkF m 4 #[.val (.ref o0), .val (.ref o1)] [(.ref o1), (.int (0 : Int32)), (.ref o1), (.ref o0)])) (fun _ kgo => XS.aloadN X0.here hx rfl (hb hby d1_3) rfl rfl kgo) ?_
  obtain ⟨cl1, Ar1, -, sz1, nn1, -, -⟩ := id P3
  refine own_go (g' := (mkF m 5 #[.val (.ref o0), .val (.ref o1)] [(.int (2 : Int32)), (.int (0 : Int32)), (.ref o1), (.ref o0)])) (by have q := X0.arraylength hx (by rw [e0]; exact Ar1.1) (State.isArrayOf_alike hZ.alike Ar1.2.1) (g := (mkF m 4 #[.val (.ref o0), .val (.ref o1)] [(.ref o1), (.int (0 : Int32)), (.ref o1), (.ref o0)])) rfl rfl (hb hby d1_4); rw [len_of sz1 nn1] at q; exact q) ?_
  refine own_go (g' := (mkF m 6 #[.val (.ref o0), .val (.ref o1)] [.null, (.int (2 : Int32)), (.int (0 : Int32)), (.ref o1), (.ref o0)])) (fun _ kgo => XS.aconstNull X0.here hx rfl (hb hby d1_5) kgo) ?_
  obtain ⟨v2, T2, L2, hQ2, X2, st2⟩ := own_callI X0 hx hZ (y := (⟨"java/lang/String", "<init>", "([CIILjava/lang/Void;)V"⟩ : MethodName)) rfl hown (hw _ (List.mem_of_getElem? (i := 7) rfl)) (hw _ (List.mem_of_getElem? (i := 8) rfl)) (hw _ (List.mem_of_getElem? (i := 3) rfl)) (hw _ (List.mem_of_getElem? (i := 10) rfl)) ⟨by decide, by decide⟩ (a := o0) (argsL := [(.ref o1), (.int (0 : Int32)), (.int (2 : Int32)), .null]) (sia2 l Z a0 hw o0 o1 c0_ c1_ kc_ cs h0 n0 Z0 g_o0 P0 P1 P2 P3 P4 hc0_ hc1_ hcs hne) e0 (g := (mkF m 6 #[.val (.ref o0), .val (.ref o1)] [.null, (.int (2 : Int32)), (.int (0 : Int32)), (.ref o1), (.ref o0)])) rfl (by rw [hml]; rfl) (rest := []) (lenOf pd1_0 rfl) rfl (hb hby d1_6) (W := 0) (by show 2 * 0 + _ ≤ _; exact Nat.le_of_eq rfl) (by decide) (by decide) (by decide) (by decide)
  obtain ⟨r2, kr2, rfl, Nq2, Kq2, pr2_0, q2_0, q2_1, q2_2, q2_3⟩ := hQ2
  have ne_o0_r2 : o0 ≠ r2 := Nat.ne_of_lt (Nat.lt_of_lt_of_le P0.lt pr2_0)
  have ne_o1_r2 : o1 ≠ r2 := Nat.ne_of_lt (Nat.lt_of_lt_of_le P3.lt pr2_0)
  have ge_r2 : n0 ≤ r2 := Nat.le_trans Z0 pr2_0
  have sz_r2 : h0.size ≤ r2 := Nat.le_trans K0.1 pr2_0
  have N2 := Fr.app N0 Nq2
  have Z2 : n0 ≤ T2.heap.size := Nat.le_trans Z0 Kq2.1
  have KK2 : Keep h0 T2.heap [o0] := K0.trans Kq2 (allS (Or.inl (List.mem_of_getElem? (i := 0) rfl)) all0)
  refine own_go (g' := (mkF m 9 #[.val (.ref o0), .val (.ref o1)] [])) (st2) ?_
  refine own_retV X2 hx Bd.returns Bd.notSynchronized (hb hby d1_9) (by decide) (by decide) ?_
  show QQ _ T2.heap _
  rw [← hQQ]
  exact ⟨r2, kr2, rfl, N2, KK2, sz_r2, q2_0, q2_1, q2_2, q2_3⟩
theorem d8_0 : decode jdk_30_method_1_code 0 = .ok (.aload_n 0, 1) := by decide +kernel
theorem d8_1 : decode jdk_30_method_1_code 1 = .ok (.invokespecial 1, 3) := by decide +kernel
theorem d8_4 : decode jdk_30_method_1_code 4 = .ok (.return_, 1) := by decide +kernel
theorem pn_rm8 : plainName "java/lang/Record" = true := by first | (simp [plainName, overriddenIn]; done) | decide +kernel
theorem ef_rm8 (m : MethodId) (o0 : Addr) : entryFrame m #[(.ref o0)] 1 = mkF m 0 #[.val (.ref o0)] [] := by first | (simp [entryFrame, mkF, argsToLocals, Value.category]; done) | rfl
set_option maxRecDepth 65536 in
set_option maxHeartbeats 40000000 in
theorem rm8 (l : Launch) (Z : State) (a0 : Array Value) (hw : ∀ d ∈ tables_1, d.before a0 Z = true) (o0 : Addr)  (h0 : Heap) :
    own_Met l Z (⟨"java/lang/Record", "<init>", "()V"⟩ : MethodName) jdk_30_method_1_code 1 none [] ({ frames := 1, cells := 0, slots := 0, locals := 12 } : Room) #[(.ref o0)] h0 0 0 (fun v h L => v = none ∧ h = h0 ∧ L = []) := by
  refine own_met (plainFor_of_name pn_rm8) ?_
  intro p e s m below meth c s₁ Bd hml0 hZ X0 e0
  have hx := Bd.exec
  have hby := Bd.bytes
  have hml : c.maxLocals = 1 := hml0
  have hown : s.vm.findClass "java/lang/Record" = some m.cls := findClass_of_methodNamed Bd.named
  have hnm := (name_of_methodNamed Bd.named Bd.method).1
  refine own_cast (ef_rm8 m o0) ?_
  generalize hQQ : (fun (v : Option Value) (h : Heap) (L : List Loc) => v = none ∧ h = h0 ∧ L = []) = QQ
  refine own_go (g' := (mkF m 1 #[.val (.ref o0)] [(.ref o0)])) (fun _ kgo => XS.aloadN X0.here hx rfl (hb hby d8_0) rfl rfl kgo) ?_
  obtain ⟨T1, X1, e1, st1⟩ := initO X0 hx hZ hown (hw _ (List.mem_of_getElem? (i := 41) rfl)) (hw _ (List.mem_of_getElem? (i := 12) rfl)) (hw _ (List.mem_of_getElem? (i := 13) rfl)) e0 (g := (mkF m 1 #[.val (.ref o0)] [(.ref o0)])) rfl (by rw [hml]; rfl) rfl (hb hby d8_1) (by decide) (W := 0) (by show 2 * 0 + _ ≤ _; exact Nat.le_of_eq rfl) (by decide)
  refine own_go (g' := (mkF m 4 #[.val (.ref o0)] [])) (st1) ?_
  refine own_retV X1 hx Bd.returns Bd.notSynchronized (hb hby d8_4) (by decide) (by decide) ?_
  show QQ _ T1.heap _
  rw [e1]
  rw [← hQQ]
  exact ⟨rfl, rfl, rfl⟩
theorem d9_0 : decode jdk_31_method_11_code 0 = .ok (.aload_n 0, 1) := by decide +kernel
theorem d9_1 : decode jdk_31_method_11_code 1 = .ok (.ifnonnull 12, 3) := by decide +kernel
theorem d9_13 : decode jdk_31_method_11_code 13 = .ok (.aload_n 0, 1) := by decide +kernel
theorem d9_14 : decode jdk_31_method_11_code 14 = .ok (.areturn, 1) := by decide +kernel
theorem pn_rm9 : plainName "java/util/Objects" = true := by first | (simp [plainName, overriddenIn]; done) | decide +kernel
theorem ef_rm9 (m : MethodId) (o0 : Addr) (o1 : Addr) : entryFrame m #[(.ref o0), (.ref o1)] 2 = mkF m 0 #[.val (.ref o0), .val (.ref o1)] [] := by first | (simp [entryFrame, mkF, argsToLocals, Value.category]; done) | rfl
set_option maxRecDepth 65536 in
set_option maxHeartbeats 40000000 in
theorem rm9 (l : Launch) (Z : State) (a0 : Array Value) (hw : ∀ d ∈ tables_1, d.before a0 Z = true) (o0 : Addr) (o1 : Addr)  (h0 : Heap) :
    own_Met l Z (⟨"java/util/Objects", "requireNonNull", "(Ljava/lang/Object;Ljava/lang/String;)Ljava/lang/Object;"⟩ : MethodName) jdk_31_method_11_code 2 (some (.object "java/lang/Object")) [] ({ frames := 0, cells := 0, slots := 0, locals := 0 } : Room) #[(.ref o0), (.ref o1)] h0 0 0 (fun v h L => v = some (.ref o0) ∧ h = h0 ∧ L = []) := by
  refine own_met (plainFor_of_name pn_rm9) ?_
  intro p e s m below meth c s₁ Bd hml0 hZ X0 e0
  have hx := Bd.exec
  have hby := Bd.bytes
  have hml : c.maxLocals = 2 := hml0
  have hown : s.vm.findClass "java/util/Objects" = some m.cls := findClass_of_methodNamed Bd.named
  have hnm := (name_of_methodNamed Bd.named Bd.method).1
  refine own_cast (ef_rm9 m o0 o1) ?_
  generalize hQQ : (fun (v : Option Value) (h : Heap) (L : List Loc) => v = some (.ref o0) ∧ h = h0 ∧ L = []) = QQ
  refine own_go (g' := (mkF m 1 #[.val (.ref o0), .val (.ref o1)] [(.ref o0)])) (fun _ kgo => XS.aloadN X0.here hx rfl (hb hby d9_0) rfl rfl kgo) ?_
  refine own_go (g' := (mkF m 13 #[.val (.ref o0), .val (.ref o1)] [])) (fun _ kgo => XS.ifnonnullYes X0.here hx rfl (pc0 := 1) (pc' := 13) rfl (hb hby d9_1) rfl (by decide) (by decide) kgo) ?_
  refine own_go (g' := (mkF m 14 #[.val (.ref o0), .val (.ref o1)] [(.ref o0)])) (fun _ kgo => XS.aloadN X0.here hx rfl (hb hby d9_13) rfl rfl kgo) ?_
  refine own_retA X0 hx Bd.returns Bd.notSynchronized rfl rfl (hb hby d9_14) (by decide) (by decide) ?_
  show QQ _ s₁.heap _
  rw [e0]
  rw [← hQQ]
  exact ⟨rfl, rfl, rfl⟩
theorem d7_0 : decode prog_47_method_1_code 0 = .ok (.aload_n 0, 1) := by decide +kernel
theorem d7_1 : decode prog_47_method_1_code 1 = .ok (.invokespecial 1, 3) := by decide +kernel
theorem d7_4 : decode prog_47_method_1_code 4 = .ok (.aload 7, 2) := by decide +kernel
theorem d7_6 : decode prog_47_method_1_code 6 = .ok (.ldc 7, 2) := by decide +kernel
theorem d7_8 : decode prog_47_method_1_code 8 = .ok (.invokestatic 9, 3) := by decide +kernel
theorem d7_11 : decode prog_47_method_1_code 11 = .ok (.pop, 1) := by decide +kernel
theorem d7_12 : decode prog_47_method_1_code 12 = .ok (.aload 8, 2) := by decide +kernel
theorem d7_14 : decode prog_47_method_1_code 14 = .ok (.ldc 15, 2) := by decide +kernel
theorem d7_16 : decode prog_47_method_1_code 16 = .ok (.invokestatic 9, 3) := by decide +kernel
theorem d7_19 : decode prog_47_method_1_code 19 = .ok (.pop, 1) := by decide +kernel
theorem d7_20 : decode prog_47_method_1_code 20 = .ok (.aload 9, 2) := by decide +kernel
theorem d7_22 : decode prog_47_method_1_code 22 = .ok (.ldc 17, 2) := by decide +kernel
theorem d7_24 : decode prog_47_method_1_code 24 = .ok (.invokestatic 9, 3) := by decide +kernel
theorem d7_27 : decode prog_47_method_1_code 27 = .ok (.pop, 1) := by decide +kernel
theorem d7_28 : decode prog_47_method_1_code 28 = .ok (.aload 10, 2) := by decide +kernel
theorem d7_30 : decode prog_47_method_1_code 30 = .ok (.ldc 19, 2) := by decide +kernel
theorem d7_32 : decode prog_47_method_1_code 32 = .ok (.invokestatic 9, 3) := by decide +kernel
theorem d7_35 : decode prog_47_method_1_code 35 = .ok (.pop, 1) := by decide +kernel
theorem d7_36 : decode prog_47_method_1_code 36 = .ok (.aload_n 0, 1) := by decide +kernel
theorem d7_37 : decode prog_47_method_1_code 37 = .ok (.lload_n 1, 1) := by decide +kernel
theorem d7_38 : decode prog_47_method_1_code 38 = .ok (.putfield 21, 3) := by decide +kernel
theorem d7_41 : decode prog_47_method_1_code 41 = .ok (.aload_n 0, 1) := by decide +kernel
theorem d7_42 : decode prog_47_method_1_code 42 = .ok (.lload_n 3, 1) := by decide +kernel
theorem d7_43 : decode prog_47_method_1_code 43 = .ok (.putfield 27, 3) := by decide +kernel
theorem d7_46 : decode prog_47_method_1_code 46 = .ok (.aload_n 0, 1) := by decide +kernel
theorem d7_47 : decode prog_47_method_1_code 47 = .ok (.lload 5, 2) := by decide +kernel
theorem d7_49 : decode prog_47_method_1_code 49 = .ok (.putfield 30, 3) := by decide +kernel
theorem d7_52 : decode prog_47_method_1_code 52 = .ok (.aload_n 0, 1) := by decide +kernel
theorem d7_53 : decode prog_47_method_1_code 53 = .ok (.aload 7, 2) := by decide +kernel
theorem d7_55 : decode prog_47_method_1_code 55 = .ok (.putfield 33, 3) := by decide +kernel
theorem d7_58 : decode prog_47_method_1_code 58 = .ok (.aload_n 0, 1) := by decide +kernel
theorem d7_59 : decode prog_47_method_1_code 59 = .ok (.aload 8, 2) := by decide +kernel
theorem d7_61 : decode prog_47_method_1_code 61 = .ok (.putfield 36, 3) := by decide +kernel
theorem d7_64 : decode prog_47_method_1_code 64 = .ok (.aload_n 0, 1) := by decide +kernel
theorem d7_65 : decode prog_47_method_1_code 65 = .ok (.aload 9, 2) := by decide +kernel
theorem d7_67 : decode prog_47_method_1_code 67 = .ok (.putfield 38, 3) := by decide +kernel
theorem d7_70 : decode prog_47_method_1_code 70 = .ok (.aload_n 0, 1) := by decide +kernel
theorem d7_71 : decode prog_47_method_1_code 71 = .ok (.aload 10, 2) := by decide +kernel
theorem d7_73 : decode prog_47_method_1_code 73 = .ok (.putfield 40, 3) := by decide +kernel
theorem d7_76 : decode prog_47_method_1_code 76 = .ok (.aload_n 0, 1) := by decide +kernel
theorem d7_77 : decode prog_47_method_1_code 77 = .ok (.lload 11, 2) := by decide +kernel
theorem d7_79 : decode prog_47_method_1_code 79 = .ok (.putfield 42, 3) := by decide +kernel
theorem d7_82 : decode prog_47_method_1_code 82 = .ok (.aload_n 0, 1) := by decide +kernel
theorem d7_83 : decode prog_47_method_1_code 83 = .ok (.lload 13, 2) := by decide +kernel
theorem d7_85 : decode prog_47_method_1_code 85 = .ok (.putfield 45, 3) := by decide +kernel
theorem d7_88 : decode prog_47_method_1_code 88 = .ok (.aload_n 0, 1) := by decide +kernel
theorem d7_89 : decode prog_47_method_1_code 89 = .ok (.iload 15, 2) := by decide +kernel
theorem d7_91 : decode prog_47_method_1_code 91 = .ok (.putfield 48, 3) := by decide +kernel
theorem d7_94 : decode prog_47_method_1_code 94 = .ok (.return_, 1) := by decide +kernel
theorem pn_rm7 : plainName "com/example/uptik/uptik/model/Holdings" = true := by first | (simp [plainName, overriddenIn]; done) | decide +kernel
theorem pd7_0 : parseMethodDescriptor "()V" = some ⟨[], none⟩ := by decide +kernel
theorem pd7_1 : parseMethodDescriptor "(Ljava/lang/Object;Ljava/lang/String;)Ljava/lang/Object;" = some ⟨[(.object "java/lang/Object"), (.object "java/lang/String")], some (.object "java/lang/Object")⟩ := by decide +kernel
theorem ef_rm7 (m : MethodId) (o0 : Addr) (q1 : Int64) (q2 : Int64) (q3 : Int64) (o4 : Addr) (o5 : Addr) (o6 : Addr) (o7 : Addr) (q8 : Int64) (q9 : Int64) (p10 : Int32) : entryFrame m #[(.ref o0), (.long q1), (.long q2), (.long q3), (.ref o4), (.ref o5), (.ref o6), (.ref o7), (.long q8), (.long q9), (.int p10)] 16 = mkF m 0 #[.val (.ref o0), .val (.long q1), .second, .val (.long q2), .second, .val (.long q3), .second, .val (.ref o4), .val (.ref o5), .val (.ref o6), .val (.ref o7), .val (.long q8), .second, .val (.long q9), .second, .val (.int p10)] [] := by first | (simp [entryFrame, mkF, argsToLocals, Value.category]; done) | rfl
set_option maxRecDepth 65536 in
set_option maxHeartbeats 40000000 in
theorem rm7 (l : Launch) (Z : State) (a0 : Array Value) (hw : ∀ d ∈ tables_1, d.before a0 Z = true) (o0 : Addr) (q1 : Int64) (q2 : Int64) (q3 : Int64) (o4 : Addr) (o5 : Addr) (o6 : Addr) (o7 : Addr) (q8 : Int64) (q9 : Int64) (p10 : Int32)  (h0 : Heap) (n0 : Nat) (Z0 : n0 ≤ h0.size) (g_o0 : n0 ≤ o0) (P0 : Exa Z h0 o0 "com/example/uptik/uptik/model/Holdings") (P1 : Fld Z h0 o0 "com/example/uptik/uptik/model/Holdings" "terms" "J" (.long (0 : Int64))) (P2 : Fld Z h0 o0 "com/example/uptik/uptik/model/Holdings" "postings" "J" (.long (0 : Int64))) (P3 : Fld Z h0 o0 "com/example/uptik/uptik/model/Holdings" "digest" "J" (.long (0 : Int64))) (P4 : Fld Z h0 o0 "com/example/uptik/uptik/model/Holdings" "whole" "Ljava/lang/String;" .null) (P5 : Fld Z h0 o0 "com/example/uptik/uptik/model/Holdings" "former" "Ljava/lang/String;" .null) (P6 : Fld Z h0 o0 "com/example/uptik/uptik/model/Holdings" "remembered" "Ljava/lang/String;" .null) (P7 : Fld Z h0 o0 "com/example/uptik/uptik/model/Holdings" "custody" "Ljava/lang/String;" .null) (P8 : Fld Z h0 o0 "com/example/uptik/uptik/model/Holdings" "documents" "J" (.long (0 : Int64))) (P9 : Fld Z h0 o0 "com/example/uptik/uptik/model/Holdings" "documentDigest" "J" (.long (0 : Int64))) (P10 : Fld Z h0 o0 "com/example/uptik/uptik/model/Holdings" "recordWhole" "Z" (.int (0 : Int32))) :
    own_MetW l Z (⟨"com/example/uptik/uptik/model/Holdings", "<init>", "(JJJLjava/lang/String;Ljava/lang/String;Ljava/lang/String;Ljava/lang/String;JJZ)V"⟩ : MethodName) prog_47_method_1_code 16 none [] ({ frames := 2, cells := 8, slots := 128, locals := 24 } : Room) #[(.ref o0), (.long q1), (.long q2), (.long q3), (.ref o4), (.ref o5), (.ref o6), (.ref o7), (.long q8), (.long q9), (.int p10)] h0 8 128 (fun v h L => v = none ∧ Fr n0 L ∧ Keep h0 h [o0] ∧ Exa Z h o0 "com/example/uptik/uptik/model/Holdings" ∧ Fld Z h o0 "com/example/uptik/uptik/model/Holdings" "documents" "J" (.long q8) ∧ Fld Z h o0 "com/example/uptik/uptik/model/Holdings" "documentDigest" "J" (.long q9)) := by
  refine own_metW (plainFor_of_name pn_rm7) ?_
  intro p e s m below meth c s₁ Bd hml0 hZ X0 e0 hS0
  have hk0 : 0 ≤ h0.size := Nat.zero_le _
  have hx := Bd.exec
  have hby := Bd.bytes
  have hml : c.maxLocals = 16 := hml0
  have hown : (s.setVm s.vm).vm.findClass "com/example/uptik/uptik/model/Holdings" = some m.cls := findClass_of_methodNamed Bd.named
  have hnm := (name_of_methodNamed Bd.named Bd.method).1
  refine own_cast (ef_rm7 m o0 q1 q2 q3 o4 o5 o6 o7 q8 q9 p10) ?_
  generalize hQQ : (fun (v : Option Value) (h : Heap) (L : List Loc) => v = none ∧ Fr n0 L ∧ Keep h0 h [o0] ∧ Exa Z h o0 "com/example/uptik/uptik/model/Holdings" ∧ Fld Z h o0 "com/example/uptik/uptik/model/Holdings" "documents" "J" (.long q8) ∧ Fld Z h o0 "com/example/uptik/uptik/model/Holdings" "documentDigest" "J" (.long q9)) = QQ
  have N0 := Fr.nil n0
  have K0 := Keep.refl h0 [o0]
  refine own_go (g' := (mkF m 1 #[.val (.ref o0), .val (.long q1), .second, .val (.long q2), .second, .val (.long q3), .second, .val (.ref o4), .val (.ref o5), .val (.ref o6), .val (.ref o7), .val (.long q8), .second, .val (.long q9), .second, .val (.int p10)] [(.ref o0)])) (fun _ kgo => XS.aloadN X0.here hx rfl (hb hby d7_0) rfl rfl kgo) ?_
  obtain ⟨v1, T1, L1, hQ1, X1, st1⟩ := own_callI X0 hx hZ (y := (⟨"java/lang/Record", "<init>", "()V"⟩ : MethodName)) rfl hown (hw _ (List.mem_of_getElem? (i := 36) rfl)) (hw _ (List.mem_of_getElem? (i := 37) rfl)) (hw _ (List.mem_of_getElem? (i := 39) rfl)) (hw _ (List.mem_of_getElem? (i := 40) rfl)) ⟨by decide, by decide⟩ (a := o0) (argsL := []) (rm8 l Z a0 hw o0 h0) e0 (g := (mkF m 1 #[.val (.ref o0), .val (.long q1), .second, .val (.long q2), .second, .val (.long q3), .second, .val (.ref o4), .val (.ref o5), .val (.ref o6), .val (.ref o7), .val (.long q8), .second, .val (.long q9), .second, .val (.int p10)] [(.ref o0)])) rfl (by rw [hml]; rfl) (rest := []) (lenOf pd7_0 rfl) rfl (hb hby d7_1) (W := 0) (by show 2 * 0 + _ ≤ _; exact Nat.le_of_eq rfl) (by decide) (by decide) (by decide) (by decide)
  obtain ⟨rfl, e1, rfl⟩ := hQ1
  have N1 := Fr.app N0 (Fr.nil n0)
  refine own_go (g' := (mkF m 4 #[.val (.ref o0), .val (.long q1), .second, .val (.long q2), .second, .val (.long q3), .second, .val (.ref o4), .val (.ref o5), .val (.ref o6), .val (.ref o7), .val (.long q8), .second, .val (.long q9), .second, .val (.int p10)] [])) (st1) ?_
  refine own_go (g' := (mkF m 6 #[.val (.ref o0), .val (.long q1), .second, .val (.long q2), .second, .val (.long q3), .second, .val (.ref o4), .val (.ref o5), .val (.ref o6), .val (.ref o7), .val (.long q8), .second, .val (.long q9), .second, .val (.int p10)] [(.ref o4)])) (fun _ kgo => XS.aload X1.here hx rfl (hb hby d7_4) rfl rfl kgo) ?_
  obtain ⟨b2, T2, h2, kq2, X2, e2, E2, hS2, hk2, hZ, hown, st2⟩ := ldcS X1 hx hZ hown (hw _ (List.mem_of_getElem? (i := 42) rfl)) (fun d hd => hw d (own_strw d hd)) e1 hS0 hk0 (g := (mkF m 6 #[.val (.ref o0), .val (.long q1), .second, .val (.long q2), .second, .val (.long q3), .second, .val (.ref o4), .val (.ref o5), .val (.ref o6), .val (.ref o7), .val (.long q8), .second, .val (.long q9), .second, .val (.int p10)] [(.ref o4)])) rfl (hb hby d7_6) (n := 20) (by first | decide | simp) (by decide) (by decide) (by decide)
  have Z2 : n0 ≤ h2.size := Nat.le_trans Z0 E2.1
  have K2 : Keep h0 h2 [o0] := K0.ext E2
  refine own_go (g' := (mkF m 8 #[.val (.ref o0), .val (.long q1), .second, .val (.long q2), .second, .val (.long q3), .second, .val (.ref o4), .val (.ref o5), .val (.ref o6), .val (.ref o7), .val (.long q8), .second, .val (.long q9), .second, .val (.int p10)] [(.ref b2), (.ref o4)])) (st2) ?_
  obtain ⟨v3, T3, L3, hQ3, X3, st3⟩ := own_callS X2 hx hZ (y := (⟨"java/util/Objects", "requireNonNull", "(Ljava/lang/Object;Ljava/lang/String;)Ljava/lang/Object;"⟩ : MethodName)) hown (hw _ (List.mem_of_getElem? (i := 45) rfl)) (hw _ (List.mem_of_getElem? (i := 46) rfl)) (hw _ (List.mem_of_getElem? (i := 47) rfl)) (hw _ (List.mem_of_getElem? (i := 48) rfl)) ⟨by decide, by decide⟩ (argsL := [(.ref o4), (.ref b2)]) (rm9 l Z a0 hw o4 b2 h2) e2 (g := (mkF m 8 #[.val (.ref o0), .val (.long q1), .second, .val (.long q2), .second, .val (.long q3), .second, .val (.ref o4), .val (.ref o5), .val (.ref o6), .val (.ref o7), .val (.long q8), .second, .val (.long q9), .second, .val (.int p10)] [(.ref b2), (.ref o4)])) rfl (by rw [hml]; rfl) (rest := []) (lenOf pd7_1 rfl) rfl (hb hby d7_8) (W := 0) (by show 2 * 0 + _ ≤ _; exact Nat.le_of_eq rfl) (by decide) (by decide) (by decide) (by decide)
  obtain ⟨rfl, e3, rfl⟩ := hQ3
  have N3 := Fr.app N1 (Fr.nil n0)
  refine own_go (g' := (mkF m 11 #[.val (.ref o0), .val (.long q1), .second, .val (.long q2), .second, .val (.long q3), .second, .val (.ref o4), .val (.ref o5), .val (.ref o6), .val (.ref o7), .val (.long q8), .second, .val (.long q9), .second, .val (.int p10)] [(.ref o4)])) (st3) ?_
  refine own_go (g' := (mkF m 12 #[.val (.ref o0), .val (.long q1), .second, .val (.long q2), .second, .val (.long q3), .second, .val (.ref o4), .val (.ref o5), .val (.ref o6), .val (.ref o7), .val (.long q8), .second, .val (.long q9), .second, .val (.int p10)] [])) (fun _ kgo => XS.pop X3.here hx rfl (hb hby d7_11) rfl rfl kgo) ?_
  refine own_go (g' := (mkF m 14 #[.val (.ref o0), .val (.long q1), .second, .val (.long q2), .second, .val (.long q3), .second, .val (.ref o4), .val (.ref o5), .val (.ref o6), .val (.ref o7), .val (.long q8), .second, .val (.long q9), .second, .val (.int p10)] [(.ref o5)])) (fun _ kgo => XS.aload X3.here hx rfl (hb hby d7_12) rfl rfl kgo) ?_
  obtain ⟨b4, T4, h4, kq4, X4, e4, E4, hS4, hk4, hZ, hown, st4⟩ := ldcS X3 hx hZ hown (hw _ (List.mem_of_getElem? (i := 49) rfl)) (fun d hd => hw d (own_strw d hd)) e3 hS2 hk2 (g := (mkF m 14 #[.val (.ref o0), .val (.long q1), .second, .val (.long q2), .second, .val (.long q3), .second, .val (.ref o4), .val (.ref o5), .val (.ref o6), .val (.ref o7), .val (.long q8), .second, .val (.long q9), .second, .val (.int p10)] [(.ref o5)])) rfl (hb hby d7_14) (n := 24) (by first | decide | simp) (by decide) (by decide) (by decide)
  have Z4 : n0 ≤ h4.size := Nat.le_trans Z2 E4.1
  have K4 : Keep h0 h4 [o0] := K2.ext E4
  refine own_go (g' := (mkF m 16 #[.val (.ref o0), .val (.long q1), .second, .val (.long q2), .second, .val (.long q3), .second, .val (.ref o4), .val (.ref o5), .val (.ref o6), .val (.ref o7), .val (.long q8), .second, .val (.long q9), .second, .val (.int p10)] [(.ref b4), (.ref o5)])) (st4) ?_
  obtain ⟨v5, T5, L5, hQ5, X5, st5⟩ := own_callS X4 hx hZ (y := (⟨"java/util/Objects", "requireNonNull", "(Ljava/lang/Object;Ljava/lang/String;)Ljava/lang/Object;"⟩ : MethodName)) hown (hw _ (List.mem_of_getElem? (i := 45) rfl)) (hw _ (List.mem_of_getElem? (i := 46) rfl)) (hw _ (List.mem_of_getElem? (i := 47) rfl)) (hw _ (List.mem_of_getElem? (i := 48) rfl)) ⟨by decide, by decide⟩ (argsL := [(.ref o5), (.ref b4)]) (rm9 l Z a0 hw o5 b4 h4) e4 (g := (mkF m 16 #[.val (.ref o0), .val (.long q1), .second, .val (.long q2), .second, .val (.long q3), .second, .val (.ref o4), .val (.ref o5), .val (.ref o6), .val (.ref o7), .val (.long q8), .second, .val (.long q9), .second, .val (.int p10)] [(.ref b4), (.ref o5)])) rfl (by rw [hml]; rfl) (rest := []) (lenOf pd7_1 rfl) rfl (hb hby d7_16) (W := 0) (by show 2 * 0 + _ ≤ _; exact Nat.le_of_eq rfl) (by decide) (by decide) (by decide) (by decide)
  obtain ⟨rfl, e5, rfl⟩ := hQ5
  have N5 := Fr.app N3 (Fr.nil n0)
  refine own_go (g' := (mkF m 19 #[.val (.ref o0), .val (.long q1), .second, .val (.long q2), .second, .val (.long q3), .second, .val (.ref o4), .val (.ref o5), .val (.ref o6), .val (.ref o7), .val (.long q8), .second, .val (.long q9), .second, .val (.int p10)] [(.ref o5)])) (st5) ?_
  refine own_go (g' := (mkF m 20 #[.val (.ref o0), .val (.long q1), .second, .val (.long q2), .second, .val (.long q3), .second, .val (.ref o4), .val (.ref o5), .val (.ref o6), .val (.ref o7), .val (.long q8), .second, .val (.long q9), .second, .val (.int p10)] [])) (fun _ kgo => XS.pop X5.here hx rfl (hb hby d7_19) rfl rfl kgo) ?_
  refine own_go (g' := (mkF m 22 #[.val (.ref o0), .val (.long q1), .second, .val (.long q2), .second, .val (.long q3), .second, .val (.ref o4), .val (.ref o5), .val (.ref o6), .val (.ref o7), .val (.long q8), .second, .val (.long q9), .second, .val (.int p10)] [(.ref o6)])) (fun _ kgo => XS.aload X5.here hx rfl (hb hby d7_20) rfl rfl kgo) ?_
  obtain ⟨b6, T6, h6, kq6, X6, e6, E6, hS6, hk6, hZ, hown, st6⟩ := ldcS X5 hx hZ hown (hw _ (List.mem_of_getElem? (i := 50) rfl)) (fun d hd => hw d (own_strw d hd)) e5 hS4 hk4 (g := (mkF m 22 #[.val (.ref o0), .val (.long q1), .second, .val (.long q2), .second, .val (.long q3), .second, .val (.ref o4), .val (.ref o5), .val (.ref o6), .val (.ref o7), .val (.long q8), .second, .val (.long q9), .second, .val (.int p10)] [(.ref o6)])) rfl (hb hby d7_22) (n := 40) (by first | decide | simp) (by decide) (by decide) (by decide)
  have Z6 : n0 ≤ h6.size := Nat.le_trans Z4 E6.1
  have K6 : Keep h0 h6 [o0] := K4.ext E6
  refine own_go (g' := (mkF m 24 #[.val (.ref o0), .val (.long q1), .second, .val (.long q2), .second, .val (.long q3), .second, .val (.ref o4), .val (.ref o5), .val (.ref o6), .val (.ref o7), .val (.long q8), .second, .val (.long q9), .second, .val (.int p10)] [(.ref b6), (.ref o6)])) (st6) ?_
  obtain ⟨v7, T7, L7, hQ7, X7, st7⟩ := own_callS X6 hx hZ (y := (⟨"java/util/Objects", "requireNonNull", "(Ljava/lang/Object;Ljava/lang/String;)Ljava/lang/Object;"⟩ : MethodName)) hown (hw _ (List.mem_of_getElem? (i := 45) rfl)) (hw _ (List.mem_of_getElem? (i := 46) rfl)) (hw _ (List.mem_of_getElem? (i := 47) rfl)) (hw _ (List.mem_of_getElem? (i := 48) rfl)) ⟨by decide, by decide⟩ (argsL := [(.ref o6), (.ref b6)]) (rm9 l Z a0 hw o6 b6 h6) e6 (g := (mkF m 24 #[.val (.ref o0), .val (.long q1), .second, .val (.long q2), .second, .val (.long q3), .second, .val (.ref o4), .val (.ref o5), .val (.ref o6), .val (.ref o7), .val (.long q8), .second, .val (.long q9), .second, .val (.int p10)] [(.ref b6), (.ref o6)])) rfl (by rw [hml]; rfl) (rest := []) (lenOf pd7_1 rfl) rfl (hb hby d7_24) (W := 0) (by show 2 * 0 + _ ≤ _; exact Nat.le_of_eq rfl) (by decide) (by decide) (by decide) (by decide)
  obtain ⟨rfl, e7, rfl⟩ := hQ7
  have N7 := Fr.app N5 (Fr.nil n0)
  refine own_go (g' := (mkF m 27 #[.val (.ref o0), .val (.long q1), .second, .val (.long q2), .second, .val (.long q3), .second, .val (.ref o4), .val (.ref o5), .val (.ref o6), .val (.ref o7), .val (.long q8), .second, .val (.long q9), .second, .val (.int p10)] [(.ref o6)])) (st7) ?_
  refine own_go (g' := (mkF m 28 #[.val (.ref o0), .val (.long q1), .second, .val (.long q2), .second, .val (.long q3), .second, .val (.ref o4), .val (.ref o5), .val (.ref o6), .val (.ref o7), .val (.long q8), .second, .val (.long q9), .second, .val (.int p10)] [])) (fun _ kgo => XS.pop X7.here hx rfl (hb hby d7_27) rfl rfl kgo) ?_
  refine own_go (g' := (mkF m 30 #[.val (.ref o0), .val (.long q1), .second, .val (.long q2), .second, .val (.long q3), .second, .val (.ref o4), .val (.ref o5), .val (.ref o6), .val (.ref o7), .val (.long q8), .second, .val (.long q9), .second, .val (.int p10)] [(.ref o7)])) (fun _ kgo => XS.aload X7.here hx rfl (hb hby d7_28) rfl rfl kgo) ?_
  obtain ⟨b8, T8, h8, kq8, X8, e8, E8, hS8, hk8, hZ, hown, st8⟩ := ldcS X7 hx hZ hown (hw _ (List.mem_of_getElem? (i := 51) rfl)) (fun d hd => hw d (own_strw d hd)) e7 hS6 hk6 (g := (mkF m 30 #[.val (.ref o0), .val (.long q1), .second, .val (.long q2), .second, .val (.long q3), .second, .val (.ref o4), .val (.ref o5), .val (.ref o6), .val (.ref o7), .val (.long q8), .second, .val (.long q9), .second, .val (.int p10)] [(.ref o7)])) rfl (hb hby d7_30) (n := 28) (by first | decide | simp) (by decide) (by decide) (by decide)
  have Z8 : n0 ≤ h8.size := Nat.le_trans Z6 E8.1
  have K8 : Keep h0 h8 [o0] := K6.ext E8
  refine own_go (g' := (mkF m 32 #[.val (.ref o0), .val (.long q1), .second, .val (.long q2), .second, .val (.long q3), .second, .val (.ref o4), .val (.ref o5), .val (.ref o6), .val (.ref o7), .val (.long q8), .second, .val (.long q9), .second, .val (.int p10)] [(.ref b8), (.ref o7)])) (st8) ?_
  obtain ⟨v9, T9, L9, hQ9, X9, st9⟩ := own_callS X8 hx hZ (y := (⟨"java/util/Objects", "requireNonNull", "(Ljava/lang/Object;Ljava/lang/String;)Ljava/lang/Object;"⟩ : MethodName)) hown (hw _ (List.mem_of_getElem? (i := 45) rfl)) (hw _ (List.mem_of_getElem? (i := 46) rfl)) (hw _ (List.mem_of_getElem? (i := 47) rfl)) (hw _ (List.mem_of_getElem? (i := 48) rfl)) ⟨by decide, by decide⟩ (argsL := [(.ref o7), (.ref b8)]) (rm9 l Z a0 hw o7 b8 h8) e8 (g := (mkF m 32 #[.val (.ref o0), .val (.long q1), .second, .val (.long q2), .second, .val (.long q3), .second, .val (.ref o4), .val (.ref o5), .val (.ref o6), .val (.ref o7), .val (.long q8), .second, .val (.long q9), .second, .val (.int p10)] [(.ref b8), (.ref o7)])) rfl (by rw [hml]; rfl) (rest := []) (lenOf pd7_1 rfl) rfl (hb hby d7_32) (W := 0) (by show 2 * 0 + _ ≤ _; exact Nat.le_of_eq rfl) (by decide) (by decide) (by decide) (by decide)
  obtain ⟨rfl, e9, rfl⟩ := hQ9
  have N9 := Fr.app N7 (Fr.nil n0)
  refine own_go (g' := (mkF m 35 #[.val (.ref o0), .val (.long q1), .second, .val (.long q2), .second, .val (.long q3), .second, .val (.ref o4), .val (.ref o5), .val (.ref o6), .val (.ref o7), .val (.long q8), .second, .val (.long q9), .second, .val (.int p10)] [(.ref o7)])) (st9) ?_
  refine own_go (g' := (mkF m 36 #[.val (.ref o0), .val (.long q1), .second, .val (.long q2), .second, .val (.long q3), .second, .val (.ref o4), .val (.ref o5), .val (.ref o6), .val (.ref o7), .val (.long q8), .second, .val (.long q9), .second, .val (.int p10)] [])) (fun _ kgo => XS.pop X9.here hx rfl (hb hby d7_35) rfl rfl kgo) ?_
  refine own_go (g' := (mkF m 37 #[.val (.ref o0), .val (.long q1), .second, .val (.long q2), .second, .val (.long q3), .second, .val (.ref o4), .val (.ref o5), .val (.ref o6), .val (.ref o7), .val (.long q8), .second, .val (.long q9), .second, .val (.int p10)] [(.ref o0)])) (fun _ kgo => XS.aloadN X9.here hx rfl (hb hby d7_36) rfl rfl kgo) ?_
  refine own_go (g' := (mkF m 38 #[.val (.ref o0), .val (.long q1), .second, .val (.long q2), .second, .val (.long q3), .second, .val (.ref o4), .val (.ref o5), .val (.ref o6), .val (.ref o7), .val (.long q8), .second, .val (.long q9), .second, .val (.int p10)] [(.long q1), (.ref o0)])) (fun _ kgo => XS.lloadN X9.here hx rfl (hb hby d7_37) rfl kgo) ?_
  have fx10 : Fld Z h8 o0 "com/example/uptik/uptik/model/Holdings" "terms" "J" (.long (0 : Int64)) := (Fld.ext E8 (Fld.ext E6 (Fld.ext E4 (Fld.ext E2 P1))))
  have fx11 : Exa Z h8 o0 "com/example/uptik/uptik/model/Holdings" := (Exa.ext E8 (Exa.ext E6 (Exa.ext E4 (Exa.ext E2 P0))))
  obtain ⟨T12, h12, X12, e12, W12, st12⟩ := putF X9 hx hZ hown (host := "") (Or.inl (hw _ (List.mem_of_getElem? (i := 52) rfl))) Via.refl e9 fx10 fx11 (Or.inr ⟨(hw _ (List.mem_of_getElem? (i := 53) rfl)), rfl, hnm⟩) (hw _ (List.mem_of_getElem? (i := 31) rfl)) (ty := .long) (by decide) rfl rfl (g := (mkF m 38 #[.val (.ref o0), .val (.long q1), .second, .val (.long q2), .second, .val (.long q3), .second, .val (.ref o4), .val (.ref o5), .val (.ref o6), .val (.ref o7), .val (.long q8), .second, .val (.long q9), .second, .val (.int p10)] [(.long q1), (.ref o0)])) rfl rfl (hb hby d7_38)
  have fw12 := Fld.same W12 fx10
  have hk12 := Nat.le_trans hk8 (Nat.le_of_eq W12.size.symm)
  have N12 := Fr.snoc X12 N9 g_o0
  have Z12 : n0 ≤ h12.size := by rw [W12.size]; exact Z8
  have K12 : Keep h0 h12 [o0] := K8.wr W12 (Or.inl (List.mem_of_getElem? (i := 0) rfl))
  refine own_go (g' := (mkF m 41 #[.val (.ref o0), .val (.long q1), .second, .val (.long q2), .second, .val (.long q3), .second, .val (.ref o4), .val (.ref o5), .val (.ref o6), .val (.ref o7), .val (.long q8), .second, .val (.long q9), .second, .val (.int p10)] [])) (st12) ?_
  refine own_go (g' := (mkF m 42 #[.val (.ref o0), .val (.long q1), .second, .val (.long q2), .second, .val (.long q3), .second, .val (.ref o4), .val (.ref o5), .val (.ref o6), .val (.ref o7), .val (.long q8), .second, .val (.long q9), .second, .val (.int p10)] [(.ref o0)])) (fun _ kgo => XS.aloadN X12.here hx rfl (hb hby d7_41) rfl rfl kgo) ?_
  refine own_go (g' := (mkF m 43 #[.val (.ref o0), .val (.long q1), .second, .val (.long q2), .second, .val (.long q3), .second, .val (.ref o4), .val (.ref o5), .val (.ref o6), .val (.ref o7), .val (.long q8), .second, .val (.long q9), .second, .val (.int p10)] [(.long q2), (.ref o0)])) (fun _ kgo => XS.lloadN X12.here hx rfl (hb hby d7_42) rfl kgo) ?_
  have fx13 : Fld Z h12 o0 "com/example/uptik/uptik/model/Holdings" "postings" "J" (.long (0 : Int64)) := (Fld.other W12 (Fld.ext E8 (Fld.ext E6 (Fld.ext E4 (Fld.ext E2 P2)))) (Or.inr (slot_ne (Or.inr (hw _ (List.mem_of_getElem? (i := 55) rfl))) (Or.inr (hw _ (List.mem_of_getElem? (i := 53) rfl))) (by decide) (t := .long) (t' := .long) (by decide) (by decide))))
  have fx14 : Exa Z h12 o0 "com/example/uptik/uptik/model/Holdings" := (Exa.wr W12 fx11)
  obtain ⟨T15, h15, X15, e15, W15, st15⟩ := putF X12 hx hZ hown (host := "") (Or.inl (hw _ (List.mem_of_getElem? (i := 54) rfl))) Via.refl e12 fx13 fx14 (Or.inr ⟨(hw _ (List.mem_of_getElem? (i := 55) rfl)), rfl, hnm⟩) (hw _ (List.mem_of_getElem? (i := 31) rfl)) (ty := .long) (by decide) rfl rfl (g := (mkF m 43 #[.val (.ref o0), .val (.long q1), .second, .val (.long q2), .second, .val (.long q3), .second, .val (.ref o4), .val (.ref o5), .val (.ref o6), .val (.ref o7), .val (.long q8), .second, .val (.long q9), .second, .val (.int p10)] [(.long q2), (.ref o0)])) rfl rfl (hb hby d7_43)
  have fw15 := Fld.same W15 fx13
  have hk15 := Nat.le_trans hk12 (Nat.le_of_eq W15.size.symm)
  have N15 := Fr.snoc X15 N12 g_o0
  have Z15 : n0 ≤ h15.size := by rw [W15.size]; exact Z12
  have K15 : Keep h0 h15 [o0] := K12.wr W15 (Or.inl (List.mem_of_getElem? (i := 0) rfl))
  refine own_go (g' := (mkF m 46 #[.val (.ref o0), .val (.long q1), .second, .val (.long q2), .second, .val (.long q3), .second, .val (.ref o4), .val (.ref o5), .val (.ref o6), .val (.ref o7), .val (.long q8), .second, .val (.long q9), .second, .val (.int p10)] [])) (st15) ?_
  refine own_go (g' := (mkF m 47 #[.val (.ref o0), .val (.long q1), .second, .val (.long q2), .second, .val (.long q3), .second, .val (.ref o4), .val (.ref o5), .val (.ref o6), .val (.ref o7), .val (.long q8), .second, .val (.long q9), .second, .val (.int p10)] [(.ref o0)])) (fun _ kgo => XS.aloadN X15.here hx rfl (hb hby d7_46) rfl rfl kgo) ?_
  refine own_go (g' := (mkF m 49 #[.val (.ref o0), .val (.long q1), .second, .val (.long q2), .second, .val (.long q3), .second, .val (.ref o4), .val (.ref o5), .val (.ref o6), .val (.ref o7), .val (.long q8), .second, .val (.long q9), .second, .val (.int p10)] [(.long q3), (.ref o0)])) (fun _ kgo => XS.lload X15.here hx rfl (hb hby d7_47) rfl kgo) ?_
  have fx16 : Fld Z h15 o0 "com/example/uptik/uptik/model/Holdings" "digest" "J" (.long (0 : Int64)) := (Fld.other W15 (Fld.other W12 (Fld.ext E8 (Fld.ext E6 (Fld.ext E4 (Fld.ext E2 P3)))) (Or.inr (slot_ne (Or.inr (hw _ (List.mem_of_getElem? (i := 57) rfl))) (Or.inr (hw _ (List.mem_of_getElem? (i := 53) rfl))) (by decide) (t := .long) (t' := .long) (by decide) (by decide)))) (Or.inr (slot_ne (Or.inr (hw _ (List.mem_of_getElem? (i := 57) rfl))) (Or.inr (hw _ (List.mem_of_getElem? (i := 55) rfl))) (by decide) (t := .long) (t' := .long) (by decide) (by decide))))
  have fx17 : Exa Z h15 o0 "com/example/uptik/uptik/model/Holdings" := (Exa.wr W15 fx14)
  obtain ⟨T18, h18, X18, e18, W18, st18⟩ := putF X15 hx hZ hown (host := "") (Or.inl (hw _ (List.mem_of_getElem? (i := 56) rfl))) Via.refl e15 fx16 fx17 (Or.inr ⟨(hw _ (List.mem_of_getElem? (i := 57) rfl)), rfl, hnm⟩) (hw _ (List.mem_of_getElem? (i := 31) rfl)) (ty := .long) (by decide) rfl rfl (g := (mkF m 49 #[.val (.ref o0), .val (.long q1), .second, .val (.long q2), .second, .val (.long q3), .second, .val (.ref o4), .val (.ref o5), .val (.ref o6), .val (.ref o7), .val (.long q8), .second, .val (.long q9), .second, .val (.int p10)] [(.long q3), (.ref o0)])) rfl rfl (hb hby d7_49)
  have fw18 := Fld.same W18 fx16
  have hk18 := Nat.le_trans hk15 (Nat.le_of_eq W18.size.symm)
  have N18 := Fr.snoc X18 N15 g_o0
  have Z18 : n0 ≤ h18.size := by rw [W18.size]; exact Z15
  have K18 : Keep h0 h18 [o0] := K15.wr W18 (Or.inl (List.mem_of_getElem? (i := 0) rfl))
  refine own_go (g' := (mkF m 52 #[.val (.ref o0), .val (.long q1), .second, .val (.long q2), .second, .val (.long q3), .second, .val (.ref o4), .val (.ref o5), .val (.ref o6), .val (.ref o7), .val (.long q8), .second, .val (.long q9), .second, .val (.int p10)] [])) (st18) ?_
  refine own_go (g' := (mkF m 53 #[.val (.ref o0), .val (.long q1), .second, .val (.long q2), .second, .val (.long q3), .second, .val (.ref o4), .val (.ref o5), .val (.ref o6), .val (.ref o7), .val (.long q8), .second, .val (.long q9), .second, .val (.int p10)] [(.ref o0)])) (fun _ kgo => XS.aloadN X18.here hx rfl (hb hby d7_52) rfl rfl kgo) ?_
  refine own_go (g' := (mkF m 55 #[.val (.ref o0), .val (.long q1), .second, .val (.long q2), .second, .val (.long q3), .second, .val (.ref o4), .val (.ref o5), .val (.ref o6), .val (.ref o7), .val (.long q8), .second, .val (.long q9), .second, .val (.int p10)] [(.ref o4), (.ref o0)])) (fun _ kgo => XS.aload X18.here hx rfl (hb hby d7_53) rfl rfl kgo) ?_
  have fx19 : Fld Z h18 o0 "com/example/uptik/uptik/model/Holdings" "whole" "Ljava/lang/String;" .null := (Fld.other W18 (Fld.other W15 (Fld.other W12 (Fld.ext E8 (Fld.ext E6 (Fld.ext E4 (Fld.ext E2 P4)))) (Or.inr (slot_ne (Or.inr (hw _ (List.mem_of_getElem? (i := 59) rfl))) (Or.inr (hw _ (List.mem_of_getElem? (i := 53) rfl))) (by decide) (t := (.object "java/lang/String")) (t' := .long) (by decide) (by decide)))) (Or.inr (slot_ne (Or.inr (hw _ (List.mem_of_getElem? (i := 59) rfl))) (Or.inr (hw _ (List.mem_of_getElem? (i := 55) rfl))) (by decide) (t := (.object "java/lang/String")) (t' := .long) (by decide) (by decide)))) (Or.inr (slot_ne (Or.inr (hw _ (List.mem_of_getElem? (i := 59) rfl))) (Or.inr (hw _ (List.mem_of_getElem? (i := 57) rfl))) (by decide) (t := (.object "java/lang/String")) (t' := .long) (by decide) (by decide))))
  have fx20 : Exa Z h18 o0 "com/example/uptik/uptik/model/Holdings" := (Exa.wr W18 fx17)
  obtain ⟨T21, h21, X21, e21, W21, st21⟩ := putF X18 hx hZ hown (host := "") (Or.inl (hw _ (List.mem_of_getElem? (i := 58) rfl))) Via.refl e18 fx19 fx20 (Or.inr ⟨(hw _ (List.mem_of_getElem? (i := 59) rfl)), rfl, hnm⟩) (hw _ (List.mem_of_getElem? (i := 31) rfl)) (ty := (.object "java/lang/String")) (by decide) rfl rfl (g := (mkF m 55 #[.val (.ref o0), .val (.long q1), .second, .val (.long q2), .second, .val (.long q3), .second, .val (.ref o4), .val (.ref o5), .val (.ref o6), .val (.ref o7), .val (.long q8), .second, .val (.long q9), .second, .val (.int p10)] [(.ref o4), (.ref o0)])) rfl rfl (hb hby d7_55)
  have fw21 := Fld.same W21 fx19
  have hk21 := Nat.le_trans hk18 (Nat.le_of_eq W21.size.symm)
  have N21 := Fr.snoc X21 N18 g_o0
  have Z21 : n0 ≤ h21.size := by rw [W21.size]; exact Z18
  have K21 : Keep h0 h21 [o0] := K18.wr W21 (Or.inl (List.mem_of_getElem? (i := 0) rfl))
  refine own_go (g' := (mkF m 58 #[.val (.ref o0), .val (.long q1), .second, .val (.long q2), .second, .val (.long q3), .second, .val (.ref o4), .val (.ref o5), .val (.ref o6), .val (.ref o7), .val (.long q8), .second, .val (.long q9), .second, .val (.int p10)] [])) (st21) ?_
  refine own_go (g' := (mkF m 59 #[.val (.ref o0), .val (.long q1), .second, .val (.long q2), .second, .val (.long q3), .second, .val (.ref o4), .val (.ref o5), .val (.ref o6), .val (.ref o7), .val (.long q8), .second, .val (.long q9), .second, .val (.int p10)] [(.ref o0)])) (fun _ kgo => XS.aloadN X21.here hx rfl (hb hby d7_58) rfl rfl kgo) ?_
  refine own_go (g' := (mkF m 61 #[.val (.ref o0), .val (.long q1), .second, .val (.long q2), .second, .val (.long q3), .second, .val (.ref o4), .val (.ref o5), .val (.ref o6), .val (.ref o7), .val (.long q8), .second, .val (.long q9), .second, .val (.int p10)] [(.ref o5), (.ref o0)])) (fun _ kgo => XS.aload X21.here hx rfl (hb hby d7_59) rfl rfl kgo) ?_
  have fx22 : Fld Z h21 o0 "com/example/uptik/uptik/model/Holdings" "former" "Ljava/lang/String;" .null := (Fld.other W21 (Fld.other W18 (Fld.other W15 (Fld.other W12 (Fld.ext E8 (Fld.ext E6 (Fld.ext E4 (Fld.ext E2 P5)))) (Or.inr (slot_ne (Or.inr (hw _ (List.mem_of_getElem? (i := 61) rfl))) (Or.inr (hw _ (List.mem_of_getElem? (i := 53) rfl))) (by decide) (t := (.object "java/lang/String")) (t' := .long) (by decide) (by decide)))) (Or.inr (slot_ne (Or.inr (hw _ (List.mem_of_getElem? (i := 61) rfl))) (Or.inr (hw _ (List.mem_of_getElem? (i := 55) rfl))) (by decide) (t := (.object "java/lang/String")) (t' := .long) (by decide) (by decide)))) (Or.inr (slot_ne (Or.inr (hw _ (List.mem_of_getElem? (i := 61) rfl))) (Or.inr (hw _ (List.mem_of_getElem? (i := 57) rfl))) (by decide) (t := (.object "java/lang/String")) (t' := .long) (by decide) (by decide)))) (Or.inr (slot_ne (Or.inr (hw _ (List.mem_of_getElem? (i := 61) rfl))) (Or.inr (hw _ (List.mem_of_getElem? (i := 59) rfl))) (by decide) (t := (.object "java/lang/String")) (t' := (.object "java/lang/String")) (by decide) (by decide))))
  have fx23 : Exa Z h21 o0 "com/example/uptik/uptik/model/Holdings" := (Exa.wr W21 fx20)
  obtain ⟨T24, h24, X24, e24, W24, st24⟩ := putF X21 hx hZ hown (host := "") (Or.inl (hw _ (List.mem_of_getElem? (i := 60) rfl))) Via.refl e21 fx22 fx23 (Or.inr ⟨(hw _ (List.mem_of_getElem? (i := 61) rfl)), rfl, hnm⟩) (hw _ (List.mem_of_getElem? (i := 31) rfl)) (ty := (.object "java/lang/String")) (by decide) rfl rfl (g := (mkF m 61 #[.val (.ref o0), .val (.long q1), .second, .val (.long q2), .second, .val (.long q3), .second, .val (.ref o4), .val (.ref o5), .val (.ref o6), .val (.ref o7), .val (.long q8), .second, .val (.long q9), .second, .val (.int p10)] [(.ref o5), (.ref o0)])) rfl rfl (hb hby d7_61)
  have fw24 := Fld.same W24 fx22
  have hk24 := Nat.le_trans hk21 (Nat.le_of_eq W24.size.symm)
  have N24 := Fr.snoc X24 N21 g_o0
  have Z24 : n0 ≤ h24.size := by rw [W24.size]; exact Z21
  have K24 : Keep h0 h24 [o0] := K21.wr W24 (Or.inl (List.mem_of_getElem? (i := 0) rfl))
  refine own_go (g' := (mkF m 64 #[.val (.ref o0), .val (.long q1), .second, .val (.long q2), .second, .val (.long q3), .second, .val (.ref o4), .val (.ref o5), .val (.ref o6), .val (.ref o7), .val (.long q8), .second, .val (.long q9), .second, .val (.int p10)] [])) (st24) ?_
  refine own_go (g' := (mkF m 65 #[.val (.ref o0), .val (.long q1), .second, .val (.long q2), .second, .val (.long q3), .second, .val (.ref o4), .val (.ref o5), .val (.ref o6), .val (.ref o7), .val (.long q8), .second, .val (.long q9), .second, .val (.int p10)] [(.ref o0)])) (fun _ kgo => XS.aloadN X24.here hx rfl (hb hby d7_64) rfl rfl kgo) ?_
  refine own_go (g' := (mkF m 67 #[.val (.ref o0), .val (.long q1), .second, .val (.long q2), .second, .val (.long q3), .second, .val (.ref o4), .val (.ref o5), .val (.ref o6), .val (.ref o7), .val (.long q8), .second, .val (.long q9), .second, .val (.int p10)] [(.ref o6), (.ref o0)])) (fun _ kgo => XS.aload X24.here hx rfl (hb hby d7_65) rfl rfl kgo) ?_
  have fx25 : Fld Z h24 o0 "com/example/uptik/uptik/model/Holdings" "remembered" "Ljava/lang/String;" .null := (Fld.other W24 (Fld.other W21 (Fld.other W18 (Fld.other W15 (Fld.other W12 (Fld.ext E8 (Fld.ext E6 (Fld.ext E4 (Fld.ext E2 P6)))) (Or.inr (slot_ne (Or.inr (hw _ (List.mem_of_getElem? (i := 63) rfl))) (Or.inr (hw _ (List.mem_of_getElem? (i := 53) rfl))) (by decide) (t := (.object "java/lang/String")) (t' := .long) (by decide) (by decide)))) (Or.inr (slot_ne (Or.inr (hw _ (List.mem_of_getElem? (i := 63) rfl))) (Or.inr (hw _ (List.mem_of_getElem? (i := 55) rfl))) (by decide) (t := (.object "java/lang/String")) (t' := .long) (by decide) (by decide)))) (Or.inr (slot_ne (Or.inr (hw _ (List.mem_of_getElem? (i := 63) rfl))) (Or.inr (hw _ (List.mem_of_getElem? (i := 57) rfl))) (by decide) (t := (.object "java/lang/String")) (t' := .long) (by decide) (by decide)))) (Or.inr (slot_ne (Or.inr (hw _ (List.mem_of_getElem? (i := 63) rfl))) (Or.inr (hw _ (List.mem_of_getElem? (i := 59) rfl))) (by decide) (t := (.object "java/lang/String")) (t' := (.object "java/lang/String")) (by decide) (by decide)))) (Or.inr (slot_ne (Or.inr (hw _ (List.mem_of_getElem? (i := 63) rfl))) (Or.inr (hw _ (List.mem_of_getElem? (i := 61) rfl))) (by decide) (t := (.object "java/lang/String")) (t' := (.object "java/lang/String")) (by decide) (by decide))))
  have fx26 : Exa Z h24 o0 "com/example/uptik/uptik/model/Holdings" := (Exa.wr W24 fx23)
  obtain ⟨T27, h27, X27, e27, W27, st27⟩ := putF X24 hx hZ hown (host := "") (Or.inl (hw _ (List.mem_of_getElem? (i := 62) rfl))) Via.refl e24 fx25 fx26 (Or.inr ⟨(hw _ (List.mem_of_getElem? (i := 63) rfl)), rfl, hnm⟩) (hw _ (List.mem_of_getElem? (i := 31) rfl)) (ty := (.object "java/lang/String")) (by decide) rfl rfl (g := (mkF m 67 #[.val (.ref o0), .val (.long q1), .second, .val (.long q2), .second, .val (.long q3), .second, .val (.ref o4), .val (.ref o5), .val (.ref o6), .val (.ref o7), .val (.long q8), .second, .val (.long q9), .second, .val (.int p10)] [(.ref o6), (.ref o0)])) rfl rfl (hb hby d7_67)
  have fw27 := Fld.same W27 fx25
  have hk27 := Nat.le_trans hk24 (Nat.le_of_eq W27.size.symm)
  have N27 := Fr.snoc X27 N24 g_o0
  have Z27 : n0 ≤ h27.size := by rw [W27.size]; exact Z24
  have K27 : Keep h0 h27 [o0] := K24.wr W27 (Or.inl (List.mem_of_getElem? (i := 0) rfl))
  refine own_go (g' := (mkF m 70 #[.val (.ref o0), .val (.long q1), .second, .val (.long q2), .second, .val (.long q3), .second, .val (.ref o4), .val (.ref o5), .val (.ref o6), .val (.ref o7), .val (.long q8), .second, .val (.long q9), .second, .val (.int p10)] [])) (st27) ?_
  refine own_go (g' := (mkF m 71 #[.val (.ref o0), .val (.long q1), .second, .val (.long q2), .second, .val (.long q3), .second, .val (.ref o4), .val (.ref o5), .val (.ref o6), .val (.ref o7), .val (.long q8), .second, .val (.long q9), .second, .val (.int p10)] [(.ref o0)])) (fun _ kgo => XS.aloadN X27.here hx rfl (hb hby d7_70) rfl rfl kgo) ?_
  refine own_go (g' := (mkF m 73 #[.val (.ref o0), .val (.long q1), .second, .val (.long q2), .second, .val (.long q3), .second, .val (.ref o4), .val (.ref o5), .val (.ref o6), .val (.ref o7), .val (.long q8), .second, .val (.long q9), .second, .val (.int p10)] [(.ref o7), (.ref o0)])) (fun _ kgo => XS.aload X27.here hx rfl (hb hby d7_71) rfl rfl kgo) ?_
  have fx28 : Fld Z h27 o0 "com/example/uptik/uptik/model/Holdings" "custody" "Ljava/lang/String;" .null := (Fld.other W27 (Fld.other W24 (Fld.other W21 (Fld.other W18 (Fld.other W15 (Fld.other W12 (Fld.ext E8 (Fld.ext E6 (Fld.ext E4 (Fld.ext E2 P7)))) (Or.inr (slot_ne (Or.inr (hw _ (List.mem_of_getElem? (i := 65) rfl))) (Or.inr (hw _ (List.mem_of_getElem? (i := 53) rfl))) (by decide) (t := (.object "java/lang/String")) (t' := .long) (by decide) (by decide)))) (Or.inr (slot_ne (Or.inr (hw _ (List.mem_of_getElem? (i := 65) rfl))) (Or.inr (hw _ (List.mem_of_getElem? (i := 55) rfl))) (by decide) (t := (.object "java/lang/String")) (t' := .long) (by decide) (by decide)))) (Or.inr (slot_ne (Or.inr (hw _ (List.mem_of_getElem? (i := 65) rfl))) (Or.inr (hw _ (List.mem_of_getElem? (i := 57) rfl))) (by decide) (t := (.object "java/lang/String")) (t' := .long) (by decide) (by decide)))) (Or.inr (slot_ne (Or.inr (hw _ (List.mem_of_getElem? (i := 65) rfl))) (Or.inr (hw _ (List.mem_of_getElem? (i := 59) rfl))) (by decide) (t := (.object "java/lang/String")) (t' := (.object "java/lang/String")) (by decide) (by decide)))) (Or.inr (slot_ne (Or.inr (hw _ (List.mem_of_getElem? (i := 65) rfl))) (Or.inr (hw _ (List.mem_of_getElem? (i := 61) rfl))) (by decide) (t := (.object "java/lang/String")) (t' := (.object "java/lang/String")) (by decide) (by decide)))) (Or.inr (slot_ne (Or.inr (hw _ (List.mem_of_getElem? (i := 65) rfl))) (Or.inr (hw _ (List.mem_of_getElem? (i := 63) rfl))) (by decide) (t := (.object "java/lang/String")) (t' := (.object "java/lang/String")) (by decide) (by decide))))
  have fx29 : Exa Z h27 o0 "com/example/uptik/uptik/model/Holdings" := (Exa.wr W27 fx26)
  obtain ⟨T30, h30, X30, e30, W30, st30⟩ := putF X27 hx hZ hown (host := "") (Or.inl (hw _ (List.mem_of_getElem? (i := 64) rfl))) Via.refl e27 fx28 fx29 (Or.inr ⟨(hw _ (List.mem_of_getElem? (i := 65) rfl)), rfl, hnm⟩) (hw _ (List.mem_of_getElem? (i := 31) rfl)) (ty := (.object "java/lang/String")) (by decide) rfl rfl (g := (mkF m 73 #[.val (.ref o0), .val (.long q1), .second, .val (.long q2), .second, .val (.long q3), .second, .val (.ref o4), .val (.ref o5), .val (.ref o6), .val (.ref o7), .val (.long q8), .second, .val (.long q9), .second, .val (.int p10)] [(.ref o7), (.ref o0)])) rfl rfl (hb hby d7_73)
  have fw30 := Fld.same W30 fx28
  have hk30 := Nat.le_trans hk27 (Nat.le_of_eq W30.size.symm)
  have N30 := Fr.snoc X30 N27 g_o0
  have Z30 : n0 ≤ h30.size := by rw [W30.size]; exact Z27
  have K30 : Keep h0 h30 [o0] := K27.wr W30 (Or.inl (List.mem_of_getElem? (i := 0) rfl))
  refine own_go (g' := (mkF m 76 #[.val (.ref o0), .val (.long q1), .second, .val (.long q2), .second, .val (.long q3), .second, .val (.ref o4), .val (.ref o5), .val (.ref o6), .val (.ref o7), .val (.long q8), .second, .val (.long q9), .second, .val (.int p10)] [])) (st30) ?_
  refine own_go (g' := (mkF m 77 #[.val (.ref o0), .val (.long q1), .second, .val (.long q2), .second, .val (.long q3), .second, .val (.ref o4), .val (.ref o5), .val (.ref o6), .val (.ref o7), .val (.long q8), .second, .val (.long q9), .second, .val (.int p10)] [(.ref o0)])) (fun _ kgo => XS.aloadN X30.here hx rfl (hb hby d7_76) rfl rfl kgo) ?_
  refine own_go (g' := (mkF m 79 #[.val (.ref o0), .val (.long q1), .second, .val (.long q2), .second, .val (.long q3), .second, .val (.ref o4), .val (.ref o5), .val (.ref o6), .val (.ref o7), .val (.long q8), .second, .val (.long q9), .second, .val (.int p10)] [(.long q8), (.ref o0)])) (fun _ kgo => XS.lload X30.here hx rfl (hb hby d7_77) rfl kgo) ?_
  have fx31 : Fld Z h30 o0 "com/example/uptik/uptik/model/Holdings" "documents" "J" (.long (0 : Int64)) := (Fld.other W30 (Fld.other W27 (Fld.other W24 (Fld.other W21 (Fld.other W18 (Fld.other W15 (Fld.other W12 (Fld.ext E8 (Fld.ext E6 (Fld.ext E4 (Fld.ext E2 P8)))) (Or.inr (slot_ne (Or.inr (hw _ (List.mem_of_getElem? (i := 67) rfl))) (Or.inr (hw _ (List.mem_of_getElem? (i := 53) rfl))) (by decide) (t := .long) (t' := .long) (by decide) (by decide)))) (Or.inr (slot_ne (Or.inr (hw _ (List.mem_of_getElem? (i := 67) rfl))) (Or.inr (hw _ (List.mem_of_getElem? (i := 55) rfl))) (by decide) (t := .long) (t' := .long) (by decide) (by decide)))) (Or.inr (slot_ne (Or.inr (hw _ (List.mem_of_getElem? (i := 67) rfl))) (Or.inr (hw _ (List.mem_of_getElem? (i := 57) rfl))) (by decide) (t := .long) (t' := .long) (by decide) (by decide)))) (Or.inr (slot_ne (Or.inr (hw _ (List.mem_of_getElem? (i := 67) rfl))) (Or.inr (hw _ (List.mem_of_getElem? (i := 59) rfl))) (by decide) (t := .long) (t' := (.object "java/lang/String")) (by decide) (by decide)))) (Or.inr (slot_ne (Or.inr (hw _ (List.mem_of_getElem? (i := 67) rfl))) (Or.inr (hw _ (List.mem_of_getElem? (i := 61) rfl))) (by decide) (t := .long) (t' := (.object "java/lang/String")) (by decide) (by decide)))) (Or.inr (slot_ne (Or.inr (hw _ (List.mem_of_getElem? (i := 67) rfl))) (Or.inr (hw _ (List.mem_of_getElem? (i := 63) rfl))) (by decide) (t := .long) (t' := (.object "java/lang/String")) (by decide) (by decide)))) (Or.inr (slot_ne (Or.inr (hw _ (List.mem_of_getElem? (i := 67) rfl))) (Or.inr (hw _ (List.mem_of_getElem? (i := 65) rfl))) (by decide) (t := .long) (t' := (.object "java/lang/String")) (by decide) (by decide))))
  have fx32 : Exa Z h30 o0 "com/example/uptik/uptik/model/Holdings" := (Exa.wr W30 fx29)
  obtain ⟨T33, h33, X33, e33, W33, st33⟩ := putF X30 hx hZ hown (host := "") (Or.inl (hw _ (List.mem_of_getElem? (i := 66) rfl))) Via.refl e30 fx31 fx32 (Or.inr ⟨(hw _ (List.mem_of_getElem? (i := 67) rfl)), rfl, hnm⟩) (hw _ (List.mem_of_getElem? (i := 31) rfl)) (ty := .long) (by decide) rfl rfl (g := (mkF m 79 #[.val (.ref o0), .val (.long q1), .second, .val (.long q2), .second, .val (.long q3), .second, .val (.ref o4), .val (.ref o5), .val (.ref o6), .val (.ref o7), .val (.long q8), .second, .val (.long q9), .second, .val (.int p10)] [(.long q8), (.ref o0)])) rfl rfl (hb hby d7_79)
  have fw33 := Fld.same W33 fx31
  have hk33 := Nat.le_trans hk30 (Nat.le_of_eq W33.size.symm)
  have N33 := Fr.snoc X33 N30 g_o0
  have Z33 : n0 ≤ h33.size := by rw [W33.size]; exact Z30
  have K33 : Keep h0 h33 [o0] := K30.wr W33 (Or.inl (List.mem_of_getElem? (i := 0) rfl))
  refine own_go (g' := (mkF m 82 #[.val (.ref o0), .val (.long q1), .second, .val (.long q2), .second, .val (.long q3), .second, .val (.ref o4), .val (.ref o5), .val (.ref o6), .val (.ref o7), .val (.long q8), .second, .val (.long q9), .second, .val (.int p10)] [])) (st33) ?_
  refine own_go (g' := (mkF m 83 #[.val (.ref o0), .val (.long q1), .second, .val (.long q2), .second, .val (.long q3), .second, .val (.ref o4), .val (.ref o5), .val (.ref o6), .val (.ref o7), .val (.long q8), .second, .val (.long q9), .second, .val (.int p10)] [(.ref o0)])) (fun _ kgo => XS.aloadN X33.here hx rfl (hb hby d7_82) rfl rfl kgo) ?_
  refine own_go (g' := (mkF m 85 #[.val (.ref o0), .val (.long q1), .second, .val (.long q2), .second, .val (.long q3), .second, .val (.ref o4), .val (.ref o5), .val (.ref o6), .val (.ref o7), .val (.long q8), .second, .val (.long q9), .second, .val (.int p10)] [(.long q9), (.ref o0)])) (fun _ kgo => XS.lload X33.here hx rfl (hb hby d7_83) rfl kgo) ?_
  have fx34 : Fld Z h33 o0 "com/example/uptik/uptik/model/Holdings" "documentDigest" "J" (.long (0 : Int64)) := (Fld.other W33 (Fld.other W30 (Fld.other W27 (Fld.other W24 (Fld.other W21 (Fld.other W18 (Fld.other W15 (Fld.other W12 (Fld.ext E8 (Fld.ext E6 (Fld.ext E4 (Fld.ext E2 P9)))) (Or.inr (slot_ne (Or.inr (hw _ (List.mem_of_getElem? (i := 69) rfl))) (Or.inr (hw _ (List.mem_of_getElem? (i := 53) rfl))) (by decide) (t := .long) (t' := .long) (by decide) (by decide)))) (Or.inr (slot_ne (Or.inr (hw _ (List.mem_of_getElem? (i := 69) rfl))) (Or.inr (hw _ (List.mem_of_getElem? (i := 55) rfl))) (by decide) (t := .long) (t' := .long) (by decide) (by decide)))) (Or.inr (slot_ne (Or.inr (hw _ (List.mem_of_getElem? (i := 69) rfl))) (Or.inr (hw _ (List.mem_of_getElem? (i := 57) rfl))) (by decide) (t := .long) (t' := .long) (by decide) (by decide)))) (Or.inr (slot_ne (Or.inr (hw _ (List.mem_of_getElem? (i := 69) rfl))) (Or.inr (hw _ (List.mem_of_getElem? (i := 59) rfl))) (by decide) (t := .long) (t' := (.object "java/lang/String")) (by decide) (by decide)))) (Or.inr (slot_ne (Or.inr (hw _ (List.mem_of_getElem? (i := 69) rfl))) (Or.inr (hw _ (List.mem_of_getElem? (i := 61) rfl))) (by decide) (t := .long) (t' := (.object "java/lang/String")) (by decide) (by decide)))) (Or.inr (slot_ne (Or.inr (hw _ (List.mem_of_getElem? (i := 69) rfl))) (Or.inr (hw _ (List.mem_of_getElem? (i := 63) rfl))) (by decide) (t := .long) (t' := (.object "java/lang/String")) (by decide) (by decide)))) (Or.inr (slot_ne (Or.inr (hw _ (List.mem_of_getElem? (i := 69) rfl))) (Or.inr (hw _ (List.mem_of_getElem? (i := 65) rfl))) (by decide) (t := .long) (t' := (.object "java/lang/String")) (by decide) (by decide)))) (Or.inr (slot_ne (Or.inr (hw _ (List.mem_of_getElem? (i := 69) rfl))) (Or.inr (hw _ (List.mem_of_getElem? (i := 67) rfl))) (by decide) (t := .long) (t' := .long) (by decide) (by decide))))
  have fx35 : Exa Z h33 o0 "com/example/uptik/uptik/model/Holdings" := (Exa.wr W33 fx32)
  obtain ⟨T36, h36, X36, e36, W36, st36⟩ := putF X33 hx hZ hown (host := "") (Or.inl (hw _ (List.mem_of_getElem? (i := 68) rfl))) Via.refl e33 fx34 fx35 (Or.inr ⟨(hw _ (List.mem_of_getElem? (i := 69) rfl)), rfl, hnm⟩) (hw _ (List.mem_of_getElem? (i := 31) rfl)) (ty := .long) (by decide) rfl rfl (g := (mkF m 85 #[.val (.ref o0), .val (.long q1), .second, .val (.long q2), .second, .val (.long q3), .second, .val (.ref o4), .val (.ref o5), .val (.ref o6), .val (.ref o7), .val (.long q8), .second, .val (.long q9), .second, .val (.int p10)] [(.long q9), (.ref o0)])) rfl rfl (hb hby d7_85)
  have fw36 := Fld.same W36 fx34
  have hk36 := Nat.le_trans hk33 (Nat.le_of_eq W36.size.symm)
  have N36 := Fr.snoc X36 N33 g_o0
  have Z36 : n0 ≤ h36.size := by rw [W36.size]; exact Z33
  have K36 : Keep h0 h36 [o0] := K33.wr W36 (Or.inl (List.mem_of_getElem? (i := 0) rfl))
  refine own_go (g' := (mkF m 88 #[.val (.ref o0), .val (.long q1), .second, .val (.long q2), .second, .val (.long q3), .second, .val (.ref o4), .val (.ref o5), .val (.ref o6), .val (.ref o7), .val (.long q8), .second, .val (.long q9), .second, .val (.int p10)] [])) (st36) ?_
  refine own_go (g' := (mkF m 89 #[.val (.ref o0), .val (.long q1), .second, .val (.long q2), .second, .val (.long q3), .second, .val (.ref o4), .val (.ref o5), .val (.ref o6), .val (.ref o7), .val (.long q8), .second, .val (.long q9), .second, .val (.int p10)] [(.ref o0)])) (fun _ kgo => XS.aloadN X36.here hx rfl (hb hby d7_88) rfl rfl kgo) ?_
  refine own_go (g' := (mkF m 91 #[.val (.ref o0), .val (.long q1), .second, .val (.long q2), .second, .val (.long q3), .second, .val (.ref o4), .val (.ref o5), .val (.ref o6), .val (.ref o7), .val (.long q8), .second, .val (.long q9), .second, .val (.int p10)] [(.int p10), (.ref o0)])) (fun _ kgo => XS.iload X36.here hx rfl (hb hby d7_89) rfl kgo) ?_
  have fx37 : Fld Z h36 o0 "com/example/uptik/uptik/model/Holdings" "recordWhole" "Z" (.int (0 : Int32)) := (Fld.other W36 (Fld.other W33 (Fld.other W30 (Fld.other W27 (Fld.other W24 (Fld.other W21 (Fld.other W18 (Fld.other W15 (Fld.other W12 (Fld.ext E8 (Fld.ext E6 (Fld.ext E4 (Fld.ext E2 P10)))) (Or.inr (slot_ne (Or.inr (hw _ (List.mem_of_getElem? (i := 71) rfl))) (Or.inr (hw _ (List.mem_of_getElem? (i := 53) rfl))) (by decide) (t := .boolean) (t' := .long) (by decide) (by decide)))) (Or.inr (slot_ne (Or.inr (hw _ (List.mem_of_getElem? (i := 71) rfl))) (Or.inr (hw _ (List.mem_of_getElem? (i := 55) rfl))) (by decide) (t := .boolean) (t' := .long) (by decide) (by decide)))) (Or.inr (slot_ne (Or.inr (hw _ (List.mem_of_getElem? (i := 71) rfl))) (Or.inr (hw _ (List.mem_of_getElem? (i := 57) rfl))) (by decide) (t := .boolean) (t' := .long) (by decide) (by decide)))) (Or.inr (slot_ne (Or.inr (hw _ (List.mem_of_getElem? (i := 71) rfl))) (Or.inr (hw _ (List.mem_of_getElem? (i := 59) rfl))) (by decide) (t := .boolean) (t' := (.object "java/lang/String")) (by decide) (by decide)))) (Or.inr (slot_ne (Or.inr (hw _ (List.mem_of_getElem? (i := 71) rfl))) (Or.inr (hw _ (List.mem_of_getElem? (i := 61) rfl))) (by decide) (t := .boolean) (t' := (.object "java/lang/String")) (by decide) (by decide)))) (Or.inr (slot_ne (Or.inr (hw _ (List.mem_of_getElem? (i := 71) rfl))) (Or.inr (hw _ (List.mem_of_getElem? (i := 63) rfl))) (by decide) (t := .boolean) (t' := (.object "java/lang/String")) (by decide) (by decide)))) (Or.inr (slot_ne (Or.inr (hw _ (List.mem_of_getElem? (i := 71) rfl))) (Or.inr (hw _ (List.mem_of_getElem? (i := 65) rfl))) (by decide) (t := .boolean) (t' := (.object "java/lang/String")) (by decide) (by decide)))) (Or.inr (slot_ne (Or.inr (hw _ (List.mem_of_getElem? (i := 71) rfl))) (Or.inr (hw _ (List.mem_of_getElem? (i := 67) rfl))) (by decide) (t := .boolean) (t' := .long) (by decide) (by decide)))) (Or.inr (slot_ne (Or.inr (hw _ (List.mem_of_getElem? (i := 71) rfl))) (Or.inr (hw _ (List.mem_of_getElem? (i := 69) rfl))) (by decide) (t := .boolean) (t' := .long) (by decide) (by decide))))
  have fx38 : Exa Z h36 o0 "com/example/uptik/uptik/model/Holdings" := (Exa.wr W36 fx35)
  obtain ⟨T39, h39, X39, e39, W39, st39⟩ := putFN X36 hx hZ hown (hw _ (List.mem_of_getElem? (i := 70) rfl)) Via.refl e36 fx37 fx38 (Or.inr ⟨(hw _ (List.mem_of_getElem? (i := 71) rfl)), rfl, hnm⟩) (hw _ (List.mem_of_getElem? (i := 31) rfl)) (ty := .boolean) (v := (.int p10)) (v' := (.int (nar .boolean p10))) (by decide) rfl (fits_nar_bool _) (g := (mkF m 91 #[.val (.ref o0), .val (.long q1), .second, .val (.long q2), .second, .val (.long q3), .second, .val (.ref o4), .val (.ref o5), .val (.ref o6), .val (.ref o7), .val (.long q8), .second, .val (.long q9), .second, .val (.int p10)] [(.int p10), (.ref o0)])) rfl rfl (hb hby d7_91)
  have fw39 := Fld.same W39 fx37
  have hk39 := Nat.le_trans hk36 (Nat.le_of_eq W39.size.symm)
  have N39 := Fr.snoc X39 N36 g_o0
  have Z39 : n0 ≤ h39.size := by rw [W39.size]; exact Z36
  have K39 : Keep h0 h39 [o0] := K36.wr W39 (Or.inl (List.mem_of_getElem? (i := 0) rfl))
  refine own_go (g' := (mkF m 94 #[.val (.ref o0), .val (.long q1), .second, .val (.long q2), .second, .val (.long q3), .second, .val (.ref o4), .val (.ref o5), .val (.ref o6), .val (.ref o7), .val (.long q8), .second, .val (.long q9), .second, .val (.int p10)] [])) (st39) ?_
  refine own_retVW X39 hx hS8 e39 hk39 Bd.returns Bd.notSynchronized (hb hby d7_94) (by decide) (by decide) ?_
  show QQ _ T39.heap _
  rw [e39]
  have fx40 : Exa Z h39 o0 "com/example/uptik/uptik/model/Holdings" := (Exa.wr W39 fx38)
  have fx41 : Fld Z h39 o0 "com/example/uptik/uptik/model/Holdings" "documents" "J" (.long q8) := (Fld.other W39 (Fld.other W36 fw33 (Or.inr (slot_ne (Or.inr (hw _ (List.mem_of_getElem? (i := 67) rfl))) (Or.inr (hw _ (List.mem_of_getElem? (i := 69) rfl))) (by decide) (t := .long) (t' := .long) (by decide) (by decide)))) (Or.inr (slot_ne (Or.inr (hw _ (List.mem_of_getElem? (i := 67) rfl))) (Or.inr (hw _ (List.mem_of_getElem? (i := 71) rfl))) (by decide) (t := .long) (t' := .boolean) (by decide) (by decide))))
  have fx42 : Fld Z h39 o0 "com/example/uptik/uptik/model/Holdings" "documentDigest" "J" (.long q9) := (Fld.other W39 fw36 (Or.inr (slot_ne (Or.inr (hw _ (List.mem_of_getElem? (i := 69) rfl))) (Or.inr (hw _ (List.mem_of_getElem? (i := 71) rfl))) (by decide) (t := .long) (t' := .boolean) (by decide) (by decide))))
  rw [← hQQ]
  exact ⟨rfl, N39, K39, fx40, fx41, fx42⟩
theorem d10_0 : decode prog_47_method_3_code 0 = .ok (.aload_n 0, 1) := by decide +kernel
theorem d10_1 : decode prog_47_method_3_code 1 = .ok (.getfield 42, 3) := by decide +kernel
theorem d10_4 : decode prog_47_method_3_code 4 = .ok (.aload_n 1, 1) := by decide +kernel
theorem d10_5 : decode prog_47_method_3_code 5 = .ok (.getfield 42, 3) := by decide +kernel
theorem d10_8 : decode prog_47_method_3_code 8 = .ok (.lcmp, 1) := by decide +kernel
theorem d10_9 : decode prog_47_method_3_code 9 = .ok (.ifCond .ne 19, 3) := by decide +kernel
theorem d10_12 : decode prog_47_method_3_code 12 = .ok (.aload_n 0, 1) := by decide +kernel
theorem d10_13 : decode prog_47_method_3_code 13 = .ok (.getfield 45, 3) := by decide +kernel
theorem d10_16 : decode prog_47_method_3_code 16 = .ok (.aload_n 1, 1) := by decide +kernel
theorem d10_17 : decode prog_47_method_3_code 17 = .ok (.getfield 45, 3) := by decide +kernel
theorem d10_20 : decode prog_47_method_3_code 20 = .ok (.lcmp, 1) := by decide +kernel
theorem d10_21 : decode prog_47_method_3_code 21 = .ok (.ifCond .ne 7, 3) := by decide +kernel
theorem d10_24 : decode prog_47_method_3_code 24 = .ok (.iconst 1, 1) := by decide +kernel
theorem d10_25 : decode prog_47_method_3_code 25 = .ok (.goto 4, 3) := by decide +kernel
theorem d10_28 : decode prog_47_method_3_code 28 = .ok (.iconst 0, 1) := by decide +kernel
theorem d10_29 : decode prog_47_method_3_code 29 = .ok (.ireturn, 1) := by decide +kernel
theorem pn_rm10 : plainName "com/example/uptik/uptik/model/Holdings" = true := by first | (simp [plainName, overriddenIn]; done) | decide +kernel
theorem ef_rm10 (m : MethodId) (o0 : Addr) (o1 : Addr) : entryFrame m #[(.ref o0), (.ref o1)] 2 = mkF m 0 #[.val (.ref o0), .val (.ref o1)] [] := by first | (simp [entryFrame, mkF, argsToLocals, Value.category]; done) | rfl
set_option maxRecDepth 65536 in
set_option maxHeartbeats 40000000 in
theorem rm10 (l : Launch) (Z : State) (a0 : Array Value) (hw : ∀ d ∈ tables_1, d.before a0 Z = true) (o0 : Addr) (o1 : Addr) (a0_ : Int64) (a1_ : Int64) (b0_ : Int64) (b1_ : Int64) (h0 : Heap) (P0 : Fld Z h0 o0 "com/example/uptik/uptik/model/Holdings" "documents" "J" (.long a0_)) (P1 : Fld Z h0 o0 "com/example/uptik/uptik/model/Holdings" "documentDigest" "J" (.long a1_)) (P2 : Fld Z h0 o1 "com/example/uptik/uptik/model/Holdings" "documents" "J" (.long b0_)) (P3 : Fld Z h0 o1 "com/example/uptik/uptik/model/Holdings" "documentDigest" "J" (.long b1_)) :
    own_Met l Z (⟨"com/example/uptik/uptik/model/Holdings", "sameRecordAs", "(Lcom/example/uptik/uptik/model/Holdings;)Z"⟩ : MethodName) prog_47_method_3_code 2 (some .boolean) [] ({ frames := 0, cells := 0, slots := 0, locals := 0 } : Room) #[(.ref o0), (.ref o1)] h0 0 0 (fun v h L => v = some (.int (own_b (decide (a0_ = b0_ ∧ a1_ = b1_)))) ∧ h = h0 ∧ L = []) := by
  refine own_met (plainFor_of_name pn_rm10) ?_
  intro p e s m below meth c s₁ Bd hml0 hZ X0 e0
  have hx := Bd.exec
  have hby := Bd.bytes
  have hml : c.maxLocals = 2 := hml0
  have hown : s.vm.findClass "com/example/uptik/uptik/model/Holdings" = some m.cls := findClass_of_methodNamed Bd.named
  have hnm := (name_of_methodNamed Bd.named Bd.method).1
  refine own_cast (ef_rm10 m o0 o1) ?_
  generalize hQQ : (fun (v : Option Value) (h : Heap) (L : List Loc) => v = some (.int (own_b (decide (a0_ = b0_ ∧ a1_ = b1_)))) ∧ h = h0 ∧ L = []) = QQ
  refine own_go (g' := (mkF m 1 #[.val (.ref o0), .val (.ref o1)] [(.ref o0)])) (fun _ kgo => XS.aloadN X0.here hx rfl (hb hby d10_0) rfl rfl kgo) ?_
  obtain ⟨T1, X1, e1, st1⟩ := getF X0 hx hZ hown (host := "") (Or.inl (hw _ (List.mem_of_getElem? (i := 66) rfl))) Via.refl e0 P0 (g := (mkF m 1 #[.val (.ref o0), .val (.ref o1)] [(.ref o0)])) rfl rfl (hb hby d10_1)
  refine own_go (g' := (mkF m 4 #[.val (.ref o0), .val (.ref o1)] [(.long a0_)])) (st1) ?_
  refine own_go (g' := (mkF m 5 #[.val (.ref o0), .val (.ref o1)] [(.ref o1), (.long a0_)])) (fun _ kgo => XS.aloadN X1.here hx rfl (hb hby d10_4) rfl rfl kgo) ?_
  obtain ⟨T2, X2, e2, st2⟩ := getF X1 hx hZ hown (host := "") (Or.inl (hw _ (List.mem_of_getElem? (i := 66) rfl))) Via.refl e1 P2 (g := (mkF m 5 #[.val (.ref o0), .val (.ref o1)] [(.ref o1), (.long a0_)])) rfl rfl (hb hby d10_5)
  refine own_go (g' := (mkF m 8 #[.val (.ref o0), .val (.ref o1)] [(.long b0_), (.long a0_)])) (st2) ?_
  refine own_go (g' := (mkF m 9 #[.val (.ref o0), .val (.ref o1)] [(.int (lcmpW a0_ b0_))])) (fun _ kgo => XS.lcmp X2.here hx rfl (hb hby d10_8) rfl kgo) ?_
  by_cases hc3 : a0_ = b0_
  ·
    refine own_go (g' := (mkF m 12 #[.val (.ref o0), .val (.ref o1)] [])) (fun _ kgo => XS.ifNo X2.here hx rfl (hb hby d10_9) rfl ((if0 _ _).trans (teq ((lw_eq _ _).mpr hc3)).2) kgo) ?_
    refine own_go (g' := (mkF m 13 #[.val (.ref o0), .val (.ref o1)] [(.ref o0)])) (fun _ kgo => XS.aloadN X2.here hx rfl (hb hby d10_12) rfl rfl kgo) ?_
    obtain ⟨T4, X4, e4, st4⟩ := getF X2 hx hZ hown (host := "") (Or.inl (hw _ (List.mem_of_getElem? (i := 68) rfl))) Via.refl e2 P1 (g := (mkF m 13 #[.val (.ref o0), .val (.ref o1)] [(.ref o0)])) rfl rfl (hb hby d10_13)
    refine own_go (g' := (mkF m 16 #[.val (.ref o0), .val (.ref o1)] [(.long a1_)])) (st4) ?_
    refine own_go (g' := (mkF m 17 #[.val (.ref o0), .val (.ref o1)] [(.ref o1), (.long a1_)])) (fun _ kgo => XS.aloadN X4.here hx rfl (hb hby d10_16) rfl rfl kgo) ?_
    obtain ⟨T5, X5, e5, st5⟩ := getF X4 hx hZ hown (host := "") (Or.inl (hw _ (List.mem_of_getElem? (i := 68) rfl))) Via.refl e4 P3 (g := (mkF m 17 #[.val (.ref o0), .val (.ref o1)] [(.ref o1), (.long a1_)])) rfl rfl (hb hby d10_17)
    refine own_go (g' := (mkF m 20 #[.val (.ref o0), .val (.ref o1)] [(.long b1_), (.long a1_)])) (st5) ?_
    refine own_go (g' := (mkF m 21 #[.val (.ref o0), .val (.ref o1)] [(.int (lcmpW a1_ b1_))])) (fun _ kgo => XS.lcmp X5.here hx rfl (hb hby d10_20) rfl kgo) ?_
    by_cases hc6 : a1_ = b1_
    ·
      refine own_go (g' := (mkF m 24 #[.val (.ref o0), .val (.ref o1)] [])) (fun _ kgo => XS.ifNo X5.here hx rfl (hb hby d10_21) rfl ((if0 _ _).trans (teq ((lw_eq _ _).mpr hc6)).2) kgo) ?_
      refine own_go (g' := (mkF m 25 #[.val (.ref o0), .val (.ref o1)] [(.int (1 : Int32))])) (fun _ kgo => XS.iconst X5.here hx rfl (hb hby d10_24) kgo) ?_
      refine own_go (g' := (mkF m 29 #[.val (.ref o0), .val (.ref o1)] [(.int (1 : Int32))])) (fun _ kgo => XS.goto X5.here hx rfl (pc0 := 25) (pc' := 29) rfl (hb hby d10_25) (by decide) (by decide) kgo) ?_
      refine own_retN X5 hx .boolean Bd.returns Bd.notSynchronized (by simp) (hb hby d10_29) (by decide) (by decide) ?_
      show QQ _ T5.heap _
      rw [e5]
      rw [← hQQ]
      have hv : own_b (decide (a0_ = b0_ ∧ a1_ = b1_)) = 1 := own_b_t (by simp only [decide_eq_true_eq, ← Int32.toInt_inj, ← Int64.toInt_inj, Int32.lt_iff_toInt_lt, Int64.lt_iff_toInt_lt, Int32.le_iff_toInt_le, Int64.le_iff_toInt_le, Int32.reduceToInt, Int64.reduceToInt] at hc3 hc6 ⊢ <;> omega)
      exact ⟨by rw [hv]; rfl, rfl, rfl⟩
    ·
      refine own_go (g' := (mkF m 28 #[.val (.ref o0), .val (.ref o1)] [])) (fun _ kgo => XS.ifYes X5.here hx rfl (pc0 := 21) (pc' := 28) rfl (hb hby d10_21) rfl ((if0 _ _).trans (feq (mt (lw_eq _ _).mp hc6)).2) (by decide) (by decide) kgo) ?_
      refine own_go (g' := (mkF m 29 #[.val (.ref o0), .val (.ref o1)] [(.int (0 : Int32))])) (fun _ kgo => XS.iconst X5.here hx rfl (hb hby d10_28) kgo) ?_
      refine own_retN X5 hx .boolean Bd.returns Bd.notSynchronized (by simp) (hb hby d10_29) (by decide) (by decide) ?_
      show QQ _ T5.heap _
      rw [e5]
      rw [← hQQ]
      have hv : own_b (decide (a0_ = b0_ ∧ a1_ = b1_)) = 0 := own_b_f (by simp only [decide_eq_true_eq, ← Int32.toInt_inj, ← Int64.toInt_inj, Int32.lt_iff_toInt_lt, Int64.lt_iff_toInt_lt, Int32.le_iff_toInt_le, Int64.le_iff_toInt_le, Int32.reduceToInt, Int64.reduceToInt] at hc3 hc6 ⊢ <;> omega)
      exact ⟨by rw [hv]; rfl, rfl, rfl⟩
  ·
    refine own_go (g' := (mkF m 28 #[.val (.ref o0), .val (.ref o1)] [])) (fun _ kgo => XS.ifYes X2.here hx rfl (pc0 := 9) (pc' := 28) rfl (hb hby d10_9) rfl ((if0 _ _).trans (feq (mt (lw_eq _ _).mp hc3)).2) (by decide) (by decide) kgo) ?_
    refine own_go (g' := (mkF m 29 #[.val (.ref o0), .val (.ref o1)] [(.int (0 : Int32))])) (fun _ kgo => XS.iconst X2.here hx rfl (hb hby d10_28) kgo) ?_
    refine own_retN X2 hx .boolean Bd.returns Bd.notSynchronized (by simp) (hb hby d10_29) (by decide) (by decide) ?_
    show QQ _ T2.heap _
    rw [e2]
    rw [← hQQ]
    have hv : own_b (decide (a0_ = b0_ ∧ a1_ = b1_)) = 0 := own_b_f (by simp only [decide_eq_true_eq, ← Int32.toInt_inj, ← Int64.toInt_inj, Int32.lt_iff_toInt_lt, Int64.lt_iff_toInt_lt, Int32.le_iff_toInt_le, Int64.le_iff_toInt_le, Int32.reduceToInt, Int64.reduceToInt] at hc3 ⊢ <;> omega)
    exact ⟨by rw [hv]; rfl, rfl, rfl⟩
theorem pn_rm0 : plainName "com/example/uptik/uptik/model/HoldingsSameRecordAsPinLaw" = true := by first | (simp [plainName, overriddenIn]; done) | decide +kernel
theorem pd0_0 : parseMethodDescriptor "([C)V" = some ⟨[(.array .char)], none⟩ := by decide +kernel
theorem pd0_1 : parseMethodDescriptor "(JJJLjava/lang/String;Ljava/lang/String;Ljava/lang/String;Ljava/lang/String;JJZ)V" = some ⟨[.long, .long, .long, (.object "java/lang/String"), (.object "java/lang/String"), (.object "java/lang/String"), (.object "java/lang/String"), .long, .long, .boolean], none⟩ := by decide +kernel
theorem pd0_2 : parseMethodDescriptor "(Lcom/example/uptik/uptik/model/Holdings;)Z" = some ⟨[(.object "com/example/uptik/uptik/model/Holdings")], some .boolean⟩ := by decide +kernel
theorem ef_rm0 (m : MethodId) (q0 : Int64) (q1 : Int64) (q2 : Int64) (q3 : Int64) (p4 : Int32) (p5 : Int32) : entryFrame m #[(.long q0), (.long q1), (.long q2), (.long q3), (.int p4), (.int p5)] maxLocals = mkF m 0 #[.val (.long q0), .second, .val (.long q1), .second, .val (.long q2), .second, .val (.long q3), .second, .val (.int p4), .val (.int p5), .unset, .unset, .unset, .unset, .unset, .unset, .unset, .unset, .unset, .unset, .unset, .unset, .unset, .unset] [] := by first | (simp [entryFrame, mkF, argsToLocals, Value.category, maxLocals]; done) | rfl
set_option maxRecDepth 65536 in
set_option maxHeartbeats 40000000 in
theorem rm0 (l : Launch) (Z : State) (a0 : Array Value) (hw : ∀ d ∈ tables_1, d.before a0 Z = true) (q0 : Int64) (q1 : Int64) (q2 : Int64) (q3 : Int64) (p4 : Int32) (p5 : Int32) (cs : Int32) (h0 : Heap) (n0 : Nat) (Z0 : n0 ≤ h0.size) (O0 : Old Z n0 h0) (S0 : Sta Z Z.heap "java/lang/String" "COMPACT_STRINGS" "Z" (.int cs)) (hcs : ¬ cs = (0 : Int32)) :
    own_MetW l Z x code maxLocals ret tables_1 room_1 #[(.long q0), (.long q1), (.long q2), (.long q3), (.int p4), (.int p5)] h0 32 4288 (fun v h L => v = some (.int 1) ∧ Fr n0 L) := by
  refine own_metW (plainFor_of_name pn_rm0) ?_
  intro p e s m below meth c s₁ Bd hml0 hZ X0 e0 hS0
  have hk0 : 0 ≤ h0.size := Nat.zero_le _
  have hx := Bd.exec
  have hby := Bd.bytes
  have hml : c.maxLocals = 24 := hml0
  have hown : (s.setVm s.vm).vm.findClass "com/example/uptik/uptik/model/HoldingsSameRecordAsPinLaw" = some m.cls := findClass_of_methodNamed Bd.named
  have hnm := (name_of_methodNamed Bd.named Bd.method).1
  refine own_cast (ef_rm0 m q0 q1 q2 q3 p4 p5) ?_
  generalize hQQ : (fun (v : Option Value) (h : Heap) (L : List Loc) => v = some (.int 1) ∧ Fr n0 L) = QQ
  have N0 := Fr.nil n0
  refine own_go (g' := (mkF m 1 #[.val (.long q0), .second, .val (.long q1), .second, .val (.long q2), .second, .val (.long q3), .second, .val (.int p4), .val (.int p5), .unset, .unset, .unset, .unset, .unset, .unset, .unset, .unset, .unset, .unset, .unset, .unset, .unset, .unset] [(.int (1 : Int32))])) (fun _ kgo => XS.iconst X0.here hx rfl (hb hby at_0) kgo) ?_
  obtain ⟨T1, h1, k1, X1, e1, E1, A1, st1⟩ := newP X0 hx hZ (hw _ (List.mem_of_getElem? (i := 0) rfl)) e0 (g := (mkF m 1 #[.val (.long q0), .second, .val (.long q1), .second, .val (.long q2), .second, .val (.long q3), .second, .val (.int p4), .val (.int p5), .unset, .unset, .unset, .unset, .unset, .unset, .unset, .unset, .unset, .unset, .unset, .unset, .unset, .unset] [(.int (1 : Int32))])) rfl (hb hby at_1) rfl (by decide) (cap := 1) (by decide) (by decide) (by decide) (by decide)
  obtain ⟨b1, ad1⟩ : ∃ z, z = h0.size := ⟨_, rfl⟩
  rw [← ad1] at A1 st1
  have ge_b1 : n0 ≤ b1 := by rw [ad1]; exact Z0
  have hk1 := Nat.le_trans hk0 E1.1
  have Z1 : n0 ≤ h1.size := Nat.le_trans Z0 E1.1
  have V1 : Arv Z h1 b1 k1 .char (1 : Int32) [(.int (0 : Int32))] (.int (0 : Int32)) := (Arv.new A1 (by decide)).pad (pad_rep [] (.int (0 : Int32)) 1)
  refine own_go (g' := (mkF m 3 #[.val (.long q0), .second, .val (.long q1), .second, .val (.long q2), .second, .val (.long q3), .second, .val (.int p4), .val (.int p5), .unset, .unset, .unset, .unset, .unset, .unset, .unset, .unset, .unset, .unset, .unset, .unset, .unset, .unset] [(.ref b1)])) (st1) ?_
  refine own_go (g' := (mkF m 4 #[.val (.long q0), .second, .val (.long q1), .second, .val (.long q2), .second, .val (.long q3), .second, .val (.int p4), .val (.int p5), .unset, .unset, .unset, .unset, .unset, .unset, .unset, .unset, .unset, .unset, .unset, .unset, .unset, .unset] [(.ref b1), (.ref b1)])) (fun _ kgo => XS.dup X1.here hx rfl (hb hby at_3) rfl rfl kgo) ?_
  refine own_go (g' := (mkF m 5 #[.val (.long q0), .second, .val (.long q1), .second, .val (.long q2), .second, .val (.long q3), .second, .val (.int p4), .val (.int p5), .unset, .unset, .unset, .unset, .unset, .unset, .unset, .unset, .unset, .unset, .unset, .unset, .unset, .unset] [(.int (0 : Int32)), (.ref b1), (.ref b1)])) (fun _ kgo => XS.iconst X1.here hx rfl (hb hby at_4) kgo) ?_
  refine own_go (g' := (mkF m 7 #[.val (.long q0), .second, .val (.long q1), .second, .val (.long q2), .second, .val (.long q3), .second, .val (.int p4), .val (.int p5), .unset, .unset, .unset, .unset, .unset, .unset, .unset, .unset, .unset, .unset, .unset, .unset, .unset, .unset] [(.int p5), (.int (0 : Int32)), (.ref b1), (.ref b1)])) (fun _ kgo => XS.iload X1.here hx rfl (hb hby at_5) rfl kgo) ?_
  refine own_go (g' := (mkF m 10 #[.val (.long q0), .second, .val (.long q1), .second, .val (.long q2), .second, .val (.long q3), .second, .val (.int p4), .val (.int p5), .unset, .unset, .unset, .unset, .unset, .unset, .unset, .unset, .unset, .unset, .unset, .unset, .unset, .unset] [(.int (255 : Int32)), (.int p5), (.int (0 : Int32)), (.ref b1), (.ref b1)])) (fun _ kgo => XS.sipush X1.here hx rfl (hb hby at_7) kgo) ?_
  refine own_go (g' := (mkF m 11 #[.val (.long q0), .second, .val (.long q1), .second, .val (.long q2), .second, .val (.long q3), .second, .val (.int p4), .val (.int p5), .unset, .unset, .unset, .unset, .unset, .unset, .unset, .unset, .unset, .unset, .unset, .unset, .unset, .unset] [(.int (p5 &&& (255 : Int32))), (.int (0 : Int32)), (.ref b1), (.ref b1)])) (fun _ kgo => XS.iand X1.here hx rfl (hb hby at_10) rfl kgo) ?_
  refine own_go (g' := (mkF m 12 #[.val (.long q0), .second, .val (.long q1), .second, .val (.long q2), .second, .val (.long q3), .second, .val (.int p4), .val (.int p5), .unset, .unset, .unset, .unset, .unset, .unset, .unset, .unset, .unset, .unset, .unset, .unset, .unset, .unset] [(.int ((p5 &&& (255 : Int32)).toUInt32.toUInt16.toUInt32.toInt32)), (.int (0 : Int32)), (.ref b1), (.ref b1)])) (fun _ kgo => XS.i2c X1.here hx rfl (hb hby at_11) rfl kgo) ?_
  obtain ⟨cl2, Ar2, qk2, sz2, nn2, Hs2, Gs2⟩ := id V1
  have hin2 : ¬ ((0 : Int32) < 0 ∨ cl2.slots.size ≤ ((0 : Int32)).toNatClampNeg) := inb_of sz2 ⟨by decide, by decide⟩
  obtain ⟨T2, h2, X2, e2, W2, st2⟩ := stC X1 hx hZ e1 Ar2 (j := (0 : Int32)) hin2 (g := (mkF m 12 #[.val (.long q0), .second, .val (.long q1), .second, .val (.long q2), .second, .val (.long q3), .second, .val (.int p4), .val (.int p5), .unset, .unset, .unset, .unset, .unset, .unset, .unset, .unset, .unset, .unset, .unset, .unset, .unset, .unset] [(.int ((p5 &&& (255 : Int32)).toUInt32.toUInt16.toUInt32.toInt32)), (.int (0 : Int32)), (.ref b1), (.ref b1)])) rfl rfl (hb hby at_12)
  have V2 : Arv Z h2 b1 k1 .char (1 : Int32) [(.int (nar .char ((p5 &&& (255 : Int32)).toUInt32.toUInt16.toUInt32.toInt32)))] (.int (0 : Int32)) := Arv.set Ar2 qk2 sz2 nn2 Hs2 Gs2 (fits_nar_char _) W2 0 rfl (Nat.le_of_ble_eq_true rfl)
  have hk2 := Nat.le_trans hk1 (Nat.le_of_eq W2.size.symm)
  have N2 := Fr.snoc X2 N0 ge_b1
  have Z2 : n0 ≤ h2.size := by rw [W2.size]; exact Z1
  refine own_go (g' := (mkF m 13 #[.val (.long q0), .second, .val (.long q1), .second, .val (.long q2), .second, .val (.long q3), .second, .val (.int p4), .val (.int p5), .unset, .unset, .unset, .unset, .unset, .unset, .unset, .unset, .unset, .unset, .unset, .unset, .unset, .unset] [(.ref b1)])) (st2) ?_
  refine own_go (g' := (mkF m 15 #[.val (.long q0), .second, .val (.long q1), .second, .val (.long q2), .second, .val (.long q3), .second, .val (.int p4), .val (.int p5), .val (.ref b1), .unset, .unset, .unset, .unset, .unset, .unset, .unset, .unset, .unset, .unset, .unset, .unset, .unset] [])) (fun _ kgo => XS.astore X2.here hx rfl (hb hby at_13) rfl rfl (l' := #[.val (.long q0), .second, .val (.long q1), .second, .val (.long q2), .second, .val (.long q3), .second, .val (.int p4), .val (.int p5), .val (.ref b1), .unset, .unset, .unset, .unset, .unset, .unset, .unset, .unset, .unset, .unset, .unset, .unset, .unset]) rfl kgo) ?_
  refine own_go (g' := (mkF m 16 #[.val (.long q0), .second, .val (.long q1), .second, .val (.long q2), .second, .val (.long q3), .second, .val (.int p4), .val (.int p5), .val (.ref b1), .unset, .unset, .unset, .unset, .unset, .unset, .unset, .unset, .unset, .unset, .unset, .unset, .unset] [(.int (2 : Int32))])) (fun _ kgo => XS.iconst X2.here hx rfl (hb hby at_15) kgo) ?_
  obtain ⟨T3, h3, k3, X3, e3, E3, A3, st3⟩ := newP X2 hx hZ (hw _ (List.mem_of_getElem? (i := 0) rfl)) e2 (g := (mkF m 16 #[.val (.long q0), .second, .val (.long q1), .second, .val (.long q2), .second, .val (.long q3), .second, .val (.int p4), .val (.int p5), .val (.ref b1), .unset, .unset, .unset, .unset, .unset, .unset, .unset, .unset, .unset, .unset, .unset, .unset, .unset] [(.int (2 : Int32))])) rfl (hb hby at_16) rfl (by decide) (cap := 2) (by decide) (by decide) (by decide) (by decide)
  obtain ⟨b3, ad3⟩ : ∃ z, z = h2.size := ⟨_, rfl⟩
  rw [← ad3] at A3 st3
  have ne_b1_b3 : b1 ≠ b3 := Nat.ne_of_lt (by rw [ad3]; exact V2.lt)
  have ge_b3 : n0 ≤ b3 := by rw [ad3]; exact Z2
  have hk3 := Nat.le_trans hk2 E3.1
  have Z3 : n0 ≤ h3.size := Nat.le_trans Z2 E3.1
  have V3 : Arv Z h3 b3 k3 .char (2 : Int32) [(.int (0 : Int32)), (.int (0 : Int32))] (.int (0 : Int32)) := (Arv.new A3 (by decide)).pad (pad_rep [] (.int (0 : Int32)) 2)
  refine own_go (g' := (mkF m 18 #[.val (.long q0), .second, .val (.long q1), .second, .val (.long q2), .second, .val (.long q3), .second, .val (.int p4), .val (.int p5), .val (.ref b1), .unset, .unset, .unset, .unset, .unset, .unset, .unset, .unset, .unset, .unset, .unset, .unset, .unset] [(.ref b3)])) (st3) ?_
  refine own_go (g' := (mkF m 19 #[.val (.long q0), .second, .val (.long q1), .second, .val (.long q2), .second, .val (.long q3), .second, .val (.int p4), .val (.int p5), .val (.ref b1), .unset, .unset, .unset, .unset, .unset, .unset, .unset, .unset, .unset, .unset, .unset, .unset, .unset] [(.ref b3), (.ref b3)])) (fun _ kgo => XS.dup X3.here hx rfl (hb hby at_18) rfl rfl kgo) ?_
  refine own_go (g' := (mkF m 20 #[.val (.long q0), .second, .val (.long q1), .second, .val (.long q2), .second, .val (.long q3), .second, .val (.int p4), .val (.int p5), .val (.ref b1), .unset, .unset, .unset, .unset, .unset, .unset, .unset, .unset, .unset, .unset, .unset, .unset, .unset] [(.int (0 : Int32)), (.ref b3), (.ref b3)])) (fun _ kgo => XS.iconst X3.here hx rfl (hb hby at_19) kgo) ?_
  refine own_go (g' := (mkF m 22 #[.val (.long q0), .second, .val (.long q1), .second, .val (.long q2), .second, .val (.long q3), .second, .val (.int p4), .val (.int p5), .val (.ref b1), .unset, .unset, .unset, .unset, .unset, .unset, .unset, .unset, .unset, .unset, .unset, .unset, .unset] [(.int p5), (.int (0 : Int32)), (.ref b3), (.ref b3)])) (fun _ kgo => XS.iload X3.here hx rfl (hb hby at_20) rfl kgo) ?_
  refine own_go (g' := (mkF m 24 #[.val (.long q0), .second, .val (.long q1), .second, .val (.long q2), .second, .val (.long q3), .second, .val (.int p4), .val (.int p5), .val (.ref b1), .unset, .unset, .unset, .unset, .unset, .unset, .unset, .unset, .unset, .unset, .unset, .unset, .unset] [(.int (8 : Int32)), (.int p5), (.int (0 : Int32)), (.ref b3), (.ref b3)])) (fun _ kgo => XS.bipush X3.here hx rfl (hb hby at_22) kgo) ?_
  refine own_go (g' := (mkF m 25 #[.val (.long q0), .second, .val (.long q1), .second, .val (.long q2), .second, .val (.long q3), .second, .val (.int p4), .val (.int p5), .val (.ref b1), .unset, .unset, .unset, .unset, .unset, .unset, .unset, .unset, .unset, .unset, .unset, .unset, .unset] [(.int ((p5.toUInt32 >>> ((8 : Int32) &&& 31).toUInt32).toInt32)), (.int (0 : Int32)), (.ref b3), (.ref b3)])) (fun _ kgo => XS.iushr X3.here hx rfl (hb hby at_24) rfl kgo) ?_
  refine own_go (g' := (mkF m 28 #[.val (.long q0), .second, .val (.long q1), .second, .val (.long q2), .second, .val (.long q3), .second, .val (.int p4), .val (.int p5), .val (.ref b1), .unset, .unset, .unset, .unset, .unset, .unset, .unset, .unset, .unset, .unset, .unset, .unset, .unset] [(.int (255 : Int32)), (.int ((p5.toUInt32 >>> ((8 : Int32) &&& 31).toUInt32).toInt32)), (.int (0 : Int32)), (.ref b3), (.ref b3)])) (fun _ kgo => XS.sipush X3.here hx rfl (hb hby at_25) kgo) ?_
  refine own_go (g' := (mkF m 29 #[.val (.long q0), .second, .val (.long q1), .second, .val (.long q2), .second, .val (.long q3), .second, .val (.int p4), .val (.int p5), .val (.ref b1), .unset, .unset, .unset, .unset, .unset, .unset, .unset, .unset, .unset, .unset, .unset, .unset, .unset] [(.int (((p5.toUInt32 >>> ((8 : Int32) &&& 31).toUInt32).toInt32) &&& (255 : Int32))), (.int (0 : Int32)), (.ref b3), (.ref b3)])) (fun _ kgo => XS.iand X3.here hx rfl (hb hby at_28) rfl kgo) ?_
  refine own_go (g' := (mkF m 30 #[.val (.long q0), .second, .val (.long q1), .second, .val (.long q2), .second, .val (.long q3), .second, .val (.int p4), .val (.int p5), .val (.ref b1), .unset, .unset, .unset, .unset, .unset, .unset, .unset, .unset, .unset, .unset, .unset, .unset, .unset] [(.int ((((p5.toUInt32 >>> ((8 : Int32) &&& 31).toUInt32).toInt32) &&& (255 : Int32)).toUInt32.toUInt16.toUInt32.toInt32)), (.int (0 : Int32)), (.ref b3), (.ref b3)])) (fun _ kgo => XS.i2c X3.here hx rfl (hb hby at_29) rfl kgo) ?_
  obtain ⟨cl4, Ar4, qk4, sz4, nn4, Hs4, Gs4⟩ := id V3
  have hin4 : ¬ ((0 : Int32) < 0 ∨ cl4.slots.size ≤ ((0 : Int32)).toNatClampNeg) := inb_of sz4 ⟨by decide, by decide⟩
  obtain ⟨T4, h4, X4, e4, W4, st4⟩ := stC X3 hx hZ e3 Ar4 (j := (0 : Int32)) hin4 (g := (mkF m 30 #[.val (.long q0), .second, .val (.long q1), .second, .val (.long q2), .second, .val (.long q3), .second, .val (.int p4), .val (.int p5), .val (.ref b1), .unset, .unset, .unset, .unset, .unset, .unset, .unset, .unset, .unset, .unset, .unset, .unset, .unset] [(.int ((((p5.toUInt32 >>> ((8 : Int32) &&& 31).toUInt32).toInt32) &&& (255 : Int32)).toUInt32.toUInt16.toUInt32.toInt32)), (.int (0 : Int32)), (.ref b3), (.ref b3)])) rfl rfl (hb hby at_30)
  have V4 : Arv Z h4 b3 k3 .char (2 : Int32) [(.int (nar .char ((((p5.toUInt32 >>> ((8 : Int32) &&& 31).toUInt32).toInt32) &&& (255 : Int32)).toUInt32.toUInt16.toUInt32.toInt32))), (.int (0 : Int32))] (.int (0 : Int32)) := Arv.set Ar4 qk4 sz4 nn4 Hs4 Gs4 (fits_nar_char _) W4 0 rfl (Nat.le_of_ble_eq_true rfl)
  have hk4 := Nat.le_trans hk3 (Nat.le_of_eq W4.size.symm)
  have N4 := Fr.snoc X4 N2 ge_b3
  have Z4 : n0 ≤ h4.size := by rw [W4.size]; exact Z3
  refine own_go (g' := (mkF m 31 #[.val (.long q0), .second, .val (.long q1), .second, .val (.long q2), .second, .val (.long q3), .second, .val (.int p4), .val (.int p5), .val (.ref b1), .unset, .unset, .unset, .unset, .unset, .unset, .unset, .unset, .unset, .unset, .unset, .unset, .unset] [(.ref b3)])) (st4) ?_
  refine own_go (g' := (mkF m 32 #[.val (.long q0), .second, .val (.long q1), .second, .val (.long q2), .second, .val (.long q3), .second, .val (.int p4), .val (.int p5), .val (.ref b1), .unset, .unset, .unset, .unset, .unset, .unset, .unset, .unset, .unset, .unset, .unset, .unset, .unset] [(.ref b3), (.ref b3)])) (fun _ kgo => XS.dup X4.here hx rfl (hb hby at_31) rfl rfl kgo) ?_
  refine own_go (g' := (mkF m 33 #[.val (.long q0), .second, .val (.long q1), .second, .val (.long q2), .second, .val (.long q3), .second, .val (.int p4), .val (.int p5), .val (.ref b1), .unset, .unset, .unset, .unset, .unset, .unset, .unset, .unset, .unset, .unset, .unset, .unset, .unset] [(.int (1 : Int32)), (.ref b3), (.ref b3)])) (fun _ kgo => XS.iconst X4.here hx rfl (hb hby at_32) kgo) ?_
  refine own_go (g' := (mkF m 35 #[.val (.long q0), .second, .val (.long q1), .second, .val (.long q2), .second, .val (.long q3), .second, .val (.int p4), .val (.int p5), .val (.ref b1), .unset, .unset, .unset, .unset, .unset, .unset, .unset, .unset, .unset, .unset, .unset, .unset, .unset] [(.int p5), (.int (1 : Int32)), (.ref b3), (.ref b3)])) (fun _ kgo => XS.iload X4.here hx rfl (hb hby at_33) rfl kgo) ?_
  refine own_go (g' := (mkF m 37 #[.val (.long q0), .second, .val (.long q1), .second, .val (.long q2), .second, .val (.long q3), .second, .val (.int p4), .val (.int p5), .val (.ref b1), .unset, .unset, .unset, .unset, .unset, .unset, .unset, .unset, .unset, .unset, .unset, .unset, .unset] [(.int (16 : Int32)), (.int p5), (.int (1 : Int32)), (.ref b3), (.ref b3)])) (fun _ kgo => XS.bipush X4.here hx rfl (hb hby at_35) kgo) ?_
  refine own_go (g' := (mkF m 38 #[.val (.long q0), .second, .val (.long q1), .second, .val (.long q2), .second, .val (.long q3), .second, .val (.int p4), .val (.int p5), .val (.ref b1), .unset, .unset, .unset, .unset, .unset, .unset, .unset, .unset, .unset, .unset, .unset, .unset, .unset] [(.int ((p5.toUInt32 >>> ((16 : Int32) &&& 31).toUInt32).toInt32)), (.int (1 : Int32)), (.ref b3), (.ref b3)])) (fun _ kgo => XS.iushr X4.here hx rfl (hb hby at_37) rfl kgo) ?_
  refine own_go (g' := (mkF m 41 #[.val (.long q0), .second, .val (.long q1), .second, .val (.long q2), .second, .val (.long q3), .second, .val (.int p4), .val (.int p5), .val (.ref b1), .unset, .unset, .unset, .unset, .unset, .unset, .unset, .unset, .unset, .unset, .unset, .unset, .unset] [(.int (255 : Int32)), (.int ((p5.toUInt32 >>> ((16 : Int32) &&& 31).toUInt32).toInt32)), (.int (1 : Int32)), (.ref b3), (.ref b3)])) (fun _ kgo => XS.sipush X4.here hx rfl (hb hby at_38) kgo) ?_
  refine own_go (g' := (mkF m 42 #[.val (.long q0), .second, .val (.long q1), .second, .val (.long q2), .second, .val (.long q3), .second, .val (.int p4), .val (.int p5), .val (.ref b1), .unset, .unset, .unset, .unset, .unset, .unset, .unset, .unset, .unset, .unset, .unset, .unset, .unset] [(.int (((p5.toUInt32 >>> ((16 : Int32) &&& 31).toUInt32).toInt32) &&& (255 : Int32))), (.int (1 : Int32)), (.ref b3), (.ref b3)])) (fun _ kgo => XS.iand X4.here hx rfl (hb hby at_41) rfl kgo) ?_
  refine own_go (g' := (mkF m 43 #[.val (.long q0), .second, .val (.long q1), .second, .val (.long q2), .second, .val (.long q3), .second, .val (.int p4), .val (.int p5), .val (.ref b1), .unset, .unset, .unset, .unset, .unset, .unset, .unset, .unset, .unset, .unset, .unset, .unset, .unset] [(.int ((((p5.toUInt32 >>> ((16 : Int32) &&& 31).toUInt32).toInt32) &&& (255 : Int32)).toUInt32.toUInt16.toUInt32.toInt32)), (.int (1 : Int32)), (.ref b3), (.ref b3)])) (fun _ kgo => XS.i2c X4.here hx rfl (hb hby at_42) rfl kgo) ?_
  obtain ⟨cl5, Ar5, qk5, sz5, nn5, Hs5, Gs5⟩ := id V4
  have hin5 : ¬ ((1 : Int32) < 0 ∨ cl5.slots.size ≤ ((1 : Int32)).toNatClampNeg) := inb_of sz5 ⟨by decide, by decide⟩
  obtain ⟨T5, h5, X5, e5, W5, st5⟩ := stC X4 hx hZ e4 Ar5 (j := (1 : Int32)) hin5 (g := (mkF m 43 #[.val (.long q0), .second, .val (.long q1), .second, .val (.long q2), .second, .val (.long q3), .second, .val (.int p4), .val (.int p5), .val (.ref b1), .unset, .unset, .unset, .unset, .unset, .unset, .unset, .unset, .unset, .unset, .unset, .unset, .unset] [(.int ((((p5.toUInt32 >>> ((16 : Int32) &&& 31).toUInt32).toInt32) &&& (255 : Int32)).toUInt32.toUInt16.toUInt32.toInt32)), (.int (1 : Int32)), (.ref b3), (.ref b3)])) rfl rfl (hb hby at_43)
  have V5 : Arv Z h5 b3 k3 .char (2 : Int32) [(.int (nar .char ((((p5.toUInt32 >>> ((8 : Int32) &&& 31).toUInt32).toInt32) &&& (255 : Int32)).toUInt32.toUInt16.toUInt32.toInt32))), (.int (nar .char ((((p5.toUInt32 >>> ((16 : Int32) &&& 31).toUInt32).toInt32) &&& (255 : Int32)).toUInt32.toUInt16.toUInt32.toInt32)))] (.int (0 : Int32)) := Arv.set Ar5 qk5 sz5 nn5 Hs5 Gs5 (fits_nar_char _) W5 1 rfl (Nat.le_of_ble_eq_true rfl)
  have hk5 := Nat.le_trans hk4 (Nat.le_of_eq W5.size.symm)
  have N5 := Fr.snoc X5 N4 ge_b3
  have Z5 : n0 ≤ h5.size := by rw [W5.size]; exact Z4
  refine own_go (g' := (mkF m 44 #[.val (.long q0), .second, .val (.long q1), .second, .val (.long q2), .second, .val (.long q3), .second, .val (.int p4), .val (.int p5), .val (.ref b1), .unset, .unset, .unset, .unset, .unset, .unset, .unset, .unset, .unset, .unset, .unset, .unset, .unset] [(.ref b3)])) (st5) ?_
  refine own_go (g' := (mkF m 46 #[.val (.long q0), .second, .val (.long q1), .second, .val (.long q2), .second, .val (.long q3), .second, .val (.int p4), .val (.int p5), .val (.ref b1), .val (.ref b3), .unset, .unset, .unset, .unset, .unset, .unset, .unset, .unset, .unset, .unset, .unset, .unset] [])) (fun _ kgo => XS.astore X5.here hx rfl (hb hby at_44) rfl rfl (l' := #[.val (.long q0), .second, .val (.long q1), .second, .val (.long q2), .second, .val (.long q3), .second, .val (.int p4), .val (.int p5), .val (.ref b1), .val (.ref b3), .unset, .unset, .unset, .unset, .unset, .unset, .unset, .unset, .unset, .unset, .unset, .unset]) rfl kgo) ?_
  obtain ⟨T6, h6, X6, e6, E6, A6, D6, -, st6⟩ := newO X5 hx hZ hown (hw _ (List.mem_of_getElem? (i := 1) rfl)) (hw _ (List.mem_of_getElem? (i := 2) rfl)) (hw _ (List.mem_of_getElem? (i := 3) rfl)) e5 (g := (mkF m 46 #[.val (.long q0), .second, .val (.long q1), .second, .val (.long q2), .second, .val (.long q3), .second, .val (.int p4), .val (.int p5), .val (.ref b1), .val (.ref b3), .unset, .unset, .unset, .unset, .unset, .unset, .unset, .unset, .unset, .unset, .unset, .unset] [])) rfl (hb hby at_46) (by decide) (by decide)
  obtain ⟨b6, ad6⟩ : ∃ z, z = h5.size := ⟨_, rfl⟩
  rw [← ad6] at A6 D6 st6
  have fx7 : Arv Z h5 b1 k1 .char (1 : Int32) [(.int (nar .char ((p5 &&& (255 : Int32)).toUInt32.toUInt16.toUInt32.toInt32)))] (.int (0 : Int32)) := (Arv.other (Arv.other (Arv.ext V2 E3) W4 ne_b1_b3) W5 ne_b1_b3)
  have ne_b1_b6 : b1 ≠ b6 := Nat.ne_of_lt (by rw [ad6]; exact fx7.lt)
  have ne_b3_b6 : b3 ≠ b6 := Nat.ne_of_lt (by rw [ad6]; exact V5.lt)
  have ge_b6 : n0 ≤ b6 := by rw [ad6]; exact Z5
  have hk6 := Nat.le_trans hk5 E6.1
  have Z6 : n0 ≤ h6.size := Nat.le_trans Z5 E6.1
  have F6_coder : Fld Z h6 b6 "java/lang/String" "coder" "B" (.int (0 : Int32)) := D6 (Or.inr (hw _ (List.mem_of_getElem? (i := 27) rfl))) (ty := .byte) (by decide)
  have F6_value : Fld Z h6 b6 "java/lang/String" "value" "[B" .null := D6 (Or.inr (hw _ (List.mem_of_getElem? (i := 29) rfl))) (ty := (.array .byte)) (by decide)
  refine own_go (g' := (mkF m 49 #[.val (.long q0), .second, .val (.long q1), .second, .val (.long q2), .second, .val (.long q3), .second, .val (.int p4), .val (.int p5), .val (.ref b1), .val (.ref b3), .unset, .unset, .unset, .unset, .unset, .unset, .unset, .unset, .unset, .unset, .unset, .unset] [(.ref b6)])) (st6) ?_
  refine own_go (g' := (mkF m 50 #[.val (.long q0), .second, .val (.long q1), .second, .val (.long q2), .second, .val (.long q3), .second, .val (.int p4), .val (.int p5), .val (.ref b1), .val (.ref b3), .unset, .unset, .unset, .unset, .unset, .unset, .unset, .unset, .unset, .unset, .unset, .unset] [(.ref b6), (.ref b6)])) (fun _ kgo => XS.dup X6.here hx rfl (hb hby at_49) rfl rfl kgo) ?_
  refine own_go (g' := (mkF m 52 #[.val (.long q0), .second, .val (.long q1), .second, .val (.long q2), .second, .val (.long q3), .second, .val (.int p4), .val (.int p5), .val (.ref b1), .val (.ref b3), .unset, .unset, .unset, .unset, .unset, .unset, .unset, .unset, .unset, .unset, .unset, .unset] [(.ref b1), (.ref b6), (.ref b6)])) (fun _ kgo => XS.aload X6.here hx rfl (hb hby at_50) rfl rfl kgo) ?_
  have fx9 : Old Z n0 h6 := (Old.ext (Old.wr (Old.wr (Old.ext (Old.wr (Old.ext O0 E1) W2 ge_b1) E3) W4 ge_b3) W5 ge_b3) E6)
  have fx10 : Arv Z h6 b1 k1 .char (1 : Int32) [(.int (nar .char ((p5 &&& (255 : Int32)).toUInt32.toUInt16.toUInt32.toInt32)))] (.int (0 : Int32)) := (Arv.ext fx7 E6)
  obtain ⟨v8, T8, L8, hQ8, X8, st8⟩ := own_callI X6 hx hZ (y := (⟨"java/lang/String", "<init>", "([C)V"⟩ : MethodName)) rfl hown (hw _ (List.mem_of_getElem? (i := 4) rfl)) (hw _ (List.mem_of_getElem? (i := 5) rfl)) (hw _ (List.mem_of_getElem? (i := 3) rfl)) (hw _ (List.mem_of_getElem? (i := 6) rfl)) ⟨by decide, by decide⟩ (a := b6) (argsL := [(.ref b1)]) (sib1 l Z a0 hw b6 b1 (nar .char ((p5 &&& (255 : Int32)).toUInt32.toUInt16.toUInt32.toInt32)) k1 cs h6 n0 Z6 ge_b6 A6 F6_value F6_coder fx10 (Sta.ext fx9.2 S0) (own_ch _) hcs ne_b1_b6) e6 (g := (mkF m 52 #[.val (.long q0), .second, .val (.long q1), .second, .val (.long q2), .second, .val (.long q3), .second, .val (.int p4), .val (.int p5), .val (.ref b1), .val (.ref b3), .unset, .unset, .unset, .unset, .unset, .unset, .unset, .unset, .unset, .unset, .unset, .unset] [(.ref b1), (.ref b6), (.ref b6)])) rfl (by rw [hml]; rfl) (rest := [(.ref b6)]) (lenOf pd0_0 rfl) rfl (hb hby at_52) (W := 1) (by show 2 * 0 + _ ≤ _; exact Nat.le_of_eq rfl) (by decide) (by decide) (by decide) (by decide)
  obtain ⟨r8, kr8, rfl, Nq8, Kq8, pr8_0, q8_0, q8_1, q8_2, q8_3⟩ := hQ8
  have ne_b1_r8 : b1 ≠ r8 := Nat.ne_of_lt (Nat.lt_of_lt_of_le fx10.lt pr8_0)
  have fx11 : Arv Z h6 b3 k3 .char (2 : Int32) [(.int (nar .char ((((p5.toUInt32 >>> ((8 : Int32) &&& 31).toUInt32).toInt32) &&& (255 : Int32)).toUInt32.toUInt16.toUInt32.toInt32))), (.int (nar .char ((((p5.toUInt32 >>> ((16 : Int32) &&& 31).toUInt32).toInt32) &&& (255 : Int32)).toUInt32.toUInt16.toUInt32.toInt32)))] (.int (0 : Int32)) := (Arv.ext V5 E6)
  have ne_b3_r8 : b3 ≠ r8 := Nat.ne_of_lt (Nat.lt_of_lt_of_le fx11.lt pr8_0)
  have ne_b6_r8 : b6 ≠ r8 := Nat.ne_of_lt (Nat.lt_of_lt_of_le A6.lt pr8_0)
  have ge_r8 : n0 ≤ r8 := Nat.le_trans Z6 pr8_0
  have N8 := Fr.app N5 Nq8
  have hk8 := Nat.le_trans hk6 Kq8.1
  have Z8 : n0 ≤ T8.heap.size := Nat.le_trans Z6 Kq8.1
  refine own_go (g' := (mkF m 55 #[.val (.long q0), .second, .val (.long q1), .second, .val (.long q2), .second, .val (.long q3), .second, .val (.int p4), .val (.int p5), .val (.ref b1), .val (.ref b3), .unset, .unset, .unset, .unset, .unset, .unset, .unset, .unset, .unset, .unset, .unset, .unset] [(.ref b6)])) (st8) ?_
  refine own_go (g' := (mkF m 57 #[.val (.long q0), .second, .val (.long q1), .second, .val (.long q2), .second, .val (.long q3), .second, .val (.int p4), .val (.int p5), .val (.ref b1), .val (.ref b3), .val (.ref b6), .unset, .unset, .unset, .unset, .unset, .unset, .unset, .unset, .unset, .unset, .unset] [])) (fun _ kgo => XS.astore X8.here hx rfl (hb hby at_55) rfl rfl (l' := #[.val (.long q0), .second, .val (.long q1), .second, .val (.long q2), .second, .val (.long q3), .second, .val (.int p4), .val (.int p5), .val (.ref b1), .val (.ref b3), .val (.ref b6), .unset, .unset, .unset, .unset, .unset, .unset, .unset, .unset, .unset, .unset, .unset]) rfl kgo) ?_
  obtain ⟨T12, h12, X12, e12, E12, A12, D12, -, st12⟩ := newO X8 hx hZ hown (hw _ (List.mem_of_getElem? (i := 1) rfl)) (hw _ (List.mem_of_getElem? (i := 2) rfl)) (hw _ (List.mem_of_getElem? (i := 3) rfl)) rfl (g := (mkF m 57 #[.val (.long q0), .second, .val (.long q1), .second, .val (.long q2), .second, .val (.long q3), .second, .val (.int p4), .val (.int p5), .val (.ref b1), .val (.ref b3), .val (.ref b6), .unset, .unset, .unset, .unset, .unset, .unset, .unset, .unset, .unset, .unset, .unset] [])) rfl (hb hby at_57) (by decide) (by decide)
  obtain ⟨b12, ad12⟩ : ∃ z, z = T8.heap.size := ⟨_, rfl⟩
  rw [← ad12] at A12 D12 st12
  have fx13 : Arv Z T8.heap b1 k1 .char (1 : Int32) [(.int (nar .char ((p5 &&& (255 : Int32)).toUInt32.toUInt16.toUInt32.toInt32)))] (.int (0 : Int32)) := (Arv.keep fx10 Kq8 (ninS ne_b1_b6 nin0))
  have ne_b1_b12 : b1 ≠ b12 := Nat.ne_of_lt (by rw [ad12]; exact fx13.lt)
  have fx14 : Arv Z T8.heap b3 k3 .char (2 : Int32) [(.int (nar .char ((((p5.toUInt32 >>> ((8 : Int32) &&& 31).toUInt32).toInt32) &&& (255 : Int32)).toUInt32.toUInt16.toUInt32.toInt32))), (.int (nar .char ((((p5.toUInt32 >>> ((16 : Int32) &&& 31).toUInt32).toInt32) &&& (255 : Int32)).toUInt32.toUInt16.toUInt32.toInt32)))] (.int (0 : Int32)) := (Arv.keep fx11 Kq8 (ninS ne_b3_b6 nin0))
  have ne_b3_b12 : b3 ≠ b12 := Nat.ne_of_lt (by rw [ad12]; exact fx14.lt)
  have ne_b6_b12 : b6 ≠ b12 := Nat.ne_of_lt (by rw [ad12]; exact q8_0.lt)
  have ne_r8_b12 : r8 ≠ b12 := Nat.ne_of_lt (by rw [ad12]; exact q8_3.lt)
  have ge_b12 : n0 ≤ b12 := by rw [ad12]; exact Z8
  have hk12 := Nat.le_trans hk8 E12.1
  have Z12 : n0 ≤ h12.size := Nat.le_trans Z8 E12.1
  have F12_coder : Fld Z h12 b12 "java/lang/String" "coder" "B" (.int (0 : Int32)) := D12 (Or.inr (hw _ (List.mem_of_getElem? (i := 27) rfl))) (ty := .byte) (by decide)
  have F12_value : Fld Z h12 b12 "java/lang/String" "value" "[B" .null := D12 (Or.inr (hw _ (List.mem_of_getElem? (i := 29) rfl))) (ty := (.array .byte)) (by decide)
  refine own_go (g' := (mkF m 60 #[.val (.long q0), .second, .val (.long q1), .second, .val (.long q2), .second, .val (.long q3), .second, .val (.int p4), .val (.int p5), .val (.ref b1), .val (.ref b3), .val (.ref b6), .unset, .unset, .unset, .unset, .unset, .unset, .unset, .unset, .unset, .unset, .unset] [(.ref b12)])) (st12) ?_
  refine own_go (g' := (mkF m 61 #[.val (.long q0), .second, .val (.long q1), .second, .val (.long q2), .second, .val (.long q3), .second, .val (.int p4), .val (.int p5), .val (.ref b1), .val (.ref b3), .val (.ref b6), .unset, .unset, .unset, .unset, .unset, .unset, .unset, .unset, .unset, .unset, .unset] [(.ref b12), (.ref b12)])) (fun _ kgo => XS.dup X12.here hx rfl (hb hby at_60) rfl rfl kgo) ?_
  refine own_go (g' := (mkF m 63 #[.val (.long q0), .second, .val (.long q1), .second, .val (.long q2), .second, .val (.long q3), .second, .val (.int p4), .val (.int p5), .val (.ref b1), .val (.ref b3), .val (.ref b6), .unset, .unset, .unset, .unset, .unset, .unset, .unset, .unset, .unset, .unset, .unset] [(.ref b3), (.ref b12), (.ref b12)])) (fun _ kgo => XS.aload X12.here hx rfl (hb hby at_61) rfl rfl kgo) ?_
  have fx16 : Old Z n0 h12 := (Old.ext (Old.keep fx9 Kq8 (allS ge_b6 all0)) E12)
  have fx17 : Arv Z h12 b3 k3 .char (2 : Int32) [(.int (nar .char ((((p5.toUInt32 >>> ((8 : Int32) &&& 31).toUInt32).toInt32) &&& (255 : Int32)).toUInt32.toUInt16.toUInt32.toInt32))), (.int (nar .char ((((p5.toUInt32 >>> ((16 : Int32) &&& 31).toUInt32).toInt32) &&& (255 : Int32)).toUInt32.toUInt16.toUInt32.toInt32)))] (.int (0 : Int32)) := (Arv.ext fx14 E12)
  obtain ⟨v15, T15, L15, hQ15, X15, st15⟩ := own_callI X12 hx hZ (y := (⟨"java/lang/String", "<init>", "([C)V"⟩ : MethodName)) rfl hown (hw _ (List.mem_of_getElem? (i := 4) rfl)) (hw _ (List.mem_of_getElem? (i := 5) rfl)) (hw _ (List.mem_of_getElem? (i := 3) rfl)) (hw _ (List.mem_of_getElem? (i := 6) rfl)) ⟨by decide, by decide⟩ (a := b12) (argsL := [(.ref b3)]) (sib2 l Z a0 hw b12 b3 (nar .char ((((p5.toUInt32 >>> ((8 : Int32) &&& 31).toUInt32).toInt32) &&& (255 : Int32)).toUInt32.toUInt16.toUInt32.toInt32)) (nar .char ((((p5.toUInt32 >>> ((16 : Int32) &&& 31).toUInt32).toInt32) &&& (255 : Int32)).toUInt32.toUInt16.toUInt32.toInt32)) k3 cs h12 n0 Z12 ge_b12 A12 F12_value F12_coder fx17 (Sta.ext fx16.2 S0) (own_ch _) (own_ch _) hcs ne_b3_b12) e12 (g := (mkF m 63 #[.val (.long q0), .second, .val (.long q1), .second, .val (.long q2), .second, .val (.long q3), .second, .val (.int p4), .val (.int p5), .val (.ref b1), .val (.ref b3), .val (.ref b6), .unset, .unset, .unset, .unset, .unset, .unset, .unset, .unset, .unset, .unset, .unset] [(.ref b3), (.ref b12), (.ref b12)])) rfl (by rw [hml]; rfl) (rest := [(.ref b12)]) (lenOf pd0_0 rfl) rfl (hb hby at_63) (W := 1) (by show 2 * 0 + _ ≤ _; exact Nat.le_of_eq rfl) (by decide) (by decide) (by decide) (by decide)
  obtain ⟨r15, kr15, rfl, Nq15, Kq15, pr15_0, q15_0, q15_1, q15_2, q15_3⟩ := hQ15
  have fx18 : Arv Z h12 b1 k1 .char (1 : Int32) [(.int (nar .char ((p5 &&& (255 : Int32)).toUInt32.toUInt16.toUInt32.toInt32)))] (.int (0 : Int32)) := (Arv.ext fx13 E12)
  have ne_b1_r15 : b1 ≠ r15 := Nat.ne_of_lt (Nat.lt_of_lt_of_le fx18.lt pr15_0)
  have ne_b3_r15 : b3 ≠ r15 := Nat.ne_of_lt (Nat.lt_of_lt_of_le fx17.lt pr15_0)
  have fx19 : Exa Z h12 b6 "java/lang/String" := (Exa.ext E12 q8_0)
  have ne_b6_r15 : b6 ≠ r15 := Nat.ne_of_lt (Nat.lt_of_lt_of_le fx19.lt pr15_0)
  have fx20 : Arv Z h12 r8 kr8 .byte (1 : Int32) [(.int (((nar .char ((p5 &&& (255 : Int32)).toUInt32.toUInt16.toUInt32.toInt32)).toInt8.toInt32)).toInt8.toInt32)] (.int (0 : Int32)) := (Arv.ext q8_3 E12)
  have ne_r8_r15 : r8 ≠ r15 := Nat.ne_of_lt (Nat.lt_of_lt_of_le fx20.lt pr15_0)
  have ne_b12_r15 : b12 ≠ r15 := Nat.ne_of_lt (Nat.lt_of_lt_of_le A12.lt pr15_0)
  have ge_r15 : n0 ≤ r15 := Nat.le_trans Z12 pr15_0
  have N15 := Fr.app N8 Nq15
  have hk15 := Nat.le_trans hk12 Kq15.1
  have Z15 : n0 ≤ T15.heap.size := Nat.le_trans Z12 Kq15.1
  refine own_go (g' := (mkF m 66 #[.val (.long q0), .second, .val (.long q1), .second, .val (.long q2), .second, .val (.long q3), .second, .val (.int p4), .val (.int p5), .val (.ref b1), .val (.ref b3), .val (.ref b6), .unset, .unset, .unset, .unset, .unset, .unset, .unset, .unset, .unset, .unset, .unset] [(.ref b12)])) (st15) ?_
  refine own_go (g' := (mkF m 68 #[.val (.long q0), .second, .val (.long q1), .second, .val (.long q2), .second, .val (.long q3), .second, .val (.int p4), .val (.int p5), .val (.ref b1), .val (.ref b3), .val (.ref b6), .val (.ref b12), .unset, .unset, .unset, .unset, .unset, .unset, .unset, .unset, .unset, .unset] [])) (fun _ kgo => XS.astore X15.here hx rfl (hb hby at_66) rfl rfl (l' := #[.val (.long q0), .second, .val (.long q1), .second, .val (.long q2), .second, .val (.long q3), .second, .val (.int p4), .val (.int p5), .val (.ref b1), .val (.ref b3), .val (.ref b6), .val (.ref b12), .unset, .unset, .unset, .unset, .unset, .unset, .unset, .unset, .unset, .unset]) rfl kgo) ?_
  refine own_go (g' := (mkF m 70 #[.val (.long q0), .second, .val (.long q1), .second, .val (.long q2), .second, .val (.long q3), .second, .val (.int p4), .val (.int p5), .val (.ref b1), .val (.ref b3), .val (.ref b6), .val (.ref b12), .unset, .unset, .unset, .unset, .unset, .unset, .unset, .unset, .unset, .unset] [(.int p4)])) (fun _ kgo => XS.iload X15.here hx rfl (hb hby at_68) rfl kgo) ?_
  refine own_go (g' := (mkF m 71 #[.val (.long q0), .second, .val (.long q1), .second, .val (.long q2), .second, .val (.long q3), .second, .val (.int p4), .val (.int p5), .val (.ref b1), .val (.ref b3), .val (.ref b6), .val (.ref b12), .unset, .unset, .unset, .unset, .unset, .unset, .unset, .unset, .unset, .unset] [(.int (2 : Int32)), (.int p4)])) (fun _ kgo => XS.iconst X15.here hx rfl (hb hby at_70) kgo) ?_
  refine own_go (g' := (mkF m 72 #[.val (.long q0), .second, .val (.long q1), .second, .val (.long q2), .second, .val (.long q3), .second, .val (.int p4), .val (.int p5), .val (.ref b1), .val (.ref b3), .val (.ref b6), .val (.ref b12), .unset, .unset, .unset, .unset, .unset, .unset, .unset, .unset, .unset, .unset] [(.int (p4 &&& (2 : Int32)))])) (fun _ kgo => XS.iand X15.here hx rfl (hb hby at_71) rfl kgo) ?_
  have J21 : ∀ (bd : Int64), own_Go p e below (own_PostW s QQ 32 4288) T15 (mkF m 81 #[.val (.long q0), .second, .val (.long q1), .second, .val (.long q2), .second, .val (.long q3), .second, .val (.int p4), .val (.int p5), .val (.ref b1), .val (.ref b3), .val (.ref b6), .val (.ref b12), .unset, .unset, .unset, .unset, .unset, .unset, .unset, .unset, .unset, .unset] [(.long bd)]) := by
    intro bd
    refine own_go (g' := (mkF m 83 #[.val (.long q0), .second, .val (.long q1), .second, .val (.long q2), .second, .val (.long q3), .second, .val (.int p4), .val (.int p5), .val (.ref b1), .val (.ref b3), .val (.ref b6), .val (.ref b12), .val (.long bd), .second, .unset, .unset, .unset, .unset, .unset, .unset, .unset, .unset] [])) (fun _ kgo => XS.lstore X15.here hx rfl (hb hby at_81) rfl (l' := #[.val (.long q0), .second, .val (.long q1), .second, .val (.long q2), .second, .val (.long q3), .second, .val (.int p4), .val (.int p5), .val (.ref b1), .val (.ref b3), .val (.ref b6), .val (.ref b12), .val (.long bd), .second, .unset, .unset, .unset, .unset, .unset, .unset, .unset, .unset]) rfl kgo) ?_
    refine own_go (g' := (mkF m 85 #[.val (.long q0), .second, .val (.long q1), .second, .val (.long q2), .second, .val (.long q3), .second, .val (.int p4), .val (.int p5), .val (.ref b1), .val (.ref b3), .val (.ref b6), .val (.ref b12), .val (.long bd), .second, .unset, .unset, .unset, .unset, .unset, .unset, .unset, .unset] [(.int p4)])) (fun _ kgo => XS.iload X15.here hx rfl (hb hby at_83) rfl kgo) ?_
    refine own_go (g' := (mkF m 86 #[.val (.long q0), .second, .val (.long q1), .second, .val (.long q2), .second, .val (.long q3), .second, .val (.int p4), .val (.int p5), .val (.ref b1), .val (.ref b3), .val (.ref b6), .val (.ref b12), .val (.long bd), .second, .unset, .unset, .unset, .unset, .unset, .unset, .unset, .unset] [(.int (4 : Int32)), (.int p4)])) (fun _ kgo => XS.iconst X15.here hx rfl (hb hby at_85) kgo) ?_
    refine own_go (g' := (mkF m 87 #[.val (.long q0), .second, .val (.long q1), .second, .val (.long q2), .second, .val (.long q3), .second, .val (.int p4), .val (.int p5), .val (.ref b1), .val (.ref b3), .val (.ref b6), .val (.ref b12), .val (.long bd), .second, .unset, .unset, .unset, .unset, .unset, .unset, .unset, .unset] [(.int (p4 &&& (4 : Int32)))])) (fun _ kgo => XS.iand X15.here hx rfl (hb hby at_86) rfl kgo) ?_
    have J22 : ∀ (bg : Int64), own_Go p e below (own_PostW s QQ 32 4288) T15 (mkF m 96 #[.val (.long q0), .second, .val (.long q1), .second, .val (.long q2), .second, .val (.long q3), .second, .val (.int p4), .val (.int p5), .val (.ref b1), .val (.ref b3), .val (.ref b6), .val (.ref b12), .val (.long bd), .second, .unset, .unset, .unset, .unset, .unset, .unset, .unset, .unset] [(.long bg)]) := by
      intro bg
      refine own_go (g' := (mkF m 98 #[.val (.long q0), .second, .val (.long q1), .second, .val (.long q2), .second, .val (.long q3), .second, .val (.int p4), .val (.int p5), .val (.ref b1), .val (.ref b3), .val (.ref b6), .val (.ref b12), .val (.long bd), .second, .val (.long bg), .second, .unset, .unset, .unset, .unset, .unset, .unset] [])) (fun _ kgo => XS.lstore X15.here hx rfl (hb hby at_96) rfl (l' := #[.val (.long q0), .second, .val (.long q1), .second, .val (.long q2), .second, .val (.long q3), .second, .val (.int p4), .val (.int p5), .val (.ref b1), .val (.ref b3), .val (.ref b6), .val (.ref b12), .val (.long bd), .second, .val (.long bg), .second, .unset, .unset, .unset, .unset, .unset, .unset]) rfl kgo) ?_
      obtain ⟨T23, h23, X23, e23, E23, A23, D23, -, st23⟩ := newO X15 hx hZ hown (hw _ (List.mem_of_getElem? (i := 30) rfl)) (hw _ (List.mem_of_getElem? (i := 31) rfl)) (hw _ (List.mem_of_getElem? (i := 32) rfl)) rfl (g := (mkF m 98 #[.val (.long q0), .second, .val (.long q1), .second, .val (.long q2), .second, .val (.long q3), .second, .val (.int p4), .val (.int p5), .val (.ref b1), .val (.ref b3), .val (.ref b6), .val (.ref b12), .val (.long bd), .second, .val (.long bg), .second, .unset, .unset, .unset, .unset, .unset, .unset] [])) rfl (hb hby at_98) (by decide) (by decide)
      obtain ⟨b23, ad23⟩ : ∃ z, z = T15.heap.size := ⟨_, rfl⟩
      rw [← ad23] at A23 D23 st23
      have fx24 : Arv Z T15.heap b1 k1 .char (1 : Int32) [(.int (nar .char ((p5 &&& (255 : Int32)).toUInt32.toUInt16.toUInt32.toInt32)))] (.int (0 : Int32)) := (Arv.keep fx18 Kq15 (ninS ne_b1_b12 nin0))
      have ne_b1_b23 : b1 ≠ b23 := Nat.ne_of_lt (by rw [ad23]; exact fx24.lt)
      have fx25 : Arv Z T15.heap b3 k3 .char (2 : Int32) [(.int (nar .char ((((p5.toUInt32 >>> ((8 : Int32) &&& 31).toUInt32).toInt32) &&& (255 : Int32)).toUInt32.toUInt16.toUInt32.toInt32))), (.int (nar .char ((((p5.toUInt32 >>> ((16 : Int32) &&& 31).toUInt32).toInt32) &&& (255 : Int32)).toUInt32.toUInt16.toUInt32.toInt32)))] (.int (0 : Int32)) := (Arv.keep fx17 Kq15 (ninS ne_b3_b12 nin0))
      have ne_b3_b23 : b3 ≠ b23 := Nat.ne_of_lt (by rw [ad23]; exact fx25.lt)
      have fx26 : Exa Z T15.heap b6 "java/lang/String" := (Exa.keep fx19 Kq15)
      have ne_b6_b23 : b6 ≠ b23 := Nat.ne_of_lt (by rw [ad23]; exact fx26.lt)
      have fx27 : Arv Z T15.heap r8 kr8 .byte (1 : Int32) [(.int (((nar .char ((p5 &&& (255 : Int32)).toUInt32.toUInt16.toUInt32.toInt32)).toInt8.toInt32)).toInt8.toInt32)] (.int (0 : Int32)) := (Arv.keep fx20 Kq15 (ninS ne_r8_b12 nin0))
      have ne_r8_b23 : r8 ≠ b23 := Nat.ne_of_lt (by rw [ad23]; exact fx27.lt)
      have ne_b12_b23 : b12 ≠ b23 := Nat.ne_of_lt (by rw [ad23]; exact q15_0.lt)
      have ne_r15_b23 : r15 ≠ b23 := Nat.ne_of_lt (by rw [ad23]; exact q15_3.lt)
      have ge_b23 : n0 ≤ b23 := by rw [ad23]; exact Z15
      have hk23 := Nat.le_trans hk15 E23.1
      have Z23 : n0 ≤ h23.size := Nat.le_trans Z15 E23.1
      have F23_terms : Fld Z h23 b23 "com/example/uptik/uptik/model/Holdings" "terms" "J" (.long (0 : Int64)) := D23 (Or.inr (hw _ (List.mem_of_getElem? (i := 53) rfl))) (ty := .long) (by decide)
      have F23_postings : Fld Z h23 b23 "com/example/uptik/uptik/model/Holdings" "postings" "J" (.long (0 : Int64)) := D23 (Or.inr (hw _ (List.mem_of_getElem? (i := 55) rfl))) (ty := .long) (by decide)
      have F23_digest : Fld Z h23 b23 "com/example/uptik/uptik/model/Holdings" "digest" "J" (.long (0 : Int64)) := D23 (Or.inr (hw _ (List.mem_of_getElem? (i := 57) rfl))) (ty := .long) (by decide)
      have F23_whole : Fld Z h23 b23 "com/example/uptik/uptik/model/Holdings" "whole" "Ljava/lang/String;" .null := D23 (Or.inr (hw _ (List.mem_of_getElem? (i := 59) rfl))) (ty := (.object "java/lang/String")) (by decide)
      have F23_former : Fld Z h23 b23 "com/example/uptik/uptik/model/Holdings" "former" "Ljava/lang/String;" .null := D23 (Or.inr (hw _ (List.mem_of_getElem? (i := 61) rfl))) (ty := (.object "java/lang/String")) (by decide)
      have F23_remembered : Fld Z h23 b23 "com/example/uptik/uptik/model/Holdings" "remembered" "Ljava/lang/String;" .null := D23 (Or.inr (hw _ (List.mem_of_getElem? (i := 63) rfl))) (ty := (.object "java/lang/String")) (by decide)
      have F23_custody : Fld Z h23 b23 "com/example/uptik/uptik/model/Holdings" "custody" "Ljava/lang/String;" .null := D23 (Or.inr (hw _ (List.mem_of_getElem? (i := 65) rfl))) (ty := (.object "java/lang/String")) (by decide)
      have F23_documents : Fld Z h23 b23 "com/example/uptik/uptik/model/Holdings" "documents" "J" (.long (0 : Int64)) := D23 (Or.inr (hw _ (List.mem_of_getElem? (i := 67) rfl))) (ty := .long) (by decide)
      have F23_documentDigest : Fld Z h23 b23 "com/example/uptik/uptik/model/Holdings" "documentDigest" "J" (.long (0 : Int64)) := D23 (Or.inr (hw _ (List.mem_of_getElem? (i := 69) rfl))) (ty := .long) (by decide)
      have F23_recordWhole : Fld Z h23 b23 "com/example/uptik/uptik/model/Holdings" "recordWhole" "Z" (.int (0 : Int32)) := D23 (Or.inr (hw _ (List.mem_of_getElem? (i := 71) rfl))) (ty := .boolean) (by decide)
      refine own_go (g' := (mkF m 101 #[.val (.long q0), .second, .val (.long q1), .second, .val (.long q2), .second, .val (.long q3), .second, .val (.int p4), .val (.int p5), .val (.ref b1), .val (.ref b3), .val (.ref b6), .val (.ref b12), .val (.long bd), .second, .val (.long bg), .second, .unset, .unset, .unset, .unset, .unset, .unset] [(.ref b23)])) (st23) ?_
      refine own_go (g' := (mkF m 102 #[.val (.long q0), .second, .val (.long q1), .second, .val (.long q2), .second, .val (.long q3), .second, .val (.int p4), .val (.int p5), .val (.ref b1), .val (.ref b3), .val (.ref b6), .val (.ref b12), .val (.long bd), .second, .val (.long bg), .second, .unset, .unset, .unset, .unset, .unset, .unset] [(.ref b23), (.ref b23)])) (fun _ kgo => XS.dup X23.here hx rfl (hb hby at_101) rfl rfl kgo) ?_
      refine own_go (g' := (mkF m 104 #[.val (.long q0), .second, .val (.long q1), .second, .val (.long q2), .second, .val (.long q3), .second, .val (.int p4), .val (.int p5), .val (.ref b1), .val (.ref b3), .val (.ref b6), .val (.ref b12), .val (.long bd), .second, .val (.long bg), .second, .unset, .unset, .unset, .unset, .unset, .unset] [(.int p5), (.ref b23), (.ref b23)])) (fun _ kgo => XS.iload X23.here hx rfl (hb hby at_102) rfl kgo) ?_
      refine own_go (g' := (mkF m 105 #[.val (.long q0), .second, .val (.long q1), .second, .val (.long q2), .second, .val (.long q3), .second, .val (.int p4), .val (.int p5), .val (.ref b1), .val (.ref b3), .val (.ref b6), .val (.ref b12), .val (.long bd), .second, .val (.long bg), .second, .unset, .unset, .unset, .unset, .unset, .unset] [(.long (p5.toInt64)), (.ref b23), (.ref b23)])) (fun _ kgo => XS.i2l X23.here hx rfl (hb hby at_104) rfl kgo) ?_
      refine own_go (g' := (mkF m 107 #[.val (.long q0), .second, .val (.long q1), .second, .val (.long q2), .second, .val (.long q3), .second, .val (.int p4), .val (.int p5), .val (.ref b1), .val (.ref b3), .val (.ref b6), .val (.ref b12), .val (.long bd), .second, .val (.long bg), .second, .unset, .unset, .unset, .unset, .unset, .unset] [(.long q2), (.long (p5.toInt64)), (.ref b23), (.ref b23)])) (fun _ kgo => XS.lload X23.here hx rfl (hb hby at_105) rfl kgo) ?_
      refine own_go (g' := (mkF m 109 #[.val (.long q0), .second, .val (.long q1), .second, .val (.long q2), .second, .val (.long q3), .second, .val (.int p4), .val (.int p5), .val (.ref b1), .val (.ref b3), .val (.ref b6), .val (.ref b12), .val (.long bd), .second, .val (.long bg), .second, .unset, .unset, .unset, .unset, .unset, .unset] [(.long q3), (.long q2), (.long (p5.toInt64)), (.ref b23), (.ref b23)])) (fun _ kgo => XS.lload X23.here hx rfl (hb hby at_107) rfl kgo) ?_
      refine own_go (g' := (mkF m 111 #[.val (.long q0), .second, .val (.long q1), .second, .val (.long q2), .second, .val (.long q3), .second, .val (.int p4), .val (.int p5), .val (.ref b1), .val (.ref b3), .val (.ref b6), .val (.ref b12), .val (.long bd), .second, .val (.long bg), .second, .unset, .unset, .unset, .unset, .unset, .unset] [(.ref b6), (.long q3), (.long q2), (.long (p5.toInt64)), (.ref b23), (.ref b23)])) (fun _ kgo => XS.aload X23.here hx rfl (hb hby at_109) rfl rfl kgo) ?_
      refine own_go (g' := (mkF m 113 #[.val (.long q0), .second, .val (.long q1), .second, .val (.long q2), .second, .val (.long q3), .second, .val (.int p4), .val (.int p5), .val (.ref b1), .val (.ref b3), .val (.ref b6), .val (.ref b12), .val (.long bd), .second, .val (.long bg), .second, .unset, .unset, .unset, .unset, .unset, .unset] [(.ref b12), (.ref b6), (.long q3), (.long q2), (.long (p5.toInt64)), (.ref b23), (.ref b23)])) (fun _ kgo => XS.aload X23.here hx rfl (hb hby at_111) rfl rfl kgo) ?_
      refine own_go (g' := (mkF m 115 #[.val (.long q0), .second, .val (.long q1), .second, .val (.long q2), .second, .val (.long q3), .second, .val (.int p4), .val (.int p5), .val (.ref b1), .val (.ref b3), .val (.ref b6), .val (.ref b12), .val (.long bd), .second, .val (.long bg), .second, .unset, .unset, .unset, .unset, .unset, .unset] [(.ref b6), (.ref b12), (.ref b6), (.long q3), (.long q2), (.long (p5.toInt64)), (.ref b23), (.ref b23)])) (fun _ kgo => XS.aload X23.here hx rfl (hb hby at_113) rfl rfl kgo) ?_
      refine own_go (g' := (mkF m 117 #[.val (.long q0), .second, .val (.long q1), .second, .val (.long q2), .second, .val (.long q3), .second, .val (.int p4), .val (.int p5), .val (.ref b1), .val (.ref b3), .val (.ref b6), .val (.ref b12), .val (.long bd), .second, .val (.long bg), .second, .unset, .unset, .unset, .unset, .unset, .unset] [(.ref b12), (.ref b6), (.ref b12), (.ref b6), (.long q3), (.long q2), (.long (p5.toInt64)), (.ref b23), (.ref b23)])) (fun _ kgo => XS.aload X23.here hx rfl (hb hby at_115) rfl rfl kgo) ?_
      refine own_go (g' := (mkF m 118 #[.val (.long q0), .second, .val (.long q1), .second, .val (.long q2), .second, .val (.long q3), .second, .val (.int p4), .val (.int p5), .val (.ref b1), .val (.ref b3), .val (.ref b6), .val (.ref b12), .val (.long bd), .second, .val (.long bg), .second, .unset, .unset, .unset, .unset, .unset, .unset] [(.long q0), (.ref b12), (.ref b6), (.ref b12), (.ref b6), (.long q3), (.long q2), (.long (p5.toInt64)), (.ref b23), (.ref b23)])) (fun _ kgo => XS.lloadN X23.here hx rfl (hb hby at_117) rfl kgo) ?_
      refine own_go (g' := (mkF m 119 #[.val (.long q0), .second, .val (.long q1), .second, .val (.long q2), .second, .val (.long q3), .second, .val (.int p4), .val (.int p5), .val (.ref b1), .val (.ref b3), .val (.ref b6), .val (.ref b12), .val (.long bd), .second, .val (.long bg), .second, .unset, .unset, .unset, .unset, .unset, .unset] [(.long q1), (.long q0), (.ref b12), (.ref b6), (.ref b12), (.ref b6), (.long q3), (.long q2), (.long (p5.toInt64)), (.ref b23), (.ref b23)])) (fun _ kgo => XS.lloadN X23.here hx rfl (hb hby at_118) rfl kgo) ?_
      refine own_go (g' := (mkF m 121 #[.val (.long q0), .second, .val (.long q1), .second, .val (.long q2), .second, .val (.long q3), .second, .val (.int p4), .val (.int p5), .val (.ref b1), .val (.ref b3), .val (.ref b6), .val (.ref b12), .val (.long bd), .second, .val (.long bg), .second, .unset, .unset, .unset, .unset, .unset, .unset] [(.int p4), (.long q1), (.long q0), (.ref b12), (.ref b6), (.ref b12), (.ref b6), (.long q3), (.long q2), (.long (p5.toInt64)), (.ref b23), (.ref b23)])) (fun _ kgo => XS.iload X23.here hx rfl (hb hby at_119) rfl kgo) ?_
      refine own_go (g' := (mkF m 122 #[.val (.long q0), .second, .val (.long q1), .second, .val (.long q2), .second, .val (.long q3), .second, .val (.int p4), .val (.int p5), .val (.ref b1), .val (.ref b3), .val (.ref b6), .val (.ref b12), .val (.long bd), .second, .val (.long bg), .second, .unset, .unset, .unset, .unset, .unset, .unset] [(.int (1 : Int32)), (.int p4), (.long q1), (.long q0), (.ref b12), (.ref b6), (.ref b12), (.ref b6), (.long q3), (.long q2), (.long (p5.toInt64)), (.ref b23), (.ref b23)])) (fun _ kgo => XS.iconst X23.here hx rfl (hb hby at_121) kgo) ?_
      refine own_go (g' := (mkF m 123 #[.val (.long q0), .second, .val (.long q1), .second, .val (.long q2), .second, .val (.long q3), .second, .val (.int p4), .val (.int p5), .val (.ref b1), .val (.ref b3), .val (.ref b6), .val (.ref b12), .val (.long bd), .second, .val (.long bg), .second, .unset, .unset, .unset, .unset, .unset, .unset] [(.int (p4 &&& (1 : Int32))), (.long q1), (.long q0), (.ref b12), (.ref b6), (.ref b12), (.ref b6), (.long q3), (.long q2), (.long (p5.toInt64)), (.ref b23), (.ref b23)])) (fun _ kgo => XS.iand X23.here hx rfl (hb hby at_122) rfl kgo) ?_
      have J28 : own_Go p e below (own_PostW s QQ 32 4288) T23 (mkF m 131 #[.val (.long q0), .second, .val (.long q1), .second, .val (.long q2), .second, .val (.long q3), .second, .val (.int p4), .val (.int p5), .val (.ref b1), .val (.ref b3), .val (.ref b6), .val (.ref b12), .val (.long bd), .second, .val (.long bg), .second, .unset, .unset, .unset, .unset, .unset, .unset] [(.int (own_b (!decide ((p4 &&& (1 : Int32)) = (0 : Int32))))), (.long q1), (.long q0), (.ref b12), (.ref b6), (.ref b12), (.ref b6), (.long q3), (.long q2), (.long (p5.toInt64)), (.ref b23), (.ref b23)]) := by
        obtain ⟨v29, T29, L29, hQ29, X29, hS29, hZ, hown, st29⟩ := own_callIW X23 hx hZ hS0 hk23 (y := (⟨"com/example/uptik/uptik/model/Holdings", "<init>", "(JJJLjava/lang/String;Ljava/lang/String;Ljava/lang/String;Ljava/lang/String;JJZ)V"⟩ : MethodName)) rfl hown (hw _ (List.mem_of_getElem? (i := 33) rfl)) (hw _ (List.mem_of_getElem? (i := 34) rfl)) (hw _ (List.mem_of_getElem? (i := 32) rfl)) (hw _ (List.mem_of_getElem? (i := 35) rfl)) ⟨by decide, by decide⟩ (a := b23) (argsL := [(.long (p5.toInt64)), (.long q2), (.long q3), (.ref b6), (.ref b12), (.ref b6), (.ref b12), (.long q0), (.long q1), (.int (own_b (!decide ((p4 &&& (1 : Int32)) = (0 : Int32)))))]) (rm7 l Z a0 hw b23 (p5.toInt64) q2 q3 b6 b12 b6 b12 q0 q1 (own_b (!decide ((p4 &&& (1 : Int32)) = (0 : Int32)))) h23 n0 Z23 ge_b23 A23 F23_terms F23_postings F23_digest F23_whole F23_former F23_remembered F23_custody F23_documents F23_documentDigest F23_recordWhole) e23 (g := (mkF m 131 #[.val (.long q0), .second, .val (.long q1), .second, .val (.long q2), .second, .val (.long q3), .second, .val (.int p4), .val (.int p5), .val (.ref b1), .val (.ref b3), .val (.ref b6), .val (.ref b12), .val (.long bd), .second, .val (.long bg), .second, .unset, .unset, .unset, .unset, .unset, .unset] [(.int (own_b (!decide ((p4 &&& (1 : Int32)) = (0 : Int32))))), (.long q1), (.long q0), (.ref b12), (.ref b6), (.ref b12), (.ref b6), (.long q3), (.long q2), (.long (p5.toInt64)), (.ref b23), (.ref b23)])) rfl (by rw [hml]; rfl) (rest := [(.ref b23)]) (lenOf pd0_1 rfl) rfl (hb hby at_131) (W := 1) (by show 2 * 0 + _ ≤ _; exact Nat.le_of_eq rfl) (by decide) (by decide) (by decide) (by decide)
        obtain ⟨rfl, Nq29, Kq29, q29_0, q29_1, q29_2⟩ := hQ29
        have N29 := Fr.app N15 Nq29
        have Z29 : n0 ≤ T29.heap.size := Nat.le_trans Z23 Kq29.1
        have hk29 : T29.heap.size ≤ T29.heap.size := Nat.le_refl _
        refine own_go (g' := (mkF m 134 #[.val (.long q0), .second, .val (.long q1), .second, .val (.long q2), .second, .val (.long q3), .second, .val (.int p4), .val (.int p5), .val (.ref b1), .val (.ref b3), .val (.ref b6), .val (.ref b12), .val (.long bd), .second, .val (.long bg), .second, .unset, .unset, .unset, .unset, .unset, .unset] [(.ref b23)])) (st29) ?_
        refine own_go (g' := (mkF m 136 #[.val (.long q0), .second, .val (.long q1), .second, .val (.long q2), .second, .val (.long q3), .second, .val (.int p4), .val (.int p5), .val (.ref b1), .val (.ref b3), .val (.ref b6), .val (.ref b12), .val (.long bd), .second, .val (.long bg), .second, .val (.ref b23), .unset, .unset, .unset, .unset, .unset] [])) (fun _ kgo => XS.astore X29.here hx rfl (hb hby at_134) rfl rfl (l' := #[.val (.long q0), .second, .val (.long q1), .second, .val (.long q2), .second, .val (.long q3), .second, .val (.int p4), .val (.int p5), .val (.ref b1), .val (.ref b3), .val (.ref b6), .val (.ref b12), .val (.long bd), .second, .val (.long bg), .second, .val (.ref b23), .unset, .unset, .unset, .unset, .unset]) rfl kgo) ?_
        obtain ⟨T30, h30, X30, e30, E30, A30, D30, -, st30⟩ := newO X29 hx hZ hown (hw _ (List.mem_of_getElem? (i := 30) rfl)) (hw _ (List.mem_of_getElem? (i := 31) rfl)) (hw _ (List.mem_of_getElem? (i := 32) rfl)) rfl (g := (mkF m 136 #[.val (.long q0), .second, .val (.long q1), .second, .val (.long q2), .second, .val (.long q3), .second, .val (.int p4), .val (.int p5), .val (.ref b1), .val (.ref b3), .val (.ref b6), .val (.ref b12), .val (.long bd), .second, .val (.long bg), .second, .val (.ref b23), .unset, .unset, .unset, .unset, .unset] [])) rfl (hb hby at_136) (by decide) (by decide)
        obtain ⟨b30, ad30⟩ : ∃ z, z = T29.heap.size := ⟨_, rfl⟩
        rw [← ad30] at A30 D30 st30
        have fx31 : Arv Z T29.heap b1 k1 .char (1 : Int32) [(.int (nar .char ((p5 &&& (255 : Int32)).toUInt32.toUInt16.toUInt32.toInt32)))] (.int (0 : Int32)) := (Arv.keep (Arv.ext fx24 E23) Kq29 (ninS ne_b1_b23 nin0))
        have ne_b1_b30 : b1 ≠ b30 := Nat.ne_of_lt (by rw [ad30]; exact fx31.lt)
        have fx32 : Arv Z T29.heap b3 k3 .char (2 : Int32) [(.int (nar .char ((((p5.toUInt32 >>> ((8 : Int32) &&& 31).toUInt32).toInt32) &&& (255 : Int32)).toUInt32.toUInt16.toUInt32.toInt32))), (.int (nar .char ((((p5.toUInt32 >>> ((16 : Int32) &&& 31).toUInt32).toInt32) &&& (255 : Int32)).toUInt32.toUInt16.toUInt32.toInt32)))] (.int (0 : Int32)) := (Arv.keep (Arv.ext fx25 E23) Kq29 (ninS ne_b3_b23 nin0))
        have ne_b3_b30 : b3 ≠ b30 := Nat.ne_of_lt (by rw [ad30]; exact fx32.lt)
        have fx33 : Exa Z T29.heap b6 "java/lang/String" := (Exa.keep (Exa.ext E23 fx26) Kq29)
        have ne_b6_b30 : b6 ≠ b30 := Nat.ne_of_lt (by rw [ad30]; exact fx33.lt)
        have fx34 : Arv Z T29.heap r8 kr8 .byte (1 : Int32) [(.int (((nar .char ((p5 &&& (255 : Int32)).toUInt32.toUInt16.toUInt32.toInt32)).toInt8.toInt32)).toInt8.toInt32)] (.int (0 : Int32)) := (Arv.keep (Arv.ext fx27 E23) Kq29 (ninS ne_r8_b23 nin0))
        have ne_r8_b30 : r8 ≠ b30 := Nat.ne_of_lt (by rw [ad30]; exact fx34.lt)
        have fx35 : Exa Z T29.heap b12 "java/lang/String" := (Exa.keep (Exa.ext E23 q15_0) Kq29)
        have ne_b12_b30 : b12 ≠ b30 := Nat.ne_of_lt (by rw [ad30]; exact fx35.lt)
        have fx36 : Arv Z T29.heap r15 kr15 .byte (2 : Int32) [(.int (((nar .char ((((p5.toUInt32 >>> ((8 : Int32) &&& 31).toUInt32).toInt32) &&& (255 : Int32)).toUInt32.toUInt16.toUInt32.toInt32)).toInt8.toInt32)).toInt8.toInt32), (.int (((nar .char ((((p5.toUInt32 >>> ((16 : Int32) &&& 31).toUInt32).toInt32) &&& (255 : Int32)).toUInt32.toUInt16.toUInt32.toInt32)).toInt8.toInt32)).toInt8.toInt32)] (.int (0 : Int32)) := (Arv.keep (Arv.ext q15_3 E23) Kq29 (ninS ne_r15_b23 nin0))
        have ne_r15_b30 : r15 ≠ b30 := Nat.ne_of_lt (by rw [ad30]; exact fx36.lt)
        have ne_b23_b30 : b23 ≠ b30 := Nat.ne_of_lt (by rw [ad30]; exact q29_0.lt)
        have ge_b30 : n0 ≤ b30 := by rw [ad30]; exact Z29
        have hk30 := Nat.le_trans hk29 E30.1
        have Z30 : n0 ≤ h30.size := Nat.le_trans Z29 E30.1
        have F30_terms : Fld Z h30 b30 "com/example/uptik/uptik/model/Holdings" "terms" "J" (.long (0 : Int64)) := D30 (Or.inr (hw _ (List.mem_of_getElem? (i := 53) rfl))) (ty := .long) (by decide)
        have F30_postings : Fld Z h30 b30 "com/example/uptik/uptik/model/Holdings" "postings" "J" (.long (0 : Int64)) := D30 (Or.inr (hw _ (List.mem_of_getElem? (i := 55) rfl))) (ty := .long) (by decide)
        have F30_digest : Fld Z h30 b30 "com/example/uptik/uptik/model/Holdings" "digest" "J" (.long (0 : Int64)) := D30 (Or.inr (hw _ (List.mem_of_getElem? (i := 57) rfl))) (ty := .long) (by decide)
        have F30_whole : Fld Z h30 b30 "com/example/uptik/uptik/model/Holdings" "whole" "Ljava/lang/String;" .null := D30 (Or.inr (hw _ (List.mem_of_getElem? (i := 59) rfl))) (ty := (.object "java/lang/String")) (by decide)
        have F30_former : Fld Z h30 b30 "com/example/uptik/uptik/model/Holdings" "former" "Ljava/lang/String;" .null := D30 (Or.inr (hw _ (List.mem_of_getElem? (i := 61) rfl))) (ty := (.object "java/lang/String")) (by decide)
        have F30_remembered : Fld Z h30 b30 "com/example/uptik/uptik/model/Holdings" "remembered" "Ljava/lang/String;" .null := D30 (Or.inr (hw _ (List.mem_of_getElem? (i := 63) rfl))) (ty := (.object "java/lang/String")) (by decide)
        have F30_custody : Fld Z h30 b30 "com/example/uptik/uptik/model/Holdings" "custody" "Ljava/lang/String;" .null := D30 (Or.inr (hw _ (List.mem_of_getElem? (i := 65) rfl))) (ty := (.object "java/lang/String")) (by decide)
        have F30_documents : Fld Z h30 b30 "com/example/uptik/uptik/model/Holdings" "documents" "J" (.long (0 : Int64)) := D30 (Or.inr (hw _ (List.mem_of_getElem? (i := 67) rfl))) (ty := .long) (by decide)
        have F30_documentDigest : Fld Z h30 b30 "com/example/uptik/uptik/model/Holdings" "documentDigest" "J" (.long (0 : Int64)) := D30 (Or.inr (hw _ (List.mem_of_getElem? (i := 69) rfl))) (ty := .long) (by decide)
        have F30_recordWhole : Fld Z h30 b30 "com/example/uptik/uptik/model/Holdings" "recordWhole" "Z" (.int (0 : Int32)) := D30 (Or.inr (hw _ (List.mem_of_getElem? (i := 71) rfl))) (ty := .boolean) (by decide)
        refine own_go (g' := (mkF m 139 #[.val (.long q0), .second, .val (.long q1), .second, .val (.long q2), .second, .val (.long q3), .second, .val (.int p4), .val (.int p5), .val (.ref b1), .val (.ref b3), .val (.ref b6), .val (.ref b12), .val (.long bd), .second, .val (.long bg), .second, .val (.ref b23), .unset, .unset, .unset, .unset, .unset] [(.ref b30)])) (st30) ?_
        refine own_go (g' := (mkF m 140 #[.val (.long q0), .second, .val (.long q1), .second, .val (.long q2), .second, .val (.long q3), .second, .val (.int p4), .val (.int p5), .val (.ref b1), .val (.ref b3), .val (.ref b6), .val (.ref b12), .val (.long bd), .second, .val (.long bg), .second, .val (.ref b23), .unset, .unset, .unset, .unset, .unset] [(.ref b30), (.ref b30)])) (fun _ kgo => XS.dup X30.here hx rfl (hb hby at_139) rfl rfl kgo) ?_
        refine own_go (g' := (mkF m 142 #[.val (.long q0), .second, .val (.long q1), .second, .val (.long q2), .second, .val (.long q3), .second, .val (.int p4), .val (.int p5), .val (.ref b1), .val (.ref b3), .val (.ref b6), .val (.ref b12), .val (.long bd), .second, .val (.long bg), .second, .val (.ref b23), .unset, .unset, .unset, .unset, .unset] [(.long q2), (.ref b30), (.ref b30)])) (fun _ kgo => XS.lload X30.here hx rfl (hb hby at_140) rfl kgo) ?_
        refine own_go (g' := (mkF m 144 #[.val (.long q0), .second, .val (.long q1), .second, .val (.long q2), .second, .val (.long q3), .second, .val (.int p4), .val (.int p5), .val (.ref b1), .val (.ref b3), .val (.ref b6), .val (.ref b12), .val (.long bd), .second, .val (.long bg), .second, .val (.ref b23), .unset, .unset, .unset, .unset, .unset] [(.long q3), (.long q2), (.ref b30), (.ref b30)])) (fun _ kgo => XS.lload X30.here hx rfl (hb hby at_142) rfl kgo) ?_
        refine own_go (g' := (mkF m 146 #[.val (.long q0), .second, .val (.long q1), .second, .val (.long q2), .second, .val (.long q3), .second, .val (.int p4), .val (.int p5), .val (.ref b1), .val (.ref b3), .val (.ref b6), .val (.ref b12), .val (.long bd), .second, .val (.long bg), .second, .val (.ref b23), .unset, .unset, .unset, .unset, .unset] [(.int p4), (.long q3), (.long q2), (.ref b30), (.ref b30)])) (fun _ kgo => XS.iload X30.here hx rfl (hb hby at_144) rfl kgo) ?_
        refine own_go (g' := (mkF m 147 #[.val (.long q0), .second, .val (.long q1), .second, .val (.long q2), .second, .val (.long q3), .second, .val (.int p4), .val (.int p5), .val (.ref b1), .val (.ref b3), .val (.ref b6), .val (.ref b12), .val (.long bd), .second, .val (.long bg), .second, .val (.ref b23), .unset, .unset, .unset, .unset, .unset] [(.int (4 : Int32)), (.int p4), (.long q3), (.long q2), (.ref b30), (.ref b30)])) (fun _ kgo => XS.iconst X30.here hx rfl (hb hby at_146) kgo) ?_
        refine own_go (g' := (mkF m 148 #[.val (.long q0), .second, .val (.long q1), .second, .val (.long q2), .second, .val (.long q3), .second, .val (.int p4), .val (.int p5), .val (.ref b1), .val (.ref b3), .val (.ref b6), .val (.ref b12), .val (.long bd), .second, .val (.long bg), .second, .val (.ref b23), .unset, .unset, .unset, .unset, .unset] [(.int (p4 >>> ((4 : Int32) &&& 31))), (.long q3), (.long q2), (.ref b30), (.ref b30)])) (fun _ kgo => XS.ishr X30.here hx rfl (hb hby at_147) rfl kgo) ?_
        refine own_go (g' := (mkF m 149 #[.val (.long q0), .second, .val (.long q1), .second, .val (.long q2), .second, .val (.long q3), .second, .val (.int p4), .val (.int p5), .val (.ref b1), .val (.ref b3), .val (.ref b6), .val (.ref b12), .val (.long bd), .second, .val (.long bg), .second, .val (.ref b23), .unset, .unset, .unset, .unset, .unset] [(.long ((p4 >>> ((4 : Int32) &&& 31)).toInt64)), (.long q3), (.long q2), (.ref b30), (.ref b30)])) (fun _ kgo => XS.i2l X30.here hx rfl (hb hby at_148) rfl kgo) ?_
        refine own_go (g' := (mkF m 151 #[.val (.long q0), .second, .val (.long q1), .second, .val (.long q2), .second, .val (.long q3), .second, .val (.int p4), .val (.int p5), .val (.ref b1), .val (.ref b3), .val (.ref b6), .val (.ref b12), .val (.long bd), .second, .val (.long bg), .second, .val (.ref b23), .unset, .unset, .unset, .unset, .unset] [(.ref b12), (.long ((p4 >>> ((4 : Int32) &&& 31)).toInt64)), (.long q3), (.long q2), (.ref b30), (.ref b30)])) (fun _ kgo => XS.aload X30.here hx rfl (hb hby at_149) rfl rfl kgo) ?_
        refine own_go (g' := (mkF m 153 #[.val (.long q0), .second, .val (.long q1), .second, .val (.long q2), .second, .val (.long q3), .second, .val (.int p4), .val (.int p5), .val (.ref b1), .val (.ref b3), .val (.ref b6), .val (.ref b12), .val (.long bd), .second, .val (.long bg), .second, .val (.ref b23), .unset, .unset, .unset, .unset, .unset] [(.ref b6), (.ref b12), (.long ((p4 >>> ((4 : Int32) &&& 31)).toInt64)), (.long q3), (.long q2), (.ref b30), (.ref b30)])) (fun _ kgo => XS.aload X30.here hx rfl (hb hby at_151) rfl rfl kgo) ?_
        refine own_go (g' := (mkF m 155 #[.val (.long q0), .second, .val (.long q1), .second, .val (.long q2), .second, .val (.long q3), .second, .val (.int p4), .val (.int p5), .val (.ref b1), .val (.ref b3), .val (.ref b6), .val (.ref b12), .val (.long bd), .second, .val (.long bg), .second, .val (.ref b23), .unset, .unset, .unset, .unset, .unset] [(.ref b12), (.ref b6), (.ref b12), (.long ((p4 >>> ((4 : Int32) &&& 31)).toInt64)), (.long q3), (.long q2), (.ref b30), (.ref b30)])) (fun _ kgo => XS.aload X30.here hx rfl (hb hby at_153) rfl rfl kgo) ?_
        refine own_go (g' := (mkF m 157 #[.val (.long q0), .second, .val (.long q1), .second, .val (.long q2), .second, .val (.long q3), .second, .val (.int p4), .val (.int p5), .val (.ref b1), .val (.ref b3), .val (.ref b6), .val (.ref b12), .val (.long bd), .second, .val (.long bg), .second, .val (.ref b23), .unset, .unset, .unset, .unset, .unset] [(.ref b6), (.ref b12), (.ref b6), (.ref b12), (.long ((p4 >>> ((4 : Int32) &&& 31)).toInt64)), (.long q3), (.long q2), (.ref b30), (.ref b30)])) (fun _ kgo => XS.aload X30.here hx rfl (hb hby at_155) rfl rfl kgo) ?_
        refine own_go (g' := (mkF m 159 #[.val (.long q0), .second, .val (.long q1), .second, .val (.long q2), .second, .val (.long q3), .second, .val (.int p4), .val (.int p5), .val (.ref b1), .val (.ref b3), .val (.ref b6), .val (.ref b12), .val (.long bd), .second, .val (.long bg), .second, .val (.ref b23), .unset, .unset, .unset, .unset, .unset] [(.long bd), (.ref b6), (.ref b12), (.ref b6), (.ref b12), (.long ((p4 >>> ((4 : Int32) &&& 31)).toInt64)), (.long q3), (.long q2), (.ref b30), (.ref b30)])) (fun _ kgo => XS.lload X30.here hx rfl (hb hby at_157) rfl kgo) ?_
        refine own_go (g' := (mkF m 161 #[.val (.long q0), .second, .val (.long q1), .second, .val (.long q2), .second, .val (.long q3), .second, .val (.int p4), .val (.int p5), .val (.ref b1), .val (.ref b3), .val (.ref b6), .val (.ref b12), .val (.long bd), .second, .val (.long bg), .second, .val (.ref b23), .unset, .unset, .unset, .unset, .unset] [(.long bg), (.long bd), (.ref b6), (.ref b12), (.ref b6), (.ref b12), (.long ((p4 >>> ((4 : Int32) &&& 31)).toInt64)), (.long q3), (.long q2), (.ref b30), (.ref b30)])) (fun _ kgo => XS.lload X30.here hx rfl (hb hby at_159) rfl kgo) ?_
        refine own_go (g' := (mkF m 163 #[.val (.long q0), .second, .val (.long q1), .second, .val (.long q2), .second, .val (.long q3), .second, .val (.int p4), .val (.int p5), .val (.ref b1), .val (.ref b3), .val (.ref b6), .val (.ref b12), .val (.long bd), .second, .val (.long bg), .second, .val (.ref b23), .unset, .unset, .unset, .unset, .unset] [(.int p4), (.long bg), (.long bd), (.ref b6), (.ref b12), (.ref b6), (.ref b12), (.long ((p4 >>> ((4 : Int32) &&& 31)).toInt64)), (.long q3), (.long q2), (.ref b30), (.ref b30)])) (fun _ kgo => XS.iload X30.here hx rfl (hb hby at_161) rfl kgo) ?_
        refine own_go (g' := (mkF m 165 #[.val (.long q0), .second, .val (.long q1), .second, .val (.long q2), .second, .val (.long q3), .second, .val (.int p4), .val (.int p5), .val (.ref b1), .val (.ref b3), .val (.ref b6), .val (.ref b12), .val (.long bd), .second, .val (.long bg), .second, .val (.ref b23), .unset, .unset, .unset, .unset, .unset] [(.int (8 : Int32)), (.int p4), (.long bg), (.long bd), (.ref b6), (.ref b12), (.ref b6), (.ref b12), (.long ((p4 >>> ((4 : Int32) &&& 31)).toInt64)), (.long q3), (.long q2), (.ref b30), (.ref b30)])) (fun _ kgo => XS.bipush X30.here hx rfl (hb hby at_163) kgo) ?_
        refine own_go (g' := (mkF m 166 #[.val (.long q0), .second, .val (.long q1), .second, .val (.long q2), .second, .val (.long q3), .second, .val (.int p4), .val (.int p5), .val (.ref b1), .val (.ref b3), .val (.ref b6), .val (.ref b12), .val (.long bd), .second, .val (.long bg), .second, .val (.ref b23), .unset, .unset, .unset, .unset, .unset] [(.int (p4 &&& (8 : Int32))), (.long bg), (.long bd), (.ref b6), (.ref b12), (.ref b6), (.ref b12), (.long ((p4 >>> ((4 : Int32) &&& 31)).toInt64)), (.long q3), (.long q2), (.ref b30), (.ref b30)])) (fun _ kgo => XS.iand X30.here hx rfl (hb hby at_165) rfl kgo) ?_
        have J37 : own_Go p e below (own_PostW s QQ 32 4288) T30 (mkF m 174 #[.val (.long q0), .second, .val (.long q1), .second, .val (.long q2), .second, .val (.long q3), .second, .val (.int p4), .val (.int p5), .val (.ref b1), .val (.ref b3), .val (.ref b6), .val (.ref b12), .val (.long bd), .second, .val (.long bg), .second, .val (.ref b23), .unset, .unset, .unset, .unset, .unset] [(.int (own_b (!decide ((p4 &&& (8 : Int32)) = (0 : Int32))))), (.long bg), (.long bd), (.ref b6), (.ref b12), (.ref b6), (.ref b12), (.long ((p4 >>> ((4 : Int32) &&& 31)).toInt64)), (.long q3), (.long q2), (.ref b30), (.ref b30)]) := by
          obtain ⟨v38, T38, L38, hQ38, X38, hS38, hZ, hown, st38⟩ := own_callIW X30 hx hZ hS29 hk30 (y := (⟨"com/example/uptik/uptik/model/Holdings", "<init>", "(JJJLjava/lang/String;Ljava/lang/String;Ljava/lang/String;Ljava/lang/String;JJZ)V"⟩ : MethodName)) rfl hown (hw _ (List.mem_of_getElem? (i := 33) rfl)) (hw _ (List.mem_of_getElem? (i := 34) rfl)) (hw _ (List.mem_of_getElem? (i := 32) rfl)) (hw _ (List.mem_of_getElem? (i := 35) rfl)) ⟨by decide, by decide⟩ (a := b30) (argsL := [(.long q2), (.long q3), (.long ((p4 >>> ((4 : Int32) &&& 31)).toInt64)), (.ref b12), (.ref b6), (.ref b12), (.ref b6), (.long bd), (.long bg), (.int (own_b (!decide ((p4 &&& (8 : Int32)) = (0 : Int32)))))]) (rm7 l Z a0 hw b30 q2 q3 ((p4 >>> ((4 : Int32) &&& 31)).toInt64) b12 b6 b12 b6 bd bg (own_b (!decide ((p4 &&& (8 : Int32)) = (0 : Int32)))) h30 n0 Z30 ge_b30 A30 F30_terms F30_postings F30_digest F30_whole F30_former F30_remembered F30_custody F30_documents F30_documentDigest F30_recordWhole) e30 (g := (mkF m 174 #[.val (.long q0), .second, .val (.long q1), .second, .val (.long q2), .second, .val (.long q3), .second, .val (.int p4), .val (.int p5), .val (.ref b1), .val (.ref b3), .val (.ref b6), .val (.ref b12), .val (.long bd), .second, .val (.long bg), .second, .val (.ref b23), .unset, .unset, .unset, .unset, .unset] [(.int (own_b (!decide ((p4 &&& (8 : Int32)) = (0 : Int32))))), (.long bg), (.long bd), (.ref b6), (.ref b12), (.ref b6), (.ref b12), (.long ((p4 >>> ((4 : Int32) &&& 31)).toInt64)), (.long q3), (.long q2), (.ref b30), (.ref b30)])) rfl (by rw [hml]; rfl) (rest := [(.ref b30)]) (lenOf pd0_1 rfl) rfl (hb hby at_174) (W := 1) (by show 2 * 0 + _ ≤ _; exact Nat.le_of_eq rfl) (by decide) (by decide) (by decide) (by decide)
          obtain ⟨rfl, Nq38, Kq38, q38_0, q38_1, q38_2⟩ := hQ38
          have N38 := Fr.app N29 Nq38
          have Z38 : n0 ≤ T38.heap.size := Nat.le_trans Z30 Kq38.1
          have hk38 : T38.heap.size ≤ T38.heap.size := Nat.le_refl _
          refine own_go (g' := (mkF m 177 #[.val (.long q0), .second, .val (.long q1), .second, .val (.long q2), .second, .val (.long q3), .second, .val (.int p4), .val (.int p5), .val (.ref b1), .val (.ref b3), .val (.ref b6), .val (.ref b12), .val (.long bd), .second, .val (.long bg), .second, .val (.ref b23), .unset, .unset, .unset, .unset, .unset] [(.ref b30)])) (st38) ?_
          refine own_go (g' := (mkF m 179 #[.val (.long q0), .second, .val (.long q1), .second, .val (.long q2), .second, .val (.long q3), .second, .val (.int p4), .val (.int p5), .val (.ref b1), .val (.ref b3), .val (.ref b6), .val (.ref b12), .val (.long bd), .second, .val (.long bg), .second, .val (.ref b23), .val (.ref b30), .unset, .unset, .unset, .unset] [])) (fun _ kgo => XS.astore X38.here hx rfl (hb hby at_177) rfl rfl (l' := #[.val (.long q0), .second, .val (.long q1), .second, .val (.long q2), .second, .val (.long q3), .second, .val (.int p4), .val (.int p5), .val (.ref b1), .val (.ref b3), .val (.ref b6), .val (.ref b12), .val (.long bd), .second, .val (.long bg), .second, .val (.ref b23), .val (.ref b30), .unset, .unset, .unset, .unset]) rfl kgo) ?_
          refine own_go (g' := (mkF m 180 #[.val (.long q0), .second, .val (.long q1), .second, .val (.long q2), .second, .val (.long q3), .second, .val (.int p4), .val (.int p5), .val (.ref b1), .val (.ref b3), .val (.ref b6), .val (.ref b12), .val (.long bd), .second, .val (.long bg), .second, .val (.ref b23), .val (.ref b30), .unset, .unset, .unset, .unset] [(.long q0)])) (fun _ kgo => XS.lloadN X38.here hx rfl (hb hby at_179) rfl kgo) ?_
          refine own_go (g' := (mkF m 182 #[.val (.long q0), .second, .val (.long q1), .second, .val (.long q2), .second, .val (.long q3), .second, .val (.int p4), .val (.int p5), .val (.ref b1), .val (.ref b3), .val (.ref b6), .val (.ref b12), .val (.long bd), .second, .val (.long bg), .second, .val (.ref b23), .val (.ref b30), .unset, .unset, .unset, .unset] [(.long bd), (.long q0)])) (fun _ kgo => XS.lload X38.here hx rfl (hb hby at_180) rfl kgo) ?_
          refine own_go (g' := (mkF m 183 #[.val (.long q0), .second, .val (.long q1), .second, .val (.long q2), .second, .val (.long q3), .second, .val (.int p4), .val (.int p5), .val (.ref b1), .val (.ref b3), .val (.ref b6), .val (.ref b12), .val (.long bd), .second, .val (.long bg), .second, .val (.ref b23), .val (.ref b30), .unset, .unset, .unset, .unset] [(.int (lcmpW q0 bd))])) (fun _ kgo => XS.lcmp X38.here hx rfl (hb hby at_182) rfl kgo) ?_
          have J39 : own_Go p e below (own_PostW s QQ 32 4288) T38 (mkF m 198 #[.val (.long q0), .second, .val (.long q1), .second, .val (.long q2), .second, .val (.long q3), .second, .val (.int p4), .val (.int p5), .val (.ref b1), .val (.ref b3), .val (.ref b6), .val (.ref b12), .val (.long bd), .second, .val (.long bg), .second, .val (.ref b23), .val (.ref b30), .unset, .unset, .unset, .unset] [(.int (own_b ((decide (q0 = bd) && decide (q1 = bg)))))]) := by
            suffices JNe_ex : ∀ ex : Bool, ex = ((decide (q0 = bd) && decide (q1 = bg))) → own_Go p e below (own_PostW s QQ 32 4288) T38 (mkF m 198 #[.val (.long q0), .second, .val (.long q1), .second, .val (.long q2), .second, .val (.long q3), .second, .val (.int p4), .val (.int p5), .val (.ref b1), .val (.ref b3), .val (.ref b6), .val (.ref b12), .val (.long bd), .second, .val (.long bg), .second, .val (.ref b23), .val (.ref b30), .unset, .unset, .unset, .unset] [(.int (own_b ex))]) from JNe_ex _ (rfl)
            intro ex e_ex
            refine own_go (g' := (mkF m 200 #[.val (.long q0), .second, .val (.long q1), .second, .val (.long q2), .second, .val (.long q3), .second, .val (.int p4), .val (.int p5), .val (.ref b1), .val (.ref b3), .val (.ref b6), .val (.ref b12), .val (.long bd), .second, .val (.long bg), .second, .val (.ref b23), .val (.ref b30), .val (.int (own_b ex)), .unset, .unset, .unset] [])) (fun _ kgo => XS.istore X38.here hx rfl (hb hby at_198) rfl (l' := #[.val (.long q0), .second, .val (.long q1), .second, .val (.long q2), .second, .val (.long q3), .second, .val (.int p4), .val (.int p5), .val (.ref b1), .val (.ref b3), .val (.ref b6), .val (.ref b12), .val (.long bd), .second, .val (.long bg), .second, .val (.ref b23), .val (.ref b30), .val (.int (own_b ex)), .unset, .unset, .unset]) rfl kgo) ?_
            refine own_go (g' := (mkF m 202 #[.val (.long q0), .second, .val (.long q1), .second, .val (.long q2), .second, .val (.long q3), .second, .val (.int p4), .val (.int p5), .val (.ref b1), .val (.ref b3), .val (.ref b6), .val (.ref b12), .val (.long bd), .second, .val (.long bg), .second, .val (.ref b23), .val (.ref b30), .val (.int (own_b ex)), .unset, .unset, .unset] [(.ref b23)])) (fun _ kgo => XS.aload X38.here hx rfl (hb hby at_200) rfl rfl kgo) ?_
            refine own_go (g' := (mkF m 204 #[.val (.long q0), .second, .val (.long q1), .second, .val (.long q2), .second, .val (.long q3), .second, .val (.int p4), .val (.int p5), .val (.ref b1), .val (.ref b3), .val (.ref b6), .val (.ref b12), .val (.long bd), .second, .val (.long bg), .second, .val (.ref b23), .val (.ref b30), .val (.int (own_b ex)), .unset, .unset, .unset] [(.ref b30), (.ref b23)])) (fun _ kgo => XS.aload X38.here hx rfl (hb hby at_202) rfl rfl kgo) ?_
            have fx41 : Fld Z T38.heap b23 "com/example/uptik/uptik/model/Holdings" "documents" "J" (.long q0) := (Fld.keep (Fld.ext E30 q29_1) Kq38 (ninS ne_b23_b30 nin0))
            have fx42 : Fld Z T38.heap b23 "com/example/uptik/uptik/model/Holdings" "documentDigest" "J" (.long q1) := (Fld.keep (Fld.ext E30 q29_2) Kq38 (ninS ne_b23_b30 nin0))
            have fx43 : Exa Z T38.heap b23 "com/example/uptik/uptik/model/Holdings" := (Exa.keep (Exa.ext E30 q29_0) Kq38)
            obtain ⟨v40, T40, L40, hQ40, X40, st40⟩ := own_callV X38 hx hZ (y := (⟨"com/example/uptik/uptik/model/Holdings", "sameRecordAs", "(Lcom/example/uptik/uptik/model/Holdings;)Z"⟩ : MethodName)) (z := (⟨"com/example/uptik/uptik/model/Holdings", "sameRecordAs", "(Lcom/example/uptik/uptik/model/Holdings;)Z"⟩ : MethodName)) hown (hw _ (List.mem_of_getElem? (i := 72) rfl)) (hw _ (List.mem_of_getElem? (i := 73) rfl)) (notFace_of_selects (args := #[]) (mvT hZ (hw _ (List.mem_of_getElem? (i := 75) rfl)))) (hw _ (List.mem_of_getElem? (i := 75) rfl)) (hw _ (List.mem_of_getElem? (i := 74) rfl)) (hw _ (List.mem_of_getElem? (i := 32) rfl)) (hw _ (List.mem_of_getElem? (i := 76) rfl)) ⟨by decide, by decide⟩ (a := b23) (argsL := [(.ref b30)]) (rm10 l Z a0 hw b23 b30 q0 q1 bd bg T38.heap fx41 fx42 q38_1 q38_2) rfl fx43 (g := (mkF m 204 #[.val (.long q0), .second, .val (.long q1), .second, .val (.long q2), .second, .val (.long q3), .second, .val (.int p4), .val (.int p5), .val (.ref b1), .val (.ref b3), .val (.ref b6), .val (.ref b12), .val (.long bd), .second, .val (.long bg), .second, .val (.ref b23), .val (.ref b30), .val (.int (own_b ex)), .unset, .unset, .unset] [(.ref b30), (.ref b23)])) rfl (by rw [hml]; rfl) (rest := []) (lenOf pd0_2 rfl) rfl (hb hby at_204) (W := 0) (by show 2 * 0 + _ ≤ _; exact Nat.le_of_eq rfl) (by decide) (by decide) (by decide) (by decide)
            obtain ⟨rfl, e40, rfl⟩ := hQ40
            have N40 := Fr.app N38 (Fr.nil n0)
            refine own_go (g' := (mkF m 207 #[.val (.long q0), .second, .val (.long q1), .second, .val (.long q2), .second, .val (.long q3), .second, .val (.int p4), .val (.int p5), .val (.ref b1), .val (.ref b3), .val (.ref b6), .val (.ref b12), .val (.long bd), .second, .val (.long bg), .second, .val (.ref b23), .val (.ref b30), .val (.int (own_b ex)), .unset, .unset, .unset] [(.int (own_b (decide (q0 = bd ∧ q1 = bg))))])) (st40) ?_
            suffices JNe_ra : ∀ ra : Bool, ra = (decide (q0 = bd ∧ q1 = bg)) → own_Go p e below (own_PostW s QQ 32 4288) T40 (mkF m 207 #[.val (.long q0), .second, .val (.long q1), .second, .val (.long q2), .second, .val (.long q3), .second, .val (.int p4), .val (.int p5), .val (.ref b1), .val (.ref b3), .val (.ref b6), .val (.ref b12), .val (.long bd), .second, .val (.long bg), .second, .val (.ref b23), .val (.ref b30), .val (.int (own_b ex)), .unset, .unset, .unset] [(.int (own_b ra))]) from JNe_ra _ (rfl)
            intro ra e_ra
            refine own_go (g' := (mkF m 209 #[.val (.long q0), .second, .val (.long q1), .second, .val (.long q2), .second, .val (.long q3), .second, .val (.int p4), .val (.int p5), .val (.ref b1), .val (.ref b3), .val (.ref b6), .val (.ref b12), .val (.long bd), .second, .val (.long bg), .second, .val (.ref b23), .val (.ref b30), .val (.int (own_b ex)), .val (.int (own_b ra)), .unset, .unset] [])) (fun _ kgo => XS.istore X40.here hx rfl (hb hby at_207) rfl (l' := #[.val (.long q0), .second, .val (.long q1), .second, .val (.long q2), .second, .val (.long q3), .second, .val (.int p4), .val (.int p5), .val (.ref b1), .val (.ref b3), .val (.ref b6), .val (.ref b12), .val (.long bd), .second, .val (.long bg), .second, .val (.ref b23), .val (.ref b30), .val (.int (own_b ex)), .val (.int (own_b ra)), .unset, .unset]) rfl kgo) ?_
            refine own_go (g' := (mkF m 211 #[.val (.long q0), .second, .val (.long q1), .second, .val (.long q2), .second, .val (.long q3), .second, .val (.int p4), .val (.int p5), .val (.ref b1), .val (.ref b3), .val (.ref b6), .val (.ref b12), .val (.long bd), .second, .val (.long bg), .second, .val (.ref b23), .val (.ref b30), .val (.int (own_b ex)), .val (.int (own_b ra)), .unset, .unset] [(.ref b30)])) (fun _ kgo => XS.aload X40.here hx rfl (hb hby at_209) rfl rfl kgo) ?_
            refine own_go (g' := (mkF m 213 #[.val (.long q0), .second, .val (.long q1), .second, .val (.long q2), .second, .val (.long q3), .second, .val (.int p4), .val (.int p5), .val (.ref b1), .val (.ref b3), .val (.ref b6), .val (.ref b12), .val (.long bd), .second, .val (.long bg), .second, .val (.ref b23), .val (.ref b30), .val (.int (own_b ex)), .val (.int (own_b ra)), .unset, .unset] [(.ref b23), (.ref b30)])) (fun _ kgo => XS.aload X40.here hx rfl (hb hby at_211) rfl rfl kgo) ?_
            obtain ⟨v44, T44, L44, hQ44, X44, st44⟩ := own_callV X40 hx hZ (y := (⟨"com/example/uptik/uptik/model/Holdings", "sameRecordAs", "(Lcom/example/uptik/uptik/model/Holdings;)Z"⟩ : MethodName)) (z := (⟨"com/example/uptik/uptik/model/Holdings", "sameRecordAs", "(Lcom/example/uptik/uptik/model/Holdings;)Z"⟩ : MethodName)) hown (hw _ (List.mem_of_getElem? (i := 72) rfl)) (hw _ (List.mem_of_getElem? (i := 73) rfl)) (notFace_of_selects (args := #[]) (mvT hZ (hw _ (List.mem_of_getElem? (i := 75) rfl)))) (hw _ (List.mem_of_getElem? (i := 75) rfl)) (hw _ (List.mem_of_getElem? (i := 74) rfl)) (hw _ (List.mem_of_getElem? (i := 32) rfl)) (hw _ (List.mem_of_getElem? (i := 76) rfl)) ⟨by decide, by decide⟩ (a := b30) (argsL := [(.ref b23)]) (rm10 l Z a0 hw b30 b23 bd bg q0 q1 T38.heap q38_1 q38_2 fx41 fx42) e40 q38_0 (g := (mkF m 213 #[.val (.long q0), .second, .val (.long q1), .second, .val (.long q2), .second, .val (.long q3), .second, .val (.int p4), .val (.int p5), .val (.ref b1), .val (.ref b3), .val (.ref b6), .val (.ref b12), .val (.long bd), .second, .val (.long bg), .second, .val (.ref b23), .val (.ref b30), .val (.int (own_b ex)), .val (.int (own_b ra)), .unset, .unset] [(.ref b23), (.ref b30)])) rfl (by rw [hml]; rfl) (rest := []) (lenOf pd0_2 rfl) rfl (hb hby at_213) (W := 0) (by show 2 * 0 + _ ≤ _; exact Nat.le_of_eq rfl) (by decide) (by decide) (by decide) (by decide)
            obtain ⟨rfl, e44, rfl⟩ := hQ44
            have N44 := Fr.app N40 (Fr.nil n0)
            refine own_go (g' := (mkF m 216 #[.val (.long q0), .second, .val (.long q1), .second, .val (.long q2), .second, .val (.long q3), .second, .val (.int p4), .val (.int p5), .val (.ref b1), .val (.ref b3), .val (.ref b6), .val (.ref b12), .val (.long bd), .second, .val (.long bg), .second, .val (.ref b23), .val (.ref b30), .val (.int (own_b ex)), .val (.int (own_b ra)), .unset, .unset] [(.int (own_b (decide (bd = q0 ∧ bg = q1))))])) (st44) ?_
            suffices JNe_rb : ∀ rb : Bool, rb = (decide (bd = q0 ∧ bg = q1)) → own_Go p e below (own_PostW s QQ 32 4288) T44 (mkF m 216 #[.val (.long q0), .second, .val (.long q1), .second, .val (.long q2), .second, .val (.long q3), .second, .val (.int p4), .val (.int p5), .val (.ref b1), .val (.ref b3), .val (.ref b6), .val (.ref b12), .val (.long bd), .second, .val (.long bg), .second, .val (.ref b23), .val (.ref b30), .val (.int (own_b ex)), .val (.int (own_b ra)), .unset, .unset] [(.int (own_b rb))]) from JNe_rb _ (rfl)
            intro rb e_rb
            refine own_go (g' := (mkF m 218 #[.val (.long q0), .second, .val (.long q1), .second, .val (.long q2), .second, .val (.long q3), .second, .val (.int p4), .val (.int p5), .val (.ref b1), .val (.ref b3), .val (.ref b6), .val (.ref b12), .val (.long bd), .second, .val (.long bg), .second, .val (.ref b23), .val (.ref b30), .val (.int (own_b ex)), .val (.int (own_b ra)), .val (.int (own_b rb)), .unset] [])) (fun _ kgo => XS.istore X44.here hx rfl (hb hby at_216) rfl (l' := #[.val (.long q0), .second, .val (.long q1), .second, .val (.long q2), .second, .val (.long q3), .second, .val (.int p4), .val (.int p5), .val (.ref b1), .val (.ref b3), .val (.ref b6), .val (.ref b12), .val (.long bd), .second, .val (.long bg), .second, .val (.ref b23), .val (.ref b30), .val (.int (own_b ex)), .val (.int (own_b ra)), .val (.int (own_b rb)), .unset]) rfl kgo) ?_
            refine own_go (g' := (mkF m 220 #[.val (.long q0), .second, .val (.long q1), .second, .val (.long q2), .second, .val (.long q3), .second, .val (.int p4), .val (.int p5), .val (.ref b1), .val (.ref b3), .val (.ref b6), .val (.ref b12), .val (.long bd), .second, .val (.long bg), .second, .val (.ref b23), .val (.ref b30), .val (.int (own_b ex)), .val (.int (own_b ra)), .val (.int (own_b rb)), .unset] [(.ref b23)])) (fun _ kgo => XS.aload X44.here hx rfl (hb hby at_218) rfl rfl kgo) ?_
            refine own_go (g' := (mkF m 222 #[.val (.long q0), .second, .val (.long q1), .second, .val (.long q2), .second, .val (.long q3), .second, .val (.int p4), .val (.int p5), .val (.ref b1), .val (.ref b3), .val (.ref b6), .val (.ref b12), .val (.long bd), .second, .val (.long bg), .second, .val (.ref b23), .val (.ref b30), .val (.int (own_b ex)), .val (.int (own_b ra)), .val (.int (own_b rb)), .unset] [(.ref b23), (.ref b23)])) (fun _ kgo => XS.aload X44.here hx rfl (hb hby at_220) rfl rfl kgo) ?_
            obtain ⟨v45, T45, L45, hQ45, X45, st45⟩ := own_callV X44 hx hZ (y := (⟨"com/example/uptik/uptik/model/Holdings", "sameRecordAs", "(Lcom/example/uptik/uptik/model/Holdings;)Z"⟩ : MethodName)) (z := (⟨"com/example/uptik/uptik/model/Holdings", "sameRecordAs", "(Lcom/example/uptik/uptik/model/Holdings;)Z"⟩ : MethodName)) hown (hw _ (List.mem_of_getElem? (i := 72) rfl)) (hw _ (List.mem_of_getElem? (i := 73) rfl)) (notFace_of_selects (args := #[]) (mvT hZ (hw _ (List.mem_of_getElem? (i := 75) rfl)))) (hw _ (List.mem_of_getElem? (i := 75) rfl)) (hw _ (List.mem_of_getElem? (i := 74) rfl)) (hw _ (List.mem_of_getElem? (i := 32) rfl)) (hw _ (List.mem_of_getElem? (i := 76) rfl)) ⟨by decide, by decide⟩ (a := b23) (argsL := [(.ref b23)]) (rm10 l Z a0 hw b23 b23 q0 q1 q0 q1 T38.heap fx41 fx42 fx41 fx42) e44 fx43 (g := (mkF m 222 #[.val (.long q0), .second, .val (.long q1), .second, .val (.long q2), .second, .val (.long q3), .second, .val (.int p4), .val (.int p5), .val (.ref b1), .val (.ref b3), .val (.ref b6), .val (.ref b12), .val (.long bd), .second, .val (.long bg), .second, .val (.ref b23), .val (.ref b30), .val (.int (own_b ex)), .val (.int (own_b ra)), .val (.int (own_b rb)), .unset] [(.ref b23), (.ref b23)])) rfl (by rw [hml]; rfl) (rest := []) (lenOf pd0_2 rfl) rfl (hb hby at_222) (W := 0) (by show 2 * 0 + _ ≤ _; exact Nat.le_of_eq rfl) (by decide) (by decide) (by decide) (by decide)
            obtain ⟨rfl, e45, rfl⟩ := hQ45
            have N45 := Fr.app N44 (Fr.nil n0)
            refine own_go (g' := (mkF m 225 #[.val (.long q0), .second, .val (.long q1), .second, .val (.long q2), .second, .val (.long q3), .second, .val (.int p4), .val (.int p5), .val (.ref b1), .val (.ref b3), .val (.ref b6), .val (.ref b12), .val (.long bd), .second, .val (.long bg), .second, .val (.ref b23), .val (.ref b30), .val (.int (own_b ex)), .val (.int (own_b ra)), .val (.int (own_b rb)), .unset] [(.int (own_b (decide (q0 = q0 ∧ q1 = q1))))])) (st45) ?_
            suffices JNe_rc : ∀ rc : Bool, rc = (decide (q0 = q0 ∧ q1 = q1)) → own_Go p e below (own_PostW s QQ 32 4288) T45 (mkF m 225 #[.val (.long q0), .second, .val (.long q1), .second, .val (.long q2), .second, .val (.long q3), .second, .val (.int p4), .val (.int p5), .val (.ref b1), .val (.ref b3), .val (.ref b6), .val (.ref b12), .val (.long bd), .second, .val (.long bg), .second, .val (.ref b23), .val (.ref b30), .val (.int (own_b ex)), .val (.int (own_b ra)), .val (.int (own_b rb)), .unset] [(.int (own_b rc))]) from JNe_rc _ (rfl)
            intro rc e_rc
            refine own_go (g' := (mkF m 227 #[.val (.long q0), .second, .val (.long q1), .second, .val (.long q2), .second, .val (.long q3), .second, .val (.int p4), .val (.int p5), .val (.ref b1), .val (.ref b3), .val (.ref b6), .val (.ref b12), .val (.long bd), .second, .val (.long bg), .second, .val (.ref b23), .val (.ref b30), .val (.int (own_b ex)), .val (.int (own_b ra)), .val (.int (own_b rb)), .val (.int (own_b rc))] [])) (fun _ kgo => XS.istore X45.here hx rfl (hb hby at_225) rfl (l' := #[.val (.long q0), .second, .val (.long q1), .second, .val (.long q2), .second, .val (.long q3), .second, .val (.int p4), .val (.int p5), .val (.ref b1), .val (.ref b3), .val (.ref b6), .val (.ref b12), .val (.long bd), .second, .val (.long bg), .second, .val (.ref b23), .val (.ref b30), .val (.int (own_b ex)), .val (.int (own_b ra)), .val (.int (own_b rb)), .val (.int (own_b rc))]) rfl kgo) ?_
            refine own_go (g' := (mkF m 229 #[.val (.long q0), .second, .val (.long q1), .second, .val (.long q2), .second, .val (.long q3), .second, .val (.int p4), .val (.int p5), .val (.ref b1), .val (.ref b3), .val (.ref b6), .val (.ref b12), .val (.long bd), .second, .val (.long bg), .second, .val (.ref b23), .val (.ref b30), .val (.int (own_b ex)), .val (.int (own_b ra)), .val (.int (own_b rb)), .val (.int (own_b rc))] [(.int (own_b ra))])) (fun _ kgo => XS.iload X45.here hx rfl (hb hby at_227) rfl kgo) ?_
            refine own_go (g' := (mkF m 231 #[.val (.long q0), .second, .val (.long q1), .second, .val (.long q2), .second, .val (.long q3), .second, .val (.int p4), .val (.int p5), .val (.ref b1), .val (.ref b3), .val (.ref b6), .val (.ref b12), .val (.long bd), .second, .val (.long bg), .second, .val (.ref b23), .val (.ref b30), .val (.int (own_b ex)), .val (.int (own_b ra)), .val (.int (own_b rb)), .val (.int (own_b rc))] [(.int (own_b ex)), (.int (own_b ra))])) (fun _ kgo => XS.iload X45.here hx rfl (hb hby at_229) rfl kgo) ?_
            refine own_go (g' := (mkF m 234 #[.val (.long q0), .second, .val (.long q1), .second, .val (.long q2), .second, .val (.long q3), .second, .val (.int p4), .val (.int p5), .val (.ref b1), .val (.ref b3), .val (.ref b6), .val (.ref b12), .val (.long bd), .second, .val (.long bg), .second, .val (.ref b23), .val (.ref b30), .val (.int (own_b ex)), .val (.int (own_b ra)), .val (.int (own_b rb)), .val (.int (own_b rc))] [])) (fun _ kgo => XS.icmpNo X45.here hx rfl (hb hby at_231) rfl (teq (congrArg own_b (show ra = ex from by rw [e_ra, e_ex]; simp [eq_comm]))).2 kgo) ?_
            refine own_go (g' := (mkF m 236 #[.val (.long q0), .second, .val (.long q1), .second, .val (.long q2), .second, .val (.long q3), .second, .val (.int p4), .val (.int p5), .val (.ref b1), .val (.ref b3), .val (.ref b6), .val (.ref b12), .val (.long bd), .second, .val (.long bg), .second, .val (.ref b23), .val (.ref b30), .val (.int (own_b ex)), .val (.int (own_b ra)), .val (.int (own_b rb)), .val (.int (own_b rc))] [(.int (own_b rb))])) (fun _ kgo => XS.iload X45.here hx rfl (hb hby at_234) rfl kgo) ?_
            refine own_go (g' := (mkF m 238 #[.val (.long q0), .second, .val (.long q1), .second, .val (.long q2), .second, .val (.long q3), .second, .val (.int p4), .val (.int p5), .val (.ref b1), .val (.ref b3), .val (.ref b6), .val (.ref b12), .val (.long bd), .second, .val (.long bg), .second, .val (.ref b23), .val (.ref b30), .val (.int (own_b ex)), .val (.int (own_b ra)), .val (.int (own_b rb)), .val (.int (own_b rc))] [(.int (own_b ex)), (.int (own_b rb))])) (fun _ kgo => XS.iload X45.here hx rfl (hb hby at_236) rfl kgo) ?_
            refine own_go (g' := (mkF m 241 #[.val (.long q0), .second, .val (.long q1), .second, .val (.long q2), .second, .val (.long q3), .second, .val (.int p4), .val (.int p5), .val (.ref b1), .val (.ref b3), .val (.ref b6), .val (.ref b12), .val (.long bd), .second, .val (.long bg), .second, .val (.ref b23), .val (.ref b30), .val (.int (own_b ex)), .val (.int (own_b ra)), .val (.int (own_b rb)), .val (.int (own_b rc))] [])) (fun _ kgo => XS.icmpNo X45.here hx rfl (hb hby at_238) rfl (teq (congrArg own_b (show rb = ex from by rw [e_rb, e_ex]; simp [eq_comm]))).2 kgo) ?_
            refine own_go (g' := (mkF m 243 #[.val (.long q0), .second, .val (.long q1), .second, .val (.long q2), .second, .val (.long q3), .second, .val (.int p4), .val (.int p5), .val (.ref b1), .val (.ref b3), .val (.ref b6), .val (.ref b12), .val (.long bd), .second, .val (.long bg), .second, .val (.ref b23), .val (.ref b30), .val (.int (own_b ex)), .val (.int (own_b ra)), .val (.int (own_b rb)), .val (.int (own_b rc))] [(.int (own_b rc))])) (fun _ kgo => XS.iload X45.here hx rfl (hb hby at_241) rfl kgo) ?_
            refine own_go (g' := (mkF m 246 #[.val (.long q0), .second, .val (.long q1), .second, .val (.long q2), .second, .val (.long q3), .second, .val (.int p4), .val (.int p5), .val (.ref b1), .val (.ref b3), .val (.ref b6), .val (.ref b12), .val (.long bd), .second, .val (.long bg), .second, .val (.ref b23), .val (.ref b30), .val (.int (own_b ex)), .val (.int (own_b ra)), .val (.int (own_b rb)), .val (.int (own_b rc))] [])) (fun _ kgo => XS.ifNo X45.here hx rfl (hb hby at_243) rfl ((if0 _ _).trans (feq (own_b_n (by rw [e_rc]; exact decide_eq_true ⟨rfl, rfl⟩))).1) kgo) ?_
            refine own_go (g' := (mkF m 247 #[.val (.long q0), .second, .val (.long q1), .second, .val (.long q2), .second, .val (.long q3), .second, .val (.int p4), .val (.int p5), .val (.ref b1), .val (.ref b3), .val (.ref b6), .val (.ref b12), .val (.long bd), .second, .val (.long bg), .second, .val (.ref b23), .val (.ref b30), .val (.int (own_b ex)), .val (.int (own_b ra)), .val (.int (own_b rb)), .val (.int (own_b rc))] [(.int (1 : Int32))])) (fun _ kgo => XS.iconst X45.here hx rfl (hb hby at_246) kgo) ?_
            refine own_go (g' := (mkF m 251 #[.val (.long q0), .second, .val (.long q1), .second, .val (.long q2), .second, .val (.long q3), .second, .val (.int p4), .val (.int p5), .val (.ref b1), .val (.ref b3), .val (.ref b6), .val (.ref b12), .val (.long bd), .second, .val (.long bg), .second, .val (.ref b23), .val (.ref b30), .val (.int (own_b ex)), .val (.int (own_b ra)), .val (.int (own_b rb)), .val (.int (own_b rc))] [(.int (1 : Int32))])) (fun _ kgo => XS.goto X45.here hx rfl (pc0 := 247) (pc' := 251) rfl (hb hby at_247) (by decide) (by decide) kgo) ?_
            refine own_retNW X45 hx hS38 e45 hk38 .boolean Bd.returns Bd.notSynchronized (by simp) (hb hby at_251) (by decide) (by decide) ?_
            show QQ _ T45.heap _
            rw [e45]
            rw [← hQQ]
            exact ⟨rfl, N45⟩
          by_cases hc46 : q0 = bd
          ·
            refine own_go (g' := (mkF m 186 #[.val (.long q0), .second, .val (.long q1), .second, .val (.long q2), .second, .val (.long q3), .second, .val (.int p4), .val (.int p5), .val (.ref b1), .val (.ref b3), .val (.ref b6), .val (.ref b12), .val (.long bd), .second, .val (.long bg), .second, .val (.ref b23), .val (.ref b30), .unset, .unset, .unset, .unset] [])) (fun _ kgo => XS.ifNo X38.here hx rfl (hb hby at_183) rfl ((if0 _ _).trans (teq ((lw_eq _ _).mpr hc46)).2) kgo) ?_
            refine own_go (g' := (mkF m 187 #[.val (.long q0), .second, .val (.long q1), .second, .val (.long q2), .second, .val (.long q3), .second, .val (.int p4), .val (.int p5), .val (.ref b1), .val (.ref b3), .val (.ref b6), .val (.ref b12), .val (.long bd), .second, .val (.long bg), .second, .val (.ref b23), .val (.ref b30), .unset, .unset, .unset, .unset] [(.long q1)])) (fun _ kgo => XS.lloadN X38.here hx rfl (hb hby at_186) rfl kgo) ?_
            refine own_go (g' := (mkF m 189 #[.val (.long q0), .second, .val (.long q1), .second, .val (.long q2), .second, .val (.long q3), .second, .val (.int p4), .val (.int p5), .val (.ref b1), .val (.ref b3), .val (.ref b6), .val (.ref b12), .val (.long bd), .second, .val (.long bg), .second, .val (.ref b23), .val (.ref b30), .unset, .unset, .unset, .unset] [(.long bg), (.long q1)])) (fun _ kgo => XS.lload X38.here hx rfl (hb hby at_187) rfl kgo) ?_
            refine own_go (g' := (mkF m 190 #[.val (.long q0), .second, .val (.long q1), .second, .val (.long q2), .second, .val (.long q3), .second, .val (.int p4), .val (.int p5), .val (.ref b1), .val (.ref b3), .val (.ref b6), .val (.ref b12), .val (.long bd), .second, .val (.long bg), .second, .val (.ref b23), .val (.ref b30), .unset, .unset, .unset, .unset] [(.int (lcmpW q1 bg))])) (fun _ kgo => XS.lcmp X38.here hx rfl (hb hby at_189) rfl kgo) ?_
            have J47 : own_Go p e below (own_PostW s QQ 32 4288) T38 (mkF m 198 #[.val (.long q0), .second, .val (.long q1), .second, .val (.long q2), .second, .val (.long q3), .second, .val (.int p4), .val (.int p5), .val (.ref b1), .val (.ref b3), .val (.ref b6), .val (.ref b12), .val (.long bd), .second, .val (.long bg), .second, .val (.ref b23), .val (.ref b30), .unset, .unset, .unset, .unset] [(.int (own_b (decide (q1 = bg))))]) := by
              have hE39 : own_b ((decide (q0 = bd) && decide (q1 = bg))) = (own_b (decide (q1 = bg))) := by simp only [decide_eq_true hc46]; first | done | rfl
              exact own_cast (by rw [hE39]) J39
            by_cases hc48 : q1 = bg
            ·
              refine own_go (g' := (mkF m 193 #[.val (.long q0), .second, .val (.long q1), .second, .val (.long q2), .second, .val (.long q3), .second, .val (.int p4), .val (.int p5), .val (.ref b1), .val (.ref b3), .val (.ref b6), .val (.ref b12), .val (.long bd), .second, .val (.long bg), .second, .val (.ref b23), .val (.ref b30), .unset, .unset, .unset, .unset] [])) (fun _ kgo => XS.ifNo X38.here hx rfl (hb hby at_190) rfl ((if0 _ _).trans (teq ((lw_eq _ _).mpr hc48)).2) kgo) ?_
              refine own_go (g' := (mkF m 194 #[.val (.long q0), .second, .val (.long q1), .second, .val (.long q2), .second, .val (.long q3), .second, .val (.int p4), .val (.int p5), .val (.ref b1), .val (.ref b3), .val (.ref b6), .val (.ref b12), .val (.long bd), .second, .val (.long bg), .second, .val (.ref b23), .val (.ref b30), .unset, .unset, .unset, .unset] [(.int (1 : Int32))])) (fun _ kgo => XS.iconst X38.here hx rfl (hb hby at_193) kgo) ?_
              refine own_go (g' := (mkF m 198 #[.val (.long q0), .second, .val (.long q1), .second, .val (.long q2), .second, .val (.long q3), .second, .val (.int p4), .val (.int p5), .val (.ref b1), .val (.ref b3), .val (.ref b6), .val (.ref b12), .val (.long bd), .second, .val (.long bg), .second, .val (.ref b23), .val (.ref b30), .unset, .unset, .unset, .unset] [(.int (1 : Int32))])) (fun _ kgo => XS.goto X38.here hx rfl (pc0 := 194) (pc' := 198) rfl (hb hby at_194) (by decide) (by decide) kgo) ?_
              have hE47 : own_b (decide (q1 = bg)) = (1 : Int32) := by simp only [decide_eq_true hc48]; first | done | rfl
              exact own_cast (by rw [hE47]) J47
            ·
              refine own_go (g' := (mkF m 197 #[.val (.long q0), .second, .val (.long q1), .second, .val (.long q2), .second, .val (.long q3), .second, .val (.int p4), .val (.int p5), .val (.ref b1), .val (.ref b3), .val (.ref b6), .val (.ref b12), .val (.long bd), .second, .val (.long bg), .second, .val (.ref b23), .val (.ref b30), .unset, .unset, .unset, .unset] [])) (fun _ kgo => XS.ifYes X38.here hx rfl (pc0 := 190) (pc' := 197) rfl (hb hby at_190) rfl ((if0 _ _).trans (feq (mt (lw_eq _ _).mp hc48)).2) (by decide) (by decide) kgo) ?_
              refine own_go (g' := (mkF m 198 #[.val (.long q0), .second, .val (.long q1), .second, .val (.long q2), .second, .val (.long q3), .second, .val (.int p4), .val (.int p5), .val (.ref b1), .val (.ref b3), .val (.ref b6), .val (.ref b12), .val (.long bd), .second, .val (.long bg), .second, .val (.ref b23), .val (.ref b30), .unset, .unset, .unset, .unset] [(.int (0 : Int32))])) (fun _ kgo => XS.iconst X38.here hx rfl (hb hby at_197) kgo) ?_
              have hE47 : own_b (decide (q1 = bg)) = (0 : Int32) := by simp only [decide_eq_false hc48]; first | done | rfl
              exact own_cast (by rw [hE47]) J47
          ·
            refine own_go (g' := (mkF m 197 #[.val (.long q0), .second, .val (.long q1), .second, .val (.long q2), .second, .val (.long q3), .second, .val (.int p4), .val (.int p5), .val (.ref b1), .val (.ref b3), .val (.ref b6), .val (.ref b12), .val (.long bd), .second, .val (.long bg), .second, .val (.ref b23), .val (.ref b30), .unset, .unset, .unset, .unset] [])) (fun _ kgo => XS.ifYes X38.here hx rfl (pc0 := 183) (pc' := 197) rfl (hb hby at_183) rfl ((if0 _ _).trans (feq (mt (lw_eq _ _).mp hc46)).2) (by decide) (by decide) kgo) ?_
            refine own_go (g' := (mkF m 198 #[.val (.long q0), .second, .val (.long q1), .second, .val (.long q2), .second, .val (.long q3), .second, .val (.int p4), .val (.int p5), .val (.ref b1), .val (.ref b3), .val (.ref b6), .val (.ref b12), .val (.long bd), .second, .val (.long bg), .second, .val (.ref b23), .val (.ref b30), .unset, .unset, .unset, .unset] [(.int (0 : Int32))])) (fun _ kgo => XS.iconst X38.here hx rfl (hb hby at_197) kgo) ?_
            have hE39 : own_b ((decide (q0 = bd) && decide (q1 = bg))) = (0 : Int32) := by simp only [decide_eq_false hc46]; first | done | rfl
            exact own_cast (by rw [hE39]) J39
        by_cases hc49 : (p4 &&& (8 : Int32)) = (0 : Int32)
        ·
          refine own_go (g' := (mkF m 173 #[.val (.long q0), .second, .val (.long q1), .second, .val (.long q2), .second, .val (.long q3), .second, .val (.int p4), .val (.int p5), .val (.ref b1), .val (.ref b3), .val (.ref b6), .val (.ref b12), .val (.long bd), .second, .val (.long bg), .second, .val (.ref b23), .unset, .unset, .unset, .unset, .unset] [(.long bg), (.long bd), (.ref b6), (.ref b12), (.ref b6), (.ref b12), (.long ((p4 >>> ((4 : Int32) &&& 31)).toInt64)), (.long q3), (.long q2), (.ref b30), (.ref b30)])) (fun _ kgo => XS.ifYes X30.here hx rfl (pc0 := 166) (pc' := 173) rfl (hb hby at_166) rfl ((if0 _ _).trans (teq hc49).1) (by decide) (by decide) kgo) ?_
          refine own_go (g' := (mkF m 174 #[.val (.long q0), .second, .val (.long q1), .second, .val (.long q2), .second, .val (.long q3), .second, .val (.int p4), .val (.int p5), .val (.ref b1), .val (.ref b3), .val (.ref b6), .val (.ref b12), .val (.long bd), .second, .val (.long bg), .second, .val (.ref b23), .unset, .unset, .unset, .unset, .unset] [(.int (0 : Int32)), (.long bg), (.long bd), (.ref b6), (.ref b12), (.ref b6), (.ref b12), (.long ((p4 >>> ((4 : Int32) &&& 31)).toInt64)), (.long q3), (.long q2), (.ref b30), (.ref b30)])) (fun _ kgo => XS.iconst X30.here hx rfl (hb hby at_173) kgo) ?_
          have hE37 : own_b (!decide ((p4 &&& (8 : Int32)) = (0 : Int32))) = (0 : Int32) := by simp only [decide_eq_true hc49]; first | done | rfl
          exact own_cast (by rw [hE37]) J37
        ·
          refine own_go (g' := (mkF m 169 #[.val (.long q0), .second, .val (.long q1), .second, .val (.long q2), .second, .val (.long q3), .second, .val (.int p4), .val (.int p5), .val (.ref b1), .val (.ref b3), .val (.ref b6), .val (.ref b12), .val (.long bd), .second, .val (.long bg), .second, .val (.ref b23), .unset, .unset, .unset, .unset, .unset] [(.long bg), (.long bd), (.ref b6), (.ref b12), (.ref b6), (.ref b12), (.long ((p4 >>> ((4 : Int32) &&& 31)).toInt64)), (.long q3), (.long q2), (.ref b30), (.ref b30)])) (fun _ kgo => XS.ifNo X30.here hx rfl (hb hby at_166) rfl ((if0 _ _).trans (feq hc49).1) kgo) ?_
          refine own_go (g' := (mkF m 170 #[.val (.long q0), .second, .val (.long q1), .second, .val (.long q2), .second, .val (.long q3), .second, .val (.int p4), .val (.int p5), .val (.ref b1), .val (.ref b3), .val (.ref b6), .val (.ref b12), .val (.long bd), .second, .val (.long bg), .second, .val (.ref b23), .unset, .unset, .unset, .unset, .unset] [(.int (1 : Int32)), (.long bg), (.long bd), (.ref b6), (.ref b12), (.ref b6), (.ref b12), (.long ((p4 >>> ((4 : Int32) &&& 31)).toInt64)), (.long q3), (.long q2), (.ref b30), (.ref b30)])) (fun _ kgo => XS.iconst X30.here hx rfl (hb hby at_169) kgo) ?_
          refine own_go (g' := (mkF m 174 #[.val (.long q0), .second, .val (.long q1), .second, .val (.long q2), .second, .val (.long q3), .second, .val (.int p4), .val (.int p5), .val (.ref b1), .val (.ref b3), .val (.ref b6), .val (.ref b12), .val (.long bd), .second, .val (.long bg), .second, .val (.ref b23), .unset, .unset, .unset, .unset, .unset] [(.int (1 : Int32)), (.long bg), (.long bd), (.ref b6), (.ref b12), (.ref b6), (.ref b12), (.long ((p4 >>> ((4 : Int32) &&& 31)).toInt64)), (.long q3), (.long q2), (.ref b30), (.ref b30)])) (fun _ kgo => XS.goto X30.here hx rfl (pc0 := 170) (pc' := 174) rfl (hb hby at_170) (by decide) (by decide) kgo) ?_
          have hE37 : own_b (!decide ((p4 &&& (8 : Int32)) = (0 : Int32))) = (1 : Int32) := by simp only [decide_eq_false hc49]; first | done | rfl
          exact own_cast (by rw [hE37]) J37
      by_cases hc50 : (p4 &&& (1 : Int32)) = (0 : Int32)
      ·
        refine own_go (g' := (mkF m 130 #[.val (.long q0), .second, .val (.long q1), .second, .val (.long q2), .second, .val (.long q3), .second, .val (.int p4), .val (.int p5), .val (.ref b1), .val (.ref b3), .val (.ref b6), .val (.ref b12), .val (.long bd), .second, .val (.long bg), .second, .unset, .unset, .unset, .unset, .unset, .unset] [(.long q1), (.long q0), (.ref b12), (.ref b6), (.ref b12), (.ref b6), (.long q3), (.long q2), (.long (p5.toInt64)), (.ref b23), (.ref b23)])) (fun _ kgo => XS.ifYes X23.here hx rfl (pc0 := 123) (pc' := 130) rfl (hb hby at_123) rfl ((if0 _ _).trans (teq hc50).1) (by decide) (by decide) kgo) ?_
        refine own_go (g' := (mkF m 131 #[.val (.long q0), .second, .val (.long q1), .second, .val (.long q2), .second, .val (.long q3), .second, .val (.int p4), .val (.int p5), .val (.ref b1), .val (.ref b3), .val (.ref b6), .val (.ref b12), .val (.long bd), .second, .val (.long bg), .second, .unset, .unset, .unset, .unset, .unset, .unset] [(.int (0 : Int32)), (.long q1), (.long q0), (.ref b12), (.ref b6), (.ref b12), (.ref b6), (.long q3), (.long q2), (.long (p5.toInt64)), (.ref b23), (.ref b23)])) (fun _ kgo => XS.iconst X23.here hx rfl (hb hby at_130) kgo) ?_
        have hE28 : own_b (!decide ((p4 &&& (1 : Int32)) = (0 : Int32))) = (0 : Int32) := by simp only [decide_eq_true hc50]; first | done | rfl
        exact own_cast (by rw [hE28]) J28
      ·
        refine own_go (g' := (mkF m 126 #[.val (.long q0), .second, .val (.long q1), .second, .val (.long q2), .second, .val (.long q3), .second, .val (.int p4), .val (.int p5), .val (.ref b1), .val (.ref b3), .val (.ref b6), .val (.ref b12), .val (.long bd), .second, .val (.long bg), .second, .unset, .unset, .unset, .unset, .unset, .unset] [(.long q1), (.long q0), (.ref b12), (.ref b6), (.ref b12), (.ref b6), (.long q3), (.long q2), (.long (p5.toInt64)), (.ref b23), (.ref b23)])) (fun _ kgo => XS.ifNo X23.here hx rfl (hb hby at_123) rfl ((if0 _ _).trans (feq hc50).1) kgo) ?_
        refine own_go (g' := (mkF m 127 #[.val (.long q0), .second, .val (.long q1), .second, .val (.long q2), .second, .val (.long q3), .second, .val (.int p4), .val (.int p5), .val (.ref b1), .val (.ref b3), .val (.ref b6), .val (.ref b12), .val (.long bd), .second, .val (.long bg), .second, .unset, .unset, .unset, .unset, .unset, .unset] [(.int (1 : Int32)), (.long q1), (.long q0), (.ref b12), (.ref b6), (.ref b12), (.ref b6), (.long q3), (.long q2), (.long (p5.toInt64)), (.ref b23), (.ref b23)])) (fun _ kgo => XS.iconst X23.here hx rfl (hb hby at_126) kgo) ?_
        refine own_go (g' := (mkF m 131 #[.val (.long q0), .second, .val (.long q1), .second, .val (.long q2), .second, .val (.long q3), .second, .val (.int p4), .val (.int p5), .val (.ref b1), .val (.ref b3), .val (.ref b6), .val (.ref b12), .val (.long bd), .second, .val (.long bg), .second, .unset, .unset, .unset, .unset, .unset, .unset] [(.int (1 : Int32)), (.long q1), (.long q0), (.ref b12), (.ref b6), (.ref b12), (.ref b6), (.long q3), (.long q2), (.long (p5.toInt64)), (.ref b23), (.ref b23)])) (fun _ kgo => XS.goto X23.here hx rfl (pc0 := 127) (pc' := 131) rfl (hb hby at_127) (by decide) (by decide) kgo) ?_
        have hE28 : own_b (!decide ((p4 &&& (1 : Int32)) = (0 : Int32))) = (1 : Int32) := by simp only [decide_eq_false hc50]; first | done | rfl
        exact own_cast (by rw [hE28]) J28
    by_cases hc51 : (p4 &&& (4 : Int32)) = (0 : Int32)
    ·
      refine own_go (g' := (mkF m 94 #[.val (.long q0), .second, .val (.long q1), .second, .val (.long q2), .second, .val (.long q3), .second, .val (.int p4), .val (.int p5), .val (.ref b1), .val (.ref b3), .val (.ref b6), .val (.ref b12), .val (.long bd), .second, .unset, .unset, .unset, .unset, .unset, .unset, .unset, .unset] [])) (fun _ kgo => XS.ifYes X15.here hx rfl (pc0 := 87) (pc' := 94) rfl (hb hby at_87) rfl ((if0 _ _).trans (teq hc51).1) (by decide) (by decide) kgo) ?_
      refine own_go (g' := (mkF m 96 #[.val (.long q0), .second, .val (.long q1), .second, .val (.long q2), .second, .val (.long q3), .second, .val (.int p4), .val (.int p5), .val (.ref b1), .val (.ref b3), .val (.ref b6), .val (.ref b12), .val (.long bd), .second, .unset, .unset, .unset, .unset, .unset, .unset, .unset, .unset] [(.long q3)])) (fun _ kgo => XS.lload X15.here hx rfl (hb hby at_94) rfl kgo) ?_
      exact J22 q3
    ·
      refine own_go (g' := (mkF m 90 #[.val (.long q0), .second, .val (.long q1), .second, .val (.long q2), .second, .val (.long q3), .second, .val (.int p4), .val (.int p5), .val (.ref b1), .val (.ref b3), .val (.ref b6), .val (.ref b12), .val (.long bd), .second, .unset, .unset, .unset, .unset, .unset, .unset, .unset, .unset] [])) (fun _ kgo => XS.ifNo X15.here hx rfl (hb hby at_87) rfl ((if0 _ _).trans (feq hc51).1) kgo) ?_
      refine own_go (g' := (mkF m 91 #[.val (.long q0), .second, .val (.long q1), .second, .val (.long q2), .second, .val (.long q3), .second, .val (.int p4), .val (.int p5), .val (.ref b1), .val (.ref b3), .val (.ref b6), .val (.ref b12), .val (.long bd), .second, .unset, .unset, .unset, .unset, .unset, .unset, .unset, .unset] [(.long q1)])) (fun _ kgo => XS.lloadN X15.here hx rfl (hb hby at_90) rfl kgo) ?_
      refine own_go (g' := (mkF m 96 #[.val (.long q0), .second, .val (.long q1), .second, .val (.long q2), .second, .val (.long q3), .second, .val (.int p4), .val (.int p5), .val (.ref b1), .val (.ref b3), .val (.ref b6), .val (.ref b12), .val (.long bd), .second, .unset, .unset, .unset, .unset, .unset, .unset, .unset, .unset] [(.long q1)])) (fun _ kgo => XS.goto X15.here hx rfl (pc0 := 91) (pc' := 96) rfl (hb hby at_91) (by decide) (by decide) kgo) ?_
      exact J22 q1
  by_cases hc52 : (p4 &&& (2 : Int32)) = (0 : Int32)
  ·
    refine own_go (g' := (mkF m 79 #[.val (.long q0), .second, .val (.long q1), .second, .val (.long q2), .second, .val (.long q3), .second, .val (.int p4), .val (.int p5), .val (.ref b1), .val (.ref b3), .val (.ref b6), .val (.ref b12), .unset, .unset, .unset, .unset, .unset, .unset, .unset, .unset, .unset, .unset] [])) (fun _ kgo => XS.ifYes X15.here hx rfl (pc0 := 72) (pc' := 79) rfl (hb hby at_72) rfl ((if0 _ _).trans (teq hc52).1) (by decide) (by decide) kgo) ?_
    refine own_go (g' := (mkF m 81 #[.val (.long q0), .second, .val (.long q1), .second, .val (.long q2), .second, .val (.long q3), .second, .val (.int p4), .val (.int p5), .val (.ref b1), .val (.ref b3), .val (.ref b6), .val (.ref b12), .unset, .unset, .unset, .unset, .unset, .unset, .unset, .unset, .unset, .unset] [(.long q2)])) (fun _ kgo => XS.lload X15.here hx rfl (hb hby at_79) rfl kgo) ?_
    exact J21 q2
  ·
    refine own_go (g' := (mkF m 75 #[.val (.long q0), .second, .val (.long q1), .second, .val (.long q2), .second, .val (.long q3), .second, .val (.int p4), .val (.int p5), .val (.ref b1), .val (.ref b3), .val (.ref b6), .val (.ref b12), .unset, .unset, .unset, .unset, .unset, .unset, .unset, .unset, .unset, .unset] [])) (fun _ kgo => XS.ifNo X15.here hx rfl (hb hby at_72) rfl ((if0 _ _).trans (feq hc52).1) kgo) ?_
    refine own_go (g' := (mkF m 76 #[.val (.long q0), .second, .val (.long q1), .second, .val (.long q2), .second, .val (.long q3), .second, .val (.int p4), .val (.int p5), .val (.ref b1), .val (.ref b3), .val (.ref b6), .val (.ref b12), .unset, .unset, .unset, .unset, .unset, .unset, .unset, .unset, .unset, .unset] [(.long q0)])) (fun _ kgo => XS.lloadN X15.here hx rfl (hb hby at_75) rfl kgo) ?_
    refine own_go (g' := (mkF m 81 #[.val (.long q0), .second, .val (.long q1), .second, .val (.long q2), .second, .val (.long q3), .second, .val (.int p4), .val (.int p5), .val (.ref b1), .val (.ref b3), .val (.ref b6), .val (.ref b12), .unset, .unset, .unset, .unset, .unset, .unset, .unset, .unset, .unset, .unset] [(.long q0)])) (fun _ kgo => XS.goto X15.here hx rfl (pc0 := 76) (pc' := 81) rfl (hb hby at_76) (by decide) (by decide) kgo) ?_
    exact J21 q0
set_option maxRecDepth 65536 in
set_option maxHeartbeats 40000000 in
theorem comes_1 {Post : Tables → Env → Array Value → State → Outcome → State → Prop} (hpost : ∀ tb e args s v u, (limb_1_1.after args s (.returned v) u = true ∧ limb_1_2.after args s (.returned v) u = true ∧ True) → ReturnedEndW s (.returned v) u (Jvm.fieldLocs frame_1_writes args s ++ Jvm.arrayLocs frame_1_arrays args s ++ Jvm.staticLocs frame_1_statics s) 32 4288 → Post tb e args s (.returned v) u) :
    ArmFor flags0 classFile x code maxLocals ret World_1 tables_1 room_1 Calls_1 rest_1 Pre_1 Post := by
  intro l hfl _ _ p e ha hc hk s m args below hf hA hF happ hP
  obtain ⟨hcalls, hrest, hpre⟩ := hP
  obtain ⟨-, -, -, hnamed, -, -, -, hat⟩ := (Spec.applies_iff hf).mp happ
  obtain ⟨hg, hn⟩ := and_e (Cond.before_iff.mp (show (Jvm.Cond.and given_1 narrow_1).before args s = true from hpre))
  obtain ⟨g1, g2⟩ := and_e hg
  obtain ⟨g3, g4⟩ := and_e g2
  obtain ⟨g5, g6⟩ := and_e g4
  obtain ⟨g7, g8⟩ := and_e g6
  obtain ⟨g9, g10⟩ := and_e g8
  obtain ⟨g11, g12⟩ := and_e g10
  obtain ⟨w0, w1, w2, w3, w4, w5, rfl⟩ : ∃ w0 w1 w2 w3 w4 w5 : Value, args = #[w0, w1, w2, w3, w4, w5] := by
    have hs : args.size = 6 := by simpa [Cond.value, given_1] using g1
    obtain ⟨L⟩ := args
    match L, hs with
    | [w0, w1, w2, w3, w4, w5], _ => exact ⟨w0, w1, w2, w3, w4, w5, rfl⟩
  have hw := fun d (hd : d ∈ tables_1) => atoms_spec (ws := Jvm.Cond.code x code maxLocals ret :: tables_1) hat d (List.mem_cons_of_mem _ hd)
  have hfit : Fit s := fun {y c} hc i hi => by
    obtain ⟨ha, rfl⟩ := Array.getElem?_eq_some_iff.mp hc
    have q := List.all_eq_true.mp ((Array.all_eq_true_iff_forall_mem.mp hF) _ (Array.getElem_mem ha)) i (List.mem_range.mpr hi)
    simpa [Array.getElem?_eq_getElem hi] using q
  obtain ⟨hsets, hown0⟩ := atoms_of _ (rest_1_c_eq ▸ (show rest_1_c.before _ s = true from hrest))
  obtain ⟨i0, ei0⟩ := isL_v g3
  obtain rfl : w0 = (.long i0) := Option.some.inj ei0
  obtain ⟨i1, ei1⟩ := isL_v g5
  obtain rfl : w1 = (.long i1) := Option.some.inj ei1
  obtain ⟨i2, ei2⟩ := isL_v g7
  obtain rfl : w2 = (.long i2) := Option.some.inj ei2
  obtain ⟨i3, ei3⟩ := isL_v g9
  obtain rfl : w3 = (.long i3) := Option.some.inj ei3
  obtain ⟨i4, ei4⟩ := is_v g11
  obtain rfl : w4 = (.int i4) := Option.some.inj ei4
  obtain ⟨i5, ei5⟩ := is_v g12
  obtain rfl : w5 = (.int i5) := Option.some.inj ei5
  have n3 := not_v (Cond.before_iff.mp (hsets _ (List.mem_of_getElem? (i := 2) rfl)))
  obtain ⟨i77, e6⟩ := is_v (Cond.before_iff.mp (hsets _ (List.mem_of_getElem? (i := 1) rfl)))
  have S8 : Sta s s.heap "java/lang/String" "COMPACT_STRINGS" "Z" (.int i77) := Sta.start e6 (Or.inl (hsets _ (List.mem_of_getElem? (i := 0) rfl)))
  have c9 : ¬ (i77 = (0 : Int32)) := gotF (Cond.eq_ints e6 (Term.int_eval (0))) n3
  obtain ⟨n, o, h1, h2, h3, _, L, rfl, ⟨rfl, N⟩, hq⟩ := rm0 l s _ hw i0 i1 i2 i3 i4 i5 i77 s.heap s.heap.size (Nat.le_refl _) (Old.start s) S8 c9 p e ha hc hk s m _ below hf ((Spec.applies_iff_loose hf).mp happ).1 ⟨rfl, State.Warmed39.refl s, rfl⟩ trivial
  refine ⟨n, _, h1, h2, h3, hpost _ _ _ _ _ _ ⟨Cond.after_iff.mpr rfl, Cond.after_iff.mpr (eq_i res_at (Term.int_eval (1)) rfl), trivial⟩ ⟨hq.1, hq.2.1, hq.2.2.1, (hq.2.2.2.sift fun y hy => Or.inr (N y hy)).mono (by decide) (by decide)⟩⟩
theorem main_1_1 : Claimed_1_1 := comes_1 fun _ _ _ _ _ _ h hF => ⟨h.1, hF⟩
theorem main_1_2 : Claimed_1_2 := comes_1 fun _ _ _ _ _ _ h hF => ⟨h.2.1, hF⟩
end Jvm.Pilot.@@N@@
namespace Jvm.Pilot.@@N@@
open Jvm Jvm.ClassFile Sem Op Lib Jvm.Free Jvm.Stand Jvm.Pilot.@@N@@.Jvm.D
/-! MADE BY PROGRAM (witnessworld.py) out of the Statement's table words and the real class files: 22 classes; the members and pool entries that the words name. The judged class is class 1, her method 1. -/
namespace start1
open Jvm.ClassFile
def u (s : String) : CpInfo := .utf8 (stringToUtf16 s)
/-- a pool by its gaps: so many unusable entries, then the entry; so many at the end -/
def gap : Nat → List CpInfo → List CpInfo
  | 0, r => r
  | n + 1, r => .unusable :: gap n r
def poolList (es : List (Nat × CpInfo)) (last : Nat) : List CpInfo := es.foldr (fun e r => gap e.1 (e.2 :: r)) (gap last [])
def pool (es : List (Nat × CpInfo)) (last : Nat) : Array CpInfo := ⟨poolList es last⟩
def fileOf (pool : Array CpInfo) (this : Nat) (attrs : Array Attribute := #[]) (ms : Array MethodInfo := #[]) (fl : Nat := 33) (sup : Nat := 0) (ifs : Array Nat := #[]) (fds : Array FieldInfo := #[]) : ClassFile where
  minorVersion := 0
  majorVersion := 65
  constantPool := pool
  accessFlags := fl
  thisClass := this
  superClass := sup
  interfaces := ifs
  fields := fds
  methods := ms
  attributes := attrs
def plain (name : String) (sup : Option ClassId) : Class where
  name := name
  kind := .ordinary
  loader := none
  accessFlags := 33
  super := sup
  interfaces := #[]
  cf := none
  fields := #[]
  methods := #[]
  instanceTypes := #[]
  staticTypes := #[]
  resolved := #[]
  callSites := []
  init := .initialized
  statics := none
  mirror := none

def pool0 : Array CpInfo := pool [(5, u "<init>"), (0, u "()V"), (1, .class_ 10), (1, u "java/lang/Object")] 113

def k0c0 : Code := { maxStack := 0, maxLocals := 1, code := object_method_1_code, exceptionTable := #[], attributes := #[] }
def k0m0 : Method := { name := "<init>", desc := "()V", sig := { parameters := [], returnType := none }, accessFlags := 1, code := some k0c0 }
/-- java/lang/Object -/
def k0 : Class := { plain "java/lang/Object" none with
  accessFlags := 33
  interfaces := #[]
  cf := some (fileOf pool0 8 #[] #[{ accessFlags := 1, nameIndex := 5, descriptorIndex := 6, attributes := #[] }] 33 0 #[] #[])
  fields := #[]
  methods := #[k0m0]
  instanceTypes := #[]
  staticTypes := #[]
  resolved := Array.replicate 124 none
  statics := none }

def pool1 : Array CpInfo := pool [(2, .class_ 4), (1, u "java/lang/Object"), (0, u "<init>"), (0, u "()V"), (0, .class_ 8), (0, u "java/lang/String"), (0, .methodref 7 10), (0, .nameAndType 5 11), (0, u "([C)V"), (0, .class_ 13), (0, u "com/example/uptik/uptik/model/Holdings"), (0, .methodref 12 15), (0, .nameAndType 5 16), (0, u "(JJJLjava/lang/String;Ljava/lang/String;Ljava/lang/String;Ljava/lang/String;JJZ)V"), (0, .methodref 12 18), (0, .nameAndType 19 20), (0, u "sameRecordAs"), (0, u "(Lcom/example/uptik/uptik/model/Holdings;)Z"), (0, .class_ 22), (0, u "com/example/uptik/uptik/model/HoldingsSameRecordAsPinLaw"), (2, u "law"), (0, u "(JJJJII)Z")] 5

def k1m0 : Method := { name := "<init>", desc := "()V", sig := { parameters := [], returnType := none }, accessFlags := 1, code := none }
def k1c1 : Code := { maxStack := 18, maxLocals := 24, code := code, exceptionTable := #[], attributes := #[] }
def k1m1 : Method := { name := "law", desc := "(JJJJII)Z", sig := { parameters := [.long, .long, .long, .long, .int, .int], returnType := some .boolean }, accessFlags := 9, code := some k1c1 }
/-- com/example/uptik/uptik/model/HoldingsSameRecordAsPinLaw -/
def k1 : Class := { plain "com/example/uptik/uptik/model/HoldingsSameRecordAsPinLaw" (some 0) with
  accessFlags := 49
  interfaces := #[]
  cf := some (fileOf pool1 21 #[] #[{ accessFlags := 1, nameIndex := 5, descriptorIndex := 6, attributes := #[] }, { accessFlags := 9, nameIndex := 25, descriptorIndex := 26, attributes := #[] }] 49 2 #[] #[])
  fields := #[]
  methods := #[k1m0, k1m1]
  instanceTypes := #[]
  staticTypes := #[]
  resolved := Array.replicate 32 none
  statics := none }

def pool2 : Array CpInfo := pool [(1, .class_ 2), (0, u "java/io/Serializable"), (0, .class_ 4), (0, u "java/lang/Object")] 2

/-- java/io/Serializable -/
def k2 : Class := { plain "java/io/Serializable" (some 0) with
  accessFlags := 1537
  interfaces := #[]
  cf := some (fileOf pool2 1 #[] #[] 1537 3 #[] #[])
  fields := #[]
  methods := #[]
  instanceTypes := #[]
  staticTypes := #[]
  resolved := Array.replicate 7 none
  statics := none }

def pool3 : Array CpInfo := pool [(1, .class_ 2), (0, u "java/lang/Comparable"), (0, .class_ 4), (0, u "java/lang/Object")] 7

/-- java/lang/Comparable -/
def k3 : Class := { plain "java/lang/Comparable" (some 0) with
  accessFlags := 1537
  interfaces := #[]
  cf := some (fileOf pool3 1 #[] #[] 1537 3 #[] #[])
  fields := #[]
  methods := #[]
  instanceTypes := #[]
  staticTypes := #[]
  resolved := Array.replicate 12 none
  statics := none }

def pool4 : Array CpInfo := pool [(2, .class_ 4), (1, u "java/lang/CharSequence"), (42, .class_ 48), (0, u "java/lang/CharSequence$1CodePointIterator"), (10, .class_ 60), (0, u "java/lang/CharSequence$1CharIterator"), (5, .class_ 67), (0, u "java/lang/Object")] 63

/-- java/lang/CharSequence -/
def k4 : Class := { plain "java/lang/CharSequence" (some 0) with
  accessFlags := 1537
  interfaces := #[]
  cf := some (fileOf pool4 2 #[.nestMembers #[47, 59]] #[] 1537 66 #[] #[])
  fields := #[]
  methods := #[]
  instanceTypes := #[]
  staticTypes := #[]
  resolved := Array.replicate 131 none
  statics := none }

def pool5 : Array CpInfo := pool [(1, .class_ 2), (0, u "java/lang/constant/Constable"), (0, .class_ 4), (0, u "java/lang/Object")] 6

/-- java/lang/constant/Constable -/
def k5 : Class := { plain "java/lang/constant/Constable" (some 0) with
  accessFlags := 1537
  interfaces := #[]
  cf := some (fileOf pool5 1 #[] #[] 1537 3 #[] #[])
  fields := #[]
  methods := #[]
  instanceTypes := #[]
  staticTypes := #[]
  resolved := Array.replicate 11 none
  statics := none }

def pool6 : Array CpInfo := pool [(1, .class_ 2), (0, u "java/lang/constant/ConstantDesc"), (0, .class_ 4), (0, u "java/lang/Object")] 32

/-- java/lang/constant/ConstantDesc -/
def k6 : Class := { plain "java/lang/constant/ConstantDesc" (some 0) with
  accessFlags := 1537
  interfaces := #[]
  cf := some (fileOf pool6 1 #[] #[] 1537 3 #[] #[])
  fields := #[]
  methods := #[]
  instanceTypes := #[]
  staticTypes := #[]
  resolved := Array.replicate 37 none
  statics := none }

def pool7 : Array CpInfo := pool [(1, .methodref 2 3), (0, .class_ 4), (0, .nameAndType 5 6), (0, u "java/lang/Object"), (0, u "<init>"), (0, u "()V"), (2, .fieldref 10 11), (0, .class_ 12), (0, .nameAndType 13 14), (0, u "java/lang/String"), (0, u "value"), (0, u "[B"), (0, .fieldref 10 16), (0, .nameAndType 17 18), (0, u "coder"), (0, u "B"), (2, u "hash"), (0, u "I"), (2, u "hashIsZero"), (0, u "Z"), (0, .methodref 10 28), (0, .nameAndType 5 29), (0, u "([CIILjava/lang/Void;)V"), (8, .fieldref 10 39), (0, .nameAndType 40 26), (0, u "COMPACT_STRINGS"), (1, .class_ 44), (1, u "java/lang/StringUTF16"), (0, u "compress"), (1, .methodref 42 48), (0, .nameAndType 49 50), (0, u "coderFromArrayLen"), (0, u "([BI)B"), (126, .methodref 42 178), (0, .nameAndType 45 179), (0, u "([CII)[B"), (395, .class_ 576), (0, u "java/lang/CharSequence"), (22, u "CASE_INSENSITIVE_ORDER"), (0, u "Ljava/util/Comparator;"), (409, u "([C)V"), (90, u "serialPersistentFields"), (0, u "[Ljava/io/ObjectStreamField;"), (0, .class_ 1104), (0, u "java/lang/String$CaseInsensitiveComparator"), (1, .class_ 1107), (0, u "java/io/Serializable"), (0, .class_ 1109), (0, u "java/lang/Comparable"), (0, .class_ 1111), (0, u "java/lang/constant/Constable"), (0, .class_ 1113), (0, u "java/lang/constant/ConstantDesc"), (2, u "serialVersionUID"), (0, u "J"), (3, u "REPL"), (0, u "C"), (2, u "LATIN1"), (1, u "UTF16")] 323

def k7m0 : Method := { name := "<init>", desc := "()V", sig := { parameters := [], returnType := none }, accessFlags := 1, code := none }
def k7c1 : Code := { maxStack := 5, maxLocals := 2, code := jdk_42_method_3_code, exceptionTable := #[], attributes := #[] }
def k7m1 : Method := { name := "<init>", desc := "([C)V", sig := { parameters := [(.array .char)], returnType := none }, accessFlags := 1, code := some k7c1 }
def k7c2 : Code := { maxStack := 4, maxLocals := 6, code := jdk_42_method_149_code, exceptionTable := #[], attributes := #[] }
def k7m2 : Method := { name := "<init>", desc := "([CIILjava/lang/Void;)V", sig := { parameters := [(.array .char), .int, .int, (.object "java/lang/Void")], returnType := none }, accessFlags := 2, code := some k7c2 }
/-- java/lang/String -/
def k7 : Class := { plain "java/lang/String" (some 0) with
  accessFlags := 49
  interfaces := #[2, 3, 4, 5, 6]
  cf := some (fileOf pool7 10 #[.nestMembers #[1103]] #[{ accessFlags := 1, nameIndex := 5, descriptorIndex := 6, attributes := #[] }, { accessFlags := 1, nameIndex := 5, descriptorIndex := 1010, attributes := #[] }, { accessFlags := 2, nameIndex := 5, descriptorIndex := 29, attributes := #[] }] 49 2 #[1106, 1108, 575, 1110, 1112] #[{ accessFlags := 18, nameIndex := 13, descriptorIndex := 14, attributes := #[] }, { accessFlags := 18, nameIndex := 17, descriptorIndex := 18, attributes := #[] }, { accessFlags := 2, nameIndex := 21, descriptorIndex := 22, attributes := #[] }, { accessFlags := 2, nameIndex := 25, descriptorIndex := 26, attributes := #[] }, { accessFlags := 26, nameIndex := 1116, descriptorIndex := 1117, attributes := #[] }, { accessFlags := 24, nameIndex := 40, descriptorIndex := 26, attributes := #[] }, { accessFlags := 26, nameIndex := 1101, descriptorIndex := 1102, attributes := #[] }, { accessFlags := 26, nameIndex := 1121, descriptorIndex := 1122, attributes := #[] }, { accessFlags := 25, nameIndex := 599, descriptorIndex := 600, attributes := #[] }, { accessFlags := 24, nameIndex := 1125, descriptorIndex := 18, attributes := #[] }, { accessFlags := 24, nameIndex := 1127, descriptorIndex := 18, attributes := #[] }])
  fields := #[{ name := "value", type := (.array .byte), accessFlags := 18, slot := 0, constantValue := 0 }, { name := "coder", type := .byte, accessFlags := 18, slot := 1, constantValue := 0 }, { name := "hash", type := .int, accessFlags := 2, slot := 2, constantValue := 0 }, { name := "hashIsZero", type := .boolean, accessFlags := 2, slot := 3, constantValue := 0 }, { name := "serialVersionUID", type := .long, accessFlags := 26, slot := 0, constantValue := 0 }, { name := "COMPACT_STRINGS", type := .boolean, accessFlags := 24, slot := 1, constantValue := 0 }, { name := "serialPersistentFields", type := (.array (.object "java/io/ObjectStreamField")), accessFlags := 26, slot := 2, constantValue := 0 }, { name := "REPL", type := .char, accessFlags := 26, slot := 3, constantValue := 0 }, { name := "CASE_INSENSITIVE_ORDER", type := (.object "java/util/Comparator"), accessFlags := 25, slot := 4, constantValue := 0 }, { name := "LATIN1", type := .byte, accessFlags := 24, slot := 5, constantValue := 0 }, { name := "UTF16", type := .byte, accessFlags := 24, slot := 6, constantValue := 0 }]
  methods := #[k7m0, k7m1, k7m2]
  instanceTypes := #[(.array .byte), .byte, .int, .boolean]
  staticTypes := #[.long, .boolean, (.array (.object "java/io/ObjectStreamField")), .char, (.object "java/util/Comparator"), .byte, .byte]
  resolved := Array.replicate 1451 none
  statics := some 0 }

def pool8 : Array CpInfo := pool [(6, .class_ 8), (1, u "java/lang/Object"), (0, u "<init>"), (0, u "()V"), (1, .class_ 14), (1, u "java/lang/StringUTF16"), (31, u "$assertionsDisabled"), (0, u "Z"), (13, u "HI_BYTE_SHIFT"), (0, u "I"), (2, u "LO_BYTE_SHIFT"), (49, .methodref 12 116), (0, .nameAndType 117 118), (0, u "compress"), (0, u "([CI[BII)I"), (3, u "([CII)[B"), (138, u "coderFromArrayLen"), (0, u "([BI)B"), (106, .class_ 371), (1, u "java/lang/StringUTF16$LinesSpliterator"), (58, u "MAX_LENGTH"), (196, .class_ 628), (0, u "java/lang/StringUTF16$CodePointsSpliterator"), (0, .class_ 630), (0, u "java/lang/StringUTF16$CharsSpliterator")] 4

def k8m0 : Method := { name := "<init>", desc := "()V", sig := { parameters := [], returnType := none }, accessFlags := 0, code := none }
def k8c1 : Code := { maxStack := 2, maxLocals := 2, code := jdk_52_method_15_code, exceptionTable := #[], attributes := #[] }
def k8m1 : Method := { name := "coderFromArrayLen", desc := "([BI)B", sig := { parameters := [(.array .byte), .int], returnType := some .byte }, accessFlags := 8, code := some k8c1 }
def k8c2 : Code := { maxStack := 5, maxLocals := 6, code := jdk_52_method_16_code, exceptionTable := #[], attributes := #[] }
def k8m2 : Method := { name := "compress", desc := "([CII)[B", sig := { parameters := [(.array .char), .int, .int], returnType := some (.array .byte) }, accessFlags := 9, code := some k8c2 }
def k8c3 : Code := { maxStack := 3, maxLocals := 7, code := jdk_52_method_21_code, exceptionTable := #[], attributes := #[] }
def k8m3 : Method := { name := "compress", desc := "([CI[BII)I", sig := { parameters := [(.array .char), .int, (.array .byte), .int, .int], returnType := some .int }, accessFlags := 9, code := some k8c3 }
/-- java/lang/StringUTF16 -/
def k8 : Class := { plain "java/lang/StringUTF16" (some 0) with
  accessFlags := 48
  interfaces := #[]
  cf := some (fileOf pool8 12 #[.nestMembers #[627, 629, 369]] #[{ accessFlags := 0, nameIndex := 9, descriptorIndex := 10, attributes := #[] }, { accessFlags := 8, nameIndex := 261, descriptorIndex := 262, attributes := #[] }, { accessFlags := 9, nameIndex := 117, descriptorIndex := 122, attributes := #[] }, { accessFlags := 9, nameIndex := 117, descriptorIndex := 118, attributes := #[] }] 48 6 #[] #[{ accessFlags := 26, nameIndex := 61, descriptorIndex := 62, attributes := #[] }, { accessFlags := 26, nameIndex := 65, descriptorIndex := 62, attributes := #[] }, { accessFlags := 24, nameIndex := 430, descriptorIndex := 62, attributes := #[] }, { accessFlags := 4120, nameIndex := 46, descriptorIndex := 47, attributes := #[] }])
  fields := #[{ name := "HI_BYTE_SHIFT", type := .int, accessFlags := 26, slot := 0, constantValue := 0 }, { name := "LO_BYTE_SHIFT", type := .int, accessFlags := 26, slot := 1, constantValue := 0 }, { name := "MAX_LENGTH", type := .int, accessFlags := 24, slot := 2, constantValue := 0 }, { name := "$assertionsDisabled", type := .boolean, accessFlags := 4120, slot := 3, constantValue := 0 }]
  methods := #[k8m0, k8m1, k8m2, k8m3]
  instanceTypes := #[]
  staticTypes := #[.int, .int, .int, .boolean]
  resolved := Array.replicate 635 none
  statics := none }

def pool9 : Array CpInfo := pool [(1, .methodref 2 3), (0, .class_ 4), (0, .nameAndType 5 6), (0, u "java/lang/Object"), (0, u "<init>"), (0, u "()V"), (0, .class_ 8), (0, u "java/lang/Record")] 13

def k9c0 : Code := { maxStack := 1, maxLocals := 1, code := jdk_30_method_1_code, exceptionTable := #[], attributes := #[] }
def k9m0 : Method := { name := "<init>", desc := "()V", sig := { parameters := [], returnType := none }, accessFlags := 4, code := some k9c0 }
/-- java/lang/Record -/
def k9 : Class := { plain "java/lang/Record" (some 0) with
  accessFlags := 1057
  interfaces := #[]
  cf := some (fileOf pool9 7 #[] #[{ accessFlags := 4, nameIndex := 5, descriptorIndex := 6, attributes := #[] }] 1057 2 #[] #[])
  fields := #[]
  methods := #[k9m0]
  instanceTypes := #[]
  staticTypes := #[]
  resolved := Array.replicate 22 none
  statics := none }

def pool10 : Array CpInfo := pool [(1, .methodref 2 3), (0, .class_ 4), (0, .nameAndType 5 6), (0, u "java/lang/Record"), (0, u "<init>"), (0, u "()V"), (0, .string 8), (0, u "whole"), (0, .methodref 10 11), (0, .class_ 12), (0, .nameAndType 13 14), (0, u "java/util/Objects"), (0, u "requireNonNull"), (0, u "(Ljava/lang/Object;Ljava/lang/String;)Ljava/lang/Object;"), (0, .string 16), (0, u "former"), (0, .string 18), (0, u "remembered"), (0, .string 20), (0, u "custody"), (0, .fieldref 22 23), (0, .class_ 24), (0, .nameAndType 25 26), (0, u "com/example/uptik/uptik/model/Holdings"), (0, u "terms"), (0, u "J"), (0, .fieldref 22 28), (0, .nameAndType 29 26), (0, u "postings"), (0, .fieldref 22 31), (0, .nameAndType 32 26), (0, u "digest"), (0, .fieldref 22 34), (0, .nameAndType 8 35), (0, u "Ljava/lang/String;"), (0, .fieldref 22 37), (0, .nameAndType 16 35), (0, .fieldref 22 39), (0, .nameAndType 18 35), (0, .fieldref 22 41), (0, .nameAndType 20 35), (0, .fieldref 22 43), (0, .nameAndType 44 26), (0, u "documents"), (0, .fieldref 22 46), (0, .nameAndType 47 26), (0, u "documentDigest"), (0, .fieldref 22 49), (0, .nameAndType 50 51), (0, u "recordWhole"), (0, u "Z"), (12, u "(JJJLjava/lang/String;Ljava/lang/String;Ljava/lang/String;Ljava/lang/String;JJZ)V"), (4, u "(Lcom/example/uptik/uptik/model/Holdings;)Z"), (1, u "sameRecordAs")] 34

def k10c0 : Code := { maxStack := 3, maxLocals := 16, code := prog_47_method_1_code, exceptionTable := #[], attributes := #[] }
def k10m0 : Method := { name := "<init>", desc := "(JJJLjava/lang/String;Ljava/lang/String;Ljava/lang/String;Ljava/lang/String;JJZ)V", sig := { parameters := [.long, .long, .long, (.object "java/lang/String"), (.object "java/lang/String"), (.object "java/lang/String"), (.object "java/lang/String"), .long, .long, .boolean], returnType := none }, accessFlags := 1, code := some k10c0 }
def k10c1 : Code := { maxStack := 4, maxLocals := 2, code := prog_47_method_3_code, exceptionTable := #[], attributes := #[] }
def k10m1 : Method := { name := "sameRecordAs", desc := "(Lcom/example/uptik/uptik/model/Holdings;)Z", sig := { parameters := [(.object "com/example/uptik/uptik/model/Holdings")], returnType := some .boolean }, accessFlags := 1, code := some k10c1 }
/-- com/example/uptik/uptik/model/Holdings -/
def k10 : Class := { plain "com/example/uptik/uptik/model/Holdings" (some 9) with
  accessFlags := 49
  interfaces := #[]
  cf := some (fileOf pool10 22 #[] #[{ accessFlags := 1, nameIndex := 5, descriptorIndex := 64, attributes := #[] }, { accessFlags := 1, nameIndex := 71, descriptorIndex := 69, attributes := #[] }] 49 2 #[] #[{ accessFlags := 18, nameIndex := 25, descriptorIndex := 26, attributes := #[] }, { accessFlags := 18, nameIndex := 29, descriptorIndex := 26, attributes := #[] }, { accessFlags := 18, nameIndex := 32, descriptorIndex := 26, attributes := #[] }, { accessFlags := 18, nameIndex := 8, descriptorIndex := 35, attributes := #[] }, { accessFlags := 18, nameIndex := 16, descriptorIndex := 35, attributes := #[] }, { accessFlags := 18, nameIndex := 18, descriptorIndex := 35, attributes := #[] }, { accessFlags := 18, nameIndex := 20, descriptorIndex := 35, attributes := #[] }, { accessFlags := 18, nameIndex := 44, descriptorIndex := 26, attributes := #[] }, { accessFlags := 18, nameIndex := 47, descriptorIndex := 26, attributes := #[] }, { accessFlags := 18, nameIndex := 50, descriptorIndex := 51, attributes := #[] }])
  fields := #[{ name := "terms", type := .long, accessFlags := 18, slot := 0, constantValue := 0 }, { name := "postings", type := .long, accessFlags := 18, slot := 1, constantValue := 0 }, { name := "digest", type := .long, accessFlags := 18, slot := 2, constantValue := 0 }, { name := "whole", type := (.object "java/lang/String"), accessFlags := 18, slot := 3, constantValue := 0 }, { name := "former", type := (.object "java/lang/String"), accessFlags := 18, slot := 4, constantValue := 0 }, { name := "remembered", type := (.object "java/lang/String"), accessFlags := 18, slot := 5, constantValue := 0 }, { name := "custody", type := (.object "java/lang/String"), accessFlags := 18, slot := 6, constantValue := 0 }, { name := "documents", type := .long, accessFlags := 18, slot := 7, constantValue := 0 }, { name := "documentDigest", type := .long, accessFlags := 18, slot := 8, constantValue := 0 }, { name := "recordWhole", type := .boolean, accessFlags := 18, slot := 9, constantValue := 0 }]
  methods := #[k10m0, k10m1]
  instanceTypes := #[.long, .long, .long, (.object "java/lang/String"), (.object "java/lang/String"), (.object "java/lang/String"), (.object "java/lang/String"), .long, .long, .boolean]
  staticTypes := #[]
  resolved := Array.replicate 106 none
  statics := none }

def pool11 : Array CpInfo := pool [(2, .class_ 4), (1, u "java/lang/Object"), (0, u "<init>"), (0, u "()V"), (35, .class_ 44), (1, u "java/util/Objects"), (0, u "requireNonNull"), (48, u "(Ljava/lang/Object;Ljava/lang/String;)Ljava/lang/Object;")] 89

def k11m0 : Method := { name := "<init>", desc := "()V", sig := { parameters := [], returnType := none }, accessFlags := 2, code := none }
def k11c1 : Code := { maxStack := 3, maxLocals := 2, code := jdk_31_method_11_code, exceptionTable := #[], attributes := #[] }
def k11m1 : Method := { name := "requireNonNull", desc := "(Ljava/lang/Object;Ljava/lang/String;)Ljava/lang/Object;", sig := { parameters := [(.object "java/lang/Object"), (.object "java/lang/String")], returnType := some (.object "java/lang/Object") }, accessFlags := 9, code := some k11c1 }
/-- java/util/Objects -/
def k11 : Class := { plain "java/util/Objects" (some 0) with
  accessFlags := 49
  interfaces := #[]
  cf := some (fileOf pool11 42 #[] #[{ accessFlags := 2, nameIndex := 5, descriptorIndex := 6, attributes := #[] }, { accessFlags := 9, nameIndex := 45, descriptorIndex := 94, attributes := #[] }] 49 2 #[] #[])
  fields := #[]
  methods := #[k11m0, k11m1]
  instanceTypes := #[]
  staticTypes := #[]
  resolved := Array.replicate 184 none
  statics := none }

def pool12 : Array CpInfo := pool [(4, .class_ 6), (1, u "java/lang/Object"), (0, u "<init>"), (0, u "()V"), (5, .class_ 16), (1, u "java/lang/StringLatin1"), (104, u "$assertionsDisabled"), (0, u "Z"), (98, .class_ 223), (1, u "java/lang/StringLatin1$LinesSpliterator"), (166, .class_ 391), (0, u "java/lang/StringLatin1$CharsSpliterator")] 3

def k12m0 : Method := { name := "<init>", desc := "()V", sig := { parameters := [], returnType := none }, accessFlags := 0, code := none }
/-- java/lang/StringLatin1 -/
def k12 : Class := { plain "java/lang/StringLatin1" (some 0) with
  accessFlags := 48
  interfaces := #[]
  cf := some (fileOf pool12 14 #[.nestMembers #[390, 221]] #[{ accessFlags := 0, nameIndex := 7, descriptorIndex := 8, attributes := #[] }] 48 4 #[] #[{ accessFlags := 4120, nameIndex := 121, descriptorIndex := 122, attributes := #[] }])
  fields := #[{ name := "$assertionsDisabled", type := .boolean, accessFlags := 4120, slot := 0, constantValue := 0 }]
  methods := #[k12m0]
  instanceTypes := #[]
  staticTypes := #[.boolean]
  resolved := Array.replicate 395 none
  statics := none }

def pool13 : Array CpInfo := pool [(2, .class_ 4), (1, u "java/lang/Object"), (0, u "<init>"), (0, u "()V"), (17, .class_ 26), (1, u "jdk/internal/util/Preconditions"), (28, .class_ 56), (0, u "jdk/internal/util/Preconditions$4"), (57, .class_ 115), (0, u "jdk/internal/util/Preconditions$1"), (7, u "SIOOBE_FORMATTER"), (0, u "Ljava/util/function/BiFunction;"), (0, .class_ 126), (0, u "jdk/internal/util/Preconditions$2"), (3, u "AIOOBE_FORMATTER"), (0, .class_ 132), (0, u "jdk/internal/util/Preconditions$3"), (3, u "IOOBE_FORMATTER")] 57

def k13m0 : Method := { name := "<init>", desc := "()V", sig := { parameters := [], returnType := none }, accessFlags := 1, code := none }
/-- jdk/internal/util/Preconditions -/
def k13 : Class := { plain "jdk/internal/util/Preconditions" (some 0) with
  accessFlags := 33
  interfaces := #[]
  cf := some (fileOf pool13 24 #[.nestMembers #[55, 131, 125, 114]] #[{ accessFlags := 1, nameIndex := 5, descriptorIndex := 6, attributes := #[] }] 33 2 #[] #[{ accessFlags := 25, nameIndex := 123, descriptorIndex := 124, attributes := #[] }, { accessFlags := 25, nameIndex := 130, descriptorIndex := 124, attributes := #[] }, { accessFlags := 25, nameIndex := 136, descriptorIndex := 124, attributes := #[] }])
  fields := #[{ name := "SIOOBE_FORMATTER", type := (.object "java/util/function/BiFunction"), accessFlags := 25, slot := 0, constantValue := 0 }, { name := "AIOOBE_FORMATTER", type := (.object "java/util/function/BiFunction"), accessFlags := 25, slot := 1, constantValue := 0 }, { name := "IOOBE_FORMATTER", type := (.object "java/util/function/BiFunction"), accessFlags := 25, slot := 2, constantValue := 0 }]
  methods := #[k13m0]
  instanceTypes := #[]
  staticTypes := #[(.object "java/util/function/BiFunction"), (.object "java/util/function/BiFunction"), (.object "java/util/function/BiFunction")]
  resolved := Array.replicate 194 none
  statics := some 1 }

def pool14 : Array CpInfo := pool [(9, u "<init>"), (6, .class_ 18), (1, u "java/lang/Object"), (0, u "()V"), (1, .class_ 23), (1, u "jdk/internal/util/ArraysSupport"), (0, u "LOG2_ARRAY_LONG_INDEX_SCALE"), (0, u "I"), (2, u "U"), (0, u "Ljdk/internal/misc/Unsafe;"), (8, u "BIG_ENDIAN"), (0, u "Z"), (8, u "LOG2_BYTE_BIT_SIZE"), (4, u "LOG2_ARRAY_INT_INDEX_SCALE"), (54, u "JLA"), (0, u "Ljdk/internal/access/JavaLangAccess;"), (11, u "LOG2_ARRAY_BOOLEAN_INDEX_SCALE"), (9, u "LOG2_ARRAY_BYTE_INDEX_SCALE"), (5, u "LOG2_ARRAY_CHAR_INDEX_SCALE"), (5, u "LOG2_ARRAY_SHORT_INDEX_SCALE"), (18, u "LOG2_ARRAY_FLOAT_INDEX_SCALE"), (24, u "LOG2_ARRAY_DOUBLE_INDEX_SCALE"), (89, u "T_BOOLEAN"), (2, u "T_CHAR"), (1, u "T_FLOAT"), (1, u "T_DOUBLE"), (1, u "T_BYTE"), (1, u "T_SHORT"), (1, u "T_INT"), (1, u "T_LONG"), (1, u "SOFT_MAX_ARRAY_LENGTH")] 83

def k14m0 : Method := { name := "<init>", desc := "()V", sig := { parameters := [], returnType := none }, accessFlags := 2, code := none }
/-- jdk/internal/util/ArraysSupport -/
def k14 : Class := { plain "jdk/internal/util/ArraysSupport" (some 0) with
  accessFlags := 33
  interfaces := #[]
  cf := some (fileOf pool14 21 #[] #[{ accessFlags := 2, nameIndex := 9, descriptorIndex := 19, attributes := #[] }] 33 16 #[] #[{ accessFlags := 24, nameIndex := 28, descriptorIndex := 29, attributes := #[] }, { accessFlags := 26, nameIndex := 38, descriptorIndex := 39, attributes := #[] }, { accessFlags := 25, nameIndex := 121, descriptorIndex := 25, attributes := #[] }, { accessFlags := 25, nameIndex := 131, descriptorIndex := 25, attributes := #[] }, { accessFlags := 25, nameIndex := 137, descriptorIndex := 25, attributes := #[] }, { accessFlags := 25, nameIndex := 143, descriptorIndex := 25, attributes := #[] }, { accessFlags := 25, nameIndex := 53, descriptorIndex := 25, attributes := #[] }, { accessFlags := 25, nameIndex := 24, descriptorIndex := 25, attributes := #[] }, { accessFlags := 25, nameIndex := 162, descriptorIndex := 25, attributes := #[] }, { accessFlags := 25, nameIndex := 187, descriptorIndex := 25, attributes := #[] }, { accessFlags := 26, nameIndex := 48, descriptorIndex := 25, attributes := #[] }, { accessFlags := 25, nameIndex := 277, descriptorIndex := 25, attributes := #[] }, { accessFlags := 25, nameIndex := 280, descriptorIndex := 25, attributes := #[] }, { accessFlags := 25, nameIndex := 282, descriptorIndex := 25, attributes := #[] }, { accessFlags := 25, nameIndex := 284, descriptorIndex := 25, attributes := #[] }, { accessFlags := 25, nameIndex := 286, descriptorIndex := 25, attributes := #[] }, { accessFlags := 25, nameIndex := 288, descriptorIndex := 25, attributes := #[] }, { accessFlags := 25, nameIndex := 290, descriptorIndex := 25, attributes := #[] }, { accessFlags := 25, nameIndex := 292, descriptorIndex := 25, attributes := #[] }, { accessFlags := 26, nameIndex := 108, descriptorIndex := 109, attributes := #[] }, { accessFlags := 25, nameIndex := 294, descriptorIndex := 25, attributes := #[] }])
  fields := #[{ name := "U", type := (.object "jdk/internal/misc/Unsafe"), accessFlags := 24, slot := 0, constantValue := 0 }, { name := "BIG_ENDIAN", type := .boolean, accessFlags := 26, slot := 1, constantValue := 0 }, { name := "LOG2_ARRAY_BOOLEAN_INDEX_SCALE", type := .int, accessFlags := 25, slot := 2, constantValue := 0 }, { name := "LOG2_ARRAY_BYTE_INDEX_SCALE", type := .int, accessFlags := 25, slot := 3, constantValue := 0 }, { name := "LOG2_ARRAY_CHAR_INDEX_SCALE", type := .int, accessFlags := 25, slot := 4, constantValue := 0 }, { name := "LOG2_ARRAY_SHORT_INDEX_SCALE", type := .int, accessFlags := 25, slot := 5, constantValue := 0 }, { name := "LOG2_ARRAY_INT_INDEX_SCALE", type := .int, accessFlags := 25, slot := 6, constantValue := 0 }, { name := "LOG2_ARRAY_LONG_INDEX_SCALE", type := .int, accessFlags := 25, slot := 7, constantValue := 0 }, { name := "LOG2_ARRAY_FLOAT_INDEX_SCALE", type := .int, accessFlags := 25, slot := 8, constantValue := 0 }, { name := "LOG2_ARRAY_DOUBLE_INDEX_SCALE", type := .int, accessFlags := 25, slot := 9, constantValue := 0 }, { name := "LOG2_BYTE_BIT_SIZE", type := .int, accessFlags := 26, slot := 10, constantValue := 0 }, { name := "T_BOOLEAN", type := .int, accessFlags := 25, slot := 11, constantValue := 0 }, { name := "T_CHAR", type := .int, accessFlags := 25, slot := 12, constantValue := 0 }, { name := "T_FLOAT", type := .int, accessFlags := 25, slot := 13, constantValue := 0 }, { name := "T_DOUBLE", type := .int, accessFlags := 25, slot := 14, constantValue := 0 }, { name := "T_BYTE", type := .int, accessFlags := 25, slot := 15, constantValue := 0 }, { name := "T_SHORT", type := .int, accessFlags := 25, slot := 16, constantValue := 0 }, { name := "T_INT", type := .int, accessFlags := 25, slot := 17, constantValue := 0 }, { name := "T_LONG", type := .int, accessFlags := 25, slot := 18, constantValue := 0 }, { name := "JLA", type := (.object "jdk/internal/access/JavaLangAccess"), accessFlags := 26, slot := 19, constantValue := 0 }, { name := "SOFT_MAX_ARRAY_LENGTH", type := .int, accessFlags := 25, slot := 20, constantValue := 0 }]
  methods := #[k14m0]
  instanceTypes := #[]
  staticTypes := #[(.object "jdk/internal/misc/Unsafe"), .boolean, .int, .int, .int, .int, .int, .int, .int, .int, .int, .int, .int, .int, .int, .int, .int, .int, .int, (.object "jdk/internal/access/JavaLangAccess"), .int]
  resolved := Array.replicate 378 none
  statics := none }

def pool15 : Array CpInfo := pool [(1, u "java/lang/Cloneable"), (0, .class_ 1), (0, u "java/lang/Object"), (0, .class_ 3)] 3

/-- java/lang/Cloneable -/
def k15 : Class := { plain "java/lang/Cloneable" (some 0) with
  accessFlags := 1537
  interfaces := #[]
  cf := some (fileOf pool15 2 #[] #[] 1537 4 #[] #[])
  fields := #[]
  methods := #[]
  instanceTypes := #[]
  staticTypes := #[]
  resolved := Array.replicate 8 none
  statics := none }

/-- the primitive byte -/
def k16 : Class := { plain "byte" none with kind := .primitive 'B', accessFlags := 0x411 }
/-- [B -/
def k17 : Class := { plain "[B" (some 0) with kind := .array 16 .byte, interfaces := #[15, 2], accessFlags := 1041 }

/-- the primitive char -/
def k18 : Class := { plain "char" none with kind := .primitive 'C', accessFlags := 0x411 }
/-- [C -/
def k19 : Class := { plain "[C" (some 0) with kind := .array 18 .char, interfaces := #[15, 2], accessFlags := 1041 }

/-- the primitive int -/
def k20 : Class := { plain "int" none with kind := .primitive 'I', accessFlags := 0x411 }
/-- [I -/
def k21 : Class := { plain "[I" (some 0) with kind := .array 20 .int, interfaces := #[15, 2], accessFlags := 1041 }

def heap : Heap := #[{ cls := 7, slots := #[.long 0, .int 1, .null, .int 0, .null, .int 0, .int 0], vm := .statics 7 },
  { cls := 13, slots := #[.null, .null, .null], vm := .statics 13 }]
def classes : Array Class := #[k0, k1, k2, k3, k4, k5, k6, k7, k8, k9, k10, k11, k12, k13, k14, k15, k16, k17, k18, k19, k20, k21]
def interned : List (Array UInt16 × Addr) := []
def slotsUsed : Nat := 10
def theMethod : MethodId := ⟨1, 1⟩
def args0 : Array Value := #[.long 5, .long 7, .long 9, .long 10, .int 3, .int 1094795585]
def aboutOver (below : List Frame) : State where
  vm := { classes := classes, interned := interned.toArray }
  heap := heap
  slotsUsed := slotsUsed
  threads := #[{ frames := .invoking theMethod args0 :: below }]
def below0 : List Frame := [.native { method := ⟨0, 0⟩, args := #[] }]
def about1 : State := aboutOver below0
def p0 : Program := .bare "" "" ""
def e0 : Env := launch0.env 0 0 0
theorem w_frames : about1.frames = Frame.invoking theMethod args0 :: below0 := rfl
set_option maxRecDepth 65536 in
theorem w_args : argsFit about1.vm theMethod args0 = true := by decide +kernel
set_option maxRecDepth 65536 in
theorem w_heap : heapFits about1 = true := by decide +kernel
set_option maxRecDepth 65536 in
theorem w_runnable : about1.curStatus? = some .runnable := by decide +kernel
set_option maxRecDepth 65536 in
theorem w_alone : about1.alone = true := by decide +kernel
set_option maxRecDepth 65536 in
theorem w_named : about1.methodNamed? x = some theMethod := by decide +kernel
set_option maxRecDepth 65536 in
theorem w_hears : about1.hears theMethod below0 = true := by decide +kernel
set_option maxRecDepth 65536 in
theorem w_ripe : about1.ripe theMethod args0 below0 = true := by decide +kernel
theorem w_running : about1.status = .running := rfl
set_option maxRecDepth 65536 in
theorem w_room : about1.hasRoom e0.platform room_1 = true :=
  launch0.hasRoom_least _ room_1 (by decide +kernel) (by decide +kernel) (by decide +kernel) (by decide +kernel) (by decide +kernel) (by decide +kernel)
theorem allAtoms_all (ts : List Jvm.Cond) (a : Array Jvm.Value) (st : Jvm.State) : (allAtoms ts).before a st = ts.all (fun c => c.before a st) := by
  induction ts with
  | nil => rfl
  | cons c t ih =>
    show (Jvm.Cond.and c (allAtoms t)).before a st = _
    rw [Jvm.Cond.before_and, ih, List.all_cons]
def words1 : List Jvm.Cond := Jvm.Cond.code x code maxLocals ret :: tables_1
/-- a 'code' word, met by the world's own term for the bytes: nothing is compared byte by byte -/
theorem code_word {y : MethodName} {bytes : ByteArray} {mx : Nat} {rt : Option FieldType} {a : Array Value} {s : State} {m : MethodId} {meth : Method} {c : Code} (h1 : s.methodNamed? y = some m) (h2 : s.vm.method? m = some meth) (h3 : meth.code = some c) (h4 : c.code = bytes)
    (h5 : (c.maxLocals == mx && c.exceptionTable.isEmpty && decide (c.maxStack ≤ mostOperands) && decide (meth.sig.returnType = rt) && !meth.locks && decide (parseMethodDescriptor y.desc = some meth.sig)) = true) : (Jvm.Cond.code y bytes mx rt).before a s = true := by
  simp only [Bool.and_eq_true, beq_iff_eq, Bool.not_eq_true', decide_eq_true_eq] at h5
  obtain ⟨⟨⟨⟨⟨g1, g2⟩, g3⟩, g4⟩, g5⟩, g6⟩ := h5
  simp [Cond.before, Cond.holds, Cond.value, h1, h2, h3, h4, g1, g2, g3, g4, g5, g6]
def isCode : Jvm.Cond → Bool
  | .code _ _ _ _ => true
  | _ => false
theorem all_split {L : List Jvm.Cond} {P : Jvm.Cond → Bool} (h1 : L.all (fun c => isCode c || P c) = true) (h2 : ∀ c ∈ L.filter isCode, P c = true) : L.all P = true := by
  refine List.all_eq_true.mpr fun c hc => ?_
  have h := List.all_eq_true.mp h1 c hc
  rcases Bool.eq_false_or_eq_true (isCode c) with hi | hi
  · exact h2 c (List.mem_filter.mpr ⟨hc, hi⟩)
  · simpa [hi] using h
set_option maxRecDepth 65536 in
theorem w_c0 : (Jvm.Cond.code x code maxLocals ret).before args0 about1 = true := code_word (m := ⟨1, 1⟩) (meth := k1m1) (c := k1c1) (by decide +kernel) rfl rfl rfl (by decide +kernel)
set_option maxRecDepth 65536 in
theorem w_c1 : (Jvm.Cond.code ({ cls := "java/lang/String", name := "<init>", desc := "([C)V" } : Jvm.MethodName) jdk_42_method_3_code (2 : Nat) (Option.none : Option Jvm.ClassFile.FieldType)).before args0 about1 = true := code_word (m := ⟨7, 1⟩) (meth := k7m1) (c := k7c1) (by decide +kernel) rfl rfl rfl (by decide +kernel)
set_option maxRecDepth 65536 in
theorem w_c2 : (Jvm.Cond.code ({ cls := "java/lang/String", name := "<init>", desc := "([CIILjava/lang/Void;)V" } : Jvm.MethodName) jdk_42_method_149_code (6 : Nat) (Option.none : Option Jvm.ClassFile.FieldType)).before args0 about1 = true := code_word (m := ⟨7, 2⟩) (meth := k7m2) (c := k7c2) (by decide +kernel) rfl rfl rfl (by decide +kernel)
set_option maxRecDepth 65536 in
theorem w_c3 : (Jvm.Cond.code ({ cls := "java/lang/Object", name := "<init>", desc := "()V" } : Jvm.MethodName) object_method_1_code (1 : Nat) (Option.none : Option Jvm.ClassFile.FieldType)).before args0 about1 = true := code_word (m := ⟨0, 0⟩) (meth := k0m0) (c := k0c0) (by decide +kernel) rfl rfl rfl (by decide +kernel)
set_option maxRecDepth 65536 in
theorem w_c4 : (Jvm.Cond.code ({ cls := "java/lang/StringUTF16", name := "compress", desc := "([CII)[B" } : Jvm.MethodName) jdk_52_method_16_code (6 : Nat) (Option.some (Jvm.ClassFile.FieldType.array Jvm.ClassFile.FieldType.byte))).before args0 about1 = true := code_word (m := ⟨8, 2⟩) (meth := k8m2) (c := k8c2) (by decide +kernel) rfl rfl rfl (by decide +kernel)
set_option maxRecDepth 65536 in
theorem w_c5 : (Jvm.Cond.code ({ cls := "java/lang/StringUTF16", name := "compress", desc := "([CI[BII)I" } : Jvm.MethodName) jdk_52_method_21_code (7 : Nat) (Option.some Jvm.ClassFile.FieldType.int)).before args0 about1 = true := code_word (m := ⟨8, 3⟩) (meth := k8m3) (c := k8c3) (by decide +kernel) rfl rfl rfl (by decide +kernel)
set_option maxRecDepth 65536 in
theorem w_c6 : (Jvm.Cond.code ({ cls := "java/lang/StringUTF16", name := "coderFromArrayLen", desc := "([BI)B" } : Jvm.MethodName) jdk_52_method_15_code (2 : Nat) (Option.some Jvm.ClassFile.FieldType.byte)).before args0 about1 = true := code_word (m := ⟨8, 1⟩) (meth := k8m1) (c := k8c1) (by decide +kernel) rfl rfl rfl (by decide +kernel)
set_option maxRecDepth 65536 in
theorem w_c7 : (Jvm.Cond.code ({ cls := "com/example/uptik/uptik/model/Holdings", name := "<init>", desc := "(JJJLjava/lang/String;Ljava/lang/String;Ljava/lang/String;Ljava/lang/String;JJZ)V" } : Jvm.MethodName) prog_47_method_1_code (16 : Nat) (Option.none : Option Jvm.ClassFile.FieldType)).before args0 about1 = true := code_word (m := ⟨10, 0⟩) (meth := k10m0) (c := k10c0) (by decide +kernel) rfl rfl rfl (by decide +kernel)
set_option maxRecDepth 65536 in
theorem w_c8 : (Jvm.Cond.code ({ cls := "java/lang/Record", name := "<init>", desc := "()V" } : Jvm.MethodName) jdk_30_method_1_code (1 : Nat) (Option.none : Option Jvm.ClassFile.FieldType)).before args0 about1 = true := code_word (m := ⟨9, 0⟩) (meth := k9m0) (c := k9c0) (by decide +kernel) rfl rfl rfl (by decide +kernel)
set_option maxRecDepth 65536 in
theorem w_c9 : (Jvm.Cond.code ({ cls := "java/util/Objects", name := "requireNonNull", desc := "(Ljava/lang/Object;Ljava/lang/String;)Ljava/lang/Object;" } : Jvm.MethodName) jdk_31_method_11_code (2 : Nat) (Option.some (Jvm.ClassFile.FieldType.object "java/lang/Object"))).before args0 about1 = true := code_word (m := ⟨11, 1⟩) (meth := k11m1) (c := k11c1) (by decide +kernel) rfl rfl rfl (by decide +kernel)
set_option maxRecDepth 65536 in
theorem w_c10 : (Jvm.Cond.code ({ cls := "com/example/uptik/uptik/model/Holdings", name := "sameRecordAs", desc := "(Lcom/example/uptik/uptik/model/Holdings;)Z" } : Jvm.MethodName) prog_47_method_3_code (2 : Nat) (Option.some Jvm.ClassFile.FieldType.boolean)).before args0 about1 = true := code_word (m := ⟨10, 1⟩) (meth := k10m1) (c := k10c1) (by decide +kernel) rfl rfl rfl (by decide +kernel)
def codes1 : List Jvm.Cond := [Jvm.Cond.code x code maxLocals ret, Jvm.Cond.code ({ cls := "java/lang/String", name := "<init>", desc := "([C)V" } : Jvm.MethodName) jdk_42_method_3_code (2 : Nat) (Option.none : Option Jvm.ClassFile.FieldType), Jvm.Cond.code ({ cls := "java/lang/String", name := "<init>", desc := "([CIILjava/lang/Void;)V" } : Jvm.MethodName) jdk_42_method_149_code (6 : Nat) (Option.none : Option Jvm.ClassFile.FieldType), Jvm.Cond.code ({ cls := "java/lang/Object", name := "<init>", desc := "()V" } : Jvm.MethodName) object_method_1_code (1 : Nat) (Option.none : Option Jvm.ClassFile.FieldType), Jvm.Cond.code ({ cls := "java/lang/StringUTF16", name := "compress", desc := "([CII)[B" } : Jvm.MethodName) jdk_52_method_16_code (6 : Nat) (Option.some (Jvm.ClassFile.FieldType.array Jvm.ClassFile.FieldType.byte)), Jvm.Cond.code ({ cls := "java/lang/StringUTF16", name := "compress", desc := "([CI[BII)I" } : Jvm.MethodName) jdk_52_method_21_code (7 : Nat) (Option.some Jvm.ClassFile.FieldType.int), Jvm.Cond.code ({ cls := "java/lang/StringUTF16", name := "coderFromArrayLen", desc := "([BI)B" } : Jvm.MethodName) jdk_52_method_15_code (2 : Nat) (Option.some Jvm.ClassFile.FieldType.byte), Jvm.Cond.code ({ cls := "com/example/uptik/uptik/model/Holdings", name := "<init>", desc := "(JJJLjava/lang/String;Ljava/lang/String;Ljava/lang/String;Ljava/lang/String;JJZ)V" } : Jvm.MethodName) prog_47_method_1_code (16 : Nat) (Option.none : Option Jvm.ClassFile.FieldType), Jvm.Cond.code ({ cls := "java/lang/Record", name := "<init>", desc := "()V" } : Jvm.MethodName) jdk_30_method_1_code (1 : Nat) (Option.none : Option Jvm.ClassFile.FieldType), Jvm.Cond.code ({ cls := "java/util/Objects", name := "requireNonNull", desc := "(Ljava/lang/Object;Ljava/lang/String;)Ljava/lang/Object;" } : Jvm.MethodName) jdk_31_method_11_code (2 : Nat) (Option.some (Jvm.ClassFile.FieldType.object "java/lang/Object")), Jvm.Cond.code ({ cls := "com/example/uptik/uptik/model/Holdings", name := "sameRecordAs", desc := "(Lcom/example/uptik/uptik/model/Holdings;)Z" } : Jvm.MethodName) prog_47_method_3_code (2 : Nat) (Option.some Jvm.ClassFile.FieldType.boolean)]
set_option maxRecDepth 65536 in
theorem codes_eq : words1.filter isCode = codes1 := rfl
theorem w_codes : ∀ c ∈ words1.filter isCode, c.before args0 about1 = true := by
  rw [codes_eq]
  intro c hc
  simp only [codes1, List.mem_cons, List.not_mem_nil, or_false] at hc
  rcases hc with rfl | rfl | rfl | rfl | rfl | rfl | rfl | rfl | rfl | rfl | rfl
  · exact w_c0
  · exact w_c1
  · exact w_c2
  · exact w_c3
  · exact w_c4
  · exact w_c5
  · exact w_c6
  · exact w_c7
  · exact w_c8
  · exact w_c9
  · exact w_c10
set_option maxRecDepth 65536 in
theorem w_t1 : (words1.take 24).all (fun c => isCode c || c.before args0 about1) = true := by decide +kernel
set_option maxRecDepth 65536 in
theorem w_t2 : ((words1.drop 24).take 24).all (fun c => isCode c || c.before args0 about1) = true := by decide +kernel
set_option maxRecDepth 65536 in
theorem w_t3 : (((words1.drop 24).drop 24).take 24).all (fun c => isCode c || c.before args0 about1) = true := by decide +kernel
set_option maxRecDepth 65536 in
theorem w_t4 : (((words1.drop 24).drop 24).drop 24).all (fun c => isCode c || c.before args0 about1) = true := by decide +kernel
theorem w_tables : (allAtoms (Jvm.Cond.code x code maxLocals ret :: tables_1)).before args0 about1 = true := by
  rw [allAtoms_all]
  show words1.all (fun c => c.before args0 about1) = true
  refine all_split ?_ w_codes
  rw [← List.take_append_drop 24 words1, List.all_append, w_t1, ← List.take_append_drop 24 (words1.drop 24), List.all_append, w_t2, ← List.take_append_drop 24 ((words1.drop 24).drop 24), List.all_append, w_t3, w_t4]
  rfl
set_option maxRecDepth 65536 in
theorem w_rest : rest_1_c.before args0 about1 = true := by decide +kernel
set_option maxRecDepth 65536 in
theorem w_case : (Jvm.Cond.and given_1 narrow_1).before args0 about1 = true := by decide +kernel
theorem w_applies : (headSpec (Jvm.Cond.code x code maxLocals ret :: tables_1) room_1).applies x e0.platform about1 = true :=
  (Spec.applies_iff w_frames).mpr ⟨w_running, w_runnable, w_alone, w_named, w_hears, w_ripe, w_room, w_tables⟩
theorem atStart : AtStart classFile x code maxLocals ret World_1 tables_1 room_1 Calls_1 rest_1 Pre_1 launch0 p0 e0 about1 theMethod args0 below0 :=
  ⟨lists_1, trivial, launch0.admits_env _ _ _, launch0.least_env, fairChoices_fair.cas, fairChoices_fair.clock, w_frames, w_args, w_heap, w_applies, trivial, w_rest, w_case⟩
end start1
theorem witness_1 : WitnessClaimed_1 := ⟨start1.p0, start1.e0, start1.about1, start1.theMethod, start1.args0, start1.below0, start1.atStart⟩
end Jvm.Pilot.@@N@@
