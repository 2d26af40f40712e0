import JvmDerived
import JvmDerived.Pilot.@@N@@Statement
import JvmDerived.Pilot.@@N@@Code
set_option linter.unusedVariables false
set_option linter.unusedSimpArgs false
namespace Jvm.Pilot.@@N@@
open Jvm Jvm.ClassFile Sem Op Lib Jvm.Free Jvm.Stand Jvm.LawKit Jvm.RoadKit Bundle Jvm.Pilot.@@N@@.Jvm.D
/-! own_..: the walk in goal form: own_Go says that from a frame on the run comes to its end as the contract says; every step turns the goal for one frame into the goal for the next, so a branch is a case split and a join a 'have'. -/
def own_Post (s : State) (Q : Option Value → Heap → List Loc → Prop) (cs ss : Nat) (o : Outcome) (u : State) : Prop := ∃ v L, o = .returned v ∧ Q v u.heap L ∧ FrameEnd s o u L cs ss
def own_Go (p : Program) (e : Env) (below : List Frame) (Qf : Outcome → State → Prop) (T : State) (g : JFrame) : Prop := ∃ s₂ o, Steps p.tables e below (T.setTop g) s₂ ∧ s₂.status = .running ∧ Ended s₂ below o ∧ Qf o s₂
abbrev own_Met (l : Launch) (Z : State) (y : MethodName) (bytes : ByteArray) (maxL : Nat) (ret : Option FieldType) (ws : List Jvm.Cond) (rm : Room) (as' : Array Value) (h0 : Heap) (cs ss : Nat) (Q : Option Value → Heap → List Loc → Prop) : Prop :=
  MetFree l y (head1 (Jvm.Cond.code y bytes maxL ret :: ws) rm) (fun a U => a = as' ∧ Z.Warmed39 U.vm ∧ U.heap = h0) (fun _ _ _ _ _ => True) (fun _ U o U' => ∃ v L, o = .returned v ∧ Q v U'.heap L ∧ FrameEnd U o U' L cs ss)
def own_b (b : Bool) : Int32 := if b then 1 else 0
theorem own_b_t {b : Bool} (h : b = true) : own_b b = 1 := by subst h; rfl
theorem own_b_f {b : Bool} (h : ¬ b = true) : own_b b = 0 := by rw [Bool.eq_false_iff.mpr h]; rfl
theorem own_b_n {b : Bool} (h : b = true) : ¬ own_b b = 0 := by subst h; decide
theorem own_b_nar (b : Bool) : nar .boolean (own_b b) = own_b b := by cases b <;> rfl
theorem own_b_fits (b : Bool) : fits .boolean (.int (own_b b)) = true := by cases b <;> rfl
theorem own_b_inj {a b : Bool} (h : own_b a = own_b b) : a = b := by cases a <;> cases b <;> first | rfl | exact absurd h (by decide)
section Own
variable {p : Program} {l : Launch} {e : Env} {R : Room} {s : State} {m : MethodId} {args : Array Value} {below : List Frame} {meth : Method} {c : Code} {T T' : State} {locs : List Loc} {cells slots : Nat} {Z : State} {a0 : Array Value} {h : Heap}
theorem own_go {Qf : Outcome → State → Prop} {g g' : JFrame} (h : ∀ t, Steps p.tables e below (T'.setTop g') t → Steps p.tables e below (T.setTop g) t) (k : own_Go p e below Qf T' g') : own_Go p e below Qf T g := by
  obtain ⟨s₂, o, h1, h2⟩ := k
  exact ⟨s₂, o, h _ h1, h2⟩
theorem own_cast {Qf : Outcome → State → Prop} {g g' : JFrame} (q : g = g') (k : own_Go p e below Qf T g') : own_Go p e below Qf T g := q ▸ k
theorem own_met {y : MethodName} {bytes : ByteArray} {maxL : Nat} {ret : Option FieldType} {ws : List Jvm.Cond} {rm : Room} {as' : Array Value} {h0 : Heap} {cs ss : Nat} {Q : Option Value → Heap → List Loc → Prop} (hp : plainFor y = true)
    (body : ∀ (p : Program) (e : Env) (s : State) (m : MethodId) (below : List Frame) (meth : Method) (c : Code) (s₁ : State), BodyLoose p l y (head1 (Jvm.Cond.code y bytes maxL ret :: ws) rm) bytes maxL ret e s m as' below meth c s₁ → c.maxLocals = maxL → Z.Warmed39 s.vm →
      Stand p l e rm s m as' below meth c s₁ [] 0 0 → s₁.heap = h0 → own_Go p e below (own_Post s Q cs ss) s₁ (entryFrame m as' maxL)) : own_Met l Z y bytes maxL ret ws rm as' h0 cs ss Q := by
  refine MetFree.of_bodySF hp hisR ?_
  intro p e s m args below meth c s₁ Bd hml0 hP hK
  obtain ⟨rfl, hZ, hh⟩ := hP
  exact body p e s m below meth c s₁ Bd hml0 hZ (Stand.of_body Bd) (by rw [← hh, Bd.state]; rfl)
theorem own_retN (X : Stand p l e R s m args below meth c T locs cells slots) (hx : p.tables.exec = Jvm.exec) (t : FieldType) (hret : meth.sig.returnType = some t) (hlk : meth.locks = false) (ht : t = .boolean ∨ t = .byte ∨ t = .char ∨ t = .short) {pc : Nat} {Ls : Array Slot} {z : Int32} {rest : List Value} (hd : decode c.code pc = .ok (.ireturn, 1))
    {Q : Option Value → Heap → List Loc → Prop} {cs ss : Nat} (hc : cells ≤ cs) (hs : slots ≤ ss) (hQ : Q (some (.int (nar t z))) T.heap locs) : own_Go p e below (own_Post s Q cs ss) T (mkF m pc Ls (.int z :: rest)) := by
  obtain ⟨fs, hr, hrun, hended, hW, hsame⟩ := X.leave (v := some (.int (nar t z))) (fun h => by rw [hret] at h; cases h) hlk
  exact ⟨_, _, retN X hx hret ht hd hr, hrun, hended, _, _, rfl, hQ, ⟨_, rfl⟩, hW, hsame.mono hc hs⟩
theorem own_retI (X : Stand p l e R s m args below meth c T locs cells slots) (hx : p.tables.exec = Jvm.exec) (hret : meth.sig.returnType = some .int) (hlk : meth.locks = false) {pc : Nat} {Ls : Array Slot} {z : Int32} {rest : List Value} (hd : decode c.code pc = .ok (.ireturn, 1))
    {Q : Option Value → Heap → List Loc → Prop} {cs ss : Nat} (hc : cells ≤ cs) (hs : slots ≤ ss) (hQ : Q (some (.int z)) T.heap locs) : own_Go p e below (own_Post s Q cs ss) T (mkF m pc Ls (.int z :: rest)) := by
  obtain ⟨fs, hr, hrun, hended, hW, hsame⟩ := X.leave (v := some (.int z)) (fun h => by rw [hret] at h; cases h) hlk
  exact ⟨_, _, retOut X hx hret rfl (Or.inl ⟨rfl, Or.inl rfl, _, rfl⟩) hd hr, hrun, hended, _, _, rfl, hQ, ⟨_, rfl⟩, hW, hsame.mono hc hs⟩
theorem own_retJ (X : Stand p l e R s m args below meth c T locs cells slots) (hx : p.tables.exec = Jvm.exec) (hret : meth.sig.returnType = some .long) (hlk : meth.locks = false) {pc : Nat} {Ls : Array Slot} {z : Int64} {rest : List Value} (hd : decode c.code pc = .ok (.lreturn, 1))
    {Q : Option Value → Heap → List Loc → Prop} {cs ss : Nat} (hc : cells ≤ cs) (hs : slots ≤ ss) (hQ : Q (some (.long z)) T.heap locs) : own_Go p e below (own_Post s Q cs ss) T (mkF m pc Ls (.long z :: rest)) := by
  obtain ⟨fs, hr, hrun, hended, hW, hsame⟩ := X.leave (v := some (.long z)) (fun h => by rw [hret] at h; cases h) hlk
  exact ⟨_, _, retOut X hx hret rfl (Or.inr (Or.inl ⟨rfl, rfl, _, rfl⟩)) hd hr, hrun, hended, _, _, rfl, hQ, ⟨_, rfl⟩, hW, hsame.mono hc hs⟩
theorem own_retA (X : Stand p l e R s m args below meth c T locs cells slots) (hx : p.tables.exec = Jvm.exec) {t : FieldType} (hret : meth.sig.returnType = some t) (hlk : meth.locks = false) (ht : t.isReference = true) {pc : Nat} {Ls : Array Slot} {w : Value} {rest : List Value} (hw : w.isRef = true) (hd : decode c.code pc = .ok (.areturn, 1))
    {Q : Option Value → Heap → List Loc → Prop} {cs ss : Nat} (hc : cells ≤ cs) (hs : slots ≤ ss) (hQ : Q (some w) T.heap locs) : own_Go p e below (own_Post s Q cs ss) T (mkF m pc Ls (w :: rest)) := by
  obtain ⟨fs, hr, hrun, hended, hW, hsame⟩ := X.leave (v := some w) (fun h => by rw [hret] at h; cases h) hlk
  have hn : narrow t w = w := by rcases ref_cases hw with rfl | ⟨a, rfl⟩ <;> cases t <;> first | rfl | cases ht
  exact ⟨_, _, retOut X hx hret hn (Or.inr (Or.inr (Or.inr (Or.inr ⟨rfl, ht, hw⟩)))) hd hr, hrun, hended, _, _, rfl, hQ, ⟨_, rfl⟩, hW, hsame.mono hc hs⟩
theorem own_retV (X : Stand p l e R s m args below meth c T locs cells slots) (hx : p.tables.exec = Jvm.exec) (hret : meth.sig.returnType = none) (hlk : meth.locks = false) {pc : Nat} {Ls : Array Slot} (hd : decode c.code pc = .ok (.return_, 1))
    {Q : Option Value → Heap → List Loc → Prop} {cs ss : Nat} (hc : cells ≤ cs) (hs : slots ≤ ss) (hQ : Q none T.heap locs) : own_Go p e below (own_Post s Q cs ss) T (mkF m pc Ls []) := by
  obtain ⟨fs, hr, hrun, hended, hW, hsame⟩ := X.leave (v := none) (fun _ => rfl) hlk
  exact ⟨_, _, X.returnOut hx hret hd hr, hrun, hended, _, _, rfl, hQ, ⟨_, rfl⟩, hW, hsame.mono hc hs⟩
theorem own_callS (X : Stand p l e R s m args below meth c T locs cells slots) (hx : p.tables.exec = Jvm.exec) (hZ : Z.Warmed39 s.vm) {own : String} {index : Nat} {y : MethodName} {bytes : ByteArray} {maxL : Nat} {ret : Option FieldType} (hown : s.vm.findClass own = some m.cls)
    (w1 : (Jvm.Cond.methodLink own index y).before a0 Z = true) (w2 : (Jvm.Cond.static y).before a0 Z = true) (w3 : (Jvm.Cond.initialized y.cls).before a0 Z = true) (w4 : (Jvm.Cond.code y bytes maxL ret).before a0 Z = true)
    (hy : y.cls ≠ "java/lang/invoke/MethodHandle" ∧ y.cls ≠ "java/lang/invoke/VarHandle") {rm : Room} {argsL : List Value} {Q : Option Value → Heap → List Loc → Prop} (hM : own_Met l Z y bytes maxL ret [] rm argsL.toArray h rm.cells rm.slots Q) (eT : T.heap = h)
    {g : JFrame} (hg : g.method = m) (hsize : g.locals.size = c.maxLocals) {rest : List Value} (hlen : ∀ sig, parseMethodDescriptor y.desc = some sig → argsL.length = sig.parameters.length) (hstack : g.stack = argsL.reverse ++ rest)
    (hdg : decode c.code g.pc = .ok (.invokestatic index, 3)) {W : Nat} (hW : 2 * g.monitorRoom + (rest.map fun v => v.category).sum ≤ W) (hf : rm.frames + 1 ≤ R.frames) (hl : W + (maxL + 11) + rm.locals ≤ R.locals) (hc : cells + rm.cells ≤ R.cells) (hs : slots + rm.slots ≤ R.slots) :
    ∃ (v : Option Value) (T' : State) (L : List Loc), Q v T'.heap L ∧ Stand p l e R s m args below meth c T' (locs ++ L) (cells + rm.cells) (slots + rm.slots) ∧
      ∀ t, Steps p.tables e below (T'.setTop { g with pc := g.pc + 3, stack := v.toList ++ rest }) t → Steps p.tables e below (T.setTop g) t := by
  obtain ⟨v, _, ⟨T', L', k', n'⟩, -, X', ⟨L, hQ, l1, l2, l3⟩, st⟩ := Jvm.LawKit.callS X hx hown (mvT hZ w1) (mvT hZ w2) (mvT hZ w3) (mvT hZ w4) hy (backOf (W := W) hM hZ w4 w3 hf hl) hg hsize hlen hstack hW hdg (fun _ _ => ⟨rfl, eT, hc, hs⟩)
  dsimp only [Pt.U, Pt.locs, Pt.cells, Pt.slots] at X' l1 l2 l3 st hQ
  subst l1 l2 l3
  exact ⟨v, T', L, hQ, X', st⟩
theorem own_callI (X : Stand p l e R s m args below meth c T locs cells slots) (hx : p.tables.exec = Jvm.exec) (hZ : Z.Warmed39 s.vm) {own : String} {index : Nat} {y : MethodName} {bytes : ByteArray} {maxL : Nat} (hy1 : y.name = "<init>") (hown : s.vm.findClass own = some m.cls)
    (w1 : (Jvm.Cond.methodLink own index y).before a0 Z = true) (w2 : (Jvm.Cond.instanceMethod y).before a0 Z = true) (w3 : (Jvm.Cond.initialized y.cls).before a0 Z = true) (w4 : (Jvm.Cond.code y bytes maxL none).before a0 Z = true)
    (hy : y.cls ≠ "java/lang/invoke/MethodHandle" ∧ y.cls ≠ "java/lang/invoke/VarHandle") {rm : Room} {a : Addr} {argsL : List Value} {Q : Option Value → Heap → List Loc → Prop} (hM : own_Met l Z y bytes maxL none [] rm (.ref a :: argsL).toArray h rm.cells rm.slots Q) (eT : T.heap = h)
    {g : JFrame} (hg : g.method = m) (hsize : g.locals.size = c.maxLocals) {rest : List Value} (hlen : ∀ sig, parseMethodDescriptor y.desc = some sig → argsL.length = sig.parameters.length) (hstack : g.stack = argsL.reverse ++ .ref a :: rest)
    (hdg : decode c.code g.pc = .ok (.invokespecial index, 3)) {W : Nat} (hW : 2 * g.monitorRoom + (rest.map fun v => v.category).sum ≤ W) (hf : rm.frames + 1 ≤ R.frames) (hl : W + (maxL + 11) + rm.locals ≤ R.locals) (hc : cells + rm.cells ≤ R.cells) (hs : slots + rm.slots ≤ R.slots) :
    ∃ (v : Option Value) (T' : State) (L : List Loc), Q v T'.heap L ∧ Stand p l e R s m args below meth c T' (locs ++ L) (cells + rm.cells) (slots + rm.slots) ∧
      ∀ t, Steps p.tables e below (T'.setTop { g with pc := g.pc + 3, stack := v.toList ++ rest }) t → Steps p.tables e below (T.setTop g) t := by
  obtain ⟨v, _, ⟨T', L', k', n'⟩, -, X', ⟨L, hQ, l1, l2, l3⟩, st⟩ := X.specialBack hx hy1 hown (mvT hZ w1) (mvT hZ w2) (mvT hZ w4) hy (backOf (W := W) hM hZ w4 w3 hf hl) hg hsize (Steps.refl _) hlen hstack hW hdg (fun _ _ => ⟨rfl, eT, hc, hs⟩)
  dsimp only [Pt.U, Pt.locs, Pt.cells, Pt.slots] at X' l1 l2 l3 st hQ
  subst l1 l2 l3
  exact ⟨v, T', L, hQ, X', fun _ k => st.trans k⟩
theorem own_callV (X : Stand p l e R s m args below meth c T locs cells slots) (hx : p.tables.exec = Jvm.exec) (hZ : Z.Warmed39 s.vm) {own C : String} {index : Nat} {y z : MethodName} {bytes : ByteArray} {maxL : Nat} {ret : Option FieldType} (hown : s.vm.findClass own = some m.cls)
    (w1 : (Jvm.Cond.methodLink own index y).before a0 Z = true) (w2 : (Jvm.Cond.declares y).before a0 Z = true) (hnf : NotFace s y) (ws : (Jvm.Cond.selects C y z).before a0 Z = true) (wi : (Jvm.Cond.instanceMethod z).before a0 Z = true) (w3 : (Jvm.Cond.initialized z.cls).before a0 Z = true) (w4 : (Jvm.Cond.code z bytes maxL ret).before a0 Z = true)
    (hy : y.cls ≠ "java/lang/invoke/MethodHandle" ∧ y.cls ≠ "java/lang/invoke/VarHandle") {rm : Room} {a : Addr} {argsL : List Value} {Q : Option Value → Heap → List Loc → Prop} (hM : own_Met l Z z bytes maxL ret [] rm (.ref a :: argsL).toArray h rm.cells rm.slots Q) (eT : T.heap = h) (E : Exa Z h a C)
    {g : JFrame} (hg : g.method = m) (hsize : g.locals.size = c.maxLocals) {rest : List Value} (hlen : ∀ sig, parseMethodDescriptor y.desc = some sig → argsL.length = sig.parameters.length) (hstack : g.stack = argsL.reverse ++ .ref a :: rest)
    (hdg : decode c.code g.pc = .ok (.invokevirtual index, 3)) {W : Nat} (hW : 2 * g.monitorRoom + (rest.map fun v => v.category).sum ≤ W) (hf : rm.frames + 1 ≤ R.frames) (hl : W + (maxL + 11) + rm.locals ≤ R.locals) (hc : cells + rm.cells ≤ R.cells) (hs : slots + rm.slots ≤ R.slots) :
    ∃ (v : Option Value) (T' : State) (L : List Loc), Q v T'.heap L ∧ Stand p l e R s m args below meth c T' (locs ++ L) (cells + rm.cells) (slots + rm.slots) ∧
      ∀ t, Steps p.tables e below (T'.setTop { g with pc := g.pc + 3, stack := v.toList ++ rest }) t → Steps p.tables e below (T.setTop g) t := by
  obtain ⟨cq, kq, qa, qb, qc⟩ := isOf hZ eT E
  obtain ⟨v, _, ⟨T', L', k', n'⟩, -, X', ⟨L, hQ, l1, l2, l3⟩, st⟩ := X.virtualBack hx hown (mvT hZ w1) (mvT hZ w2) hnf (mvT hZ ws) (mvT hZ wi) hy (backOf (W := W) hM hZ w4 w3 hf hl) qa qc hg hsize (Steps.refl _) hlen hstack hW hdg (fun _ _ => ⟨rfl, eT, hc, hs⟩)
  dsimp only [Pt.U, Pt.locs, Pt.cells, Pt.slots] at X' l1 l2 l3 st hQ
  subst l1 l2 l3
  exact ⟨v, T', L, hQ, X', fun _ k => st.trans k⟩
theorem own_callF (X : Stand p l e R s m args below meth c T locs cells slots) (hx : p.tables.exec = Jvm.exec) (hZ : Z.Warmed39 s.vm) {own C : String} {index count : Nat} {xi y : MethodName} {bytes : ByteArray} {maxL : Nat} {ret : Option FieldType} (hown : s.vm.findClass own = some m.cls)
    (w1 : (Jvm.Cond.methodLink own index xi).before args s = true) (w2 : (Jvm.Cond.declares xi).before args s = true) (wf : (Jvm.Cond.interfaceMethod xi.cls xi.cls xi.name xi.desc).before args s = true) (ws : (Jvm.Cond.selects C xi y).before args s = true) (wi : (Jvm.Cond.instanceMethod y).before args s = true) (wp : (Jvm.Cond.publicMethod y).before args s = true) (wu : (Jvm.Cond.unhidden C xi.name xi.desc).before args s = true) (wc : (Jvm.Cond.castable C xi.cls).before args s = true) (w3 : (Jvm.Cond.initialized y.cls).before a0 Z = true) (w4 : (Jvm.Cond.code y bytes maxL ret).before a0 Z = true)
    (hy : xi.cls ≠ "java/lang/invoke/MethodHandle" ∧ xi.cls ≠ "java/lang/invoke/VarHandle") {rm : Room} {a : Addr} {argsL : List Value} {Q : Option Value → Heap → List Loc → Prop} (hM : own_Met l Z y bytes maxL ret [] rm (.ref a :: argsL).toArray h rm.cells rm.slots Q) (eT : T.heap = h) (E : Exa Z h a C)
    {g : JFrame} (hg : g.method = m) (hsize : g.locals.size = c.maxLocals) {rest : List Value} (hlen : ∀ sig, parseMethodDescriptor xi.desc = some sig → argsL.length = sig.parameters.length) (hstack : g.stack = argsL.reverse ++ .ref a :: rest)
    (hdg : decode c.code g.pc = .ok (.invokeinterface index count, 5)) {W : Nat} (hW : 2 * g.monitorRoom + (rest.map fun v => v.category).sum ≤ W) (hf : rm.frames + 1 ≤ R.frames) (hl : W + (maxL + 11) + rm.locals ≤ R.locals) (hc : cells + rm.cells ≤ R.cells) (hs : slots + rm.slots ≤ R.slots) :
    ∃ (v : Option Value) (T' : State) (L : List Loc), Q v T'.heap L ∧ Stand p l e R s m args below meth c T' (locs ++ L) (cells + rm.cells) (slots + rm.slots) ∧
      ∀ t, Steps p.tables e below (T'.setTop { g with pc := g.pc + 5, stack := v.toList ++ rest }) t → Steps p.tables e below (T.setTop g) t := by
  obtain ⟨cq, kq, qa, qb, qc⟩ := isOf hZ eT E
  obtain ⟨v, _, ⟨T', L', k', n'⟩, -, X', ⟨L, hQ, l1, l2, l3⟩, st⟩ := X.interfaceBack hx hown w1 w2 wf ws wi wp wu wc hy (backOf (W := W) hM hZ w4 w3 hf hl) qa qb qc hg hsize (Steps.refl _) hlen hstack hW hdg (fun _ _ => ⟨rfl, eT, hc, hs⟩)
  dsimp only [Pt.U, Pt.locs, Pt.cells, Pt.slots] at X' l1 l2 l3 st hQ
  subst l1 l2 l3
  exact ⟨v, T', L, hQ, X', fun _ k => st.trans k⟩
theorem own_irem {g : JFrame} {target : State} (X : Stand p l e R s m args below meth c T locs cells slots) (hx : p.tables.exec = Jvm.exec) (hg : g.method = m) {x y : Int32} {rest : List Value} (hd : decode c.code g.pc = .ok (.irem, 1)) (hs : g.stack = .int y :: .int x :: rest) (hy : y ≠ 0)
    (hr : Steps p.tables e below (T.setTop { g with pc := g.pc + 1, stack := .int (x % y) :: rest }) target) : Steps p.tables e below (T.setTop g) target := iremM X hx hg hd hs hy hr
theorem own_lrem {g : JFrame} {target : State} (X : Stand p l e R s m args below meth c T locs cells slots) (hx : p.tables.exec = Jvm.exec) (hg : g.method = m) {x y : Int64} {rest : List Value} (hd : decode c.code g.pc = .ok (.lrem, 1)) (hs : g.stack = .long y :: .long x :: rest) (hy : y ≠ 0)
    (hr : Steps p.tables e below (T.setTop { g with pc := g.pc + 1, stack := .long (x % y) :: rest }) target) : Steps p.tables e below (T.setTop g) target :=
  XS.lrem X.here hx hg hd hs hy (by rw [lrem_mod]; exact hr)
theorem own_pop2 {g : JFrame} {target : State} (X : Stand p l e R s m args below meth c T locs cells slots) (hx : p.tables.exec = Jvm.exec) (hg : g.method = m) {x : Int64} {rest : List Value} (hd : decode c.code g.pc = .ok (.pop2, 1)) (hs : g.stack = .long x :: rest)
    (hr : Steps p.tables e below (T.setTop { g with pc := g.pc + 1, stack := rest }) target) : Steps p.tables e below (T.setTop g) target := by
  subst hg
  jvm_step X.here [X.here.top, hx, hd, hs, Value.category]
  exact hr
theorem own_fldJ {t : Term} {C n d : String} {a : Addr} {z : Int64} (ht : t.eval args s none [] s = some (.ref a)) (q : (Jvm.Cond.eq (.field t C n d) (.long z)).value args s none s [] = some true) : Fld s s.heap a C n d (.long z) := by
  obtain ⟨x, y, ha, hb, -, k2⟩ := cmp_v (Or.inl q)
  obtain rfl : y = .long z := Option.some.inj (hb.symm.trans (long_at z))
  obtain ⟨w, rfl⟩ := k2
  have e : w = z := gotT (eq_L ha hb) q
  subst e
  exact Fld.start ((fld_at ht).symm.trans ha)
theorem own_staI {C n d : String} {z : Int32} (q : (Jvm.Cond.eq (.static C n d) (.int z)).value args s none s [] = some true) (hi : (Jvm.Cond.initializedFor C n d).before args s = true ∨ ((Jvm.Cond.initialized C).before args s = true ∧ (Jvm.Cond.laysStatic C n d).before args s = true)) : Sta s s.heap C n d (.int z) := by
  obtain ⟨x, y, ha, hb, -, k2⟩ := cmp_v (Or.inl q)
  obtain rfl : y = .int z := Option.some.inj (hb.symm.trans (Term.int_eval z))
  obtain ⟨w, rfl⟩ := k2
  have e : w = z := gotT (Cond.eq_ints ha hb) q
  subst e
  exact Sta.start ha hi
theorem own_ns_exa {a : Addr} {C : String} (E : Exa Z h a C) : ∃ c : Cell, h[a]? = some c ∧ c.vm.isStatics = false := by
  obtain ⟨c, k, h1, -, -, h4, -⟩ := E
  exact ⟨c, h1, h4⟩
theorem own_ns_arv {a : Addr} {k : ClassId} {ty : FieldType} {z : Int32} {vs : List Value} {dv : Value} (F : Arv Z h a k ty z vs dv) : ∃ c : Cell, h[a]? = some c ∧ c.vm.isStatics = false := by
  obtain ⟨c, A, -⟩ := F
  exact ⟨c, A.1, A.plain⟩
theorem own_sta_keep {h' : Heap} {C n d : String} {w : Value} {ws : List Addr} (F : Sta Z h C n d w) (K : Keep h h' ws) (hn : ∀ x ∈ ws, ∃ c : Cell, h[x]? = some c ∧ c.vm.isStatics = false) : Sta Z h' C n d w := by
  obtain ⟨cf, i, k, f, st, cell, h1, h2, h3, h4, h5, h6, h7⟩ := F
  exact ⟨cf, i, k, f, st, cell, h1, h2, h3, h4, K.2.1 st cell h5 (fun q => by obtain ⟨c, e1, e2⟩ := hn st q; cases h5.symm.trans e1; rw [e2] at h6; cases h6), h6, h7⟩
end Own
def own_ok (nd lo hi x : Int32) : Bool := if 0 < nd then (!decide (x < lo) && !decide (hi < x)) else if ¬ x < 194 ∧ ¬ 223 < x then true else if ¬ x < 224 ∧ ¬ 239 < x then true else if ¬ x < 240 ∧ ¬ 244 < x then true else decide (x < 128)
def own_nd (nd x : Int32) : Int32 := if 0 < nd then nd - 1 else if ¬ x < 194 ∧ ¬ 223 < x then 1 else if ¬ x < 224 ∧ ¬ 239 < x then 2 else if ¬ x < 240 ∧ ¬ 244 < x then 3 else nd
def own_lo (nd lo x : Int32) : Int32 := if 0 < nd then 128 else if ¬ x < 194 ∧ ¬ 223 < x then lo else if ¬ x < 224 ∧ ¬ 239 < x then (if x = 224 then 160 else 128) else if ¬ x < 240 ∧ ¬ 244 < x then (if x = 240 then 144 else 128) else lo
def own_hi (nd hi x : Int32) : Int32 := if 0 < nd then 191 else if ¬ x < 194 ∧ ¬ 223 < x then hi else if ¬ x < 224 ∧ ¬ 239 < x then (if x = 237 then 159 else 191) else if ¬ x < 240 ∧ ¬ 244 < x then (if x = 244 then 143 else 191) else hi
def own_chk : List (Int32 × Bool × Bool) → Int32 → Int32 → Int32 → Bool
  | [], _, _, _ => true
  | (x, o, c) :: r, nd, lo, hi => if own_ok nd lo hi x = o then (if o = true then (if decide (own_nd nd x = 0) = c then own_chk r (own_nd nd x) (own_lo nd lo x) (own_hi nd hi x) else false) else true) else false
theorem own_chk_c (x : Int32) (o c : Bool) (r : List (Int32 × Bool × Bool)) (nd lo hi : Int32) : own_chk ((x, o, c) :: r) nd lo hi = if own_ok nd lo hi x = o then (if o = true then (if decide (own_nd nd x = 0) = c then own_chk r (own_nd nd x) (own_lo nd lo x) (own_hi nd hi x) else false) else true) else false := rfl
theorem own_chk_1 {x : Int32} {o c : Bool} {r : List (Int32 × Bool × Bool)} {nd lo hi : Int32} (h : own_chk ((x, o, c) :: r) nd lo hi = true) : own_ok nd lo hi x = o ∧ (o = true → decide (own_nd nd x = 0) = c ∧ own_chk r (own_nd nd x) (own_lo nd lo x) (own_hi nd hi x) = true) := by
  rw [own_chk_c] at h
  by_cases h1 : own_ok nd lo hi x = o
  · refine ⟨h1, fun ho => ?_⟩
    rw [if_pos h1, if_pos ho] at h
    by_cases h2 : decide (own_nd nd x = 0) = c
    · rw [if_pos h2] at h; exact ⟨h2, h⟩
    · rw [if_neg h2] at h; cases h
  · rw [if_neg h1] at h; cases h
abbrev own_cl (x len lo hi : Int32) : Prop := own_ok 0 128 191 x = true ∧ own_nd 0 x = len - 1 ∧ own_lo 0 128 x = lo ∧ own_hi 0 191 x = hi
theorem own_all {P : Int32 → Prop} (h : ∀ k : Fin 256, P (Int32.ofNat k.val)) {x : Int32} (hx : 0 ≤ x.toInt ∧ x.toInt ≤ 255) : P x := by
  have e : x = Int32.ofNat x.toInt.toNat := by
    rw [← Int32.toInt_inj, Int32.toInt_ofNat_of_lt (by omega)]
    omega
  rw [e]
  exact h ⟨x.toInt.toNat, by omega⟩
theorem own_val : ∀ k : Fin 256, own_ok 0 128 191 (Int32.ofNat k.val) = decide ((Int32.ofNat k.val).toInt ≤ 127 ∨ (194 ≤ (Int32.ofNat k.val).toInt ∧ (Int32.ofNat k.val).toInt ≤ 244)) := by decide +kernel
theorem own_inv {x : Int32} (hx : 0 ≤ x.toInt ∧ x.toInt ≤ 255) : own_ok 0 128 191 x = decide (x.toInt ≤ 127 ∨ (194 ≤ x.toInt ∧ x.toInt ≤ 244)) := own_all (P := fun x => own_ok 0 128 191 x = decide (x.toInt ≤ 127 ∨ (194 ≤ x.toInt ∧ x.toInt ≤ 244))) own_val hx
theorem own_k1 : ∀ k : Fin 256, (Int32.ofNat k.val).toInt ≤ 127 → own_cl (Int32.ofNat k.val) 1 128 191 := by decide +kernel
theorem own_k2 : ∀ k : Fin 256, 194 ≤ (Int32.ofNat k.val).toInt ∧ (Int32.ofNat k.val).toInt ≤ 223 → own_cl (Int32.ofNat k.val) 2 128 191 := by decide +kernel
theorem own_k3 : ∀ k : Fin 256, ((225 ≤ (Int32.ofNat k.val).toInt ∧ (Int32.ofNat k.val).toInt ≤ 236) ∨ (238 ≤ (Int32.ofNat k.val).toInt ∧ (Int32.ofNat k.val).toInt ≤ 239)) → own_cl (Int32.ofNat k.val) 3 128 191 := by decide +kernel
theorem own_k4 : ∀ k : Fin 256, 241 ≤ (Int32.ofNat k.val).toInt ∧ (Int32.ofNat k.val).toInt ≤ 243 → own_cl (Int32.ofNat k.val) 4 128 191 := by decide +kernel
theorem own_cl1 {x : Int32} (hx : 0 ≤ x.toInt ∧ x.toInt ≤ 255) : x.toInt ≤ 127 → own_cl x 1 128 191 := own_all (P := fun x => x.toInt ≤ 127 → own_cl x 1 128 191) own_k1 hx
theorem own_cl2 {x : Int32} (hx : 0 ≤ x.toInt ∧ x.toInt ≤ 255) : (194 ≤ x.toInt ∧ x.toInt ≤ 223) → own_cl x 2 128 191 := own_all (P := fun x => (194 ≤ x.toInt ∧ x.toInt ≤ 223) → own_cl x 2 128 191) own_k2 hx
theorem own_cl3 {x : Int32} (hx : 0 ≤ x.toInt ∧ x.toInt ≤ 255) : ((225 ≤ x.toInt ∧ x.toInt ≤ 236) ∨ (238 ≤ x.toInt ∧ x.toInt ≤ 239)) → own_cl x 3 128 191 := own_all (P := fun x => ((225 ≤ x.toInt ∧ x.toInt ≤ 236) ∨ (238 ≤ x.toInt ∧ x.toInt ≤ 239)) → own_cl x 3 128 191) own_k3 hx
theorem own_cl4 {x : Int32} (hx : 0 ≤ x.toInt ∧ x.toInt ≤ 255) : (241 ≤ x.toInt ∧ x.toInt ≤ 243) → own_cl x 4 128 191 := own_all (P := fun x => (241 ≤ x.toInt ∧ x.toInt ≤ 243) → own_cl x 4 128 191) own_k4 hx
theorem own_clE0 : own_cl 224 3 160 191 := by decide +kernel
theorem own_clED : own_cl 237 3 128 159 := by decide +kernel
theorem own_clF0 : own_cl 240 4 144 191 := by decide +kernel
theorem own_clF4 : own_cl 244 4 128 143 := by decide +kernel
theorem own_f1 {x lo hi : Int32} {c : Bool} {t : List (Int32 × Bool × Bool)} (h : own_cl x 1 lo hi) (hl : lo = 128) (hh : hi = 191) (hc : c = true) : own_chk ((x, true, c) :: t) 0 128 191 = own_chk t 0 128 191 := by
  obtain ⟨h1, h2, h3, h4⟩ := h
  have e : (1 : Int32) - 1 = 0 := by decide
  rw [own_chk_c, if_pos h1, if_pos rfl, h2, h3, h4, e, hc, hl, hh, if_pos (by decide)]
theorem own_fn {x len nd lo hi : Int32} {c : Bool} {t : List (Int32 × Bool × Bool)} (h : own_cl x len lo hi) (hn : len - 1 = nd) (h0 : ¬ nd = 0) (hc : c = false) : own_chk ((x, true, c) :: t) 0 128 191 = own_chk t nd lo hi := by
  obtain ⟨h1, h2, h3, h4⟩ := h
  rw [own_chk_c, if_pos h1, if_pos rfl, h2, h3, h4, hn, hc, if_pos (decide_eq_false h0)]
theorem own_nt {y nd nd' lo hi : Int32} {g c : Bool} {t : List (Int32 × Bool × Bool)} (h0 : 0 < nd) (h1 : nd - 1 = nd') (hg : g = (!decide (y < lo) && !decide (hi < y))) (ht : g = true) (hc : c = decide (nd' = 0)) : own_chk ((y, g, c) :: t) nd lo hi = own_chk t nd' 128 191 := by
  have e1 : own_ok nd lo hi y = g := by rw [hg]; exact if_pos h0
  have e2 : own_nd nd y = nd' := by rw [← h1]; exact if_pos h0
  have e3 : own_lo nd lo y = 128 := if_pos h0
  have e4 : own_hi nd hi y = 191 := if_pos h0
  rw [own_chk_c, if_pos e1, if_pos ht, e2, e3, e4, hc, if_pos rfl]
theorem own_nf {y nd lo hi : Int32} {g c : Bool} {t : List (Int32 × Bool × Bool)} (h0 : 0 < nd) (hg : g = (!decide (y < lo) && !decide (hi < y))) (ht : ¬ g = true) : own_chk ((y, g, c) :: t) nd lo hi = true := by
  have e1 : own_ok nd lo hi y = g := by rw [hg]; exact if_pos h0
  rw [own_chk_c, if_pos e1, if_neg ht]
theorem own_no {x : Int32} {c : Bool} {t : List (Int32 × Bool × Bool)} (h : own_ok 0 128 191 x = false) : own_chk ((x, false, c) :: t) 0 128 191 = true := by
  rw [own_chk_c, if_pos h, if_neg (by decide)]
theorem own_bm (a : Int32) : (a.toInt8.toInt32) &&& (255 : Int32) = a &&& (255 : Int32) := by
  have h1 := c_i2b a
  have h2 := c_mask a (255 : Int32) 8 (by decide) (by decide)
  have h3 := c_mask a.toInt8.toInt32 (255 : Int32) 8 (by decide) (by decide)
  rw [← Int32.toInt_inj, h2, h3]
  omega
theorem own_rg (a : Int32) : 0 ≤ (a &&& (255 : Int32)).toInt ∧ (a &&& (255 : Int32)).toInt ≤ 255 := by
  have h2 := c_mask a (255 : Int32) 8 (by decide) (by decide)
  omega
theorem d2_0 : decode prog_69_method_1_code 0 = .ok (.aload_n 0, 1) := by decide +kernel
theorem d2_1 : decode prog_69_method_1_code 1 = .ok (.invokespecial 1, 3) := by decide +kernel
theorem d2_4 : decode prog_69_method_1_code 4 = .ok (.aload_n 0, 1) := by decide +kernel
theorem d2_5 : decode prog_69_method_1_code 5 = .ok (.sipush 128, 3) := by decide +kernel
theorem d2_8 : decode prog_69_method_1_code 8 = .ok (.putfield 9, 3) := by decide +kernel
theorem d2_11 : decode prog_69_method_1_code 11 = .ok (.aload_n 0, 1) := by decide +kernel
theorem d2_12 : decode prog_69_method_1_code 12 = .ok (.sipush 191, 3) := by decide +kernel
theorem d2_15 : decode prog_69_method_1_code 15 = .ok (.putfield 13, 3) := by decide +kernel
theorem d2_18 : decode prog_69_method_1_code 18 = .ok (.return_, 1) := by decide +kernel
theorem pn_rm2 : plainName "com/example/firm_tread/firmtread/transport/Utf8" = true := by first | (simp [plainName, overriddenIn]; done) | decide +kernel
theorem ef_rm2 (m : MethodId) (o0 : Addr) : entryFrame m #[(.ref o0)] 1 = mkF m 0 #[.val (.ref o0)] [] := by first | (simp [entryFrame, mkF, argsToLocals, Value.category]; done) | rfl
set_option maxRecDepth 65536 in
set_option maxHeartbeats 40000000 in
theorem rm2 (l : Launch) (Z : State) (a0 : Array Value) (hw : ∀ d ∈ tables_1, d.before a0 Z = true) (o0 : Addr)  (h0 : Heap) (n0 : Nat) (Z0 : n0 ≤ h0.size) (g_o0 : n0 ≤ o0) (P0 : Exa Z h0 o0 "com/example/firm_tread/firmtread/transport/Utf8") (P1 : Fld Z h0 o0 "com/example/firm_tread/firmtread/transport/Utf8" "needed" "I" (.int (0 : Int32))) (P2 : Fld Z h0 o0 "com/example/firm_tread/firmtread/transport/Utf8" "low" "I" (.int (0 : Int32))) (P3 : Fld Z h0 o0 "com/example/firm_tread/firmtread/transport/Utf8" "high" "I" (.int (0 : Int32))) :
    own_Met l Z (⟨"com/example/firm_tread/firmtread/transport/Utf8", "<init>", "()V"⟩ : MethodName) prog_69_method_1_code 1 none [] ({ frames := 1, cells := 0, slots := 0, locals := 12 } : Room) #[(.ref o0)] h0 0 0 (fun v h L => v = none ∧ Fr n0 L ∧ Keep h0 h [o0] ∧ Exa Z h o0 "com/example/firm_tread/firmtread/transport/Utf8" ∧ Fld Z h o0 "com/example/firm_tread/firmtread/transport/Utf8" "needed" "I" (.int (0 : Int32)) ∧ Fld Z h o0 "com/example/firm_tread/firmtread/transport/Utf8" "low" "I" (.int (128 : Int32)) ∧ Fld Z h o0 "com/example/firm_tread/firmtread/transport/Utf8" "high" "I" (.int (191 : Int32))) := by
  refine own_met (plainFor_of_name pn_rm2) ?_
  intro p e s m below meth c s₁ Bd hml0 hZ X0 e0
  have hx := Bd.exec
  have hby := Bd.bytes
  have hml : c.maxLocals = 1 := hml0
  have hown : s.vm.findClass "com/example/firm_tread/firmtread/transport/Utf8" = some m.cls := findClass_of_methodNamed Bd.named
  have hnm := (name_of_methodNamed Bd.named Bd.method).1
  refine own_cast (ef_rm2 m o0) ?_
  generalize hQQ : (fun (v : Option Value) (h : Heap) (L : List Loc) => v = none ∧ Fr n0 L ∧ Keep h0 h [o0] ∧ Exa Z h o0 "com/example/firm_tread/firmtread/transport/Utf8" ∧ Fld Z h o0 "com/example/firm_tread/firmtread/transport/Utf8" "needed" "I" (.int (0 : Int32)) ∧ Fld Z h o0 "com/example/firm_tread/firmtread/transport/Utf8" "low" "I" (.int (128 : Int32)) ∧ Fld Z h o0 "com/example/firm_tread/firmtread/transport/Utf8" "high" "I" (.int (191 : Int32))) = QQ
  have N0 := Fr.nil n0
  have K0 := Keep.refl h0 [o0]
  refine own_go (g' := (mkF m 1 #[.val (.ref o0)] [(.ref o0)])) (fun _ kgo => XS.aloadN X0.here hx rfl (hb hby d2_0) rfl rfl kgo) ?_
  obtain ⟨T1, X1, e1, st1⟩ := initO X0 hx hZ hown (hw _ (List.mem_of_getElem? (i := 12) rfl)) (hw _ (List.mem_of_getElem? (i := 13) rfl)) (hw _ (List.mem_of_getElem? (i := 14) rfl)) e0 (g := (mkF m 1 #[.val (.ref o0)] [(.ref o0)])) rfl (by rw [hml]; rfl) rfl (hb hby d2_1) (by decide) (W := 0) (by show 2 * 0 + _ ≤ _; exact Nat.le_of_eq rfl) (by decide)
  refine own_go (g' := (mkF m 4 #[.val (.ref o0)] [])) (st1) ?_
  refine own_go (g' := (mkF m 5 #[.val (.ref o0)] [(.ref o0)])) (fun _ kgo => XS.aloadN X1.here hx rfl (hb hby d2_4) rfl rfl kgo) ?_
  refine own_go (g' := (mkF m 8 #[.val (.ref o0)] [(.int (128 : Int32)), (.ref o0)])) (fun _ kgo => XS.sipush X1.here hx rfl (hb hby d2_5) kgo) ?_
  obtain ⟨T2, h2, X2, e2, W2, st2⟩ := putF X1 hx hZ hown (host := "") (Or.inl (hw _ (List.mem_of_getElem? (i := 15) rfl))) Via.refl e1 P2 P0 (Or.inl (hw _ (List.mem_of_getElem? (i := 16) rfl))) (hw _ (List.mem_of_getElem? (i := 7) rfl)) (ty := .int) (by decide) rfl rfl (g := (mkF m 8 #[.val (.ref o0)] [(.int (128 : Int32)), (.ref o0)])) rfl rfl (hb hby d2_8)
  have fw2 := Fld.same W2 P2
  have N2 := Fr.snoc X2 N0 g_o0
  have Z2 : n0 ≤ h2.size := by rw [W2.size]; exact Z0
  have K2 : Keep h0 h2 [o0] := K0.wr W2 (Or.inl (List.mem_of_getElem? (i := 0) rfl))
  refine own_go (g' := (mkF m 11 #[.val (.ref o0)] [])) (st2) ?_
  refine own_go (g' := (mkF m 12 #[.val (.ref o0)] [(.ref o0)])) (fun _ kgo => XS.aloadN X2.here hx rfl (hb hby d2_11) rfl rfl kgo) ?_
  refine own_go (g' := (mkF m 15 #[.val (.ref o0)] [(.int (191 : Int32)), (.ref o0)])) (fun _ kgo => XS.sipush X2.here hx rfl (hb hby d2_12) kgo) ?_
  have fx3 : Fld Z h2 o0 "com/example/firm_tread/firmtread/transport/Utf8" "high" "I" (.int (0 : Int32)) := (Fld.other W2 P3 (Or.inr (slot_ne (Or.inl (hw _ (List.mem_of_getElem? (i := 18) rfl))) (Or.inl (hw _ (List.mem_of_getElem? (i := 16) rfl))) (by decide) (t := .int) (t' := .int) (by decide) (by decide))))
  have fx4 : Exa Z h2 o0 "com/example/firm_tread/firmtread/transport/Utf8" := (Exa.wr W2 P0)
  obtain ⟨T5, h5, X5, e5, W5, st5⟩ := putF X2 hx hZ hown (host := "") (Or.inl (hw _ (List.mem_of_getElem? (i := 17) rfl))) Via.refl e2 fx3 fx4 (Or.inl (hw _ (List.mem_of_getElem? (i := 18) rfl))) (hw _ (List.mem_of_getElem? (i := 7) rfl)) (ty := .int) (by decide) rfl rfl (g := (mkF m 15 #[.val (.ref o0)] [(.int (191 : Int32)), (.ref o0)])) rfl rfl (hb hby d2_15)
  have fw5 := Fld.same W5 fx3
  have N5 := Fr.snoc X5 N2 g_o0
  have Z5 : n0 ≤ h5.size := by rw [W5.size]; exact Z2
  have K5 : Keep h0 h5 [o0] := K2.wr W5 (Or.inl (List.mem_of_getElem? (i := 0) rfl))
  refine own_go (g' := (mkF m 18 #[.val (.ref o0)] [])) (st5) ?_
  refine own_retV X5 hx Bd.returns Bd.notSynchronized (hb hby d2_18) (by decide) (by decide) ?_
  show QQ _ T5.heap _
  rw [e5]
  have fx6 : Exa Z h5 o0 "com/example/firm_tread/firmtread/transport/Utf8" := (Exa.wr W5 fx4)
  have fx7 : Fld Z h5 o0 "com/example/firm_tread/firmtread/transport/Utf8" "needed" "I" (.int (0 : Int32)) := (Fld.other W5 (Fld.other W2 P1 (Or.inr (slot_ne (Or.inl (hw _ (List.mem_of_getElem? (i := 25) rfl))) (Or.inl (hw _ (List.mem_of_getElem? (i := 16) rfl))) (by decide) (t := .int) (t' := .int) (by decide) (by decide)))) (Or.inr (slot_ne (Or.inl (hw _ (List.mem_of_getElem? (i := 25) rfl))) (Or.inl (hw _ (List.mem_of_getElem? (i := 18) rfl))) (by decide) (t := .int) (t' := .int) (by decide) (by decide))))
  have fx8 : Fld Z h5 o0 "com/example/firm_tread/firmtread/transport/Utf8" "low" "I" (.int (128 : Int32)) := (Fld.other W5 fw2 (Or.inr (slot_ne (Or.inl (hw _ (List.mem_of_getElem? (i := 16) rfl))) (Or.inl (hw _ (List.mem_of_getElem? (i := 18) rfl))) (by decide) (t := .int) (t' := .int) (by decide) (by decide))))
  rw [← hQQ]
  exact ⟨rfl, N5, K5, fx6, fx7, fx8, fw5⟩
theorem d4_0 : decode prog_69_method_3_code 0 = .ok (.iload_n 1, 1) := by decide +kernel
theorem d4_1 : decode prog_69_method_3_code 1 = .ok (.sipush 255, 3) := by decide +kernel
theorem d4_4 : decode prog_69_method_3_code 4 = .ok (.iand, 1) := by decide +kernel
theorem d4_5 : decode prog_69_method_3_code 5 = .ok (.istore_n 2, 1) := by decide +kernel
theorem d4_6 : decode prog_69_method_3_code 6 = .ok (.iconst 1, 1) := by decide +kernel
theorem d4_7 : decode prog_69_method_3_code 7 = .ok (.istore_n 3, 1) := by decide +kernel
theorem d4_8 : decode prog_69_method_3_code 8 = .ok (.aload_n 0, 1) := by decide +kernel
theorem d4_9 : decode prog_69_method_3_code 9 = .ok (.getfield 25, 3) := by decide +kernel
theorem d4_12 : decode prog_69_method_3_code 12 = .ok (.ifCond .le 52, 3) := by decide +kernel
theorem d4_15 : decode prog_69_method_3_code 15 = .ok (.iload_n 2, 1) := by decide +kernel
theorem d4_16 : decode prog_69_method_3_code 16 = .ok (.aload_n 0, 1) := by decide +kernel
theorem d4_17 : decode prog_69_method_3_code 17 = .ok (.getfield 9, 3) := by decide +kernel
theorem d4_20 : decode prog_69_method_3_code 20 = .ok (.if_icmp .lt 15, 3) := by decide +kernel
theorem d4_23 : decode prog_69_method_3_code 23 = .ok (.iload_n 2, 1) := by decide +kernel
theorem d4_24 : decode prog_69_method_3_code 24 = .ok (.aload_n 0, 1) := by decide +kernel
theorem d4_25 : decode prog_69_method_3_code 25 = .ok (.getfield 13, 3) := by decide +kernel
theorem d4_28 : decode prog_69_method_3_code 28 = .ok (.if_icmp .gt 7, 3) := by decide +kernel
theorem d4_31 : decode prog_69_method_3_code 31 = .ok (.iconst 1, 1) := by decide +kernel
theorem d4_32 : decode prog_69_method_3_code 32 = .ok (.goto 4, 3) := by decide +kernel
theorem d4_35 : decode prog_69_method_3_code 35 = .ok (.iconst 0, 1) := by decide +kernel
theorem d4_36 : decode prog_69_method_3_code 36 = .ok (.istore_n 3, 1) := by decide +kernel
theorem d4_37 : decode prog_69_method_3_code 37 = .ok (.aload_n 0, 1) := by decide +kernel
theorem d4_38 : decode prog_69_method_3_code 38 = .ok (.dup, 1) := by decide +kernel
theorem d4_39 : decode prog_69_method_3_code 39 = .ok (.getfield 25, 3) := by decide +kernel
theorem d4_42 : decode prog_69_method_3_code 42 = .ok (.iconst 1, 1) := by decide +kernel
theorem d4_43 : decode prog_69_method_3_code 43 = .ok (.isub, 1) := by decide +kernel
theorem d4_44 : decode prog_69_method_3_code 44 = .ok (.putfield 25, 3) := by decide +kernel
theorem d4_47 : decode prog_69_method_3_code 47 = .ok (.aload_n 0, 1) := by decide +kernel
theorem d4_48 : decode prog_69_method_3_code 48 = .ok (.sipush 128, 3) := by decide +kernel
theorem d4_51 : decode prog_69_method_3_code 51 = .ok (.putfield 9, 3) := by decide +kernel
theorem d4_54 : decode prog_69_method_3_code 54 = .ok (.aload_n 0, 1) := by decide +kernel
theorem d4_55 : decode prog_69_method_3_code 55 = .ok (.sipush 191, 3) := by decide +kernel
theorem d4_58 : decode prog_69_method_3_code 58 = .ok (.putfield 13, 3) := by decide +kernel
theorem d4_61 : decode prog_69_method_3_code 61 = .ok (.goto 162, 3) := by decide +kernel
theorem d4_64 : decode prog_69_method_3_code 64 = .ok (.iload_n 2, 1) := by decide +kernel
theorem d4_65 : decode prog_69_method_3_code 65 = .ok (.sipush 194, 3) := by decide +kernel
theorem d4_68 : decode prog_69_method_3_code 68 = .ok (.if_icmp .lt 18, 3) := by decide +kernel
theorem d4_71 : decode prog_69_method_3_code 71 = .ok (.iload_n 2, 1) := by decide +kernel
theorem d4_72 : decode prog_69_method_3_code 72 = .ok (.sipush 223, 3) := by decide +kernel
theorem d4_75 : decode prog_69_method_3_code 75 = .ok (.if_icmp .gt 11, 3) := by decide +kernel
theorem d4_78 : decode prog_69_method_3_code 78 = .ok (.aload_n 0, 1) := by decide +kernel
theorem d4_79 : decode prog_69_method_3_code 79 = .ok (.iconst 1, 1) := by decide +kernel
theorem d4_80 : decode prog_69_method_3_code 80 = .ok (.putfield 25, 3) := by decide +kernel
theorem d4_83 : decode prog_69_method_3_code 83 = .ok (.goto 140, 3) := by decide +kernel
theorem d4_86 : decode prog_69_method_3_code 86 = .ok (.iload_n 2, 1) := by decide +kernel
theorem d4_87 : decode prog_69_method_3_code 87 = .ok (.sipush 224, 3) := by decide +kernel
theorem d4_90 : decode prog_69_method_3_code 90 = .ok (.if_icmp .lt 58, 3) := by decide +kernel
theorem d4_93 : decode prog_69_method_3_code 93 = .ok (.iload_n 2, 1) := by decide +kernel
theorem d4_94 : decode prog_69_method_3_code 94 = .ok (.sipush 239, 3) := by decide +kernel
theorem d4_97 : decode prog_69_method_3_code 97 = .ok (.if_icmp .gt 51, 3) := by decide +kernel
theorem d4_100 : decode prog_69_method_3_code 100 = .ok (.aload_n 0, 1) := by decide +kernel
theorem d4_101 : decode prog_69_method_3_code 101 = .ok (.iconst 2, 1) := by decide +kernel
theorem d4_102 : decode prog_69_method_3_code 102 = .ok (.putfield 25, 3) := by decide +kernel
theorem d4_105 : decode prog_69_method_3_code 105 = .ok (.aload_n 0, 1) := by decide +kernel
theorem d4_106 : decode prog_69_method_3_code 106 = .ok (.iload_n 2, 1) := by decide +kernel
theorem d4_107 : decode prog_69_method_3_code 107 = .ok (.sipush 224, 3) := by decide +kernel
theorem d4_110 : decode prog_69_method_3_code 110 = .ok (.if_icmp .ne 9, 3) := by decide +kernel
theorem d4_113 : decode prog_69_method_3_code 113 = .ok (.sipush 160, 3) := by decide +kernel
theorem d4_116 : decode prog_69_method_3_code 116 = .ok (.goto 6, 3) := by decide +kernel
theorem d4_119 : decode prog_69_method_3_code 119 = .ok (.sipush 128, 3) := by decide +kernel
theorem d4_122 : decode prog_69_method_3_code 122 = .ok (.putfield 9, 3) := by decide +kernel
theorem d4_125 : decode prog_69_method_3_code 125 = .ok (.aload_n 0, 1) := by decide +kernel
theorem d4_126 : decode prog_69_method_3_code 126 = .ok (.iload_n 2, 1) := by decide +kernel
theorem d4_127 : decode prog_69_method_3_code 127 = .ok (.sipush 237, 3) := by decide +kernel
theorem d4_130 : decode prog_69_method_3_code 130 = .ok (.if_icmp .ne 9, 3) := by decide +kernel
theorem d4_133 : decode prog_69_method_3_code 133 = .ok (.sipush 159, 3) := by decide +kernel
theorem d4_136 : decode prog_69_method_3_code 136 = .ok (.goto 6, 3) := by decide +kernel
theorem d4_139 : decode prog_69_method_3_code 139 = .ok (.sipush 191, 3) := by decide +kernel
theorem d4_142 : decode prog_69_method_3_code 142 = .ok (.putfield 13, 3) := by decide +kernel
theorem d4_145 : decode prog_69_method_3_code 145 = .ok (.goto 78, 3) := by decide +kernel
theorem d4_148 : decode prog_69_method_3_code 148 = .ok (.iload_n 2, 1) := by decide +kernel
theorem d4_149 : decode prog_69_method_3_code 149 = .ok (.sipush 240, 3) := by decide +kernel
theorem d4_152 : decode prog_69_method_3_code 152 = .ok (.if_icmp .lt 58, 3) := by decide +kernel
theorem d4_155 : decode prog_69_method_3_code 155 = .ok (.iload_n 2, 1) := by decide +kernel
theorem d4_156 : decode prog_69_method_3_code 156 = .ok (.sipush 244, 3) := by decide +kernel
theorem d4_159 : decode prog_69_method_3_code 159 = .ok (.if_icmp .gt 51, 3) := by decide +kernel
theorem d4_162 : decode prog_69_method_3_code 162 = .ok (.aload_n 0, 1) := by decide +kernel
theorem d4_163 : decode prog_69_method_3_code 163 = .ok (.iconst 3, 1) := by decide +kernel
theorem d4_164 : decode prog_69_method_3_code 164 = .ok (.putfield 25, 3) := by decide +kernel
theorem d4_167 : decode prog_69_method_3_code 167 = .ok (.aload_n 0, 1) := by decide +kernel
theorem d4_168 : decode prog_69_method_3_code 168 = .ok (.iload_n 2, 1) := by decide +kernel
theorem d4_169 : decode prog_69_method_3_code 169 = .ok (.sipush 240, 3) := by decide +kernel
theorem d4_172 : decode prog_69_method_3_code 172 = .ok (.if_icmp .ne 9, 3) := by decide +kernel
theorem d4_175 : decode prog_69_method_3_code 175 = .ok (.sipush 144, 3) := by decide +kernel
theorem d4_178 : decode prog_69_method_3_code 178 = .ok (.goto 6, 3) := by decide +kernel
theorem d4_181 : decode prog_69_method_3_code 181 = .ok (.sipush 128, 3) := by decide +kernel
theorem d4_184 : decode prog_69_method_3_code 184 = .ok (.putfield 9, 3) := by decide +kernel
theorem d4_187 : decode prog_69_method_3_code 187 = .ok (.aload_n 0, 1) := by decide +kernel
theorem d4_188 : decode prog_69_method_3_code 188 = .ok (.iload_n 2, 1) := by decide +kernel
theorem d4_189 : decode prog_69_method_3_code 189 = .ok (.sipush 244, 3) := by decide +kernel
theorem d4_192 : decode prog_69_method_3_code 192 = .ok (.if_icmp .ne 9, 3) := by decide +kernel
theorem d4_195 : decode prog_69_method_3_code 195 = .ok (.sipush 143, 3) := by decide +kernel
theorem d4_198 : decode prog_69_method_3_code 198 = .ok (.goto 6, 3) := by decide +kernel
theorem d4_201 : decode prog_69_method_3_code 201 = .ok (.sipush 191, 3) := by decide +kernel
theorem d4_204 : decode prog_69_method_3_code 204 = .ok (.putfield 13, 3) := by decide +kernel
theorem d4_207 : decode prog_69_method_3_code 207 = .ok (.goto 16, 3) := by decide +kernel
theorem d4_210 : decode prog_69_method_3_code 210 = .ok (.iload_n 2, 1) := by decide +kernel
theorem d4_211 : decode prog_69_method_3_code 211 = .ok (.sipush 128, 3) := by decide +kernel
theorem d4_214 : decode prog_69_method_3_code 214 = .ok (.if_icmp .ge 7, 3) := by decide +kernel
theorem d4_217 : decode prog_69_method_3_code 217 = .ok (.iconst 1, 1) := by decide +kernel
theorem d4_218 : decode prog_69_method_3_code 218 = .ok (.goto 4, 3) := by decide +kernel
theorem d4_221 : decode prog_69_method_3_code 221 = .ok (.iconst 0, 1) := by decide +kernel
theorem d4_222 : decode prog_69_method_3_code 222 = .ok (.istore_n 3, 1) := by decide +kernel
theorem d4_223 : decode prog_69_method_3_code 223 = .ok (.iload_n 3, 1) := by decide +kernel
theorem d4_224 : decode prog_69_method_3_code 224 = .ok (.ireturn, 1) := by decide +kernel
theorem pn_rm4 : plainName "com/example/firm_tread/firmtread/transport/Utf8" = true := by first | (simp [plainName, overriddenIn]; done) | decide +kernel
theorem ef_rm4 (m : MethodId) (o0 : Addr) (p1 : Int32) : entryFrame m #[(.ref o0), (.int p1)] 4 = mkF m 0 #[.val (.ref o0), .val (.int p1), .unset, .unset] [] := by first | (simp [entryFrame, mkF, argsToLocals, Value.category]; done) | rfl
set_option maxRecDepth 65536 in
set_option maxHeartbeats 40000000 in
theorem rm4 (l : Launch) (Z : State) (a0 : Array Value) (hw : ∀ d ∈ tables_1, d.before a0 Z = true) (o0 : Addr) (p1 : Int32) (nd : Int32) (lo : Int32) (hi : Int32) (xx : Int32) (h0 : Heap) (n0 : Nat) (Z0 : n0 ≤ h0.size) (g_o0 : n0 ≤ o0) (P0 : Exa Z h0 o0 "com/example/firm_tread/firmtread/transport/Utf8") (P1 : Fld Z h0 o0 "com/example/firm_tread/firmtread/transport/Utf8" "needed" "I" (.int nd)) (P2 : Fld Z h0 o0 "com/example/firm_tread/firmtread/transport/Utf8" "low" "I" (.int lo)) (P3 : Fld Z h0 o0 "com/example/firm_tread/firmtread/transport/Utf8" "high" "I" (.int hi)) (hxx : (p1 &&& (255 : Int32)) = xx) :
    own_Met l Z (⟨"com/example/firm_tread/firmtread/transport/Utf8", "accept", "(B)Z"⟩ : MethodName) prog_69_method_3_code 4 (some .boolean) [] ({ frames := 0, cells := 0, slots := 0, locals := 0 } : Room) #[(.ref o0), (.int p1)] h0 0 0 (fun v h L => v = some (.int (own_b (own_ok nd lo hi xx))) ∧ Fr n0 L ∧ Keep h0 h [o0] ∧ Exa Z h o0 "com/example/firm_tread/firmtread/transport/Utf8" ∧ Fld Z h o0 "com/example/firm_tread/firmtread/transport/Utf8" "needed" "I" (.int (own_nd nd xx)) ∧ Fld Z h o0 "com/example/firm_tread/firmtread/transport/Utf8" "low" "I" (.int (own_lo nd lo xx)) ∧ Fld Z h o0 "com/example/firm_tread/firmtread/transport/Utf8" "high" "I" (.int (own_hi nd hi xx))) := by
  refine own_met (plainFor_of_name pn_rm4) ?_
  intro p e s m below meth c s₁ Bd hml0 hZ X0 e0
  have hx := Bd.exec
  have hby := Bd.bytes
  have hml : c.maxLocals = 4 := hml0
  have hown : s.vm.findClass "com/example/firm_tread/firmtread/transport/Utf8" = some m.cls := findClass_of_methodNamed Bd.named
  have hnm := (name_of_methodNamed Bd.named Bd.method).1
  refine own_cast (ef_rm4 m o0 p1) ?_
  generalize hQQ : (fun (v : Option Value) (h : Heap) (L : List Loc) => v = some (.int (own_b (own_ok nd lo hi xx))) ∧ Fr n0 L ∧ Keep h0 h [o0] ∧ Exa Z h o0 "com/example/firm_tread/firmtread/transport/Utf8" ∧ Fld Z h o0 "com/example/firm_tread/firmtread/transport/Utf8" "needed" "I" (.int (own_nd nd xx)) ∧ Fld Z h o0 "com/example/firm_tread/firmtread/transport/Utf8" "low" "I" (.int (own_lo nd lo xx)) ∧ Fld Z h o0 "com/example/firm_tread/firmtread/transport/Utf8" "high" "I" (.int (own_hi nd hi xx))) = QQ
  have N0 := Fr.nil n0
  have K0 := Keep.refl h0 [o0]
  refine own_go (g' := (mkF m 1 #[.val (.ref o0), .val (.int p1), .unset, .unset] [(.int p1)])) (fun _ kgo => XS.iloadN X0.here hx rfl (hb hby d4_0) rfl kgo) ?_
  refine own_go (g' := (mkF m 4 #[.val (.ref o0), .val (.int p1), .unset, .unset] [(.int (255 : Int32)), (.int p1)])) (fun _ kgo => XS.sipush X0.here hx rfl (hb hby d4_1) kgo) ?_
  refine own_go (g' := (mkF m 5 #[.val (.ref o0), .val (.int p1), .unset, .unset] [(.int (p1 &&& (255 : Int32)))])) (fun _ kgo => XS.iand X0.here hx rfl (hb hby d4_4) rfl kgo) ?_
  refine own_cast (g' := (mkF m 5 #[.val (.ref o0), .val (.int p1), .unset, .unset] [(.int xx)])) (by rw [show (p1 &&& (255 : Int32)) = xx from hxx]) ?_
  refine own_go (g' := (mkF m 6 #[.val (.ref o0), .val (.int p1), .val (.int xx), .unset] [])) (fun _ kgo => XS.istoreN X0.here hx rfl (hb hby d4_5) rfl (l' := #[.val (.ref o0), .val (.int p1), .val (.int xx), .unset]) rfl kgo) ?_
  refine own_go (g' := (mkF m 7 #[.val (.ref o0), .val (.int p1), .val (.int xx), .unset] [(.int (1 : Int32))])) (fun _ kgo => XS.iconst X0.here hx rfl (hb hby d4_6) kgo) ?_
  refine own_go (g' := (mkF m 8 #[.val (.ref o0), .val (.int p1), .val (.int xx), .val (.int (1 : Int32))] [])) (fun _ kgo => XS.istoreN X0.here hx rfl (hb hby d4_7) rfl (l' := #[.val (.ref o0), .val (.int p1), .val (.int xx), .val (.int (1 : Int32))]) rfl kgo) ?_
  refine own_go (g' := (mkF m 9 #[.val (.ref o0), .val (.int p1), .val (.int xx), .val (.int (1 : Int32))] [(.ref o0)])) (fun _ kgo => XS.aloadN X0.here hx rfl (hb hby d4_8) rfl rfl kgo) ?_
  obtain ⟨T1, X1, e1, st1⟩ := getF X0 hx hZ hown (host := "") (Or.inl (hw _ (List.mem_of_getElem? (i := 24) rfl))) Via.refl e0 P1 (g := (mkF m 9 #[.val (.ref o0), .val (.int p1), .val (.int xx), .val (.int (1 : Int32))] [(.ref o0)])) rfl rfl (hb hby d4_9)
  refine own_go (g' := (mkF m 12 #[.val (.ref o0), .val (.int p1), .val (.int xx), .val (.int (1 : Int32))] [(.int nd)])) (st1) ?_
  by_cases hc2 : (0 : Int32) < nd
  ·
    refine own_go (g' := (mkF m 15 #[.val (.ref o0), .val (.int p1), .val (.int xx), .val (.int (1 : Int32))] [])) (fun _ kgo => XS.ifNo X1.here hx rfl (hb hby d4_12) rfl ((if0 _ _).trans (tlt hc2).2.2.2) kgo) ?_
    refine own_go (g' := (mkF m 16 #[.val (.ref o0), .val (.int p1), .val (.int xx), .val (.int (1 : Int32))] [(.int xx)])) (fun _ kgo => XS.iloadN X1.here hx rfl (hb hby d4_15) rfl kgo) ?_
    refine own_go (g' := (mkF m 17 #[.val (.ref o0), .val (.int p1), .val (.int xx), .val (.int (1 : Int32))] [(.ref o0), (.int xx)])) (fun _ kgo => XS.aloadN X1.here hx rfl (hb hby d4_16) rfl rfl kgo) ?_
    obtain ⟨T3, X3, e3, st3⟩ := getF X1 hx hZ hown (host := "") (Or.inl (hw _ (List.mem_of_getElem? (i := 15) rfl))) Via.refl e1 P2 (g := (mkF m 17 #[.val (.ref o0), .val (.int p1), .val (.int xx), .val (.int (1 : Int32))] [(.ref o0), (.int xx)])) rfl rfl (hb hby d4_17)
    refine own_go (g' := (mkF m 20 #[.val (.ref o0), .val (.int p1), .val (.int xx), .val (.int (1 : Int32))] [(.int lo), (.int xx)])) (st3) ?_
    by_cases hc4 : xx < lo
    ·
      refine own_go (g' := (mkF m 35 #[.val (.ref o0), .val (.int p1), .val (.int xx), .val (.int (1 : Int32))] [])) (fun _ kgo => XS.icmpYes X3.here hx rfl (pc0 := 20) (pc' := 35) rfl (hb hby d4_20) rfl (tlt hc4).1 (by decide) (by decide) kgo) ?_
      refine own_go (g' := (mkF m 36 #[.val (.ref o0), .val (.int p1), .val (.int xx), .val (.int (1 : Int32))] [(.int (0 : Int32))])) (fun _ kgo => XS.iconst X3.here hx rfl (hb hby d4_35) kgo) ?_
      refine own_go (g' := (mkF m 37 #[.val (.ref o0), .val (.int p1), .val (.int xx), .val (.int (0 : Int32))] [])) (fun _ kgo => XS.istoreN X3.here hx rfl (hb hby d4_36) rfl (l' := #[.val (.ref o0), .val (.int p1), .val (.int xx), .val (.int (0 : Int32))]) rfl kgo) ?_
      refine own_go (g' := (mkF m 38 #[.val (.ref o0), .val (.int p1), .val (.int xx), .val (.int (0 : Int32))] [(.ref o0)])) (fun _ kgo => XS.aloadN X3.here hx rfl (hb hby d4_37) rfl rfl kgo) ?_
      refine own_go (g' := (mkF m 39 #[.val (.ref o0), .val (.int p1), .val (.int xx), .val (.int (0 : Int32))] [(.ref o0), (.ref o0)])) (fun _ kgo => XS.dup X3.here hx rfl (hb hby d4_38) rfl rfl kgo) ?_
      obtain ⟨T5, X5, e5, st5⟩ := getF X3 hx hZ hown (host := "") (Or.inl (hw _ (List.mem_of_getElem? (i := 24) rfl))) Via.refl e3 P1 (g := (mkF m 39 #[.val (.ref o0), .val (.int p1), .val (.int xx), .val (.int (0 : Int32))] [(.ref o0), (.ref o0)])) rfl rfl (hb hby d4_39)
      refine own_go (g' := (mkF m 42 #[.val (.ref o0), .val (.int p1), .val (.int xx), .val (.int (0 : Int32))] [(.int nd), (.ref o0)])) (st5) ?_
      refine own_go (g' := (mkF m 43 #[.val (.ref o0), .val (.int p1), .val (.int xx), .val (.int (0 : Int32))] [(.int (1 : Int32)), (.int nd), (.ref o0)])) (fun _ kgo => XS.iconst X5.here hx rfl (hb hby d4_42) kgo) ?_
      refine own_go (g' := (mkF m 44 #[.val (.ref o0), .val (.int p1), .val (.int xx), .val (.int (0 : Int32))] [(.int (nd - (1 : Int32))), (.ref o0)])) (fun _ kgo => XS.isub X5.here hx rfl (hb hby d4_43) rfl kgo) ?_
      obtain ⟨T6, h6, X6, e6, W6, st6⟩ := putF X5 hx hZ hown (host := "") (Or.inl (hw _ (List.mem_of_getElem? (i := 24) rfl))) Via.refl e5 P1 P0 (Or.inl (hw _ (List.mem_of_getElem? (i := 25) rfl))) (hw _ (List.mem_of_getElem? (i := 7) rfl)) (ty := .int) (by decide) rfl rfl (g := (mkF m 44 #[.val (.ref o0), .val (.int p1), .val (.int xx), .val (.int (0 : Int32))] [(.int (nd - (1 : Int32))), (.ref o0)])) rfl rfl (hb hby d4_44)
      have fw6 := Fld.same W6 P1
      have N6 := Fr.snoc X6 N0 g_o0
      have Z6 : n0 ≤ h6.size := by rw [W6.size]; exact Z0
      have K6 : Keep h0 h6 [o0] := K0.wr W6 (Or.inl (List.mem_of_getElem? (i := 0) rfl))
      refine own_go (g' := (mkF m 47 #[.val (.ref o0), .val (.int p1), .val (.int xx), .val (.int (0 : Int32))] [])) (st6) ?_
      refine own_go (g' := (mkF m 48 #[.val (.ref o0), .val (.int p1), .val (.int xx), .val (.int (0 : Int32))] [(.ref o0)])) (fun _ kgo => XS.aloadN X6.here hx rfl (hb hby d4_47) rfl rfl kgo) ?_
      refine own_go (g' := (mkF m 51 #[.val (.ref o0), .val (.int p1), .val (.int xx), .val (.int (0 : Int32))] [(.int (128 : Int32)), (.ref o0)])) (fun _ kgo => XS.sipush X6.here hx rfl (hb hby d4_48) kgo) ?_
      have fx7 : Fld Z h6 o0 "com/example/firm_tread/firmtread/transport/Utf8" "low" "I" (.int lo) := (Fld.other W6 P2 (Or.inr (slot_ne (Or.inl (hw _ (List.mem_of_getElem? (i := 16) rfl))) (Or.inl (hw _ (List.mem_of_getElem? (i := 25) rfl))) (by decide) (t := .int) (t' := .int) (by decide) (by decide))))
      have fx8 : Exa Z h6 o0 "com/example/firm_tread/firmtread/transport/Utf8" := (Exa.wr W6 P0)
      obtain ⟨T9, h9, X9, e9, W9, st9⟩ := putF X6 hx hZ hown (host := "") (Or.inl (hw _ (List.mem_of_getElem? (i := 15) rfl))) Via.refl e6 fx7 fx8 (Or.inl (hw _ (List.mem_of_getElem? (i := 16) rfl))) (hw _ (List.mem_of_getElem? (i := 7) rfl)) (ty := .int) (by decide) rfl rfl (g := (mkF m 51 #[.val (.ref o0), .val (.int p1), .val (.int xx), .val (.int (0 : Int32))] [(.int (128 : Int32)), (.ref o0)])) rfl rfl (hb hby d4_51)
      have fw9 := Fld.same W9 fx7
      have N9 := Fr.snoc X9 N6 g_o0
      have Z9 : n0 ≤ h9.size := by rw [W9.size]; exact Z6
      have K9 : Keep h0 h9 [o0] := K6.wr W9 (Or.inl (List.mem_of_getElem? (i := 0) rfl))
      refine own_go (g' := (mkF m 54 #[.val (.ref o0), .val (.int p1), .val (.int xx), .val (.int (0 : Int32))] [])) (st9) ?_
      refine own_go (g' := (mkF m 55 #[.val (.ref o0), .val (.int p1), .val (.int xx), .val (.int (0 : Int32))] [(.ref o0)])) (fun _ kgo => XS.aloadN X9.here hx rfl (hb hby d4_54) rfl rfl kgo) ?_
      refine own_go (g' := (mkF m 58 #[.val (.ref o0), .val (.int p1), .val (.int xx), .val (.int (0 : Int32))] [(.int (191 : Int32)), (.ref o0)])) (fun _ kgo => XS.sipush X9.here hx rfl (hb hby d4_55) kgo) ?_
      have fx10 : Fld Z h9 o0 "com/example/firm_tread/firmtread/transport/Utf8" "high" "I" (.int hi) := (Fld.other W9 (Fld.other W6 P3 (Or.inr (slot_ne (Or.inl (hw _ (List.mem_of_getElem? (i := 18) rfl))) (Or.inl (hw _ (List.mem_of_getElem? (i := 25) rfl))) (by decide) (t := .int) (t' := .int) (by decide) (by decide)))) (Or.inr (slot_ne (Or.inl (hw _ (List.mem_of_getElem? (i := 18) rfl))) (Or.inl (hw _ (List.mem_of_getElem? (i := 16) rfl))) (by decide) (t := .int) (t' := .int) (by decide) (by decide))))
      have fx11 : Exa Z h9 o0 "com/example/firm_tread/firmtread/transport/Utf8" := (Exa.wr W9 fx8)
      obtain ⟨T12, h12, X12, e12, W12, st12⟩ := putF X9 hx hZ hown (host := "") (Or.inl (hw _ (List.mem_of_getElem? (i := 17) rfl))) Via.refl e9 fx10 fx11 (Or.inl (hw _ (List.mem_of_getElem? (i := 18) rfl))) (hw _ (List.mem_of_getElem? (i := 7) rfl)) (ty := .int) (by decide) rfl rfl (g := (mkF m 58 #[.val (.ref o0), .val (.int p1), .val (.int xx), .val (.int (0 : Int32))] [(.int (191 : Int32)), (.ref o0)])) rfl rfl (hb hby d4_58)
      have fw12 := Fld.same W12 fx10
      have N12 := Fr.snoc X12 N9 g_o0
      have Z12 : n0 ≤ h12.size := by rw [W12.size]; exact Z9
      have K12 : Keep h0 h12 [o0] := K9.wr W12 (Or.inl (List.mem_of_getElem? (i := 0) rfl))
      refine own_go (g' := (mkF m 61 #[.val (.ref o0), .val (.int p1), .val (.int xx), .val (.int (0 : Int32))] [])) (st12) ?_
      refine own_go (g' := (mkF m 223 #[.val (.ref o0), .val (.int p1), .val (.int xx), .val (.int (0 : Int32))] [])) (fun _ kgo => XS.goto X12.here hx rfl (pc0 := 61) (pc' := 223) rfl (hb hby d4_61) (by decide) (by decide) kgo) ?_
      refine own_go (g' := (mkF m 224 #[.val (.ref o0), .val (.int p1), .val (.int xx), .val (.int (0 : Int32))] [(.int (0 : Int32))])) (fun _ kgo => XS.iloadN X12.here hx rfl (hb hby d4_223) rfl kgo) ?_
      refine own_retN X12 hx .boolean Bd.returns Bd.notSynchronized (by simp) (hb hby d4_224) (by decide) (by decide) ?_
      show QQ _ T12.heap _
      rw [e12]
      have hr : own_b (own_ok nd lo hi xx) = (0 : Int32) := by unfold own_ok; rw [if_pos hc2]; simp [own_b, hc4]
      have fx13 : Exa Z h12 o0 "com/example/firm_tread/firmtread/transport/Utf8" := (Exa.wr W12 fx11)
      have fx14 : Fld Z h12 o0 "com/example/firm_tread/firmtread/transport/Utf8" "needed" "I" (.int (nd - (1 : Int32))) := (Fld.other W12 (Fld.other W9 fw6 (Or.inr (slot_ne (Or.inl (hw _ (List.mem_of_getElem? (i := 25) rfl))) (Or.inl (hw _ (List.mem_of_getElem? (i := 16) rfl))) (by decide) (t := .int) (t' := .int) (by decide) (by decide)))) (Or.inr (slot_ne (Or.inl (hw _ (List.mem_of_getElem? (i := 25) rfl))) (Or.inl (hw _ (List.mem_of_getElem? (i := 18) rfl))) (by decide) (t := .int) (t' := .int) (by decide) (by decide))))
      have c15 : Fld Z h12 o0 "com/example/firm_tread/firmtread/transport/Utf8" "needed" "I" (.int (own_nd nd xx)) := by
        rw [show ((.int (own_nd nd xx)) : Value) = (.int (nd - (1 : Int32))) from (congrArg Value.int (by first | (unfold own_nd; rw [if_pos hc2]; done) | (unfold own_lo; rw [if_pos hc2]; done) | (unfold own_hi; rw [if_pos hc2]; done)))]
        exact fx14
      have fx16 : Fld Z h12 o0 "com/example/firm_tread/firmtread/transport/Utf8" "low" "I" (.int (128 : Int32)) := (Fld.other W12 fw9 (Or.inr (slot_ne (Or.inl (hw _ (List.mem_of_getElem? (i := 16) rfl))) (Or.inl (hw _ (List.mem_of_getElem? (i := 18) rfl))) (by decide) (t := .int) (t' := .int) (by decide) (by decide))))
      have c17 : Fld Z h12 o0 "com/example/firm_tread/firmtread/transport/Utf8" "low" "I" (.int (own_lo nd lo xx)) := by
        rw [show ((.int (own_lo nd lo xx)) : Value) = (.int (128 : Int32)) from (congrArg Value.int (by first | (unfold own_nd; rw [if_pos hc2]; done) | (unfold own_lo; rw [if_pos hc2]; done) | (unfold own_hi; rw [if_pos hc2]; done)))]
        exact fx16
      have c18 : Fld Z h12 o0 "com/example/firm_tread/firmtread/transport/Utf8" "high" "I" (.int (own_hi nd hi xx)) := by
        rw [show ((.int (own_hi nd hi xx)) : Value) = (.int (191 : Int32)) from (congrArg Value.int (by first | (unfold own_nd; rw [if_pos hc2]; done) | (unfold own_lo; rw [if_pos hc2]; done) | (unfold own_hi; rw [if_pos hc2]; done)))]
        exact fw12
      rw [← hQQ]
      exact ⟨by rw [hr]; rfl, N12, K12, fx13, c15, c17, c18⟩
    ·
      refine own_go (g' := (mkF m 23 #[.val (.ref o0), .val (.int p1), .val (.int xx), .val (.int (1 : Int32))] [])) (fun _ kgo => XS.icmpNo X3.here hx rfl (hb hby d4_20) rfl (flt hc4).1 kgo) ?_
      refine own_go (g' := (mkF m 24 #[.val (.ref o0), .val (.int p1), .val (.int xx), .val (.int (1 : Int32))] [(.int xx)])) (fun _ kgo => XS.iloadN X3.here hx rfl (hb hby d4_23) rfl kgo) ?_
      refine own_go (g' := (mkF m 25 #[.val (.ref o0), .val (.int p1), .val (.int xx), .val (.int (1 : Int32))] [(.ref o0), (.int xx)])) (fun _ kgo => XS.aloadN X3.here hx rfl (hb hby d4_24) rfl rfl kgo) ?_
      obtain ⟨T19, X19, e19, st19⟩ := getF X3 hx hZ hown (host := "") (Or.inl (hw _ (List.mem_of_getElem? (i := 17) rfl))) Via.refl e3 P3 (g := (mkF m 25 #[.val (.ref o0), .val (.int p1), .val (.int xx), .val (.int (1 : Int32))] [(.ref o0), (.int xx)])) rfl rfl (hb hby d4_25)
      refine own_go (g' := (mkF m 28 #[.val (.ref o0), .val (.int p1), .val (.int xx), .val (.int (1 : Int32))] [(.int hi), (.int xx)])) (st19) ?_
      by_cases hc20 : hi < xx
      ·
        refine own_go (g' := (mkF m 35 #[.val (.ref o0), .val (.int p1), .val (.int xx), .val (.int (1 : Int32))] [])) (fun _ kgo => XS.icmpYes X19.here hx rfl (pc0 := 28) (pc' := 35) rfl (hb hby d4_28) rfl (tlt hc20).2.2.1 (by decide) (by decide) kgo) ?_
        refine own_go (g' := (mkF m 36 #[.val (.ref o0), .val (.int p1), .val (.int xx), .val (.int (1 : Int32))] [(.int (0 : Int32))])) (fun _ kgo => XS.iconst X19.here hx rfl (hb hby d4_35) kgo) ?_
        refine own_go (g' := (mkF m 37 #[.val (.ref o0), .val (.int p1), .val (.int xx), .val (.int (0 : Int32))] [])) (fun _ kgo => XS.istoreN X19.here hx rfl (hb hby d4_36) rfl (l' := #[.val (.ref o0), .val (.int p1), .val (.int xx), .val (.int (0 : Int32))]) rfl kgo) ?_
        refine own_go (g' := (mkF m 38 #[.val (.ref o0), .val (.int p1), .val (.int xx), .val (.int (0 : Int32))] [(.ref o0)])) (fun _ kgo => XS.aloadN X19.here hx rfl (hb hby d4_37) rfl rfl kgo) ?_
        refine own_go (g' := (mkF m 39 #[.val (.ref o0), .val (.int p1), .val (.int xx), .val (.int (0 : Int32))] [(.ref o0), (.ref o0)])) (fun _ kgo => XS.dup X19.here hx rfl (hb hby d4_38) rfl rfl kgo) ?_
        obtain ⟨T21, X21, e21, st21⟩ := getF X19 hx hZ hown (host := "") (Or.inl (hw _ (List.mem_of_getElem? (i := 24) rfl))) Via.refl e19 P1 (g := (mkF m 39 #[.val (.ref o0), .val (.int p1), .val (.int xx), .val (.int (0 : Int32))] [(.ref o0), (.ref o0)])) rfl rfl (hb hby d4_39)
        refine own_go (g' := (mkF m 42 #[.val (.ref o0), .val (.int p1), .val (.int xx), .val (.int (0 : Int32))] [(.int nd), (.ref o0)])) (st21) ?_
        refine own_go (g' := (mkF m 43 #[.val (.ref o0), .val (.int p1), .val (.int xx), .val (.int (0 : Int32))] [(.int (1 : Int32)), (.int nd), (.ref o0)])) (fun _ kgo => XS.iconst X21.here hx rfl (hb hby d4_42) kgo) ?_
        refine own_go (g' := (mkF m 44 #[.val (.ref o0), .val (.int p1), .val (.int xx), .val (.int (0 : Int32))] [(.int (nd - (1 : Int32))), (.ref o0)])) (fun _ kgo => XS.isub X21.here hx rfl (hb hby d4_43) rfl kgo) ?_
        obtain ⟨T22, h22, X22, e22, W22, st22⟩ := putF X21 hx hZ hown (host := "") (Or.inl (hw _ (List.mem_of_getElem? (i := 24) rfl))) Via.refl e21 P1 P0 (Or.inl (hw _ (List.mem_of_getElem? (i := 25) rfl))) (hw _ (List.mem_of_getElem? (i := 7) rfl)) (ty := .int) (by decide) rfl rfl (g := (mkF m 44 #[.val (.ref o0), .val (.int p1), .val (.int xx), .val (.int (0 : Int32))] [(.int (nd - (1 : Int32))), (.ref o0)])) rfl rfl (hb hby d4_44)
        have fw22 := Fld.same W22 P1
        have N22 := Fr.snoc X22 N0 g_o0
        have Z22 : n0 ≤ h22.size := by rw [W22.size]; exact Z0
        have K22 : Keep h0 h22 [o0] := K0.wr W22 (Or.inl (List.mem_of_getElem? (i := 0) rfl))
        refine own_go (g' := (mkF m 47 #[.val (.ref o0), .val (.int p1), .val (.int xx), .val (.int (0 : Int32))] [])) (st22) ?_
        refine own_go (g' := (mkF m 48 #[.val (.ref o0), .val (.int p1), .val (.int xx), .val (.int (0 : Int32))] [(.ref o0)])) (fun _ kgo => XS.aloadN X22.here hx rfl (hb hby d4_47) rfl rfl kgo) ?_
        refine own_go (g' := (mkF m 51 #[.val (.ref o0), .val (.int p1), .val (.int xx), .val (.int (0 : Int32))] [(.int (128 : Int32)), (.ref o0)])) (fun _ kgo => XS.sipush X22.here hx rfl (hb hby d4_48) kgo) ?_
        have fx23 : Fld Z h22 o0 "com/example/firm_tread/firmtread/transport/Utf8" "low" "I" (.int lo) := (Fld.other W22 P2 (Or.inr (slot_ne (Or.inl (hw _ (List.mem_of_getElem? (i := 16) rfl))) (Or.inl (hw _ (List.mem_of_getElem? (i := 25) rfl))) (by decide) (t := .int) (t' := .int) (by decide) (by decide))))
        have fx24 : Exa Z h22 o0 "com/example/firm_tread/firmtread/transport/Utf8" := (Exa.wr W22 P0)
        obtain ⟨T25, h25, X25, e25, W25, st25⟩ := putF X22 hx hZ hown (host := "") (Or.inl (hw _ (List.mem_of_getElem? (i := 15) rfl))) Via.refl e22 fx23 fx24 (Or.inl (hw _ (List.mem_of_getElem? (i := 16) rfl))) (hw _ (List.mem_of_getElem? (i := 7) rfl)) (ty := .int) (by decide) rfl rfl (g := (mkF m 51 #[.val (.ref o0), .val (.int p1), .val (.int xx), .val (.int (0 : Int32))] [(.int (128 : Int32)), (.ref o0)])) rfl rfl (hb hby d4_51)
        have fw25 := Fld.same W25 fx23
        have N25 := Fr.snoc X25 N22 g_o0
        have Z25 : n0 ≤ h25.size := by rw [W25.size]; exact Z22
        have K25 : Keep h0 h25 [o0] := K22.wr W25 (Or.inl (List.mem_of_getElem? (i := 0) rfl))
        refine own_go (g' := (mkF m 54 #[.val (.ref o0), .val (.int p1), .val (.int xx), .val (.int (0 : Int32))] [])) (st25) ?_
        refine own_go (g' := (mkF m 55 #[.val (.ref o0), .val (.int p1), .val (.int xx), .val (.int (0 : Int32))] [(.ref o0)])) (fun _ kgo => XS.aloadN X25.here hx rfl (hb hby d4_54) rfl rfl kgo) ?_
        refine own_go (g' := (mkF m 58 #[.val (.ref o0), .val (.int p1), .val (.int xx), .val (.int (0 : Int32))] [(.int (191 : Int32)), (.ref o0)])) (fun _ kgo => XS.sipush X25.here hx rfl (hb hby d4_55) kgo) ?_
        have fx26 : Fld Z h25 o0 "com/example/firm_tread/firmtread/transport/Utf8" "high" "I" (.int hi) := (Fld.other W25 (Fld.other W22 P3 (Or.inr (slot_ne (Or.inl (hw _ (List.mem_of_getElem? (i := 18) rfl))) (Or.inl (hw _ (List.mem_of_getElem? (i := 25) rfl))) (by decide) (t := .int) (t' := .int) (by decide) (by decide)))) (Or.inr (slot_ne (Or.inl (hw _ (List.mem_of_getElem? (i := 18) rfl))) (Or.inl (hw _ (List.mem_of_getElem? (i := 16) rfl))) (by decide) (t := .int) (t' := .int) (by decide) (by decide))))
        have fx27 : Exa Z h25 o0 "com/example/firm_tread/firmtread/transport/Utf8" := (Exa.wr W25 fx24)
        obtain ⟨T28, h28, X28, e28, W28, st28⟩ := putF X25 hx hZ hown (host := "") (Or.inl (hw _ (List.mem_of_getElem? (i := 17) rfl))) Via.refl e25 fx26 fx27 (Or.inl (hw _ (List.mem_of_getElem? (i := 18) rfl))) (hw _ (List.mem_of_getElem? (i := 7) rfl)) (ty := .int) (by decide) rfl rfl (g := (mkF m 58 #[.val (.ref o0), .val (.int p1), .val (.int xx), .val (.int (0 : Int32))] [(.int (191 : Int32)), (.ref o0)])) rfl rfl (hb hby d4_58)
        have fw28 := Fld.same W28 fx26
        have N28 := Fr.snoc X28 N25 g_o0
        have Z28 : n0 ≤ h28.size := by rw [W28.size]; exact Z25
        have K28 : Keep h0 h28 [o0] := K25.wr W28 (Or.inl (List.mem_of_getElem? (i := 0) rfl))
        refine own_go (g' := (mkF m 61 #[.val (.ref o0), .val (.int p1), .val (.int xx), .val (.int (0 : Int32))] [])) (st28) ?_
        refine own_go (g' := (mkF m 223 #[.val (.ref o0), .val (.int p1), .val (.int xx), .val (.int (0 : Int32))] [])) (fun _ kgo => XS.goto X28.here hx rfl (pc0 := 61) (pc' := 223) rfl (hb hby d4_61) (by decide) (by decide) kgo) ?_
        refine own_go (g' := (mkF m 224 #[.val (.ref o0), .val (.int p1), .val (.int xx), .val (.int (0 : Int32))] [(.int (0 : Int32))])) (fun _ kgo => XS.iloadN X28.here hx rfl (hb hby d4_223) rfl kgo) ?_
        refine own_retN X28 hx .boolean Bd.returns Bd.notSynchronized (by simp) (hb hby d4_224) (by decide) (by decide) ?_
        show QQ _ T28.heap _
        rw [e28]
        have hr : own_b (own_ok nd lo hi xx) = (0 : Int32) := by unfold own_ok; rw [if_pos hc2]; simp [own_b, hc4, hc20]
        have fx29 : Exa Z h28 o0 "com/example/firm_tread/firmtread/transport/Utf8" := (Exa.wr W28 fx27)
        have fx30 : Fld Z h28 o0 "com/example/firm_tread/firmtread/transport/Utf8" "needed" "I" (.int (nd - (1 : Int32))) := (Fld.other W28 (Fld.other W25 fw22 (Or.inr (slot_ne (Or.inl (hw _ (List.mem_of_getElem? (i := 25) rfl))) (Or.inl (hw _ (List.mem_of_getElem? (i := 16) rfl))) (by decide) (t := .int) (t' := .int) (by decide) (by decide)))) (Or.inr (slot_ne (Or.inl (hw _ (List.mem_of_getElem? (i := 25) rfl))) (Or.inl (hw _ (List.mem_of_getElem? (i := 18) rfl))) (by decide) (t := .int) (t' := .int) (by decide) (by decide))))
        have c31 : Fld Z h28 o0 "com/example/firm_tread/firmtread/transport/Utf8" "needed" "I" (.int (own_nd nd xx)) := by
          rw [show ((.int (own_nd nd xx)) : Value) = (.int (nd - (1 : Int32))) from (congrArg Value.int (by first | (unfold own_nd; rw [if_pos hc2]; done) | (unfold own_lo; rw [if_pos hc2]; done) | (unfold own_hi; rw [if_pos hc2]; done)))]
          exact fx30
        have fx32 : Fld Z h28 o0 "com/example/firm_tread/firmtread/transport/Utf8" "low" "I" (.int (128 : Int32)) := (Fld.other W28 fw25 (Or.inr (slot_ne (Or.inl (hw _ (List.mem_of_getElem? (i := 16) rfl))) (Or.inl (hw _ (List.mem_of_getElem? (i := 18) rfl))) (by decide) (t := .int) (t' := .int) (by decide) (by decide))))
        have c33 : Fld Z h28 o0 "com/example/firm_tread/firmtread/transport/Utf8" "low" "I" (.int (own_lo nd lo xx)) := by
          rw [show ((.int (own_lo nd lo xx)) : Value) = (.int (128 : Int32)) from (congrArg Value.int (by first | (unfold own_nd; rw [if_pos hc2]; done) | (unfold own_lo; rw [if_pos hc2]; done) | (unfold own_hi; rw [if_pos hc2]; done)))]
          exact fx32
        have c34 : Fld Z h28 o0 "com/example/firm_tread/firmtread/transport/Utf8" "high" "I" (.int (own_hi nd hi xx)) := by
          rw [show ((.int (own_hi nd hi xx)) : Value) = (.int (191 : Int32)) from (congrArg Value.int (by first | (unfold own_nd; rw [if_pos hc2]; done) | (unfold own_lo; rw [if_pos hc2]; done) | (unfold own_hi; rw [if_pos hc2]; done)))]
          exact fw28
        rw [← hQQ]
        exact ⟨by rw [hr]; rfl, N28, K28, fx29, c31, c33, c34⟩
      ·
        refine own_go (g' := (mkF m 31 #[.val (.ref o0), .val (.int p1), .val (.int xx), .val (.int (1 : Int32))] [])) (fun _ kgo => XS.icmpNo X19.here hx rfl (hb hby d4_28) rfl (flt hc20).2.2.1 kgo) ?_
        refine own_go (g' := (mkF m 32 #[.val (.ref o0), .val (.int p1), .val (.int xx), .val (.int (1 : Int32))] [(.int (1 : Int32))])) (fun _ kgo => XS.iconst X19.here hx rfl (hb hby d4_31) kgo) ?_
        refine own_go (g' := (mkF m 36 #[.val (.ref o0), .val (.int p1), .val (.int xx), .val (.int (1 : Int32))] [(.int (1 : Int32))])) (fun _ kgo => XS.goto X19.here hx rfl (pc0 := 32) (pc' := 36) rfl (hb hby d4_32) (by decide) (by decide) kgo) ?_
        refine own_go (g' := (mkF m 37 #[.val (.ref o0), .val (.int p1), .val (.int xx), .val (.int (1 : Int32))] [])) (fun _ kgo => XS.istoreN X19.here hx rfl (hb hby d4_36) rfl (l' := #[.val (.ref o0), .val (.int p1), .val (.int xx), .val (.int (1 : Int32))]) rfl kgo) ?_
        refine own_go (g' := (mkF m 38 #[.val (.ref o0), .val (.int p1), .val (.int xx), .val (.int (1 : Int32))] [(.ref o0)])) (fun _ kgo => XS.aloadN X19.here hx rfl (hb hby d4_37) rfl rfl kgo) ?_
        refine own_go (g' := (mkF m 39 #[.val (.ref o0), .val (.int p1), .val (.int xx), .val (.int (1 : Int32))] [(.ref o0), (.ref o0)])) (fun _ kgo => XS.dup X19.here hx rfl (hb hby d4_38) rfl rfl kgo) ?_
        obtain ⟨T35, X35, e35, st35⟩ := getF X19 hx hZ hown (host := "") (Or.inl (hw _ (List.mem_of_getElem? (i := 24) rfl))) Via.refl e19 P1 (g := (mkF m 39 #[.val (.ref o0), .val (.int p1), .val (.int xx), .val (.int (1 : Int32))] [(.ref o0), (.ref o0)])) rfl rfl (hb hby d4_39)
        refine own_go (g' := (mkF m 42 #[.val (.ref o0), .val (.int p1), .val (.int xx), .val (.int (1 : Int32))] [(.int nd), (.ref o0)])) (st35) ?_
        refine own_go (g' := (mkF m 43 #[.val (.ref o0), .val (.int p1), .val (.int xx), .val (.int (1 : Int32))] [(.int (1 : Int32)), (.int nd), (.ref o0)])) (fun _ kgo => XS.iconst X35.here hx rfl (hb hby d4_42) kgo) ?_
        refine own_go (g' := (mkF m 44 #[.val (.ref o0), .val (.int p1), .val (.int xx), .val (.int (1 : Int32))] [(.int (nd - (1 : Int32))), (.ref o0)])) (fun _ kgo => XS.isub X35.here hx rfl (hb hby d4_43) rfl kgo) ?_
        obtain ⟨T36, h36, X36, e36, W36, st36⟩ := putF X35 hx hZ hown (host := "") (Or.inl (hw _ (List.mem_of_getElem? (i := 24) rfl))) Via.refl e35 P1 P0 (Or.inl (hw _ (List.mem_of_getElem? (i := 25) rfl))) (hw _ (List.mem_of_getElem? (i := 7) rfl)) (ty := .int) (by decide) rfl rfl (g := (mkF m 44 #[.val (.ref o0), .val (.int p1), .val (.int xx), .val (.int (1 : Int32))] [(.int (nd - (1 : Int32))), (.ref o0)])) rfl rfl (hb hby d4_44)
        have fw36 := Fld.same W36 P1
        have N36 := Fr.snoc X36 N0 g_o0
        have Z36 : n0 ≤ h36.size := by rw [W36.size]; exact Z0
        have K36 : Keep h0 h36 [o0] := K0.wr W36 (Or.inl (List.mem_of_getElem? (i := 0) rfl))
        refine own_go (g' := (mkF m 47 #[.val (.ref o0), .val (.int p1), .val (.int xx), .val (.int (1 : Int32))] [])) (st36) ?_
        refine own_go (g' := (mkF m 48 #[.val (.ref o0), .val (.int p1), .val (.int xx), .val (.int (1 : Int32))] [(.ref o0)])) (fun _ kgo => XS.aloadN X36.here hx rfl (hb hby d4_47) rfl rfl kgo) ?_
        refine own_go (g' := (mkF m 51 #[.val (.ref o0), .val (.int p1), .val (.int xx), .val (.int (1 : Int32))] [(.int (128 : Int32)), (.ref o0)])) (fun _ kgo => XS.sipush X36.here hx rfl (hb hby d4_48) kgo) ?_
        have fx37 : Fld Z h36 o0 "com/example/firm_tread/firmtread/transport/Utf8" "low" "I" (.int lo) := (Fld.other W36 P2 (Or.inr (slot_ne (Or.inl (hw _ (List.mem_of_getElem? (i := 16) rfl))) (Or.inl (hw _ (List.mem_of_getElem? (i := 25) rfl))) (by decide) (t := .int) (t' := .int) (by decide) (by decide))))
        have fx38 : Exa Z h36 o0 "com/example/firm_tread/firmtread/transport/Utf8" := (Exa.wr W36 P0)
        obtain ⟨T39, h39, X39, e39, W39, st39⟩ := putF X36 hx hZ hown (host := "") (Or.inl (hw _ (List.mem_of_getElem? (i := 15) rfl))) Via.refl e36 fx37 fx38 (Or.inl (hw _ (List.mem_of_getElem? (i := 16) rfl))) (hw _ (List.mem_of_getElem? (i := 7) rfl)) (ty := .int) (by decide) rfl rfl (g := (mkF m 51 #[.val (.ref o0), .val (.int p1), .val (.int xx), .val (.int (1 : Int32))] [(.int (128 : Int32)), (.ref o0)])) rfl rfl (hb hby d4_51)
        have fw39 := Fld.same W39 fx37
        have N39 := Fr.snoc X39 N36 g_o0
        have Z39 : n0 ≤ h39.size := by rw [W39.size]; exact Z36
        have K39 : Keep h0 h39 [o0] := K36.wr W39 (Or.inl (List.mem_of_getElem? (i := 0) rfl))
        refine own_go (g' := (mkF m 54 #[.val (.ref o0), .val (.int p1), .val (.int xx), .val (.int (1 : Int32))] [])) (st39) ?_
        refine own_go (g' := (mkF m 55 #[.val (.ref o0), .val (.int p1), .val (.int xx), .val (.int (1 : Int32))] [(.ref o0)])) (fun _ kgo => XS.aloadN X39.here hx rfl (hb hby d4_54) rfl rfl kgo) ?_
        refine own_go (g' := (mkF m 58 #[.val (.ref o0), .val (.int p1), .val (.int xx), .val (.int (1 : Int32))] [(.int (191 : Int32)), (.ref o0)])) (fun _ kgo => XS.sipush X39.here hx rfl (hb hby d4_55) kgo) ?_
        have fx40 : Fld Z h39 o0 "com/example/firm_tread/firmtread/transport/Utf8" "high" "I" (.int hi) := (Fld.other W39 (Fld.other W36 P3 (Or.inr (slot_ne (Or.inl (hw _ (List.mem_of_getElem? (i := 18) rfl))) (Or.inl (hw _ (List.mem_of_getElem? (i := 25) rfl))) (by decide) (t := .int) (t' := .int) (by decide) (by decide)))) (Or.inr (slot_ne (Or.inl (hw _ (List.mem_of_getElem? (i := 18) rfl))) (Or.inl (hw _ (List.mem_of_getElem? (i := 16) rfl))) (by decide) (t := .int) (t' := .int) (by decide) (by decide))))
        have fx41 : Exa Z h39 o0 "com/example/firm_tread/firmtread/transport/Utf8" := (Exa.wr W39 fx38)
        obtain ⟨T42, h42, X42, e42, W42, st42⟩ := putF X39 hx hZ hown (host := "") (Or.inl (hw _ (List.mem_of_getElem? (i := 17) rfl))) Via.refl e39 fx40 fx41 (Or.inl (hw _ (List.mem_of_getElem? (i := 18) rfl))) (hw _ (List.mem_of_getElem? (i := 7) rfl)) (ty := .int) (by decide) rfl rfl (g := (mkF m 58 #[.val (.ref o0), .val (.int p1), .val (.int xx), .val (.int (1 : Int32))] [(.int (191 : Int32)), (.ref o0)])) rfl rfl (hb hby d4_58)
        have fw42 := Fld.same W42 fx40
        have N42 := Fr.snoc X42 N39 g_o0
        have Z42 : n0 ≤ h42.size := by rw [W42.size]; exact Z39
        have K42 : Keep h0 h42 [o0] := K39.wr W42 (Or.inl (List.mem_of_getElem? (i := 0) rfl))
        refine own_go (g' := (mkF m 61 #[.val (.ref o0), .val (.int p1), .val (.int xx), .val (.int (1 : Int32))] [])) (st42) ?_
        refine own_go (g' := (mkF m 223 #[.val (.ref o0), .val (.int p1), .val (.int xx), .val (.int (1 : Int32))] [])) (fun _ kgo => XS.goto X42.here hx rfl (pc0 := 61) (pc' := 223) rfl (hb hby d4_61) (by decide) (by decide) kgo) ?_
        refine own_go (g' := (mkF m 224 #[.val (.ref o0), .val (.int p1), .val (.int xx), .val (.int (1 : Int32))] [(.int (1 : Int32))])) (fun _ kgo => XS.iloadN X42.here hx rfl (hb hby d4_223) rfl kgo) ?_
        refine own_retN X42 hx .boolean Bd.returns Bd.notSynchronized (by simp) (hb hby d4_224) (by decide) (by decide) ?_
        show QQ _ T42.heap _
        rw [e42]
        have hr : own_b (own_ok nd lo hi xx) = (1 : Int32) := by unfold own_ok; rw [if_pos hc2]; simp [own_b, hc4, hc20]
        have fx43 : Exa Z h42 o0 "com/example/firm_tread/firmtread/transport/Utf8" := (Exa.wr W42 fx41)
        have fx44 : Fld Z h42 o0 "com/example/firm_tread/firmtread/transport/Utf8" "needed" "I" (.int (nd - (1 : Int32))) := (Fld.other W42 (Fld.other W39 fw36 (Or.inr (slot_ne (Or.inl (hw _ (List.mem_of_getElem? (i := 25) rfl))) (Or.inl (hw _ (List.mem_of_getElem? (i := 16) rfl))) (by decide) (t := .int) (t' := .int) (by decide) (by decide)))) (Or.inr (slot_ne (Or.inl (hw _ (List.mem_of_getElem? (i := 25) rfl))) (Or.inl (hw _ (List.mem_of_getElem? (i := 18) rfl))) (by decide) (t := .int) (t' := .int) (by decide) (by decide))))
        have c45 : Fld Z h42 o0 "com/example/firm_tread/firmtread/transport/Utf8" "needed" "I" (.int (own_nd nd xx)) := by
          rw [show ((.int (own_nd nd xx)) : Value) = (.int (nd - (1 : Int32))) from (congrArg Value.int (by first | (unfold own_nd; rw [if_pos hc2]; done) | (unfold own_lo; rw [if_pos hc2]; done) | (unfold own_hi; rw [if_pos hc2]; done)))]
          exact fx44
        have fx46 : Fld Z h42 o0 "com/example/firm_tread/firmtread/transport/Utf8" "low" "I" (.int (128 : Int32)) := (Fld.other W42 fw39 (Or.inr (slot_ne (Or.inl (hw _ (List.mem_of_getElem? (i := 16) rfl))) (Or.inl (hw _ (List.mem_of_getElem? (i := 18) rfl))) (by decide) (t := .int) (t' := .int) (by decide) (by decide))))
        have c47 : Fld Z h42 o0 "com/example/firm_tread/firmtread/transport/Utf8" "low" "I" (.int (own_lo nd lo xx)) := by
          rw [show ((.int (own_lo nd lo xx)) : Value) = (.int (128 : Int32)) from (congrArg Value.int (by first | (unfold own_nd; rw [if_pos hc2]; done) | (unfold own_lo; rw [if_pos hc2]; done) | (unfold own_hi; rw [if_pos hc2]; done)))]
          exact fx46
        have c48 : Fld Z h42 o0 "com/example/firm_tread/firmtread/transport/Utf8" "high" "I" (.int (own_hi nd hi xx)) := by
          rw [show ((.int (own_hi nd hi xx)) : Value) = (.int (191 : Int32)) from (congrArg Value.int (by first | (unfold own_nd; rw [if_pos hc2]; done) | (unfold own_lo; rw [if_pos hc2]; done) | (unfold own_hi; rw [if_pos hc2]; done)))]
          exact fw42
        rw [← hQQ]
        exact ⟨by rw [hr]; rfl, N42, K42, fx43, c45, c47, c48⟩
  ·
    refine own_go (g' := (mkF m 64 #[.val (.ref o0), .val (.int p1), .val (.int xx), .val (.int (1 : Int32))] [])) (fun _ kgo => XS.ifYes X1.here hx rfl (pc0 := 12) (pc' := 64) rfl (hb hby d4_12) rfl ((if0 _ _).trans (flt hc2).2.2.2) (by decide) (by decide) kgo) ?_
    refine own_go (g' := (mkF m 65 #[.val (.ref o0), .val (.int p1), .val (.int xx), .val (.int (1 : Int32))] [(.int xx)])) (fun _ kgo => XS.iloadN X1.here hx rfl (hb hby d4_64) rfl kgo) ?_
    refine own_go (g' := (mkF m 68 #[.val (.ref o0), .val (.int p1), .val (.int xx), .val (.int (1 : Int32))] [(.int (194 : Int32)), (.int xx)])) (fun _ kgo => XS.sipush X1.here hx rfl (hb hby d4_65) kgo) ?_
    have J49 : (¬ (¬ xx < (194 : Int32) ∧ ¬ (223 : Int32) < xx)) → own_Go p e below (own_Post s QQ 0 0) T1 (mkF m 86 #[.val (.ref o0), .val (.int p1), .val (.int xx), .val (.int (1 : Int32))] []) := by
      intro h86
      refine own_go (g' := (mkF m 87 #[.val (.ref o0), .val (.int p1), .val (.int xx), .val (.int (1 : Int32))] [(.int xx)])) (fun _ kgo => XS.iloadN X1.here hx rfl (hb hby d4_86) rfl kgo) ?_
      refine own_go (g' := (mkF m 90 #[.val (.ref o0), .val (.int p1), .val (.int xx), .val (.int (1 : Int32))] [(.int (224 : Int32)), (.int xx)])) (fun _ kgo => XS.sipush X1.here hx rfl (hb hby d4_87) kgo) ?_
      have J50 : (¬ (¬ xx < (224 : Int32) ∧ ¬ (239 : Int32) < xx)) → own_Go p e below (own_Post s QQ 0 0) T1 (mkF m 148 #[.val (.ref o0), .val (.int p1), .val (.int xx), .val (.int (1 : Int32))] []) := by
        intro h148
        refine own_go (g' := (mkF m 149 #[.val (.ref o0), .val (.int p1), .val (.int xx), .val (.int (1 : Int32))] [(.int xx)])) (fun _ kgo => XS.iloadN X1.here hx rfl (hb hby d4_148) rfl kgo) ?_
        refine own_go (g' := (mkF m 152 #[.val (.ref o0), .val (.int p1), .val (.int xx), .val (.int (1 : Int32))] [(.int (240 : Int32)), (.int xx)])) (fun _ kgo => XS.sipush X1.here hx rfl (hb hby d4_149) kgo) ?_
        have J51 : (¬ (¬ xx < (240 : Int32) ∧ ¬ (244 : Int32) < xx)) → own_Go p e below (own_Post s QQ 0 0) T1 (mkF m 210 #[.val (.ref o0), .val (.int p1), .val (.int xx), .val (.int (1 : Int32))] []) := by
          intro h210
          refine own_go (g' := (mkF m 211 #[.val (.ref o0), .val (.int p1), .val (.int xx), .val (.int (1 : Int32))] [(.int xx)])) (fun _ kgo => XS.iloadN X1.here hx rfl (hb hby d4_210) rfl kgo) ?_
          refine own_go (g' := (mkF m 214 #[.val (.ref o0), .val (.int p1), .val (.int xx), .val (.int (1 : Int32))] [(.int (128 : Int32)), (.int xx)])) (fun _ kgo => XS.sipush X1.here hx rfl (hb hby d4_211) kgo) ?_
          by_cases hc52 : xx < (128 : Int32)
          ·
            refine own_go (g' := (mkF m 217 #[.val (.ref o0), .val (.int p1), .val (.int xx), .val (.int (1 : Int32))] [])) (fun _ kgo => XS.icmpNo X1.here hx rfl (hb hby d4_214) rfl (tlt hc52).2.1 kgo) ?_
            refine own_go (g' := (mkF m 218 #[.val (.ref o0), .val (.int p1), .val (.int xx), .val (.int (1 : Int32))] [(.int (1 : Int32))])) (fun _ kgo => XS.iconst X1.here hx rfl (hb hby d4_217) kgo) ?_
            refine own_go (g' := (mkF m 222 #[.val (.ref o0), .val (.int p1), .val (.int xx), .val (.int (1 : Int32))] [(.int (1 : Int32))])) (fun _ kgo => XS.goto X1.here hx rfl (pc0 := 218) (pc' := 222) rfl (hb hby d4_218) (by decide) (by decide) kgo) ?_
            refine own_go (g' := (mkF m 223 #[.val (.ref o0), .val (.int p1), .val (.int xx), .val (.int (1 : Int32))] [])) (fun _ kgo => XS.istoreN X1.here hx rfl (hb hby d4_222) rfl (l' := #[.val (.ref o0), .val (.int p1), .val (.int xx), .val (.int (1 : Int32))]) rfl kgo) ?_
            refine own_go (g' := (mkF m 224 #[.val (.ref o0), .val (.int p1), .val (.int xx), .val (.int (1 : Int32))] [(.int (1 : Int32))])) (fun _ kgo => XS.iloadN X1.here hx rfl (hb hby d4_223) rfl kgo) ?_
            refine own_retN X1 hx .boolean Bd.returns Bd.notSynchronized (by simp) (hb hby d4_224) (by decide) (by decide) ?_
            show QQ _ T1.heap _
            rw [e1]
            have hr : own_b (own_ok nd lo hi xx) = (1 : Int32) := by unfold own_ok; rw [if_neg hc2, if_neg h86, if_neg h148, if_neg h210]; simp [own_b, hc52]
            have c53 : Fld Z h0 o0 "com/example/firm_tread/firmtread/transport/Utf8" "needed" "I" (.int (own_nd nd xx)) := by
              rw [show ((.int (own_nd nd xx)) : Value) = (.int nd) from (congrArg Value.int (by first | (unfold own_nd; rw [if_neg hc2, if_neg h86, if_neg h148, if_neg h210]; done) | (unfold own_lo; rw [if_neg hc2, if_neg h86, if_neg h148, if_neg h210]; done) | (unfold own_hi; rw [if_neg hc2, if_neg h86, if_neg h148, if_neg h210]; done)))]
              exact P1
            have c54 : Fld Z h0 o0 "com/example/firm_tread/firmtread/transport/Utf8" "low" "I" (.int (own_lo nd lo xx)) := by
              rw [show ((.int (own_lo nd lo xx)) : Value) = (.int lo) from (congrArg Value.int (by first | (unfold own_nd; rw [if_neg hc2, if_neg h86, if_neg h148, if_neg h210]; done) | (unfold own_lo; rw [if_neg hc2, if_neg h86, if_neg h148, if_neg h210]; done) | (unfold own_hi; rw [if_neg hc2, if_neg h86, if_neg h148, if_neg h210]; done)))]
              exact P2
            have c55 : Fld Z h0 o0 "com/example/firm_tread/firmtread/transport/Utf8" "high" "I" (.int (own_hi nd hi xx)) := by
              rw [show ((.int (own_hi nd hi xx)) : Value) = (.int hi) from (congrArg Value.int (by first | (unfold own_nd; rw [if_neg hc2, if_neg h86, if_neg h148, if_neg h210]; done) | (unfold own_lo; rw [if_neg hc2, if_neg h86, if_neg h148, if_neg h210]; done) | (unfold own_hi; rw [if_neg hc2, if_neg h86, if_neg h148, if_neg h210]; done)))]
              exact P3
            rw [← hQQ]
            exact ⟨by rw [hr]; rfl, N0, K0, P0, c53, c54, c55⟩
          ·
            refine own_go (g' := (mkF m 221 #[.val (.ref o0), .val (.int p1), .val (.int xx), .val (.int (1 : Int32))] [])) (fun _ kgo => XS.icmpYes X1.here hx rfl (pc0 := 214) (pc' := 221) rfl (hb hby d4_214) rfl (flt hc52).2.1 (by decide) (by decide) kgo) ?_
            refine own_go (g' := (mkF m 222 #[.val (.ref o0), .val (.int p1), .val (.int xx), .val (.int (1 : Int32))] [(.int (0 : Int32))])) (fun _ kgo => XS.iconst X1.here hx rfl (hb hby d4_221) kgo) ?_
            refine own_go (g' := (mkF m 223 #[.val (.ref o0), .val (.int p1), .val (.int xx), .val (.int (0 : Int32))] [])) (fun _ kgo => XS.istoreN X1.here hx rfl (hb hby d4_222) rfl (l' := #[.val (.ref o0), .val (.int p1), .val (.int xx), .val (.int (0 : Int32))]) rfl kgo) ?_
            refine own_go (g' := (mkF m 224 #[.val (.ref o0), .val (.int p1), .val (.int xx), .val (.int (0 : Int32))] [(.int (0 : Int32))])) (fun _ kgo => XS.iloadN X1.here hx rfl (hb hby d4_223) rfl kgo) ?_
            refine own_retN X1 hx .boolean Bd.returns Bd.notSynchronized (by simp) (hb hby d4_224) (by decide) (by decide) ?_
            show QQ _ T1.heap _
            rw [e1]
            have hr : own_b (own_ok nd lo hi xx) = (0 : Int32) := by unfold own_ok; rw [if_neg hc2, if_neg h86, if_neg h148, if_neg h210]; simp [own_b, hc52]
            have c56 : Fld Z h0 o0 "com/example/firm_tread/firmtread/transport/Utf8" "needed" "I" (.int (own_nd nd xx)) := by
              rw [show ((.int (own_nd nd xx)) : Value) = (.int nd) from (congrArg Value.int (by first | (unfold own_nd; rw [if_neg hc2, if_neg h86, if_neg h148, if_neg h210]; done) | (unfold own_lo; rw [if_neg hc2, if_neg h86, if_neg h148, if_neg h210]; done) | (unfold own_hi; rw [if_neg hc2, if_neg h86, if_neg h148, if_neg h210]; done)))]
              exact P1
            have c57 : Fld Z h0 o0 "com/example/firm_tread/firmtread/transport/Utf8" "low" "I" (.int (own_lo nd lo xx)) := by
              rw [show ((.int (own_lo nd lo xx)) : Value) = (.int lo) from (congrArg Value.int (by first | (unfold own_nd; rw [if_neg hc2, if_neg h86, if_neg h148, if_neg h210]; done) | (unfold own_lo; rw [if_neg hc2, if_neg h86, if_neg h148, if_neg h210]; done) | (unfold own_hi; rw [if_neg hc2, if_neg h86, if_neg h148, if_neg h210]; done)))]
              exact P2
            have c58 : Fld Z h0 o0 "com/example/firm_tread/firmtread/transport/Utf8" "high" "I" (.int (own_hi nd hi xx)) := by
              rw [show ((.int (own_hi nd hi xx)) : Value) = (.int hi) from (congrArg Value.int (by first | (unfold own_nd; rw [if_neg hc2, if_neg h86, if_neg h148, if_neg h210]; done) | (unfold own_lo; rw [if_neg hc2, if_neg h86, if_neg h148, if_neg h210]; done) | (unfold own_hi; rw [if_neg hc2, if_neg h86, if_neg h148, if_neg h210]; done)))]
              exact P3
            rw [← hQQ]
            exact ⟨by rw [hr]; rfl, N0, K0, P0, c56, c57, c58⟩
        by_cases hc59 : xx < (240 : Int32)
        ·
          refine own_go (g' := (mkF m 210 #[.val (.ref o0), .val (.int p1), .val (.int xx), .val (.int (1 : Int32))] [])) (fun _ kgo => XS.icmpYes X1.here hx rfl (pc0 := 152) (pc' := 210) rfl (hb hby d4_152) rfl (tlt hc59).1 (by decide) (by decide) kgo) ?_
          exact J51 (fun q => q.1 hc59)
        ·
          refine own_go (g' := (mkF m 155 #[.val (.ref o0), .val (.int p1), .val (.int xx), .val (.int (1 : Int32))] [])) (fun _ kgo => XS.icmpNo X1.here hx rfl (hb hby d4_152) rfl (flt hc59).1 kgo) ?_
          refine own_go (g' := (mkF m 156 #[.val (.ref o0), .val (.int p1), .val (.int xx), .val (.int (1 : Int32))] [(.int xx)])) (fun _ kgo => XS.iloadN X1.here hx rfl (hb hby d4_155) rfl kgo) ?_
          refine own_go (g' := (mkF m 159 #[.val (.ref o0), .val (.int p1), .val (.int xx), .val (.int (1 : Int32))] [(.int (244 : Int32)), (.int xx)])) (fun _ kgo => XS.sipush X1.here hx rfl (hb hby d4_156) kgo) ?_
          by_cases hc60 : (244 : Int32) < xx
          ·
            refine own_go (g' := (mkF m 210 #[.val (.ref o0), .val (.int p1), .val (.int xx), .val (.int (1 : Int32))] [])) (fun _ kgo => XS.icmpYes X1.here hx rfl (pc0 := 159) (pc' := 210) rfl (hb hby d4_159) rfl (tlt hc60).2.2.1 (by decide) (by decide) kgo) ?_
            exact J51 (fun q => q.2 hc60)
          ·
            refine own_go (g' := (mkF m 162 #[.val (.ref o0), .val (.int p1), .val (.int xx), .val (.int (1 : Int32))] [])) (fun _ kgo => XS.icmpNo X1.here hx rfl (hb hby d4_159) rfl (flt hc60).2.2.1 kgo) ?_
            refine own_go (g' := (mkF m 163 #[.val (.ref o0), .val (.int p1), .val (.int xx), .val (.int (1 : Int32))] [(.ref o0)])) (fun _ kgo => XS.aloadN X1.here hx rfl (hb hby d4_162) rfl rfl kgo) ?_
            refine own_go (g' := (mkF m 164 #[.val (.ref o0), .val (.int p1), .val (.int xx), .val (.int (1 : Int32))] [(.int (3 : Int32)), (.ref o0)])) (fun _ kgo => XS.iconst X1.here hx rfl (hb hby d4_163) kgo) ?_
            obtain ⟨T61, h61, X61, e61, W61, st61⟩ := putF X1 hx hZ hown (host := "") (Or.inl (hw _ (List.mem_of_getElem? (i := 24) rfl))) Via.refl e1 P1 P0 (Or.inl (hw _ (List.mem_of_getElem? (i := 25) rfl))) (hw _ (List.mem_of_getElem? (i := 7) rfl)) (ty := .int) (by decide) rfl rfl (g := (mkF m 164 #[.val (.ref o0), .val (.int p1), .val (.int xx), .val (.int (1 : Int32))] [(.int (3 : Int32)), (.ref o0)])) rfl rfl (hb hby d4_164)
            have fw61 := Fld.same W61 P1
            have N61 := Fr.snoc X61 N0 g_o0
            have Z61 : n0 ≤ h61.size := by rw [W61.size]; exact Z0
            have K61 : Keep h0 h61 [o0] := K0.wr W61 (Or.inl (List.mem_of_getElem? (i := 0) rfl))
            refine own_go (g' := (mkF m 167 #[.val (.ref o0), .val (.int p1), .val (.int xx), .val (.int (1 : Int32))] [])) (st61) ?_
            refine own_go (g' := (mkF m 168 #[.val (.ref o0), .val (.int p1), .val (.int xx), .val (.int (1 : Int32))] [(.ref o0)])) (fun _ kgo => XS.aloadN X61.here hx rfl (hb hby d4_167) rfl rfl kgo) ?_
            refine own_go (g' := (mkF m 169 #[.val (.ref o0), .val (.int p1), .val (.int xx), .val (.int (1 : Int32))] [(.int xx), (.ref o0)])) (fun _ kgo => XS.iloadN X61.here hx rfl (hb hby d4_168) rfl kgo) ?_
            refine own_go (g' := (mkF m 172 #[.val (.ref o0), .val (.int p1), .val (.int xx), .val (.int (1 : Int32))] [(.int (240 : Int32)), (.int xx), (.ref o0)])) (fun _ kgo => XS.sipush X61.here hx rfl (hb hby d4_169) kgo) ?_
            have J62 : ∀ (w3 : Int32), (w3 = if xx = (240 : Int32) then (144 : Int32) else (128 : Int32)) → own_Go p e below (own_Post s QQ 0 0) T61 (mkF m 184 #[.val (.ref o0), .val (.int p1), .val (.int xx), .val (.int (1 : Int32))] [(.int w3), (.ref o0)]) := by
              intro w3 ew3
              have fx63 : Fld Z h61 o0 "com/example/firm_tread/firmtread/transport/Utf8" "low" "I" (.int lo) := (Fld.other W61 P2 (Or.inr (slot_ne (Or.inl (hw _ (List.mem_of_getElem? (i := 16) rfl))) (Or.inl (hw _ (List.mem_of_getElem? (i := 25) rfl))) (by decide) (t := .int) (t' := .int) (by decide) (by decide))))
              have fx64 : Exa Z h61 o0 "com/example/firm_tread/firmtread/transport/Utf8" := (Exa.wr W61 P0)
              obtain ⟨T65, h65, X65, e65, W65, st65⟩ := putF X61 hx hZ hown (host := "") (Or.inl (hw _ (List.mem_of_getElem? (i := 15) rfl))) Via.refl e61 fx63 fx64 (Or.inl (hw _ (List.mem_of_getElem? (i := 16) rfl))) (hw _ (List.mem_of_getElem? (i := 7) rfl)) (ty := .int) (by decide) rfl rfl (g := (mkF m 184 #[.val (.ref o0), .val (.int p1), .val (.int xx), .val (.int (1 : Int32))] [(.int w3), (.ref o0)])) rfl rfl (hb hby d4_184)
              have fw65 := Fld.same W65 fx63
              have N65 := Fr.snoc X65 N61 g_o0
              have Z65 : n0 ≤ h65.size := by rw [W65.size]; exact Z61
              have K65 : Keep h0 h65 [o0] := K61.wr W65 (Or.inl (List.mem_of_getElem? (i := 0) rfl))
              refine own_go (g' := (mkF m 187 #[.val (.ref o0), .val (.int p1), .val (.int xx), .val (.int (1 : Int32))] [])) (st65) ?_
              refine own_go (g' := (mkF m 188 #[.val (.ref o0), .val (.int p1), .val (.int xx), .val (.int (1 : Int32))] [(.ref o0)])) (fun _ kgo => XS.aloadN X65.here hx rfl (hb hby d4_187) rfl rfl kgo) ?_
              refine own_go (g' := (mkF m 189 #[.val (.ref o0), .val (.int p1), .val (.int xx), .val (.int (1 : Int32))] [(.int xx), (.ref o0)])) (fun _ kgo => XS.iloadN X65.here hx rfl (hb hby d4_188) rfl kgo) ?_
              refine own_go (g' := (mkF m 192 #[.val (.ref o0), .val (.int p1), .val (.int xx), .val (.int (1 : Int32))] [(.int (244 : Int32)), (.int xx), (.ref o0)])) (fun _ kgo => XS.sipush X65.here hx rfl (hb hby d4_189) kgo) ?_
              have J66 : ∀ (w4 : Int32), (w4 = if xx = (244 : Int32) then (143 : Int32) else (191 : Int32)) → own_Go p e below (own_Post s QQ 0 0) T65 (mkF m 204 #[.val (.ref o0), .val (.int p1), .val (.int xx), .val (.int (1 : Int32))] [(.int w4), (.ref o0)]) := by
                intro w4 ew4
                have fx67 : Fld Z h65 o0 "com/example/firm_tread/firmtread/transport/Utf8" "high" "I" (.int hi) := (Fld.other W65 (Fld.other W61 P3 (Or.inr (slot_ne (Or.inl (hw _ (List.mem_of_getElem? (i := 18) rfl))) (Or.inl (hw _ (List.mem_of_getElem? (i := 25) rfl))) (by decide) (t := .int) (t' := .int) (by decide) (by decide)))) (Or.inr (slot_ne (Or.inl (hw _ (List.mem_of_getElem? (i := 18) rfl))) (Or.inl (hw _ (List.mem_of_getElem? (i := 16) rfl))) (by decide) (t := .int) (t' := .int) (by decide) (by decide))))
                have fx68 : Exa Z h65 o0 "com/example/firm_tread/firmtread/transport/Utf8" := (Exa.wr W65 fx64)
                obtain ⟨T69, h69, X69, e69, W69, st69⟩ := putF X65 hx hZ hown (host := "") (Or.inl (hw _ (List.mem_of_getElem? (i := 17) rfl))) Via.refl e65 fx67 fx68 (Or.inl (hw _ (List.mem_of_getElem? (i := 18) rfl))) (hw _ (List.mem_of_getElem? (i := 7) rfl)) (ty := .int) (by decide) rfl rfl (g := (mkF m 204 #[.val (.ref o0), .val (.int p1), .val (.int xx), .val (.int (1 : Int32))] [(.int w4), (.ref o0)])) rfl rfl (hb hby d4_204)
                have fw69 := Fld.same W69 fx67
                have N69 := Fr.snoc X69 N65 g_o0
                have Z69 : n0 ≤ h69.size := by rw [W69.size]; exact Z65
                have K69 : Keep h0 h69 [o0] := K65.wr W69 (Or.inl (List.mem_of_getElem? (i := 0) rfl))
                refine own_go (g' := (mkF m 207 #[.val (.ref o0), .val (.int p1), .val (.int xx), .val (.int (1 : Int32))] [])) (st69) ?_
                refine own_go (g' := (mkF m 223 #[.val (.ref o0), .val (.int p1), .val (.int xx), .val (.int (1 : Int32))] [])) (fun _ kgo => XS.goto X69.here hx rfl (pc0 := 207) (pc' := 223) rfl (hb hby d4_207) (by decide) (by decide) kgo) ?_
                refine own_go (g' := (mkF m 224 #[.val (.ref o0), .val (.int p1), .val (.int xx), .val (.int (1 : Int32))] [(.int (1 : Int32))])) (fun _ kgo => XS.iloadN X69.here hx rfl (hb hby d4_223) rfl kgo) ?_
                refine own_retN X69 hx .boolean Bd.returns Bd.notSynchronized (by simp) (hb hby d4_224) (by decide) (by decide) ?_
                show QQ _ T69.heap _
                rw [e69]
                have hr : own_b (own_ok nd lo hi xx) = (1 : Int32) := by unfold own_ok; rw [if_neg hc2, if_neg h86, if_neg h148, if_pos ⟨hc59, hc60⟩]; rfl
                have fx70 : Exa Z h69 o0 "com/example/firm_tread/firmtread/transport/Utf8" := (Exa.wr W69 fx68)
                have fx71 : Fld Z h69 o0 "com/example/firm_tread/firmtread/transport/Utf8" "needed" "I" (.int (3 : Int32)) := (Fld.other W69 (Fld.other W65 fw61 (Or.inr (slot_ne (Or.inl (hw _ (List.mem_of_getElem? (i := 25) rfl))) (Or.inl (hw _ (List.mem_of_getElem? (i := 16) rfl))) (by decide) (t := .int) (t' := .int) (by decide) (by decide)))) (Or.inr (slot_ne (Or.inl (hw _ (List.mem_of_getElem? (i := 25) rfl))) (Or.inl (hw _ (List.mem_of_getElem? (i := 18) rfl))) (by decide) (t := .int) (t' := .int) (by decide) (by decide))))
                have c72 : Fld Z h69 o0 "com/example/firm_tread/firmtread/transport/Utf8" "needed" "I" (.int (own_nd nd xx)) := by
                  rw [show ((.int (own_nd nd xx)) : Value) = (.int (3 : Int32)) from (congrArg Value.int (by first | (unfold own_nd; rw [if_neg hc2, if_neg h86, if_neg h148, if_pos ⟨hc59, hc60⟩]; done) | (unfold own_lo; rw [if_neg hc2, if_neg h86, if_neg h148, if_pos ⟨hc59, hc60⟩]; done) | (unfold own_hi; rw [if_neg hc2, if_neg h86, if_neg h148, if_pos ⟨hc59, hc60⟩]; done) | (unfold own_lo; rw [if_neg hc2, if_neg h86, if_neg h148, if_pos ⟨hc59, hc60⟩, ew3]; done) | (unfold own_lo; rw [if_neg hc2, if_neg h86, if_neg h148, if_pos ⟨hc59, hc60⟩, ew4]; done) | (unfold own_hi; rw [if_neg hc2, if_neg h86, if_neg h148, if_pos ⟨hc59, hc60⟩, ew3]; done) | (unfold own_hi; rw [if_neg hc2, if_neg h86, if_neg h148, if_pos ⟨hc59, hc60⟩, ew4]; done)))]
                  exact fx71
                have fx73 : Fld Z h69 o0 "com/example/firm_tread/firmtread/transport/Utf8" "low" "I" (.int w3) := (Fld.other W69 fw65 (Or.inr (slot_ne (Or.inl (hw _ (List.mem_of_getElem? (i := 16) rfl))) (Or.inl (hw _ (List.mem_of_getElem? (i := 18) rfl))) (by decide) (t := .int) (t' := .int) (by decide) (by decide))))
                have c74 : Fld Z h69 o0 "com/example/firm_tread/firmtread/transport/Utf8" "low" "I" (.int (own_lo nd lo xx)) := by
                  rw [show ((.int (own_lo nd lo xx)) : Value) = (.int w3) from (congrArg Value.int (by first | (unfold own_nd; rw [if_neg hc2, if_neg h86, if_neg h148, if_pos ⟨hc59, hc60⟩]; done) | (unfold own_lo; rw [if_neg hc2, if_neg h86, if_neg h148, if_pos ⟨hc59, hc60⟩]; done) | (unfold own_hi; rw [if_neg hc2, if_neg h86, if_neg h148, if_pos ⟨hc59, hc60⟩]; done) | (unfold own_lo; rw [if_neg hc2, if_neg h86, if_neg h148, if_pos ⟨hc59, hc60⟩, ew3]; done) | (unfold own_lo; rw [if_neg hc2, if_neg h86, if_neg h148, if_pos ⟨hc59, hc60⟩, ew4]; done) | (unfold own_hi; rw [if_neg hc2, if_neg h86, if_neg h148, if_pos ⟨hc59, hc60⟩, ew3]; done) | (unfold own_hi; rw [if_neg hc2, if_neg h86, if_neg h148, if_pos ⟨hc59, hc60⟩, ew4]; done)))]
                  exact fx73
                have c75 : Fld Z h69 o0 "com/example/firm_tread/firmtread/transport/Utf8" "high" "I" (.int (own_hi nd hi xx)) := by
                  rw [show ((.int (own_hi nd hi xx)) : Value) = (.int w4) from (congrArg Value.int (by first | (unfold own_nd; rw [if_neg hc2, if_neg h86, if_neg h148, if_pos ⟨hc59, hc60⟩]; done) | (unfold own_lo; rw [if_neg hc2, if_neg h86, if_neg h148, if_pos ⟨hc59, hc60⟩]; done) | (unfold own_hi; rw [if_neg hc2, if_neg h86, if_neg h148, if_pos ⟨hc59, hc60⟩]; done) | (unfold own_lo; rw [if_neg hc2, if_neg h86, if_neg h148, if_pos ⟨hc59, hc60⟩, ew3]; done) | (unfold own_lo; rw [if_neg hc2, if_neg h86, if_neg h148, if_pos ⟨hc59, hc60⟩, ew4]; done) | (unfold own_hi; rw [if_neg hc2, if_neg h86, if_neg h148, if_pos ⟨hc59, hc60⟩, ew3]; done) | (unfold own_hi; rw [if_neg hc2, if_neg h86, if_neg h148, if_pos ⟨hc59, hc60⟩, ew4]; done)))]
                  exact fw69
                rw [← hQQ]
                exact ⟨by rw [hr]; rfl, N69, K69, fx70, c72, c74, c75⟩
              by_cases hc76 : xx = (244 : Int32)
              ·
                refine own_go (g' := (mkF m 195 #[.val (.ref o0), .val (.int p1), .val (.int xx), .val (.int (1 : Int32))] [(.ref o0)])) (fun _ kgo => XS.icmpNo X65.here hx rfl (hb hby d4_192) rfl (teq hc76).2 kgo) ?_
                refine own_go (g' := (mkF m 198 #[.val (.ref o0), .val (.int p1), .val (.int xx), .val (.int (1 : Int32))] [(.int (143 : Int32)), (.ref o0)])) (fun _ kgo => XS.sipush X65.here hx rfl (hb hby d4_195) kgo) ?_
                refine own_go (g' := (mkF m 204 #[.val (.ref o0), .val (.int p1), .val (.int xx), .val (.int (1 : Int32))] [(.int (143 : Int32)), (.ref o0)])) (fun _ kgo => XS.goto X65.here hx rfl (pc0 := 198) (pc' := 204) rfl (hb hby d4_198) (by decide) (by decide) kgo) ?_
                exact J66 (143 : Int32) (by rw [if_pos hc76])
              ·
                refine own_go (g' := (mkF m 201 #[.val (.ref o0), .val (.int p1), .val (.int xx), .val (.int (1 : Int32))] [(.ref o0)])) (fun _ kgo => XS.icmpYes X65.here hx rfl (pc0 := 192) (pc' := 201) rfl (hb hby d4_192) rfl (feq hc76).2 (by decide) (by decide) kgo) ?_
                refine own_go (g' := (mkF m 204 #[.val (.ref o0), .val (.int p1), .val (.int xx), .val (.int (1 : Int32))] [(.int (191 : Int32)), (.ref o0)])) (fun _ kgo => XS.sipush X65.here hx rfl (hb hby d4_201) kgo) ?_
                exact J66 (191 : Int32) (by rw [if_neg hc76])
            by_cases hc77 : xx = (240 : Int32)
            ·
              refine own_go (g' := (mkF m 175 #[.val (.ref o0), .val (.int p1), .val (.int xx), .val (.int (1 : Int32))] [(.ref o0)])) (fun _ kgo => XS.icmpNo X61.here hx rfl (hb hby d4_172) rfl (teq hc77).2 kgo) ?_
              refine own_go (g' := (mkF m 178 #[.val (.ref o0), .val (.int p1), .val (.int xx), .val (.int (1 : Int32))] [(.int (144 : Int32)), (.ref o0)])) (fun _ kgo => XS.sipush X61.here hx rfl (hb hby d4_175) kgo) ?_
              refine own_go (g' := (mkF m 184 #[.val (.ref o0), .val (.int p1), .val (.int xx), .val (.int (1 : Int32))] [(.int (144 : Int32)), (.ref o0)])) (fun _ kgo => XS.goto X61.here hx rfl (pc0 := 178) (pc' := 184) rfl (hb hby d4_178) (by decide) (by decide) kgo) ?_
              exact J62 (144 : Int32) (by rw [if_pos hc77])
            ·
              refine own_go (g' := (mkF m 181 #[.val (.ref o0), .val (.int p1), .val (.int xx), .val (.int (1 : Int32))] [(.ref o0)])) (fun _ kgo => XS.icmpYes X61.here hx rfl (pc0 := 172) (pc' := 181) rfl (hb hby d4_172) rfl (feq hc77).2 (by decide) (by decide) kgo) ?_
              refine own_go (g' := (mkF m 184 #[.val (.ref o0), .val (.int p1), .val (.int xx), .val (.int (1 : Int32))] [(.int (128 : Int32)), (.ref o0)])) (fun _ kgo => XS.sipush X61.here hx rfl (hb hby d4_181) kgo) ?_
              exact J62 (128 : Int32) (by rw [if_neg hc77])
      by_cases hc78 : xx < (224 : Int32)
      ·
        refine own_go (g' := (mkF m 148 #[.val (.ref o0), .val (.int p1), .val (.int xx), .val (.int (1 : Int32))] [])) (fun _ kgo => XS.icmpYes X1.here hx rfl (pc0 := 90) (pc' := 148) rfl (hb hby d4_90) rfl (tlt hc78).1 (by decide) (by decide) kgo) ?_
        exact J50 (fun q => q.1 hc78)
      ·
        refine own_go (g' := (mkF m 93 #[.val (.ref o0), .val (.int p1), .val (.int xx), .val (.int (1 : Int32))] [])) (fun _ kgo => XS.icmpNo X1.here hx rfl (hb hby d4_90) rfl (flt hc78).1 kgo) ?_
        refine own_go (g' := (mkF m 94 #[.val (.ref o0), .val (.int p1), .val (.int xx), .val (.int (1 : Int32))] [(.int xx)])) (fun _ kgo => XS.iloadN X1.here hx rfl (hb hby d4_93) rfl kgo) ?_
        refine own_go (g' := (mkF m 97 #[.val (.ref o0), .val (.int p1), .val (.int xx), .val (.int (1 : Int32))] [(.int (239 : Int32)), (.int xx)])) (fun _ kgo => XS.sipush X1.here hx rfl (hb hby d4_94) kgo) ?_
        by_cases hc79 : (239 : Int32) < xx
        ·
          refine own_go (g' := (mkF m 148 #[.val (.ref o0), .val (.int p1), .val (.int xx), .val (.int (1 : Int32))] [])) (fun _ kgo => XS.icmpYes X1.here hx rfl (pc0 := 97) (pc' := 148) rfl (hb hby d4_97) rfl (tlt hc79).2.2.1 (by decide) (by decide) kgo) ?_
          exact J50 (fun q => q.2 hc79)
        ·
          refine own_go (g' := (mkF m 100 #[.val (.ref o0), .val (.int p1), .val (.int xx), .val (.int (1 : Int32))] [])) (fun _ kgo => XS.icmpNo X1.here hx rfl (hb hby d4_97) rfl (flt hc79).2.2.1 kgo) ?_
          refine own_go (g' := (mkF m 101 #[.val (.ref o0), .val (.int p1), .val (.int xx), .val (.int (1 : Int32))] [(.ref o0)])) (fun _ kgo => XS.aloadN X1.here hx rfl (hb hby d4_100) rfl rfl kgo) ?_
          refine own_go (g' := (mkF m 102 #[.val (.ref o0), .val (.int p1), .val (.int xx), .val (.int (1 : Int32))] [(.int (2 : Int32)), (.ref o0)])) (fun _ kgo => XS.iconst X1.here hx rfl (hb hby d4_101) kgo) ?_
          obtain ⟨T80, h80, X80, e80, W80, st80⟩ := putF X1 hx hZ hown (host := "") (Or.inl (hw _ (List.mem_of_getElem? (i := 24) rfl))) Via.refl e1 P1 P0 (Or.inl (hw _ (List.mem_of_getElem? (i := 25) rfl))) (hw _ (List.mem_of_getElem? (i := 7) rfl)) (ty := .int) (by decide) rfl rfl (g := (mkF m 102 #[.val (.ref o0), .val (.int p1), .val (.int xx), .val (.int (1 : Int32))] [(.int (2 : Int32)), (.ref o0)])) rfl rfl (hb hby d4_102)
          have fw80 := Fld.same W80 P1
          have N80 := Fr.snoc X80 N0 g_o0
          have Z80 : n0 ≤ h80.size := by rw [W80.size]; exact Z0
          have K80 : Keep h0 h80 [o0] := K0.wr W80 (Or.inl (List.mem_of_getElem? (i := 0) rfl))
          refine own_go (g' := (mkF m 105 #[.val (.ref o0), .val (.int p1), .val (.int xx), .val (.int (1 : Int32))] [])) (st80) ?_
          refine own_go (g' := (mkF m 106 #[.val (.ref o0), .val (.int p1), .val (.int xx), .val (.int (1 : Int32))] [(.ref o0)])) (fun _ kgo => XS.aloadN X80.here hx rfl (hb hby d4_105) rfl rfl kgo) ?_
          refine own_go (g' := (mkF m 107 #[.val (.ref o0), .val (.int p1), .val (.int xx), .val (.int (1 : Int32))] [(.int xx), (.ref o0)])) (fun _ kgo => XS.iloadN X80.here hx rfl (hb hby d4_106) rfl kgo) ?_
          refine own_go (g' := (mkF m 110 #[.val (.ref o0), .val (.int p1), .val (.int xx), .val (.int (1 : Int32))] [(.int (224 : Int32)), (.int xx), (.ref o0)])) (fun _ kgo => XS.sipush X80.here hx rfl (hb hby d4_107) kgo) ?_
          have J81 : ∀ (w1 : Int32), (w1 = if xx = (224 : Int32) then (160 : Int32) else (128 : Int32)) → own_Go p e below (own_Post s QQ 0 0) T80 (mkF m 122 #[.val (.ref o0), .val (.int p1), .val (.int xx), .val (.int (1 : Int32))] [(.int w1), (.ref o0)]) := by
            intro w1 ew1
            have fx82 : Fld Z h80 o0 "com/example/firm_tread/firmtread/transport/Utf8" "low" "I" (.int lo) := (Fld.other W80 P2 (Or.inr (slot_ne (Or.inl (hw _ (List.mem_of_getElem? (i := 16) rfl))) (Or.inl (hw _ (List.mem_of_getElem? (i := 25) rfl))) (by decide) (t := .int) (t' := .int) (by decide) (by decide))))
            have fx83 : Exa Z h80 o0 "com/example/firm_tread/firmtread/transport/Utf8" := (Exa.wr W80 P0)
            obtain ⟨T84, h84, X84, e84, W84, st84⟩ := putF X80 hx hZ hown (host := "") (Or.inl (hw _ (List.mem_of_getElem? (i := 15) rfl))) Via.refl e80 fx82 fx83 (Or.inl (hw _ (List.mem_of_getElem? (i := 16) rfl))) (hw _ (List.mem_of_getElem? (i := 7) rfl)) (ty := .int) (by decide) rfl rfl (g := (mkF m 122 #[.val (.ref o0), .val (.int p1), .val (.int xx), .val (.int (1 : Int32))] [(.int w1), (.ref o0)])) rfl rfl (hb hby d4_122)
            have fw84 := Fld.same W84 fx82
            have N84 := Fr.snoc X84 N80 g_o0
            have Z84 : n0 ≤ h84.size := by rw [W84.size]; exact Z80
            have K84 : Keep h0 h84 [o0] := K80.wr W84 (Or.inl (List.mem_of_getElem? (i := 0) rfl))
            refine own_go (g' := (mkF m 125 #[.val (.ref o0), .val (.int p1), .val (.int xx), .val (.int (1 : Int32))] [])) (st84) ?_
            refine own_go (g' := (mkF m 126 #[.val (.ref o0), .val (.int p1), .val (.int xx), .val (.int (1 : Int32))] [(.ref o0)])) (fun _ kgo => XS.aloadN X84.here hx rfl (hb hby d4_125) rfl rfl kgo) ?_
            refine own_go (g' := (mkF m 127 #[.val (.ref o0), .val (.int p1), .val (.int xx), .val (.int (1 : Int32))] [(.int xx), (.ref o0)])) (fun _ kgo => XS.iloadN X84.here hx rfl (hb hby d4_126) rfl kgo) ?_
            refine own_go (g' := (mkF m 130 #[.val (.ref o0), .val (.int p1), .val (.int xx), .val (.int (1 : Int32))] [(.int (237 : Int32)), (.int xx), (.ref o0)])) (fun _ kgo => XS.sipush X84.here hx rfl (hb hby d4_127) kgo) ?_
            have J85 : ∀ (w2 : Int32), (w2 = if xx = (237 : Int32) then (159 : Int32) else (191 : Int32)) → own_Go p e below (own_Post s QQ 0 0) T84 (mkF m 142 #[.val (.ref o0), .val (.int p1), .val (.int xx), .val (.int (1 : Int32))] [(.int w2), (.ref o0)]) := by
              intro w2 ew2
              have fx86 : Fld Z h84 o0 "com/example/firm_tread/firmtread/transport/Utf8" "high" "I" (.int hi) := (Fld.other W84 (Fld.other W80 P3 (Or.inr (slot_ne (Or.inl (hw _ (List.mem_of_getElem? (i := 18) rfl))) (Or.inl (hw _ (List.mem_of_getElem? (i := 25) rfl))) (by decide) (t := .int) (t' := .int) (by decide) (by decide)))) (Or.inr (slot_ne (Or.inl (hw _ (List.mem_of_getElem? (i := 18) rfl))) (Or.inl (hw _ (List.mem_of_getElem? (i := 16) rfl))) (by decide) (t := .int) (t' := .int) (by decide) (by decide))))
              have fx87 : Exa Z h84 o0 "com/example/firm_tread/firmtread/transport/Utf8" := (Exa.wr W84 fx83)
              obtain ⟨T88, h88, X88, e88, W88, st88⟩ := putF X84 hx hZ hown (host := "") (Or.inl (hw _ (List.mem_of_getElem? (i := 17) rfl))) Via.refl e84 fx86 fx87 (Or.inl (hw _ (List.mem_of_getElem? (i := 18) rfl))) (hw _ (List.mem_of_getElem? (i := 7) rfl)) (ty := .int) (by decide) rfl rfl (g := (mkF m 142 #[.val (.ref o0), .val (.int p1), .val (.int xx), .val (.int (1 : Int32))] [(.int w2), (.ref o0)])) rfl rfl (hb hby d4_142)
              have fw88 := Fld.same W88 fx86
              have N88 := Fr.snoc X88 N84 g_o0
              have Z88 : n0 ≤ h88.size := by rw [W88.size]; exact Z84
              have K88 : Keep h0 h88 [o0] := K84.wr W88 (Or.inl (List.mem_of_getElem? (i := 0) rfl))
              refine own_go (g' := (mkF m 145 #[.val (.ref o0), .val (.int p1), .val (.int xx), .val (.int (1 : Int32))] [])) (st88) ?_
              refine own_go (g' := (mkF m 223 #[.val (.ref o0), .val (.int p1), .val (.int xx), .val (.int (1 : Int32))] [])) (fun _ kgo => XS.goto X88.here hx rfl (pc0 := 145) (pc' := 223) rfl (hb hby d4_145) (by decide) (by decide) kgo) ?_
              refine own_go (g' := (mkF m 224 #[.val (.ref o0), .val (.int p1), .val (.int xx), .val (.int (1 : Int32))] [(.int (1 : Int32))])) (fun _ kgo => XS.iloadN X88.here hx rfl (hb hby d4_223) rfl kgo) ?_
              refine own_retN X88 hx .boolean Bd.returns Bd.notSynchronized (by simp) (hb hby d4_224) (by decide) (by decide) ?_
              show QQ _ T88.heap _
              rw [e88]
              have hr : own_b (own_ok nd lo hi xx) = (1 : Int32) := by unfold own_ok; rw [if_neg hc2, if_neg h86, if_pos ⟨hc78, hc79⟩]; rfl
              have fx89 : Exa Z h88 o0 "com/example/firm_tread/firmtread/transport/Utf8" := (Exa.wr W88 fx87)
              have fx90 : Fld Z h88 o0 "com/example/firm_tread/firmtread/transport/Utf8" "needed" "I" (.int (2 : Int32)) := (Fld.other W88 (Fld.other W84 fw80 (Or.inr (slot_ne (Or.inl (hw _ (List.mem_of_getElem? (i := 25) rfl))) (Or.inl (hw _ (List.mem_of_getElem? (i := 16) rfl))) (by decide) (t := .int) (t' := .int) (by decide) (by decide)))) (Or.inr (slot_ne (Or.inl (hw _ (List.mem_of_getElem? (i := 25) rfl))) (Or.inl (hw _ (List.mem_of_getElem? (i := 18) rfl))) (by decide) (t := .int) (t' := .int) (by decide) (by decide))))
              have c91 : Fld Z h88 o0 "com/example/firm_tread/firmtread/transport/Utf8" "needed" "I" (.int (own_nd nd xx)) := by
                rw [show ((.int (own_nd nd xx)) : Value) = (.int (2 : Int32)) from (congrArg Value.int (by first | (unfold own_nd; rw [if_neg hc2, if_neg h86, if_pos ⟨hc78, hc79⟩]; done) | (unfold own_lo; rw [if_neg hc2, if_neg h86, if_pos ⟨hc78, hc79⟩]; done) | (unfold own_hi; rw [if_neg hc2, if_neg h86, if_pos ⟨hc78, hc79⟩]; done) | (unfold own_lo; rw [if_neg hc2, if_neg h86, if_pos ⟨hc78, hc79⟩, ew1]; done) | (unfold own_lo; rw [if_neg hc2, if_neg h86, if_pos ⟨hc78, hc79⟩, ew2]; done) | (unfold own_hi; rw [if_neg hc2, if_neg h86, if_pos ⟨hc78, hc79⟩, ew1]; done) | (unfold own_hi; rw [if_neg hc2, if_neg h86, if_pos ⟨hc78, hc79⟩, ew2]; done)))]
                exact fx90
              have fx92 : Fld Z h88 o0 "com/example/firm_tread/firmtread/transport/Utf8" "low" "I" (.int w1) := (Fld.other W88 fw84 (Or.inr (slot_ne (Or.inl (hw _ (List.mem_of_getElem? (i := 16) rfl))) (Or.inl (hw _ (List.mem_of_getElem? (i := 18) rfl))) (by decide) (t := .int) (t' := .int) (by decide) (by decide))))
              have c93 : Fld Z h88 o0 "com/example/firm_tread/firmtread/transport/Utf8" "low" "I" (.int (own_lo nd lo xx)) := by
                rw [show ((.int (own_lo nd lo xx)) : Value) = (.int w1) from (congrArg Value.int (by first | (unfold own_nd; rw [if_neg hc2, if_neg h86, if_pos ⟨hc78, hc79⟩]; done) | (unfold own_lo; rw [if_neg hc2, if_neg h86, if_pos ⟨hc78, hc79⟩]; done) | (unfold own_hi; rw [if_neg hc2, if_neg h86, if_pos ⟨hc78, hc79⟩]; done) | (unfold own_lo; rw [if_neg hc2, if_neg h86, if_pos ⟨hc78, hc79⟩, ew1]; done) | (unfold own_lo; rw [if_neg hc2, if_neg h86, if_pos ⟨hc78, hc79⟩, ew2]; done) | (unfold own_hi; rw [if_neg hc2, if_neg h86, if_pos ⟨hc78, hc79⟩, ew1]; done) | (unfold own_hi; rw [if_neg hc2, if_neg h86, if_pos ⟨hc78, hc79⟩, ew2]; done)))]
                exact fx92
              have c94 : Fld Z h88 o0 "com/example/firm_tread/firmtread/transport/Utf8" "high" "I" (.int (own_hi nd hi xx)) := by
                rw [show ((.int (own_hi nd hi xx)) : Value) = (.int w2) from (congrArg Value.int (by first | (unfold own_nd; rw [if_neg hc2, if_neg h86, if_pos ⟨hc78, hc79⟩]; done) | (unfold own_lo; rw [if_neg hc2, if_neg h86, if_pos ⟨hc78, hc79⟩]; done) | (unfold own_hi; rw [if_neg hc2, if_neg h86, if_pos ⟨hc78, hc79⟩]; done) | (unfold own_lo; rw [if_neg hc2, if_neg h86, if_pos ⟨hc78, hc79⟩, ew1]; done) | (unfold own_lo; rw [if_neg hc2, if_neg h86, if_pos ⟨hc78, hc79⟩, ew2]; done) | (unfold own_hi; rw [if_neg hc2, if_neg h86, if_pos ⟨hc78, hc79⟩, ew1]; done) | (unfold own_hi; rw [if_neg hc2, if_neg h86, if_pos ⟨hc78, hc79⟩, ew2]; done)))]
                exact fw88
              rw [← hQQ]
              exact ⟨by rw [hr]; rfl, N88, K88, fx89, c91, c93, c94⟩
            by_cases hc95 : xx = (237 : Int32)
            ·
              refine own_go (g' := (mkF m 133 #[.val (.ref o0), .val (.int p1), .val (.int xx), .val (.int (1 : Int32))] [(.ref o0)])) (fun _ kgo => XS.icmpNo X84.here hx rfl (hb hby d4_130) rfl (teq hc95).2 kgo) ?_
              refine own_go (g' := (mkF m 136 #[.val (.ref o0), .val (.int p1), .val (.int xx), .val (.int (1 : Int32))] [(.int (159 : Int32)), (.ref o0)])) (fun _ kgo => XS.sipush X84.here hx rfl (hb hby d4_133) kgo) ?_
              refine own_go (g' := (mkF m 142 #[.val (.ref o0), .val (.int p1), .val (.int xx), .val (.int (1 : Int32))] [(.int (159 : Int32)), (.ref o0)])) (fun _ kgo => XS.goto X84.here hx rfl (pc0 := 136) (pc' := 142) rfl (hb hby d4_136) (by decide) (by decide) kgo) ?_
              exact J85 (159 : Int32) (by rw [if_pos hc95])
            ·
              refine own_go (g' := (mkF m 139 #[.val (.ref o0), .val (.int p1), .val (.int xx), .val (.int (1 : Int32))] [(.ref o0)])) (fun _ kgo => XS.icmpYes X84.here hx rfl (pc0 := 130) (pc' := 139) rfl (hb hby d4_130) rfl (feq hc95).2 (by decide) (by decide) kgo) ?_
              refine own_go (g' := (mkF m 142 #[.val (.ref o0), .val (.int p1), .val (.int xx), .val (.int (1 : Int32))] [(.int (191 : Int32)), (.ref o0)])) (fun _ kgo => XS.sipush X84.here hx rfl (hb hby d4_139) kgo) ?_
              exact J85 (191 : Int32) (by rw [if_neg hc95])
          by_cases hc96 : xx = (224 : Int32)
          ·
            refine own_go (g' := (mkF m 113 #[.val (.ref o0), .val (.int p1), .val (.int xx), .val (.int (1 : Int32))] [(.ref o0)])) (fun _ kgo => XS.icmpNo X80.here hx rfl (hb hby d4_110) rfl (teq hc96).2 kgo) ?_
            refine own_go (g' := (mkF m 116 #[.val (.ref o0), .val (.int p1), .val (.int xx), .val (.int (1 : Int32))] [(.int (160 : Int32)), (.ref o0)])) (fun _ kgo => XS.sipush X80.here hx rfl (hb hby d4_113) kgo) ?_
            refine own_go (g' := (mkF m 122 #[.val (.ref o0), .val (.int p1), .val (.int xx), .val (.int (1 : Int32))] [(.int (160 : Int32)), (.ref o0)])) (fun _ kgo => XS.goto X80.here hx rfl (pc0 := 116) (pc' := 122) rfl (hb hby d4_116) (by decide) (by decide) kgo) ?_
            exact J81 (160 : Int32) (by rw [if_pos hc96])
          ·
            refine own_go (g' := (mkF m 119 #[.val (.ref o0), .val (.int p1), .val (.int xx), .val (.int (1 : Int32))] [(.ref o0)])) (fun _ kgo => XS.icmpYes X80.here hx rfl (pc0 := 110) (pc' := 119) rfl (hb hby d4_110) rfl (feq hc96).2 (by decide) (by decide) kgo) ?_
            refine own_go (g' := (mkF m 122 #[.val (.ref o0), .val (.int p1), .val (.int xx), .val (.int (1 : Int32))] [(.int (128 : Int32)), (.ref o0)])) (fun _ kgo => XS.sipush X80.here hx rfl (hb hby d4_119) kgo) ?_
            exact J81 (128 : Int32) (by rw [if_neg hc96])
    by_cases hc97 : xx < (194 : Int32)
    ·
      refine own_go (g' := (mkF m 86 #[.val (.ref o0), .val (.int p1), .val (.int xx), .val (.int (1 : Int32))] [])) (fun _ kgo => XS.icmpYes X1.here hx rfl (pc0 := 68) (pc' := 86) rfl (hb hby d4_68) rfl (tlt hc97).1 (by decide) (by decide) kgo) ?_
      exact J49 (fun q => q.1 hc97)
    ·
      refine own_go (g' := (mkF m 71 #[.val (.ref o0), .val (.int p1), .val (.int xx), .val (.int (1 : Int32))] [])) (fun _ kgo => XS.icmpNo X1.here hx rfl (hb hby d4_68) rfl (flt hc97).1 kgo) ?_
      refine own_go (g' := (mkF m 72 #[.val (.ref o0), .val (.int p1), .val (.int xx), .val (.int (1 : Int32))] [(.int xx)])) (fun _ kgo => XS.iloadN X1.here hx rfl (hb hby d4_71) rfl kgo) ?_
      refine own_go (g' := (mkF m 75 #[.val (.ref o0), .val (.int p1), .val (.int xx), .val (.int (1 : Int32))] [(.int (223 : Int32)), (.int xx)])) (fun _ kgo => XS.sipush X1.here hx rfl (hb hby d4_72) kgo) ?_
      by_cases hc98 : (223 : Int32) < xx
      ·
        refine own_go (g' := (mkF m 86 #[.val (.ref o0), .val (.int p1), .val (.int xx), .val (.int (1 : Int32))] [])) (fun _ kgo => XS.icmpYes X1.here hx rfl (pc0 := 75) (pc' := 86) rfl (hb hby d4_75) rfl (tlt hc98).2.2.1 (by decide) (by decide) kgo) ?_
        exact J49 (fun q => q.2 hc98)
      ·
        refine own_go (g' := (mkF m 78 #[.val (.ref o0), .val (.int p1), .val (.int xx), .val (.int (1 : Int32))] [])) (fun _ kgo => XS.icmpNo X1.here hx rfl (hb hby d4_75) rfl (flt hc98).2.2.1 kgo) ?_
        refine own_go (g' := (mkF m 79 #[.val (.ref o0), .val (.int p1), .val (.int xx), .val (.int (1 : Int32))] [(.ref o0)])) (fun _ kgo => XS.aloadN X1.here hx rfl (hb hby d4_78) rfl rfl kgo) ?_
        refine own_go (g' := (mkF m 80 #[.val (.ref o0), .val (.int p1), .val (.int xx), .val (.int (1 : Int32))] [(.int (1 : Int32)), (.ref o0)])) (fun _ kgo => XS.iconst X1.here hx rfl (hb hby d4_79) kgo) ?_
        obtain ⟨T99, h99, X99, e99, W99, st99⟩ := putF X1 hx hZ hown (host := "") (Or.inl (hw _ (List.mem_of_getElem? (i := 24) rfl))) Via.refl e1 P1 P0 (Or.inl (hw _ (List.mem_of_getElem? (i := 25) rfl))) (hw _ (List.mem_of_getElem? (i := 7) rfl)) (ty := .int) (by decide) rfl rfl (g := (mkF m 80 #[.val (.ref o0), .val (.int p1), .val (.int xx), .val (.int (1 : Int32))] [(.int (1 : Int32)), (.ref o0)])) rfl rfl (hb hby d4_80)
        have fw99 := Fld.same W99 P1
        have N99 := Fr.snoc X99 N0 g_o0
        have Z99 : n0 ≤ h99.size := by rw [W99.size]; exact Z0
        have K99 : Keep h0 h99 [o0] := K0.wr W99 (Or.inl (List.mem_of_getElem? (i := 0) rfl))
        refine own_go (g' := (mkF m 83 #[.val (.ref o0), .val (.int p1), .val (.int xx), .val (.int (1 : Int32))] [])) (st99) ?_
        refine own_go (g' := (mkF m 223 #[.val (.ref o0), .val (.int p1), .val (.int xx), .val (.int (1 : Int32))] [])) (fun _ kgo => XS.goto X99.here hx rfl (pc0 := 83) (pc' := 223) rfl (hb hby d4_83) (by decide) (by decide) kgo) ?_
        refine own_go (g' := (mkF m 224 #[.val (.ref o0), .val (.int p1), .val (.int xx), .val (.int (1 : Int32))] [(.int (1 : Int32))])) (fun _ kgo => XS.iloadN X99.here hx rfl (hb hby d4_223) rfl kgo) ?_
        refine own_retN X99 hx .boolean Bd.returns Bd.notSynchronized (by simp) (hb hby d4_224) (by decide) (by decide) ?_
        show QQ _ T99.heap _
        rw [e99]
        have hr : own_b (own_ok nd lo hi xx) = (1 : Int32) := by unfold own_ok; rw [if_neg hc2, if_pos ⟨hc97, hc98⟩]; rfl
        have fx100 : Exa Z h99 o0 "com/example/firm_tread/firmtread/transport/Utf8" := (Exa.wr W99 P0)
        have c101 : Fld Z h99 o0 "com/example/firm_tread/firmtread/transport/Utf8" "needed" "I" (.int (own_nd nd xx)) := by
          rw [show ((.int (own_nd nd xx)) : Value) = (.int (1 : Int32)) from (congrArg Value.int (by first | (unfold own_nd; rw [if_neg hc2, if_pos ⟨hc97, hc98⟩]; done) | (unfold own_lo; rw [if_neg hc2, if_pos ⟨hc97, hc98⟩]; done) | (unfold own_hi; rw [if_neg hc2, if_pos ⟨hc97, hc98⟩]; done)))]
          exact fw99
        have fx102 : Fld Z h99 o0 "com/example/firm_tread/firmtread/transport/Utf8" "low" "I" (.int lo) := (Fld.other W99 P2 (Or.inr (slot_ne (Or.inl (hw _ (List.mem_of_getElem? (i := 16) rfl))) (Or.inl (hw _ (List.mem_of_getElem? (i := 25) rfl))) (by decide) (t := .int) (t' := .int) (by decide) (by decide))))
        have c103 : Fld Z h99 o0 "com/example/firm_tread/firmtread/transport/Utf8" "low" "I" (.int (own_lo nd lo xx)) := by
          rw [show ((.int (own_lo nd lo xx)) : Value) = (.int lo) from (congrArg Value.int (by first | (unfold own_nd; rw [if_neg hc2, if_pos ⟨hc97, hc98⟩]; done) | (unfold own_lo; rw [if_neg hc2, if_pos ⟨hc97, hc98⟩]; done) | (unfold own_hi; rw [if_neg hc2, if_pos ⟨hc97, hc98⟩]; done)))]
          exact fx102
        have fx104 : Fld Z h99 o0 "com/example/firm_tread/firmtread/transport/Utf8" "high" "I" (.int hi) := (Fld.other W99 P3 (Or.inr (slot_ne (Or.inl (hw _ (List.mem_of_getElem? (i := 18) rfl))) (Or.inl (hw _ (List.mem_of_getElem? (i := 25) rfl))) (by decide) (t := .int) (t' := .int) (by decide) (by decide))))
        have c105 : Fld Z h99 o0 "com/example/firm_tread/firmtread/transport/Utf8" "high" "I" (.int (own_hi nd hi xx)) := by
          rw [show ((.int (own_hi nd hi xx)) : Value) = (.int hi) from (congrArg Value.int (by first | (unfold own_nd; rw [if_neg hc2, if_pos ⟨hc97, hc98⟩]; done) | (unfold own_lo; rw [if_neg hc2, if_pos ⟨hc97, hc98⟩]; done) | (unfold own_hi; rw [if_neg hc2, if_pos ⟨hc97, hc98⟩]; done)))]
          exact fx104
        rw [← hQQ]
        exact ⟨by rw [hr]; rfl, N99, K99, fx100, c101, c103, c105⟩
theorem d5_0 : decode prog_69_method_4_code 0 = .ok (.aload_n 0, 1) := by decide +kernel
theorem d5_1 : decode prog_69_method_4_code 1 = .ok (.getfield 25, 3) := by decide +kernel
theorem d5_4 : decode prog_69_method_4_code 4 = .ok (.ifCond .ne 7, 3) := by decide +kernel
theorem d5_7 : decode prog_69_method_4_code 7 = .ok (.iconst 1, 1) := by decide +kernel
theorem d5_8 : decode prog_69_method_4_code 8 = .ok (.goto 4, 3) := by decide +kernel
theorem d5_11 : decode prog_69_method_4_code 11 = .ok (.iconst 0, 1) := by decide +kernel
theorem d5_12 : decode prog_69_method_4_code 12 = .ok (.ireturn, 1) := by decide +kernel
theorem pn_rm5 : plainName "com/example/firm_tread/firmtread/transport/Utf8" = true := by first | (simp [plainName, overriddenIn]; done) | decide +kernel
theorem ef_rm5 (m : MethodId) (o0 : Addr) : entryFrame m #[(.ref o0)] 1 = mkF m 0 #[.val (.ref o0)] [] := by first | (simp [entryFrame, mkF, argsToLocals, Value.category]; done) | rfl
set_option maxRecDepth 65536 in
set_option maxHeartbeats 40000000 in
theorem rm5 (l : Launch) (Z : State) (a0 : Array Value) (hw : ∀ d ∈ tables_1, d.before a0 Z = true) (o0 : Addr) (nd : Int32) (h0 : Heap) (P0 : Fld Z h0 o0 "com/example/firm_tread/firmtread/transport/Utf8" "needed" "I" (.int nd)) :
    own_Met l Z (⟨"com/example/firm_tread/firmtread/transport/Utf8", "isComplete", "()Z"⟩ : MethodName) prog_69_method_4_code 1 (some .boolean) [] ({ frames := 0, cells := 0, slots := 0, locals := 0 } : Room) #[(.ref o0)] h0 0 0 (fun v h L => v = some (.int (own_b (decide (nd = 0)))) ∧ h = h0 ∧ L = []) := by
  refine own_met (plainFor_of_name pn_rm5) ?_
  intro p e s m below meth c s₁ Bd hml0 hZ X0 e0
  have hx := Bd.exec
  have hby := Bd.bytes
  have hml : c.maxLocals = 1 := hml0
  have hown : s.vm.findClass "com/example/firm_tread/firmtread/transport/Utf8" = some m.cls := findClass_of_methodNamed Bd.named
  have hnm := (name_of_methodNamed Bd.named Bd.method).1
  refine own_cast (ef_rm5 m o0) ?_
  generalize hQQ : (fun (v : Option Value) (h : Heap) (L : List Loc) => v = some (.int (own_b (decide (nd = 0)))) ∧ h = h0 ∧ L = []) = QQ
  refine own_go (g' := (mkF m 1 #[.val (.ref o0)] [(.ref o0)])) (fun _ kgo => XS.aloadN X0.here hx rfl (hb hby d5_0) rfl rfl kgo) ?_
  obtain ⟨T1, X1, e1, st1⟩ := getF X0 hx hZ hown (host := "") (Or.inl (hw _ (List.mem_of_getElem? (i := 24) rfl))) Via.refl e0 P0 (g := (mkF m 1 #[.val (.ref o0)] [(.ref o0)])) rfl rfl (hb hby d5_1)
  refine own_go (g' := (mkF m 4 #[.val (.ref o0)] [(.int nd)])) (st1) ?_
  by_cases hc2 : nd = (0 : Int32)
  ·
    refine own_go (g' := (mkF m 7 #[.val (.ref o0)] [])) (fun _ kgo => XS.ifNo X1.here hx rfl (hb hby d5_4) rfl ((if0 _ _).trans (teq hc2).2) kgo) ?_
    refine own_go (g' := (mkF m 8 #[.val (.ref o0)] [(.int (1 : Int32))])) (fun _ kgo => XS.iconst X1.here hx rfl (hb hby d5_7) kgo) ?_
    refine own_go (g' := (mkF m 12 #[.val (.ref o0)] [(.int (1 : Int32))])) (fun _ kgo => XS.goto X1.here hx rfl (pc0 := 8) (pc' := 12) rfl (hb hby d5_8) (by decide) (by decide) kgo) ?_
    refine own_retN X1 hx .boolean Bd.returns Bd.notSynchronized (by simp) (hb hby d5_12) (by decide) (by decide) ?_
    show QQ _ T1.heap _
    rw [e1]
    rw [← hQQ]
    have hv : own_b (decide (nd = 0)) = 1 := own_b_t (by simp only [decide_eq_true_eq, ← Int32.toInt_inj, ← Int64.toInt_inj, Int32.lt_iff_toInt_lt, Int64.lt_iff_toInt_lt, Int32.le_iff_toInt_le, Int64.le_iff_toInt_le, Int32.reduceToInt, Int64.reduceToInt] at hc2 ⊢ <;> omega)
    exact ⟨by rw [hv]; rfl, rfl, rfl⟩
  ·
    refine own_go (g' := (mkF m 11 #[.val (.ref o0)] [])) (fun _ kgo => XS.ifYes X1.here hx rfl (pc0 := 4) (pc' := 11) rfl (hb hby d5_4) rfl ((if0 _ _).trans (feq hc2).2) (by decide) (by decide) kgo) ?_
    refine own_go (g' := (mkF m 12 #[.val (.ref o0)] [(.int (0 : Int32))])) (fun _ kgo => XS.iconst X1.here hx rfl (hb hby d5_11) kgo) ?_
    refine own_retN X1 hx .boolean Bd.returns Bd.notSynchronized (by simp) (hb hby d5_12) (by decide) (by decide) ?_
    show QQ _ T1.heap _
    rw [e1]
    rw [← hQQ]
    have hv : own_b (decide (nd = 0)) = 0 := own_b_f (by simp only [decide_eq_true_eq, ← Int32.toInt_inj, ← Int64.toInt_inj, Int32.lt_iff_toInt_lt, Int64.lt_iff_toInt_lt, Int32.le_iff_toInt_le, Int64.le_iff_toInt_le, Int32.reduceToInt, Int64.reduceToInt] at hc2 ⊢ <;> omega)
    exact ⟨by rw [hv]; rfl, rfl, rfl⟩
theorem d1_0 : decode method_2_code 0 = .ok (.iload_n 1, 1) := by decide +kernel
theorem d1_1 : decode method_2_code 1 = .ok (.iconst 4, 1) := by decide +kernel
theorem d1_2 : decode method_2_code 2 = .ok (.if_icmp .lt 5, 3) := by decide +kernel
theorem d1_5 : decode method_2_code 5 = .ok (.iconst 4, 1) := by decide +kernel
theorem d1_6 : decode method_2_code 6 = .ok (.ireturn, 1) := by decide +kernel
theorem pn_stq4 : plainName "com/example/firm_tread/firmtread/transport/Utf8AcceptPinLaw" = true := by first | (simp [plainName, overriddenIn]; done) | decide +kernel
theorem ef_stq4 (m : MethodId) (o0 : Addr) (p1 : Int32) (o2 : Addr) (o3 : Addr) : entryFrame m #[(.ref o0), (.int p1), (.ref o2), (.ref o3)] 10 = mkF m 0 #[.val (.ref o0), .val (.int p1), .val (.ref o2), .val (.ref o3), .unset, .unset, .unset, .unset, .unset, .unset] [] := by first | (simp [entryFrame, mkF, argsToLocals, Value.category]; done) | rfl
set_option maxRecDepth 65536 in
set_option maxHeartbeats 40000000 in
theorem stq4 (l : Launch) (Z : State) (a0 : Array Value) (hw : ∀ d ∈ tables_1, d.before a0 Z = true) (o0 : Addr) (p1 : Int32) (o2 : Addr) (o3 : Addr)  (h0 : Heap) (h4 : ¬ p1 < 4) :
    own_Met l Z (⟨"com/example/firm_tread/firmtread/transport/Utf8AcceptPinLaw", "step", "([II[Z[Z)I"⟩ : MethodName) method_2_code 10 (some .int) [] ({ frames := 0, cells := 0, slots := 0, locals := 0 } : Room) #[(.ref o0), (.int p1), (.ref o2), (.ref o3)] h0 0 0 (fun v h L => v = some (.int (4 : Int32)) ∧ h = h0 ∧ L = []) := by
  refine own_met (plainFor_of_name pn_stq4) ?_
  intro p e s m below meth c s₁ Bd hml0 hZ X0 e0
  have hx := Bd.exec
  have hby := Bd.bytes
  have hml : c.maxLocals = 10 := hml0
  have hown : s.vm.findClass "com/example/firm_tread/firmtread/transport/Utf8AcceptPinLaw" = some m.cls := findClass_of_methodNamed Bd.named
  have hnm := (name_of_methodNamed Bd.named Bd.method).1
  refine own_cast (ef_stq4 m o0 p1 o2 o3) ?_
  generalize hQQ : (fun (v : Option Value) (h : Heap) (L : List Loc) => v = some (.int (4 : Int32)) ∧ h = h0 ∧ L = []) = QQ
  refine own_go (g' := (mkF m 1 #[.val (.ref o0), .val (.int p1), .val (.ref o2), .val (.ref o3), .unset, .unset, .unset, .unset, .unset, .unset] [(.int p1)])) (fun _ kgo => XS.iloadN X0.here hx rfl (hb hby d1_0) rfl kgo) ?_
  refine own_go (g' := (mkF m 2 #[.val (.ref o0), .val (.int p1), .val (.ref o2), .val (.ref o3), .unset, .unset, .unset, .unset, .unset, .unset] [(.int (4 : Int32)), (.int p1)])) (fun _ kgo => XS.iconst X0.here hx rfl (hb hby d1_1) kgo) ?_
  refine own_go (g' := (mkF m 5 #[.val (.ref o0), .val (.int p1), .val (.ref o2), .val (.ref o3), .unset, .unset, .unset, .unset, .unset, .unset] [])) (fun _ kgo => XS.icmpNo X0.here hx rfl (hb hby d1_2) rfl (flt h4).1 kgo) ?_
  refine own_go (g' := (mkF m 6 #[.val (.ref o0), .val (.int p1), .val (.ref o2), .val (.ref o3), .unset, .unset, .unset, .unset, .unset, .unset] [(.int (4 : Int32))])) (fun _ kgo => XS.iconst X0.here hx rfl (hb hby d1_5) kgo) ?_
  refine own_retI X0 hx Bd.returns Bd.notSynchronized (hb hby d1_6) (by decide) (by decide) ?_
  show QQ _ s₁.heap _
  rw [e0]
  rw [← hQQ]
  exact ⟨rfl, rfl, rfl⟩
theorem d1_7 : decode method_2_code 7 = .ok (.aload_n 0, 1) := by decide +kernel
theorem d1_8 : decode method_2_code 8 = .ok (.iload_n 1, 1) := by decide +kernel
theorem d1_9 : decode method_2_code 9 = .ok (.iaload, 1) := by decide +kernel
theorem d1_10 : decode method_2_code 10 = .ok (.istore 4, 2) := by decide +kernel
theorem d1_12 : decode method_2_code 12 = .ok (.sipush 128, 3) := by decide +kernel
theorem d1_15 : decode method_2_code 15 = .ok (.istore 6, 2) := by decide +kernel
theorem d1_17 : decode method_2_code 17 = .ok (.sipush 191, 3) := by decide +kernel
theorem d1_20 : decode method_2_code 20 = .ok (.istore 7, 2) := by decide +kernel
theorem d1_22 : decode method_2_code 22 = .ok (.iload 4, 2) := by decide +kernel
theorem d1_24 : decode method_2_code 24 = .ok (.bipush 127, 2) := by decide +kernel
theorem d1_26 : decode method_2_code 26 = .ok (.if_icmp .gt 9, 3) := by decide +kernel
theorem d1_29 : decode method_2_code 29 = .ok (.iconst 1, 1) := by decide +kernel
theorem d1_30 : decode method_2_code 30 = .ok (.istore 5, 2) := by decide +kernel
theorem d1_32 : decode method_2_code 32 = .ok (.goto 173, 3) := by decide +kernel
theorem d1_35 : decode method_2_code 35 = .ok (.iload 4, 2) := by decide +kernel
theorem d1_37 : decode method_2_code 37 = .ok (.sipush 194, 3) := by decide +kernel
theorem d1_40 : decode method_2_code 40 = .ok (.if_icmp .lt 17, 3) := by decide +kernel
theorem d1_43 : decode method_2_code 43 = .ok (.iload 4, 2) := by decide +kernel
theorem d1_45 : decode method_2_code 45 = .ok (.sipush 223, 3) := by decide +kernel
theorem d1_48 : decode method_2_code 48 = .ok (.if_icmp .gt 9, 3) := by decide +kernel
theorem d1_51 : decode method_2_code 51 = .ok (.iconst 2, 1) := by decide +kernel
theorem d1_52 : decode method_2_code 52 = .ok (.istore 5, 2) := by decide +kernel
theorem d1_54 : decode method_2_code 54 = .ok (.goto 151, 3) := by decide +kernel
theorem d1_57 : decode method_2_code 57 = .ok (.iload 4, 2) := by decide +kernel
theorem d1_59 : decode method_2_code 59 = .ok (.sipush 224, 3) := by decide +kernel
theorem d1_62 : decode method_2_code 62 = .ok (.if_icmp .ne 14, 3) := by decide +kernel
theorem d1_65 : decode method_2_code 65 = .ok (.iconst 3, 1) := by decide +kernel
theorem d1_66 : decode method_2_code 66 = .ok (.istore 5, 2) := by decide +kernel
theorem d1_68 : decode method_2_code 68 = .ok (.sipush 160, 3) := by decide +kernel
theorem d1_71 : decode method_2_code 71 = .ok (.istore 6, 2) := by decide +kernel
theorem d1_73 : decode method_2_code 73 = .ok (.goto 132, 3) := by decide +kernel
theorem d1_76 : decode method_2_code 76 = .ok (.iload 4, 2) := by decide +kernel
theorem d1_78 : decode method_2_code 78 = .ok (.sipush 225, 3) := by decide +kernel
theorem d1_81 : decode method_2_code 81 = .ok (.if_icmp .lt 17, 3) := by decide +kernel
theorem d1_84 : decode method_2_code 84 = .ok (.iload 4, 2) := by decide +kernel
theorem d1_86 : decode method_2_code 86 = .ok (.sipush 236, 3) := by decide +kernel
theorem d1_89 : decode method_2_code 89 = .ok (.if_icmp .gt 9, 3) := by decide +kernel
theorem d1_92 : decode method_2_code 92 = .ok (.iconst 3, 1) := by decide +kernel
theorem d1_93 : decode method_2_code 93 = .ok (.istore 5, 2) := by decide +kernel
theorem d1_95 : decode method_2_code 95 = .ok (.goto 110, 3) := by decide +kernel
theorem d1_98 : decode method_2_code 98 = .ok (.iload 4, 2) := by decide +kernel
theorem d1_100 : decode method_2_code 100 = .ok (.sipush 237, 3) := by decide +kernel
theorem d1_103 : decode method_2_code 103 = .ok (.if_icmp .ne 14, 3) := by decide +kernel
theorem d1_106 : decode method_2_code 106 = .ok (.iconst 3, 1) := by decide +kernel
theorem d1_107 : decode method_2_code 107 = .ok (.istore 5, 2) := by decide +kernel
theorem d1_109 : decode method_2_code 109 = .ok (.sipush 159, 3) := by decide +kernel
theorem d1_112 : decode method_2_code 112 = .ok (.istore 7, 2) := by decide +kernel
theorem d1_114 : decode method_2_code 114 = .ok (.goto 91, 3) := by decide +kernel
theorem d1_117 : decode method_2_code 117 = .ok (.iload 4, 2) := by decide +kernel
theorem d1_119 : decode method_2_code 119 = .ok (.sipush 238, 3) := by decide +kernel
theorem d1_122 : decode method_2_code 122 = .ok (.if_icmp .eq 11, 3) := by decide +kernel
theorem d1_125 : decode method_2_code 125 = .ok (.iload 4, 2) := by decide +kernel
theorem d1_127 : decode method_2_code 127 = .ok (.sipush 239, 3) := by decide +kernel
theorem d1_130 : decode method_2_code 130 = .ok (.if_icmp .ne 9, 3) := by decide +kernel
theorem d1_133 : decode method_2_code 133 = .ok (.iconst 3, 1) := by decide +kernel
theorem d1_134 : decode method_2_code 134 = .ok (.istore 5, 2) := by decide +kernel
theorem d1_136 : decode method_2_code 136 = .ok (.goto 69, 3) := by decide +kernel
theorem d1_139 : decode method_2_code 139 = .ok (.iload 4, 2) := by decide +kernel
theorem d1_141 : decode method_2_code 141 = .ok (.sipush 240, 3) := by decide +kernel
theorem d1_144 : decode method_2_code 144 = .ok (.if_icmp .ne 14, 3) := by decide +kernel
theorem d1_147 : decode method_2_code 147 = .ok (.iconst 4, 1) := by decide +kernel
theorem d1_148 : decode method_2_code 148 = .ok (.istore 5, 2) := by decide +kernel
theorem d1_150 : decode method_2_code 150 = .ok (.sipush 144, 3) := by decide +kernel
theorem d1_153 : decode method_2_code 153 = .ok (.istore 6, 2) := by decide +kernel
theorem d1_155 : decode method_2_code 155 = .ok (.goto 50, 3) := by decide +kernel
theorem d1_158 : decode method_2_code 158 = .ok (.iload 4, 2) := by decide +kernel
theorem d1_160 : decode method_2_code 160 = .ok (.sipush 241, 3) := by decide +kernel
theorem d1_163 : decode method_2_code 163 = .ok (.if_icmp .lt 17, 3) := by decide +kernel
theorem d1_166 : decode method_2_code 166 = .ok (.iload 4, 2) := by decide +kernel
theorem d1_168 : decode method_2_code 168 = .ok (.sipush 243, 3) := by decide +kernel
theorem d1_171 : decode method_2_code 171 = .ok (.if_icmp .gt 9, 3) := by decide +kernel
theorem d1_174 : decode method_2_code 174 = .ok (.iconst 4, 1) := by decide +kernel
theorem d1_175 : decode method_2_code 175 = .ok (.istore 5, 2) := by decide +kernel
theorem d1_177 : decode method_2_code 177 = .ok (.goto 28, 3) := by decide +kernel
theorem d1_180 : decode method_2_code 180 = .ok (.iload 4, 2) := by decide +kernel
theorem d1_182 : decode method_2_code 182 = .ok (.sipush 244, 3) := by decide +kernel
theorem d1_185 : decode method_2_code 185 = .ok (.if_icmp .ne 14, 3) := by decide +kernel
theorem d1_188 : decode method_2_code 188 = .ok (.iconst 4, 1) := by decide +kernel
theorem d1_189 : decode method_2_code 189 = .ok (.istore 5, 2) := by decide +kernel
theorem d1_191 : decode method_2_code 191 = .ok (.sipush 143, 3) := by decide +kernel
theorem d1_194 : decode method_2_code 194 = .ok (.istore 7, 2) := by decide +kernel
theorem d1_196 : decode method_2_code 196 = .ok (.goto 9, 3) := by decide +kernel
theorem d1_199 : decode method_2_code 199 = .ok (.aload_n 2, 1) := by decide +kernel
theorem d1_200 : decode method_2_code 200 = .ok (.iload_n 1, 1) := by decide +kernel
theorem d1_201 : decode method_2_code 201 = .ok (.iconst 0, 1) := by decide +kernel
theorem d1_202 : decode method_2_code 202 = .ok (.bastore, 1) := by decide +kernel
theorem d1_203 : decode method_2_code 203 = .ok (.iconst 4, 1) := by decide +kernel
theorem d1_204 : decode method_2_code 204 = .ok (.ireturn, 1) := by decide +kernel
theorem d1_205 : decode method_2_code 205 = .ok (.aload_n 2, 1) := by decide +kernel
theorem d1_206 : decode method_2_code 206 = .ok (.iload_n 1, 1) := by decide +kernel
theorem d1_207 : decode method_2_code 207 = .ok (.iconst 1, 1) := by decide +kernel
theorem d1_208 : decode method_2_code 208 = .ok (.bastore, 1) := by decide +kernel
theorem d1_209 : decode method_2_code 209 = .ok (.aload_n 3, 1) := by decide +kernel
theorem d1_210 : decode method_2_code 210 = .ok (.iload_n 1, 1) := by decide +kernel
theorem d1_211 : decode method_2_code 211 = .ok (.iload 5, 2) := by decide +kernel
theorem d1_213 : decode method_2_code 213 = .ok (.iconst 1, 1) := by decide +kernel
theorem d1_214 : decode method_2_code 214 = .ok (.if_icmp .ne 7, 3) := by decide +kernel
theorem d1_217 : decode method_2_code 217 = .ok (.iconst 1, 1) := by decide +kernel
theorem d1_218 : decode method_2_code 218 = .ok (.goto 4, 3) := by decide +kernel
theorem d1_221 : decode method_2_code 221 = .ok (.iconst 0, 1) := by decide +kernel
theorem d1_222 : decode method_2_code 222 = .ok (.bastore, 1) := by decide +kernel
theorem d1_223 : decode method_2_code 223 = .ok (.iload 5, 2) := by decide +kernel
theorem d1_225 : decode method_2_code 225 = .ok (.iconst 2, 1) := by decide +kernel
theorem d1_226 : decode method_2_code 226 = .ok (.if_icmp .lt 68, 3) := by decide +kernel
theorem d1_229 : decode method_2_code 229 = .ok (.iload_n 1, 1) := by decide +kernel
theorem d1_230 : decode method_2_code 230 = .ok (.iconst 1, 1) := by decide +kernel
theorem d1_231 : decode method_2_code 231 = .ok (.iadd, 1) := by decide +kernel
theorem d1_232 : decode method_2_code 232 = .ok (.iconst 4, 1) := by decide +kernel
theorem d1_233 : decode method_2_code 233 = .ok (.if_icmp .ge 61, 3) := by decide +kernel
theorem d1_236 : decode method_2_code 236 = .ok (.aload_n 0, 1) := by decide +kernel
theorem d1_237 : decode method_2_code 237 = .ok (.iload_n 1, 1) := by decide +kernel
theorem d1_238 : decode method_2_code 238 = .ok (.iconst 1, 1) := by decide +kernel
theorem d1_239 : decode method_2_code 239 = .ok (.iadd, 1) := by decide +kernel
theorem d1_240 : decode method_2_code 240 = .ok (.iaload, 1) := by decide +kernel
theorem d1_241 : decode method_2_code 241 = .ok (.istore 8, 2) := by decide +kernel
theorem d1_243 : decode method_2_code 243 = .ok (.iload 8, 2) := by decide +kernel
theorem d1_245 : decode method_2_code 245 = .ok (.iload 6, 2) := by decide +kernel
theorem d1_247 : decode method_2_code 247 = .ok (.if_icmp .lt 14, 3) := by decide +kernel
theorem d1_250 : decode method_2_code 250 = .ok (.iload 8, 2) := by decide +kernel
theorem d1_252 : decode method_2_code 252 = .ok (.iload 7, 2) := by decide +kernel
theorem d1_254 : decode method_2_code 254 = .ok (.if_icmp .gt 7, 3) := by decide +kernel
theorem d1_257 : decode method_2_code 257 = .ok (.iconst 1, 1) := by decide +kernel
theorem d1_258 : decode method_2_code 258 = .ok (.goto 4, 3) := by decide +kernel
theorem d1_261 : decode method_2_code 261 = .ok (.iconst 0, 1) := by decide +kernel
theorem d1_262 : decode method_2_code 262 = .ok (.istore 9, 2) := by decide +kernel
theorem d1_264 : decode method_2_code 264 = .ok (.aload_n 2, 1) := by decide +kernel
theorem d1_265 : decode method_2_code 265 = .ok (.iload_n 1, 1) := by decide +kernel
theorem d1_266 : decode method_2_code 266 = .ok (.iconst 1, 1) := by decide +kernel
theorem d1_267 : decode method_2_code 267 = .ok (.iadd, 1) := by decide +kernel
theorem d1_268 : decode method_2_code 268 = .ok (.iload 9, 2) := by decide +kernel
theorem d1_270 : decode method_2_code 270 = .ok (.bastore, 1) := by decide +kernel
theorem d1_271 : decode method_2_code 271 = .ok (.aload_n 3, 1) := by decide +kernel
theorem d1_272 : decode method_2_code 272 = .ok (.iload_n 1, 1) := by decide +kernel
theorem d1_273 : decode method_2_code 273 = .ok (.iconst 1, 1) := by decide +kernel
theorem d1_274 : decode method_2_code 274 = .ok (.iadd, 1) := by decide +kernel
theorem d1_275 : decode method_2_code 275 = .ok (.iload 5, 2) := by decide +kernel
theorem d1_277 : decode method_2_code 277 = .ok (.iconst 2, 1) := by decide +kernel
theorem d1_278 : decode method_2_code 278 = .ok (.if_icmp .ne 7, 3) := by decide +kernel
theorem d1_281 : decode method_2_code 281 = .ok (.iconst 1, 1) := by decide +kernel
theorem d1_282 : decode method_2_code 282 = .ok (.goto 4, 3) := by decide +kernel
theorem d1_285 : decode method_2_code 285 = .ok (.iconst 0, 1) := by decide +kernel
theorem d1_286 : decode method_2_code 286 = .ok (.bastore, 1) := by decide +kernel
theorem d1_287 : decode method_2_code 287 = .ok (.iload 9, 2) := by decide +kernel
theorem d1_289 : decode method_2_code 289 = .ok (.ifCond .ne 5, 3) := by decide +kernel
theorem d1_292 : decode method_2_code 292 = .ok (.iconst 4, 1) := by decide +kernel
theorem d1_293 : decode method_2_code 293 = .ok (.ireturn, 1) := by decide +kernel
theorem d1_294 : decode method_2_code 294 = .ok (.iload 5, 2) := by decide +kernel
theorem d1_296 : decode method_2_code 296 = .ok (.iconst 3, 1) := by decide +kernel
theorem d1_297 : decode method_2_code 297 = .ok (.if_icmp .lt 70, 3) := by decide +kernel
theorem d1_300 : decode method_2_code 300 = .ok (.iload_n 1, 1) := by decide +kernel
theorem d1_301 : decode method_2_code 301 = .ok (.iconst 2, 1) := by decide +kernel
theorem d1_302 : decode method_2_code 302 = .ok (.iadd, 1) := by decide +kernel
theorem d1_303 : decode method_2_code 303 = .ok (.iconst 4, 1) := by decide +kernel
theorem d1_304 : decode method_2_code 304 = .ok (.if_icmp .ge 63, 3) := by decide +kernel
theorem d1_307 : decode method_2_code 307 = .ok (.aload_n 0, 1) := by decide +kernel
theorem d1_308 : decode method_2_code 308 = .ok (.iload_n 1, 1) := by decide +kernel
theorem d1_309 : decode method_2_code 309 = .ok (.iconst 2, 1) := by decide +kernel
theorem d1_310 : decode method_2_code 310 = .ok (.iadd, 1) := by decide +kernel
theorem d1_311 : decode method_2_code 311 = .ok (.iaload, 1) := by decide +kernel
theorem d1_312 : decode method_2_code 312 = .ok (.istore 8, 2) := by decide +kernel
theorem d1_314 : decode method_2_code 314 = .ok (.iload 8, 2) := by decide +kernel
theorem d1_316 : decode method_2_code 316 = .ok (.sipush 128, 3) := by decide +kernel
theorem d1_319 : decode method_2_code 319 = .ok (.if_icmp .lt 15, 3) := by decide +kernel
theorem d1_322 : decode method_2_code 322 = .ok (.iload 8, 2) := by decide +kernel
theorem d1_324 : decode method_2_code 324 = .ok (.sipush 191, 3) := by decide +kernel
theorem d1_327 : decode method_2_code 327 = .ok (.if_icmp .gt 7, 3) := by decide +kernel
theorem d1_330 : decode method_2_code 330 = .ok (.iconst 1, 1) := by decide +kernel
theorem d1_331 : decode method_2_code 331 = .ok (.goto 4, 3) := by decide +kernel
theorem d1_334 : decode method_2_code 334 = .ok (.iconst 0, 1) := by decide +kernel
theorem d1_335 : decode method_2_code 335 = .ok (.istore 9, 2) := by decide +kernel
theorem d1_337 : decode method_2_code 337 = .ok (.aload_n 2, 1) := by decide +kernel
theorem d1_338 : decode method_2_code 338 = .ok (.iload_n 1, 1) := by decide +kernel
theorem d1_339 : decode method_2_code 339 = .ok (.iconst 2, 1) := by decide +kernel
theorem d1_340 : decode method_2_code 340 = .ok (.iadd, 1) := by decide +kernel
theorem d1_341 : decode method_2_code 341 = .ok (.iload 9, 2) := by decide +kernel
theorem d1_343 : decode method_2_code 343 = .ok (.bastore, 1) := by decide +kernel
theorem d1_344 : decode method_2_code 344 = .ok (.aload_n 3, 1) := by decide +kernel
theorem d1_345 : decode method_2_code 345 = .ok (.iload_n 1, 1) := by decide +kernel
theorem d1_346 : decode method_2_code 346 = .ok (.iconst 2, 1) := by decide +kernel
theorem d1_347 : decode method_2_code 347 = .ok (.iadd, 1) := by decide +kernel
theorem d1_348 : decode method_2_code 348 = .ok (.iload 5, 2) := by decide +kernel
theorem d1_350 : decode method_2_code 350 = .ok (.iconst 3, 1) := by decide +kernel
theorem d1_351 : decode method_2_code 351 = .ok (.if_icmp .ne 7, 3) := by decide +kernel
theorem d1_354 : decode method_2_code 354 = .ok (.iconst 1, 1) := by decide +kernel
theorem d1_355 : decode method_2_code 355 = .ok (.goto 4, 3) := by decide +kernel
theorem d1_358 : decode method_2_code 358 = .ok (.iconst 0, 1) := by decide +kernel
theorem d1_359 : decode method_2_code 359 = .ok (.bastore, 1) := by decide +kernel
theorem d1_360 : decode method_2_code 360 = .ok (.iload 9, 2) := by decide +kernel
theorem d1_362 : decode method_2_code 362 = .ok (.ifCond .ne 5, 3) := by decide +kernel
theorem d1_365 : decode method_2_code 365 = .ok (.iconst 4, 1) := by decide +kernel
theorem d1_366 : decode method_2_code 366 = .ok (.ireturn, 1) := by decide +kernel
theorem d1_367 : decode method_2_code 367 = .ok (.iload 5, 2) := by decide +kernel
theorem d1_369 : decode method_2_code 369 = .ok (.iconst 4, 1) := by decide +kernel
theorem d1_370 : decode method_2_code 370 = .ok (.if_icmp .lt 60, 3) := by decide +kernel
theorem d1_373 : decode method_2_code 373 = .ok (.iload_n 1, 1) := by decide +kernel
theorem d1_374 : decode method_2_code 374 = .ok (.iconst 3, 1) := by decide +kernel
theorem d1_375 : decode method_2_code 375 = .ok (.iadd, 1) := by decide +kernel
theorem d1_376 : decode method_2_code 376 = .ok (.iconst 4, 1) := by decide +kernel
theorem d1_377 : decode method_2_code 377 = .ok (.if_icmp .ge 53, 3) := by decide +kernel
theorem d1_380 : decode method_2_code 380 = .ok (.aload_n 0, 1) := by decide +kernel
theorem d1_381 : decode method_2_code 381 = .ok (.iload_n 1, 1) := by decide +kernel
theorem d1_382 : decode method_2_code 382 = .ok (.iconst 3, 1) := by decide +kernel
theorem d1_383 : decode method_2_code 383 = .ok (.iadd, 1) := by decide +kernel
theorem d1_384 : decode method_2_code 384 = .ok (.iaload, 1) := by decide +kernel
theorem d1_385 : decode method_2_code 385 = .ok (.istore 8, 2) := by decide +kernel
theorem d1_387 : decode method_2_code 387 = .ok (.iload 8, 2) := by decide +kernel
theorem d1_389 : decode method_2_code 389 = .ok (.sipush 128, 3) := by decide +kernel
theorem d1_392 : decode method_2_code 392 = .ok (.if_icmp .lt 15, 3) := by decide +kernel
theorem d1_395 : decode method_2_code 395 = .ok (.iload 8, 2) := by decide +kernel
theorem d1_397 : decode method_2_code 397 = .ok (.sipush 191, 3) := by decide +kernel
theorem d1_400 : decode method_2_code 400 = .ok (.if_icmp .gt 7, 3) := by decide +kernel
theorem d1_403 : decode method_2_code 403 = .ok (.iconst 1, 1) := by decide +kernel
theorem d1_404 : decode method_2_code 404 = .ok (.goto 4, 3) := by decide +kernel
theorem d1_407 : decode method_2_code 407 = .ok (.iconst 0, 1) := by decide +kernel
theorem d1_408 : decode method_2_code 408 = .ok (.istore 9, 2) := by decide +kernel
theorem d1_410 : decode method_2_code 410 = .ok (.aload_n 2, 1) := by decide +kernel
theorem d1_411 : decode method_2_code 411 = .ok (.iload_n 1, 1) := by decide +kernel
theorem d1_412 : decode method_2_code 412 = .ok (.iconst 3, 1) := by decide +kernel
theorem d1_413 : decode method_2_code 413 = .ok (.iadd, 1) := by decide +kernel
theorem d1_414 : decode method_2_code 414 = .ok (.iload 9, 2) := by decide +kernel
theorem d1_416 : decode method_2_code 416 = .ok (.bastore, 1) := by decide +kernel
theorem d1_417 : decode method_2_code 417 = .ok (.aload_n 3, 1) := by decide +kernel
theorem d1_418 : decode method_2_code 418 = .ok (.iload_n 1, 1) := by decide +kernel
theorem d1_419 : decode method_2_code 419 = .ok (.iconst 3, 1) := by decide +kernel
theorem d1_420 : decode method_2_code 420 = .ok (.iadd, 1) := by decide +kernel
theorem d1_421 : decode method_2_code 421 = .ok (.iconst 1, 1) := by decide +kernel
theorem d1_422 : decode method_2_code 422 = .ok (.bastore, 1) := by decide +kernel
theorem d1_423 : decode method_2_code 423 = .ok (.iload 9, 2) := by decide +kernel
theorem d1_425 : decode method_2_code 425 = .ok (.ifCond .ne 5, 3) := by decide +kernel
theorem d1_428 : decode method_2_code 428 = .ok (.iconst 4, 1) := by decide +kernel
theorem d1_429 : decode method_2_code 429 = .ok (.ireturn, 1) := by decide +kernel
theorem d1_430 : decode method_2_code 430 = .ok (.iload_n 1, 1) := by decide +kernel
theorem d1_431 : decode method_2_code 431 = .ok (.iload 5, 2) := by decide +kernel
theorem d1_433 : decode method_2_code 433 = .ok (.iadd, 1) := by decide +kernel
theorem d1_434 : decode method_2_code 434 = .ok (.ireturn, 1) := by decide +kernel
theorem pn_stp0 : plainName "com/example/firm_tread/firmtread/transport/Utf8AcceptPinLaw" = true := by first | (simp [plainName, overriddenIn]; done) | decide +kernel
theorem ef_stp0 (m : MethodId) (o0 : Addr) (o2 : Addr) (o3 : Addr) : entryFrame m #[(.ref o0), (.int (0 : Int32)), (.ref o2), (.ref o3)] 10 = mkF m 0 #[.val (.ref o0), .val (.int (0 : Int32)), .val (.ref o2), .val (.ref o3), .unset, .unset, .unset, .unset, .unset, .unset] [] := by first | (simp [entryFrame, mkF, argsToLocals, Value.category]; done) | rfl
set_option maxRecDepth 65536 in
set_option maxHeartbeats 40000000 in
theorem stp0 (l : Launch) (Z : State) (a0 : Array Value) (hw : ∀ d ∈ tables_1, d.before a0 Z = true) (o0 : Addr) (o2 : Addr) (o3 : Addr) (v0 : Int32) (v1 : Int32) (v2 : Int32) (v3 : Int32) (a0_ : Bool) (a1_ : Bool) (a2_ : Bool) (a3_ : Bool) (c0_ : Bool) (c1_ : Bool) (c2_ : Bool) (c3_ : Bool) (kv : ClassId) (ko : ClassId) (kc : ClassId) (h0 : Heap) (n0 : Nat) (Z0 : n0 ≤ h0.size) (g_o2 : n0 ≤ o2) (g_o3 : n0 ≤ o3) (P0 : Arv Z h0 o0 kv .int (4 : Int32) [(.int v0), (.int v1), (.int v2), (.int v3)] (.int (0 : Int32))) (P1 : Arv Z h0 o2 ko .boolean (4 : Int32) [(.int (own_b a0_)), (.int (own_b a1_)), (.int (own_b a2_)), (.int (own_b a3_))] (.int (0 : Int32))) (P2 : Arv Z h0 o3 kc .boolean (4 : Int32) [(.int (own_b c0_)), (.int (own_b c1_)), (.int (own_b c2_)), (.int (own_b c3_))] (.int (0 : Int32))) (hn02 : o0 ≠ o2) (hn03 : o0 ≠ o3) (hn23 : o2 ≠ o3) (hv : 0 ≤ v0.toInt ∧ v0.toInt ≤ 255) :
    own_Met l Z (⟨"com/example/firm_tread/firmtread/transport/Utf8AcceptPinLaw", "step", "([II[Z[Z)I"⟩ : MethodName) method_2_code 10 (some .int) [] ({ frames := 0, cells := 0, slots := 0, locals := 0 } : Room) #[(.ref o0), (.int (0 : Int32)), (.ref o2), (.ref o3)] h0 0 0 (fun v h L => ∃ (r : Int32), ∃ (a0' : Bool), ∃ (a1' : Bool), ∃ (a2' : Bool), ∃ (a3' : Bool), ∃ (c0' : Bool), ∃ (c1' : Bool), ∃ (c2' : Bool), ∃ (c3' : Bool), v = some (.int r) ∧ Fr n0 L ∧ Keep h0 h [o2, o3] ∧ ((r = 1 ∧ ∀ t, own_chk ((v0, a0', c0') :: t) 0 128 191 = own_chk t 0 128 191) ∨ (r = 2 ∧ ∀ t, own_chk ((v0, a0', c0') :: (v1, a1', c1') :: t) 0 128 191 = own_chk t 0 128 191) ∨ (r = 3 ∧ ∀ t, own_chk ((v0, a0', c0') :: (v1, a1', c1') :: (v2, a2', c2') :: t) 0 128 191 = own_chk t 0 128 191) ∨ (¬ r < 4 ∧ own_chk [(v0, a0', c0'), (v1, a1', c1'), (v2, a2', c2'), (v3, a3', c3')] 0 128 191 = true)) ∧ Arv Z h o0 kv .int (4 : Int32) [(.int v0), (.int v1), (.int v2), (.int v3)] (.int (0 : Int32)) ∧ Arv Z h o2 ko .boolean (4 : Int32) [(.int (own_b a0')), (.int (own_b a1')), (.int (own_b a2')), (.int (own_b a3'))] (.int (0 : Int32)) ∧ Arv Z h o3 kc .boolean (4 : Int32) [(.int (own_b c0')), (.int (own_b c1')), (.int (own_b c2')), (.int (own_b c3'))] (.int (0 : Int32))) := by
  refine own_met (plainFor_of_name pn_stp0) ?_
  intro p e s m below meth c s₁ Bd hml0 hZ X0 e0
  have hx := Bd.exec
  have hby := Bd.bytes
  have hml : c.maxLocals = 10 := hml0
  have hown : s.vm.findClass "com/example/firm_tread/firmtread/transport/Utf8AcceptPinLaw" = some m.cls := findClass_of_methodNamed Bd.named
  have hnm := (name_of_methodNamed Bd.named Bd.method).1
  refine own_cast (ef_stp0 m o0 o2 o3) ?_
  generalize hQQ : (fun (v : Option Value) (h : Heap) (L : List Loc) => ∃ (r : Int32), ∃ (a0' : Bool), ∃ (a1' : Bool), ∃ (a2' : Bool), ∃ (a3' : Bool), ∃ (c0' : Bool), ∃ (c1' : Bool), ∃ (c2' : Bool), ∃ (c3' : Bool), v = some (.int r) ∧ Fr n0 L ∧ Keep h0 h [o2, o3] ∧ ((r = 1 ∧ ∀ t, own_chk ((v0, a0', c0') :: t) 0 128 191 = own_chk t 0 128 191) ∨ (r = 2 ∧ ∀ t, own_chk ((v0, a0', c0') :: (v1, a1', c1') :: t) 0 128 191 = own_chk t 0 128 191) ∨ (r = 3 ∧ ∀ t, own_chk ((v0, a0', c0') :: (v1, a1', c1') :: (v2, a2', c2') :: t) 0 128 191 = own_chk t 0 128 191) ∨ (¬ r < 4 ∧ own_chk [(v0, a0', c0'), (v1, a1', c1'), (v2, a2', c2'), (v3, a3', c3')] 0 128 191 = true)) ∧ Arv Z h o0 kv .int (4 : Int32) [(.int v0), (.int v1), (.int v2), (.int v3)] (.int (0 : Int32)) ∧ Arv Z h o2 ko .boolean (4 : Int32) [(.int (own_b a0')), (.int (own_b a1')), (.int (own_b a2')), (.int (own_b a3'))] (.int (0 : Int32)) ∧ Arv Z h o3 kc .boolean (4 : Int32) [(.int (own_b c0')), (.int (own_b c1')), (.int (own_b c2')), (.int (own_b c3'))] (.int (0 : Int32))) = QQ
  have N0 := Fr.nil n0
  have K0 := Keep.refl h0 [o2, o3]
  refine own_go (g' := (mkF m 1 #[.val (.ref o0), .val (.int (0 : Int32)), .val (.ref o2), .val (.ref o3), .unset, .unset, .unset, .unset, .unset, .unset] [(.int (0 : Int32))])) (fun _ kgo => XS.iloadN X0.here hx rfl (hb hby d1_0) rfl kgo) ?_
  refine own_go (g' := (mkF m 2 #[.val (.ref o0), .val (.int (0 : Int32)), .val (.ref o2), .val (.ref o3), .unset, .unset, .unset, .unset, .unset, .unset] [(.int (4 : Int32)), (.int (0 : Int32))])) (fun _ kgo => XS.iconst X0.here hx rfl (hb hby d1_1) kgo) ?_
  refine own_go (g' := (mkF m 7 #[.val (.ref o0), .val (.int (0 : Int32)), .val (.ref o2), .val (.ref o3), .unset, .unset, .unset, .unset, .unset, .unset] [])) (fun _ kgo => XS.icmpYes X0.here hx rfl (pc0 := 2) (pc' := 7) rfl (hb hby d1_2) rfl (tlt (by decide)).1 (by decide) (by decide) kgo) ?_
  refine own_go (g' := (mkF m 8 #[.val (.ref o0), .val (.int (0 : Int32)), .val (.ref o2), .val (.ref o3), .unset, .unset, .unset, .unset, .unset, .unset] [(.ref o0)])) (fun _ kgo => XS.aloadN X0.here hx rfl (hb hby d1_7) rfl rfl kgo) ?_
  refine own_go (g' := (mkF m 9 #[.val (.ref o0), .val (.int (0 : Int32)), .val (.ref o2), .val (.ref o3), .unset, .unset, .unset, .unset, .unset, .unset] [(.int (0 : Int32)), (.ref o0)])) (fun _ kgo => XS.iloadN X0.here hx rfl (hb hby d1_8) rfl kgo) ?_
  obtain ⟨cl1, Ar1, qk1, sz1, nn1, Hs1, Gs1⟩ := id P0
  have hin1 : ¬ ((0 : Int32) < 0 ∨ cl1.slots.size ≤ ((0 : Int32)).toNatClampNeg) := inb_of sz1 ⟨by decide, by decide⟩
  have hat1 : cl1.slots[((0 : Int32)).toNatClampNeg]? = some (.int v0) := Has.at Hs1 hin1 rfl
  refine own_go (g' := (mkF m 10 #[.val (.ref o0), .val (.int (0 : Int32)), .val (.ref o2), .val (.ref o3), .unset, .unset, .unset, .unset, .unset, .unset] [(.int v0)])) (X0.iaload hx (j := (0 : Int32)) (v := (.int v0)) (by rw [e0]; exact Ar1.1) (State.isArrayOf_alike hZ.alike Ar1.2.1) Ar1.2.2 hin1 hat1 (g := (mkF m 9 #[.val (.ref o0), .val (.int (0 : Int32)), .val (.ref o2), .val (.ref o3), .unset, .unset, .unset, .unset, .unset, .unset] [(.int (0 : Int32)), (.ref o0)])) rfl rfl (hb hby d1_9)) ?_
  refine own_go (g' := (mkF m 12 #[.val (.ref o0), .val (.int (0 : Int32)), .val (.ref o2), .val (.ref o3), .val (.int v0), .unset, .unset, .unset, .unset, .unset] [])) (fun _ kgo => XS.istore X0.here hx rfl (hb hby d1_10) rfl (l' := #[.val (.ref o0), .val (.int (0 : Int32)), .val (.ref o2), .val (.ref o3), .val (.int v0), .unset, .unset, .unset, .unset, .unset]) rfl kgo) ?_
  refine own_go (g' := (mkF m 15 #[.val (.ref o0), .val (.int (0 : Int32)), .val (.ref o2), .val (.ref o3), .val (.int v0), .unset, .unset, .unset, .unset, .unset] [(.int (128 : Int32))])) (fun _ kgo => XS.sipush X0.here hx rfl (hb hby d1_12) kgo) ?_
  refine own_go (g' := (mkF m 17 #[.val (.ref o0), .val (.int (0 : Int32)), .val (.ref o2), .val (.ref o3), .val (.int v0), .unset, .val (.int (128 : Int32)), .unset, .unset, .unset] [])) (fun _ kgo => XS.istore X0.here hx rfl (hb hby d1_15) rfl (l' := #[.val (.ref o0), .val (.int (0 : Int32)), .val (.ref o2), .val (.ref o3), .val (.int v0), .unset, .val (.int (128 : Int32)), .unset, .unset, .unset]) rfl kgo) ?_
  refine own_go (g' := (mkF m 20 #[.val (.ref o0), .val (.int (0 : Int32)), .val (.ref o2), .val (.ref o3), .val (.int v0), .unset, .val (.int (128 : Int32)), .unset, .unset, .unset] [(.int (191 : Int32))])) (fun _ kgo => XS.sipush X0.here hx rfl (hb hby d1_17) kgo) ?_
  refine own_go (g' := (mkF m 22 #[.val (.ref o0), .val (.int (0 : Int32)), .val (.ref o2), .val (.ref o3), .val (.int v0), .unset, .val (.int (128 : Int32)), .val (.int (191 : Int32)), .unset, .unset] [])) (fun _ kgo => XS.istore X0.here hx rfl (hb hby d1_20) rfl (l' := #[.val (.ref o0), .val (.int (0 : Int32)), .val (.ref o2), .val (.ref o3), .val (.int v0), .unset, .val (.int (128 : Int32)), .val (.int (191 : Int32)), .unset, .unset]) rfl kgo) ?_
  refine own_go (g' := (mkF m 24 #[.val (.ref o0), .val (.int (0 : Int32)), .val (.ref o2), .val (.ref o3), .val (.int v0), .unset, .val (.int (128 : Int32)), .val (.int (191 : Int32)), .unset, .unset] [(.int v0)])) (fun _ kgo => XS.iload X0.here hx rfl (hb hby d1_22) rfl kgo) ?_
  refine own_go (g' := (mkF m 26 #[.val (.ref o0), .val (.int (0 : Int32)), .val (.ref o2), .val (.ref o3), .val (.int v0), .unset, .val (.int (128 : Int32)), .val (.int (191 : Int32)), .unset, .unset] [(.int (127 : Int32)), (.int v0)])) (fun _ kgo => XS.bipush X0.here hx rfl (hb hby d1_24) kgo) ?_
  have J2 : ∀ (len : Int32), ∀ (lo : Int32), ∀ (hi : Int32), (own_cl v0 len lo hi) → (len = 1 ∨ len = 2 ∨ len = 3 ∨ len = 4) → (len = 1 → lo = 128 ∧ hi = 191) → own_Go p e below (own_Post s QQ 0 0) s₁ (mkF m 205 #[.val (.ref o0), .val (.int (0 : Int32)), .val (.ref o2), .val (.ref o3), .val (.int v0), .val (.int len), .val (.int lo), .val (.int hi), .unset, .unset] []) := by
    intro len lo hi hcl hlen hl1
    refine own_go (g' := (mkF m 206 #[.val (.ref o0), .val (.int (0 : Int32)), .val (.ref o2), .val (.ref o3), .val (.int v0), .val (.int len), .val (.int lo), .val (.int hi), .unset, .unset] [(.ref o2)])) (fun _ kgo => XS.aloadN X0.here hx rfl (hb hby d1_205) rfl rfl kgo) ?_
    refine own_go (g' := (mkF m 207 #[.val (.ref o0), .val (.int (0 : Int32)), .val (.ref o2), .val (.ref o3), .val (.int v0), .val (.int len), .val (.int lo), .val (.int hi), .unset, .unset] [(.int (0 : Int32)), (.ref o2)])) (fun _ kgo => XS.iloadN X0.here hx rfl (hb hby d1_206) rfl kgo) ?_
    refine own_go (g' := (mkF m 208 #[.val (.ref o0), .val (.int (0 : Int32)), .val (.ref o2), .val (.ref o3), .val (.int v0), .val (.int len), .val (.int lo), .val (.int hi), .unset, .unset] [(.int (1 : Int32)), (.int (0 : Int32)), (.ref o2)])) (fun _ kgo => XS.iconst X0.here hx rfl (hb hby d1_207) kgo) ?_
    obtain ⟨cl3, Ar3, qk3, sz3, nn3, Hs3, Gs3⟩ := id P1
    have hin3 : ¬ ((0 : Int32) < 0 ∨ cl3.slots.size ≤ ((0 : Int32)).toNatClampNeg) := inb_of sz3 ⟨by decide, by decide⟩
    obtain ⟨T3, h3, X3, e3, W3, st3⟩ := stZ X0 hx hZ e0 Ar3 (j := (0 : Int32)) hin3 (g := (mkF m 208 #[.val (.ref o0), .val (.int (0 : Int32)), .val (.ref o2), .val (.ref o3), .val (.int v0), .val (.int len), .val (.int lo), .val (.int hi), .unset, .unset] [(.int (1 : Int32)), (.int (0 : Int32)), (.ref o2)])) rfl rfl (hb hby d1_208)
    have Vn3 : Arv Z h3 o2 ko .boolean (4 : Int32) [(.int (nar .boolean (own_b true))), (.int (own_b a1_)), (.int (own_b a2_)), (.int (own_b a3_))] (.int (0 : Int32)) := Arv.set Ar3 qk3 sz3 nn3 Hs3 Gs3 (fits_nar_bool _) W3 0 rfl (Nat.le_of_ble_eq_true rfl)
    have V3 : Arv Z h3 o2 ko .boolean (4 : Int32) [(.int (own_b true)), (.int (own_b a1_)), (.int (own_b a2_)), (.int (own_b a3_))] (.int (0 : Int32)) := by rw [own_b_nar] at Vn3; exact Vn3
    have N3 := Fr.snoc X3 N0 g_o2
    have Z3 : n0 ≤ h3.size := by rw [W3.size]; exact Z0
    have K3 : Keep h0 h3 [o2, o3] := K0.wr W3 (Or.inl (List.mem_of_getElem? (i := 0) rfl))
    refine own_go (g' := (mkF m 209 #[.val (.ref o0), .val (.int (0 : Int32)), .val (.ref o2), .val (.ref o3), .val (.int v0), .val (.int len), .val (.int lo), .val (.int hi), .unset, .unset] [])) (st3) ?_
    refine own_go (g' := (mkF m 210 #[.val (.ref o0), .val (.int (0 : Int32)), .val (.ref o2), .val (.ref o3), .val (.int v0), .val (.int len), .val (.int lo), .val (.int hi), .unset, .unset] [(.ref o3)])) (fun _ kgo => XS.aloadN X3.here hx rfl (hb hby d1_209) rfl rfl kgo) ?_
    refine own_go (g' := (mkF m 211 #[.val (.ref o0), .val (.int (0 : Int32)), .val (.ref o2), .val (.ref o3), .val (.int v0), .val (.int len), .val (.int lo), .val (.int hi), .unset, .unset] [(.int (0 : Int32)), (.ref o3)])) (fun _ kgo => XS.iloadN X3.here hx rfl (hb hby d1_210) rfl kgo) ?_
    refine own_go (g' := (mkF m 213 #[.val (.ref o0), .val (.int (0 : Int32)), .val (.ref o2), .val (.ref o3), .val (.int v0), .val (.int len), .val (.int lo), .val (.int hi), .unset, .unset] [(.int len), (.int (0 : Int32)), (.ref o3)])) (fun _ kgo => XS.iload X3.here hx rfl (hb hby d1_211) rfl kgo) ?_
    refine own_go (g' := (mkF m 214 #[.val (.ref o0), .val (.int (0 : Int32)), .val (.ref o2), .val (.ref o3), .val (.int v0), .val (.int len), .val (.int lo), .val (.int hi), .unset, .unset] [(.int (1 : Int32)), (.int len), (.int (0 : Int32)), (.ref o3)])) (fun _ kgo => XS.iconst X3.here hx rfl (hb hby d1_213) kgo) ?_
    have J4 : own_Go p e below (own_Post s QQ 0 0) T3 (mkF m 222 #[.val (.ref o0), .val (.int (0 : Int32)), .val (.ref o2), .val (.ref o3), .val (.int v0), .val (.int len), .val (.int lo), .val (.int hi), .unset, .unset] [(.int (own_b (decide (len = (1 : Int32))))), (.int (0 : Int32)), (.ref o3)]) := by
      have fx5 : Arv Z h3 o3 kc .boolean (4 : Int32) [(.int (own_b c0_)), (.int (own_b c1_)), (.int (own_b c2_)), (.int (own_b c3_))] (.int (0 : Int32)) := (Arv.other P2 W3 (Ne.symm hn23))
      obtain ⟨cl6, Ar6, qk6, sz6, nn6, Hs6, Gs6⟩ := id fx5
      have hin6 : ¬ ((0 : Int32) < 0 ∨ cl6.slots.size ≤ ((0 : Int32)).toNatClampNeg) := inb_of sz6 ⟨by decide, by decide⟩
      obtain ⟨T6, h6, X6, e6, W6, st6⟩ := stZ X3 hx hZ e3 Ar6 (j := (0 : Int32)) hin6 (g := (mkF m 222 #[.val (.ref o0), .val (.int (0 : Int32)), .val (.ref o2), .val (.ref o3), .val (.int v0), .val (.int len), .val (.int lo), .val (.int hi), .unset, .unset] [(.int (own_b (decide (len = (1 : Int32))))), (.int (0 : Int32)), (.ref o3)])) rfl rfl (hb hby d1_222)
      have Vn6 : Arv Z h6 o3 kc .boolean (4 : Int32) [(.int (nar .boolean (own_b (decide (len = (1 : Int32)))))), (.int (own_b c1_)), (.int (own_b c2_)), (.int (own_b c3_))] (.int (0 : Int32)) := Arv.set Ar6 qk6 sz6 nn6 Hs6 Gs6 (fits_nar_bool _) W6 0 rfl (Nat.le_of_ble_eq_true rfl)
      have V6 : Arv Z h6 o3 kc .boolean (4 : Int32) [(.int (own_b (decide (len = (1 : Int32))))), (.int (own_b c1_)), (.int (own_b c2_)), (.int (own_b c3_))] (.int (0 : Int32)) := by rw [own_b_nar] at Vn6; exact Vn6
      have N6 := Fr.snoc X6 N3 g_o3
      have Z6 : n0 ≤ h6.size := by rw [W6.size]; exact Z3
      have K6 : Keep h0 h6 [o2, o3] := K3.wr W6 (Or.inl (List.mem_of_getElem? (i := 1) rfl))
      refine own_go (g' := (mkF m 223 #[.val (.ref o0), .val (.int (0 : Int32)), .val (.ref o2), .val (.ref o3), .val (.int v0), .val (.int len), .val (.int lo), .val (.int hi), .unset, .unset] [])) (st6) ?_
      refine own_go (g' := (mkF m 225 #[.val (.ref o0), .val (.int (0 : Int32)), .val (.ref o2), .val (.ref o3), .val (.int v0), .val (.int len), .val (.int lo), .val (.int hi), .unset, .unset] [(.int len)])) (fun _ kgo => XS.iload X6.here hx rfl (hb hby d1_223) rfl kgo) ?_
      refine own_go (g' := (mkF m 226 #[.val (.ref o0), .val (.int (0 : Int32)), .val (.ref o2), .val (.ref o3), .val (.int v0), .val (.int len), .val (.int lo), .val (.int hi), .unset, .unset] [(.int (2 : Int32)), (.int len)])) (fun _ kgo => XS.iconst X6.here hx rfl (hb hby d1_225) kgo) ?_
      by_cases hc7 : len < (2 : Int32)
      ·
        refine own_go (g' := (mkF m 294 #[.val (.ref o0), .val (.int (0 : Int32)), .val (.ref o2), .val (.ref o3), .val (.int v0), .val (.int len), .val (.int lo), .val (.int hi), .unset, .unset] [])) (fun _ kgo => XS.icmpYes X6.here hx rfl (pc0 := 226) (pc' := 294) rfl (hb hby d1_226) rfl (tlt hc7).1 (by decide) (by decide) kgo) ?_
        refine own_go (g' := (mkF m 296 #[.val (.ref o0), .val (.int (0 : Int32)), .val (.ref o2), .val (.ref o3), .val (.int v0), .val (.int len), .val (.int lo), .val (.int hi), .unset, .unset] [(.int len)])) (fun _ kgo => XS.iload X6.here hx rfl (hb hby d1_294) rfl kgo) ?_
        refine own_go (g' := (mkF m 297 #[.val (.ref o0), .val (.int (0 : Int32)), .val (.ref o2), .val (.ref o3), .val (.int v0), .val (.int len), .val (.int lo), .val (.int hi), .unset, .unset] [(.int (3 : Int32)), (.int len)])) (fun _ kgo => XS.iconst X6.here hx rfl (hb hby d1_296) kgo) ?_
        by_cases hc8 : len < (3 : Int32)
        ·
          refine own_go (g' := (mkF m 367 #[.val (.ref o0), .val (.int (0 : Int32)), .val (.ref o2), .val (.ref o3), .val (.int v0), .val (.int len), .val (.int lo), .val (.int hi), .unset, .unset] [])) (fun _ kgo => XS.icmpYes X6.here hx rfl (pc0 := 297) (pc' := 367) rfl (hb hby d1_297) rfl (tlt hc8).1 (by decide) (by decide) kgo) ?_
          refine own_go (g' := (mkF m 369 #[.val (.ref o0), .val (.int (0 : Int32)), .val (.ref o2), .val (.ref o3), .val (.int v0), .val (.int len), .val (.int lo), .val (.int hi), .unset, .unset] [(.int len)])) (fun _ kgo => XS.iload X6.here hx rfl (hb hby d1_367) rfl kgo) ?_
          refine own_go (g' := (mkF m 370 #[.val (.ref o0), .val (.int (0 : Int32)), .val (.ref o2), .val (.ref o3), .val (.int v0), .val (.int len), .val (.int lo), .val (.int hi), .unset, .unset] [(.int (4 : Int32)), (.int len)])) (fun _ kgo => XS.iconst X6.here hx rfl (hb hby d1_369) kgo) ?_
          by_cases hc9 : len < (4 : Int32)
          ·
            refine own_go (g' := (mkF m 430 #[.val (.ref o0), .val (.int (0 : Int32)), .val (.ref o2), .val (.ref o3), .val (.int v0), .val (.int len), .val (.int lo), .val (.int hi), .unset, .unset] [])) (fun _ kgo => XS.icmpYes X6.here hx rfl (pc0 := 370) (pc' := 430) rfl (hb hby d1_370) rfl (tlt hc9).1 (by decide) (by decide) kgo) ?_
            refine own_go (g' := (mkF m 431 #[.val (.ref o0), .val (.int (0 : Int32)), .val (.ref o2), .val (.ref o3), .val (.int v0), .val (.int len), .val (.int lo), .val (.int hi), .unset, .unset] [(.int (0 : Int32))])) (fun _ kgo => XS.iloadN X6.here hx rfl (hb hby d1_430) rfl kgo) ?_
            refine own_go (g' := (mkF m 433 #[.val (.ref o0), .val (.int (0 : Int32)), .val (.ref o2), .val (.ref o3), .val (.int v0), .val (.int len), .val (.int lo), .val (.int hi), .unset, .unset] [(.int len), (.int (0 : Int32))])) (fun _ kgo => XS.iload X6.here hx rfl (hb hby d1_431) rfl kgo) ?_
            refine own_go (g' := (mkF m 434 #[.val (.ref o0), .val (.int (0 : Int32)), .val (.ref o2), .val (.ref o3), .val (.int v0), .val (.int len), .val (.int lo), .val (.int hi), .unset, .unset] [(.int ((0 : Int32) + len))])) (fun _ kgo => XS.iadd X6.here hx rfl (hb hby d1_433) rfl kgo) ?_
            refine own_retI X6 hx Bd.returns Bd.notSynchronized (hb hby d1_434) (by decide) (by decide) ?_
            show QQ _ T6.heap _
            rw [e6]
            have hrel : ((((0 : Int32) + len) = 1 ∧ ∀ t, own_chk ((v0, true, (decide (len = (1 : Int32)))) :: t) 0 128 191 = own_chk t 0 128 191) ∨ (((0 : Int32) + len) = 2 ∧ ∀ t, own_chk ((v0, true, (decide (len = (1 : Int32)))) :: (v1, a1_, c1_) :: t) 0 128 191 = own_chk t 0 128 191) ∨ (((0 : Int32) + len) = 3 ∧ ∀ t, own_chk ((v0, true, (decide (len = (1 : Int32)))) :: (v1, a1_, c1_) :: (v2, a2_, c2_) :: t) 0 128 191 = own_chk t 0 128 191) ∨ (¬ ((0 : Int32) + len) < 4 ∧ own_chk [(v0, true, (decide (len = (1 : Int32)))), (v1, a1_, c1_), (v2, a2_, c2_), (v3, a3_, c3_)] 0 128 191 = true)) := by
              rcases hlen with rfl | rfl | rfl | rfl
              · first | exact absurd hc7 (by decide) | exact absurd hc8 (by decide) | exact absurd hc9 (by decide) | (exact Or.inl (⟨by decide, fun t => by rw [own_f1 hcl (hl1 rfl).1 (hl1 rfl).2 (by decide)]⟩))
              · first | exact absurd hc7 (by decide) | exact absurd hc8 (by decide) | exact absurd hc9 (by decide) | (exact Or.inr (Or.inl (⟨by decide, fun t => by rw [own_fn hcl (nd := 1) (by decide) (by decide) (by decide)]⟩)))
              · first | exact absurd hc7 (by decide) | exact absurd hc8 (by decide) | exact absurd hc9 (by decide) | (exact Or.inr (Or.inr (Or.inl (⟨by decide, fun t => by rw [own_fn hcl (nd := 2) (by decide) (by decide) (by decide)]⟩))))
              · first | exact absurd hc7 (by decide) | exact absurd hc8 (by decide) | exact absurd hc9 (by decide) | (exact Or.inr (Or.inr (Or.inr ((⟨by decide, by rw [own_fn hcl (nd := 3) (by decide) (by decide) (by decide)]; rfl⟩)))))
            have fx10 : Arv Z h6 o0 kv .int (4 : Int32) [(.int v0), (.int v1), (.int v2), (.int v3)] (.int (0 : Int32)) := (Arv.other (Arv.other P0 W3 hn02) W6 hn03)
            have fx11 : Arv Z h6 o2 ko .boolean (4 : Int32) [(.int (own_b true)), (.int (own_b a1_)), (.int (own_b a2_)), (.int (own_b a3_))] (.int (0 : Int32)) := (Arv.other V3 W6 hn23)
            rw [← hQQ]
            exact ⟨((0 : Int32) + len), true, a1_, a2_, a3_, (decide (len = (1 : Int32))), c1_, c2_, c3_, rfl, N6, K6, hrel, fx10, fx11, V6⟩
          ·
            refine own_go (g' := (mkF m 373 #[.val (.ref o0), .val (.int (0 : Int32)), .val (.ref o2), .val (.ref o3), .val (.int v0), .val (.int len), .val (.int lo), .val (.int hi), .unset, .unset] [])) (fun _ kgo => XS.icmpNo X6.here hx rfl (hb hby d1_370) rfl (flt hc9).1 kgo) ?_
            refine own_go (g' := (mkF m 374 #[.val (.ref o0), .val (.int (0 : Int32)), .val (.ref o2), .val (.ref o3), .val (.int v0), .val (.int len), .val (.int lo), .val (.int hi), .unset, .unset] [(.int (0 : Int32))])) (fun _ kgo => XS.iloadN X6.here hx rfl (hb hby d1_373) rfl kgo) ?_
            refine own_go (g' := (mkF m 375 #[.val (.ref o0), .val (.int (0 : Int32)), .val (.ref o2), .val (.ref o3), .val (.int v0), .val (.int len), .val (.int lo), .val (.int hi), .unset, .unset] [(.int (3 : Int32)), (.int (0 : Int32))])) (fun _ kgo => XS.iconst X6.here hx rfl (hb hby d1_374) kgo) ?_
            refine own_go (g' := (mkF m 376 #[.val (.ref o0), .val (.int (0 : Int32)), .val (.ref o2), .val (.ref o3), .val (.int v0), .val (.int len), .val (.int lo), .val (.int hi), .unset, .unset] [(.int (3 : Int32))])) (fun _ kgo => XS.iadd X6.here hx rfl (hb hby d1_375) rfl kgo) ?_
            refine own_go (g' := (mkF m 377 #[.val (.ref o0), .val (.int (0 : Int32)), .val (.ref o2), .val (.ref o3), .val (.int v0), .val (.int len), .val (.int lo), .val (.int hi), .unset, .unset] [(.int (4 : Int32)), (.int (3 : Int32))])) (fun _ kgo => XS.iconst X6.here hx rfl (hb hby d1_376) kgo) ?_
            refine own_go (g' := (mkF m 380 #[.val (.ref o0), .val (.int (0 : Int32)), .val (.ref o2), .val (.ref o3), .val (.int v0), .val (.int len), .val (.int lo), .val (.int hi), .unset, .unset] [])) (fun _ kgo => XS.icmpNo X6.here hx rfl (hb hby d1_377) rfl (tlt (by decide)).2.1 kgo) ?_
            refine own_go (g' := (mkF m 381 #[.val (.ref o0), .val (.int (0 : Int32)), .val (.ref o2), .val (.ref o3), .val (.int v0), .val (.int len), .val (.int lo), .val (.int hi), .unset, .unset] [(.ref o0)])) (fun _ kgo => XS.aloadN X6.here hx rfl (hb hby d1_380) rfl rfl kgo) ?_
            refine own_go (g' := (mkF m 382 #[.val (.ref o0), .val (.int (0 : Int32)), .val (.ref o2), .val (.ref o3), .val (.int v0), .val (.int len), .val (.int lo), .val (.int hi), .unset, .unset] [(.int (0 : Int32)), (.ref o0)])) (fun _ kgo => XS.iloadN X6.here hx rfl (hb hby d1_381) rfl kgo) ?_
            refine own_go (g' := (mkF m 383 #[.val (.ref o0), .val (.int (0 : Int32)), .val (.ref o2), .val (.ref o3), .val (.int v0), .val (.int len), .val (.int lo), .val (.int hi), .unset, .unset] [(.int (3 : Int32)), (.int (0 : Int32)), (.ref o0)])) (fun _ kgo => XS.iconst X6.here hx rfl (hb hby d1_382) kgo) ?_
            refine own_go (g' := (mkF m 384 #[.val (.ref o0), .val (.int (0 : Int32)), .val (.ref o2), .val (.ref o3), .val (.int v0), .val (.int len), .val (.int lo), .val (.int hi), .unset, .unset] [(.int (3 : Int32)), (.ref o0)])) (fun _ kgo => XS.iadd X6.here hx rfl (hb hby d1_383) rfl kgo) ?_
            have fx12 : Arv Z h6 o0 kv .int (4 : Int32) [(.int v0), (.int v1), (.int v2), (.int v3)] (.int (0 : Int32)) := (Arv.other (Arv.other P0 W3 hn02) W6 hn03)
            obtain ⟨cl13, Ar13, qk13, sz13, nn13, Hs13, Gs13⟩ := id fx12
            have hin13 : ¬ ((3 : Int32) < 0 ∨ cl13.slots.size ≤ ((3 : Int32)).toNatClampNeg) := inb_of sz13 ⟨by decide, by decide⟩
            have hat13 : cl13.slots[((3 : Int32)).toNatClampNeg]? = some (.int v3) := Has.at Hs13 hin13 rfl
            refine own_go (g' := (mkF m 385 #[.val (.ref o0), .val (.int (0 : Int32)), .val (.ref o2), .val (.ref o3), .val (.int v0), .val (.int len), .val (.int lo), .val (.int hi), .unset, .unset] [(.int v3)])) (X6.iaload hx (j := (3 : Int32)) (v := (.int v3)) (by rw [e6]; exact Ar13.1) (State.isArrayOf_alike hZ.alike Ar13.2.1) Ar13.2.2 hin13 hat13 (g := (mkF m 384 #[.val (.ref o0), .val (.int (0 : Int32)), .val (.ref o2), .val (.ref o3), .val (.int v0), .val (.int len), .val (.int lo), .val (.int hi), .unset, .unset] [(.int (3 : Int32)), (.ref o0)])) rfl rfl (hb hby d1_384)) ?_
            refine own_go (g' := (mkF m 387 #[.val (.ref o0), .val (.int (0 : Int32)), .val (.ref o2), .val (.ref o3), .val (.int v0), .val (.int len), .val (.int lo), .val (.int hi), .val (.int v3), .unset] [])) (fun _ kgo => XS.istore X6.here hx rfl (hb hby d1_385) rfl (l' := #[.val (.ref o0), .val (.int (0 : Int32)), .val (.ref o2), .val (.ref o3), .val (.int v0), .val (.int len), .val (.int lo), .val (.int hi), .val (.int v3), .unset]) rfl kgo) ?_
            refine own_go (g' := (mkF m 389 #[.val (.ref o0), .val (.int (0 : Int32)), .val (.ref o2), .val (.ref o3), .val (.int v0), .val (.int len), .val (.int lo), .val (.int hi), .val (.int v3), .unset] [(.int v3)])) (fun _ kgo => XS.iload X6.here hx rfl (hb hby d1_387) rfl kgo) ?_
            refine own_go (g' := (mkF m 392 #[.val (.ref o0), .val (.int (0 : Int32)), .val (.ref o2), .val (.ref o3), .val (.int v0), .val (.int len), .val (.int lo), .val (.int hi), .val (.int v3), .unset] [(.int (128 : Int32)), (.int v3)])) (fun _ kgo => XS.sipush X6.here hx rfl (hb hby d1_389) kgo) ?_
            have J14 : own_Go p e below (own_Post s QQ 0 0) T6 (mkF m 408 #[.val (.ref o0), .val (.int (0 : Int32)), .val (.ref o2), .val (.ref o3), .val (.int v0), .val (.int len), .val (.int lo), .val (.int hi), .val (.int v3), .unset] [(.int (own_b ((!decide (v3 < (128 : Int32)) && !decide ((191 : Int32) < v3)))))]) := by
              suffices JNhg3 : ∀ g3 : Bool, g3 = ((!decide (v3 < (128 : Int32)) && !decide ((191 : Int32) < v3))) → own_Go p e below (own_Post s QQ 0 0) T6 (mkF m 408 #[.val (.ref o0), .val (.int (0 : Int32)), .val (.ref o2), .val (.ref o3), .val (.int v0), .val (.int len), .val (.int lo), .val (.int hi), .val (.int v3), .unset] [(.int (own_b g3))]) from JNhg3 _ (rfl)
              intro g3 hg3
              refine own_go (g' := (mkF m 410 #[.val (.ref o0), .val (.int (0 : Int32)), .val (.ref o2), .val (.ref o3), .val (.int v0), .val (.int len), .val (.int lo), .val (.int hi), .val (.int v3), .val (.int (own_b g3))] [])) (fun _ kgo => XS.istore X6.here hx rfl (hb hby d1_408) rfl (l' := #[.val (.ref o0), .val (.int (0 : Int32)), .val (.ref o2), .val (.ref o3), .val (.int v0), .val (.int len), .val (.int lo), .val (.int hi), .val (.int v3), .val (.int (own_b g3))]) rfl kgo) ?_
              refine own_go (g' := (mkF m 411 #[.val (.ref o0), .val (.int (0 : Int32)), .val (.ref o2), .val (.ref o3), .val (.int v0), .val (.int len), .val (.int lo), .val (.int hi), .val (.int v3), .val (.int (own_b g3))] [(.ref o2)])) (fun _ kgo => XS.aloadN X6.here hx rfl (hb hby d1_410) rfl rfl kgo) ?_
              refine own_go (g' := (mkF m 412 #[.val (.ref o0), .val (.int (0 : Int32)), .val (.ref o2), .val (.ref o3), .val (.int v0), .val (.int len), .val (.int lo), .val (.int hi), .val (.int v3), .val (.int (own_b g3))] [(.int (0 : Int32)), (.ref o2)])) (fun _ kgo => XS.iloadN X6.here hx rfl (hb hby d1_411) rfl kgo) ?_
              refine own_go (g' := (mkF m 413 #[.val (.ref o0), .val (.int (0 : Int32)), .val (.ref o2), .val (.ref o3), .val (.int v0), .val (.int len), .val (.int lo), .val (.int hi), .val (.int v3), .val (.int (own_b g3))] [(.int (3 : Int32)), (.int (0 : Int32)), (.ref o2)])) (fun _ kgo => XS.iconst X6.here hx rfl (hb hby d1_412) kgo) ?_
              refine own_go (g' := (mkF m 414 #[.val (.ref o0), .val (.int (0 : Int32)), .val (.ref o2), .val (.ref o3), .val (.int v0), .val (.int len), .val (.int lo), .val (.int hi), .val (.int v3), .val (.int (own_b g3))] [(.int (3 : Int32)), (.ref o2)])) (fun _ kgo => XS.iadd X6.here hx rfl (hb hby d1_413) rfl kgo) ?_
              refine own_go (g' := (mkF m 416 #[.val (.ref o0), .val (.int (0 : Int32)), .val (.ref o2), .val (.ref o3), .val (.int v0), .val (.int len), .val (.int lo), .val (.int hi), .val (.int v3), .val (.int (own_b g3))] [(.int (own_b g3)), (.int (3 : Int32)), (.ref o2)])) (fun _ kgo => XS.iload X6.here hx rfl (hb hby d1_414) rfl kgo) ?_
              have fx15 : Arv Z h6 o2 ko .boolean (4 : Int32) [(.int (own_b true)), (.int (own_b a1_)), (.int (own_b a2_)), (.int (own_b a3_))] (.int (0 : Int32)) := (Arv.other V3 W6 hn23)
              obtain ⟨cl16, Ar16, qk16, sz16, nn16, Hs16, Gs16⟩ := id fx15
              have hin16 : ¬ ((3 : Int32) < 0 ∨ cl16.slots.size ≤ ((3 : Int32)).toNatClampNeg) := inb_of sz16 ⟨by decide, by decide⟩
              obtain ⟨T16, h16, X16, e16, W16, st16⟩ := stZ X6 hx hZ e6 Ar16 (j := (3 : Int32)) hin16 (g := (mkF m 416 #[.val (.ref o0), .val (.int (0 : Int32)), .val (.ref o2), .val (.ref o3), .val (.int v0), .val (.int len), .val (.int lo), .val (.int hi), .val (.int v3), .val (.int (own_b g3))] [(.int (own_b g3)), (.int (3 : Int32)), (.ref o2)])) rfl rfl (hb hby d1_416)
              have Vn16 : Arv Z h16 o2 ko .boolean (4 : Int32) [(.int (own_b true)), (.int (own_b a1_)), (.int (own_b a2_)), (.int (nar .boolean (own_b g3)))] (.int (0 : Int32)) := Arv.set Ar16 qk16 sz16 nn16 Hs16 Gs16 (fits_nar_bool _) W16 3 rfl (Nat.le_of_ble_eq_true rfl)
              have V16 : Arv Z h16 o2 ko .boolean (4 : Int32) [(.int (own_b true)), (.int (own_b a1_)), (.int (own_b a2_)), (.int (own_b g3))] (.int (0 : Int32)) := by rw [own_b_nar] at Vn16; exact Vn16
              have N16 := Fr.snoc X16 N6 g_o2
              have Z16 : n0 ≤ h16.size := by rw [W16.size]; exact Z6
              have K16 : Keep h0 h16 [o2, o3] := K6.wr W16 (Or.inl (List.mem_of_getElem? (i := 0) rfl))
              refine own_go (g' := (mkF m 417 #[.val (.ref o0), .val (.int (0 : Int32)), .val (.ref o2), .val (.ref o3), .val (.int v0), .val (.int len), .val (.int lo), .val (.int hi), .val (.int v3), .val (.int (own_b g3))] [])) (st16) ?_
              refine own_go (g' := (mkF m 418 #[.val (.ref o0), .val (.int (0 : Int32)), .val (.ref o2), .val (.ref o3), .val (.int v0), .val (.int len), .val (.int lo), .val (.int hi), .val (.int v3), .val (.int (own_b g3))] [(.ref o3)])) (fun _ kgo => XS.aloadN X16.here hx rfl (hb hby d1_417) rfl rfl kgo) ?_
              refine own_go (g' := (mkF m 419 #[.val (.ref o0), .val (.int (0 : Int32)), .val (.ref o2), .val (.ref o3), .val (.int v0), .val (.int len), .val (.int lo), .val (.int hi), .val (.int v3), .val (.int (own_b g3))] [(.int (0 : Int32)), (.ref o3)])) (fun _ kgo => XS.iloadN X16.here hx rfl (hb hby d1_418) rfl kgo) ?_
              refine own_go (g' := (mkF m 420 #[.val (.ref o0), .val (.int (0 : Int32)), .val (.ref o2), .val (.ref o3), .val (.int v0), .val (.int len), .val (.int lo), .val (.int hi), .val (.int v3), .val (.int (own_b g3))] [(.int (3 : Int32)), (.int (0 : Int32)), (.ref o3)])) (fun _ kgo => XS.iconst X16.here hx rfl (hb hby d1_419) kgo) ?_
              refine own_go (g' := (mkF m 421 #[.val (.ref o0), .val (.int (0 : Int32)), .val (.ref o2), .val (.ref o3), .val (.int v0), .val (.int len), .val (.int lo), .val (.int hi), .val (.int v3), .val (.int (own_b g3))] [(.int (3 : Int32)), (.ref o3)])) (fun _ kgo => XS.iadd X16.here hx rfl (hb hby d1_420) rfl kgo) ?_
              refine own_go (g' := (mkF m 422 #[.val (.ref o0), .val (.int (0 : Int32)), .val (.ref o2), .val (.ref o3), .val (.int v0), .val (.int len), .val (.int lo), .val (.int hi), .val (.int v3), .val (.int (own_b g3))] [(.int (1 : Int32)), (.int (3 : Int32)), (.ref o3)])) (fun _ kgo => XS.iconst X16.here hx rfl (hb hby d1_421) kgo) ?_
              have fx17 : Arv Z h16 o3 kc .boolean (4 : Int32) [(.int (own_b (decide (len = (1 : Int32))))), (.int (own_b c1_)), (.int (own_b c2_)), (.int (own_b c3_))] (.int (0 : Int32)) := (Arv.other V6 W16 (Ne.symm hn23))
              obtain ⟨cl18, Ar18, qk18, sz18, nn18, Hs18, Gs18⟩ := id fx17
              have hin18 : ¬ ((3 : Int32) < 0 ∨ cl18.slots.size ≤ ((3 : Int32)).toNatClampNeg) := inb_of sz18 ⟨by decide, by decide⟩
              obtain ⟨T18, h18, X18, e18, W18, st18⟩ := stZ X16 hx hZ e16 Ar18 (j := (3 : Int32)) hin18 (g := (mkF m 422 #[.val (.ref o0), .val (.int (0 : Int32)), .val (.ref o2), .val (.ref o3), .val (.int v0), .val (.int len), .val (.int lo), .val (.int hi), .val (.int v3), .val (.int (own_b g3))] [(.int (1 : Int32)), (.int (3 : Int32)), (.ref o3)])) rfl rfl (hb hby d1_422)
              have Vn18 : Arv Z h18 o3 kc .boolean (4 : Int32) [(.int (own_b (decide (len = (1 : Int32))))), (.int (own_b c1_)), (.int (own_b c2_)), (.int (nar .boolean (own_b true)))] (.int (0 : Int32)) := Arv.set Ar18 qk18 sz18 nn18 Hs18 Gs18 (fits_nar_bool _) W18 3 rfl (Nat.le_of_ble_eq_true rfl)
              have V18 : Arv Z h18 o3 kc .boolean (4 : Int32) [(.int (own_b (decide (len = (1 : Int32))))), (.int (own_b c1_)), (.int (own_b c2_)), (.int (own_b true))] (.int (0 : Int32)) := by rw [own_b_nar] at Vn18; exact Vn18
              have N18 := Fr.snoc X18 N16 g_o3
              have Z18 : n0 ≤ h18.size := by rw [W18.size]; exact Z16
              have K18 : Keep h0 h18 [o2, o3] := K16.wr W18 (Or.inl (List.mem_of_getElem? (i := 1) rfl))
              refine own_go (g' := (mkF m 423 #[.val (.ref o0), .val (.int (0 : Int32)), .val (.ref o2), .val (.ref o3), .val (.int v0), .val (.int len), .val (.int lo), .val (.int hi), .val (.int v3), .val (.int (own_b g3))] [])) (st18) ?_
              refine own_go (g' := (mkF m 425 #[.val (.ref o0), .val (.int (0 : Int32)), .val (.ref o2), .val (.ref o3), .val (.int v0), .val (.int len), .val (.int lo), .val (.int hi), .val (.int v3), .val (.int (own_b g3))] [(.int (own_b g3))])) (fun _ kgo => XS.iload X18.here hx rfl (hb hby d1_423) rfl kgo) ?_
              by_cases hc19 : g3 = true
              ·
                refine own_go (g' := (mkF m 430 #[.val (.ref o0), .val (.int (0 : Int32)), .val (.ref o2), .val (.ref o3), .val (.int v0), .val (.int len), .val (.int lo), .val (.int hi), .val (.int v3), .val (.int (own_b g3))] [])) (fun _ kgo => XS.ifYes X18.here hx rfl (pc0 := 425) (pc' := 430) rfl (hb hby d1_425) rfl ((if0 _ _).trans (feq (own_b_n hc19)).2) (by decide) (by decide) kgo) ?_
                refine own_go (g' := (mkF m 431 #[.val (.ref o0), .val (.int (0 : Int32)), .val (.ref o2), .val (.ref o3), .val (.int v0), .val (.int len), .val (.int lo), .val (.int hi), .val (.int v3), .val (.int (own_b g3))] [(.int (0 : Int32))])) (fun _ kgo => XS.iloadN X18.here hx rfl (hb hby d1_430) rfl kgo) ?_
                refine own_go (g' := (mkF m 433 #[.val (.ref o0), .val (.int (0 : Int32)), .val (.ref o2), .val (.ref o3), .val (.int v0), .val (.int len), .val (.int lo), .val (.int hi), .val (.int v3), .val (.int (own_b g3))] [(.int len), (.int (0 : Int32))])) (fun _ kgo => XS.iload X18.here hx rfl (hb hby d1_431) rfl kgo) ?_
                refine own_go (g' := (mkF m 434 #[.val (.ref o0), .val (.int (0 : Int32)), .val (.ref o2), .val (.ref o3), .val (.int v0), .val (.int len), .val (.int lo), .val (.int hi), .val (.int v3), .val (.int (own_b g3))] [(.int ((0 : Int32) + len))])) (fun _ kgo => XS.iadd X18.here hx rfl (hb hby d1_433) rfl kgo) ?_
                refine own_retI X18 hx Bd.returns Bd.notSynchronized (hb hby d1_434) (by decide) (by decide) ?_
                show QQ _ T18.heap _
                rw [e18]
                have hrel : ((((0 : Int32) + len) = 1 ∧ ∀ t, own_chk ((v0, true, (decide (len = (1 : Int32)))) :: t) 0 128 191 = own_chk t 0 128 191) ∨ (((0 : Int32) + len) = 2 ∧ ∀ t, own_chk ((v0, true, (decide (len = (1 : Int32)))) :: (v1, a1_, c1_) :: t) 0 128 191 = own_chk t 0 128 191) ∨ (((0 : Int32) + len) = 3 ∧ ∀ t, own_chk ((v0, true, (decide (len = (1 : Int32)))) :: (v1, a1_, c1_) :: (v2, a2_, c2_) :: t) 0 128 191 = own_chk t 0 128 191) ∨ (¬ ((0 : Int32) + len) < 4 ∧ own_chk [(v0, true, (decide (len = (1 : Int32)))), (v1, a1_, c1_), (v2, a2_, c2_), (v3, g3, true)] 0 128 191 = true)) := by
                  rcases hlen with rfl | rfl | rfl | rfl
                  · first | exact absurd hc7 (by decide) | exact absurd hc8 (by decide) | exact absurd hc9 (by decide) | (exact Or.inl (⟨by decide, fun t => by rw [own_f1 hcl (hl1 rfl).1 (hl1 rfl).2 (by decide)]⟩))
                  · first | exact absurd hc7 (by decide) | exact absurd hc8 (by decide) | exact absurd hc9 (by decide) | (exact Or.inr (Or.inl (⟨by decide, fun t => by rw [own_fn hcl (nd := 1) (by decide) (by decide) (by decide)]⟩)))
                  · first | exact absurd hc7 (by decide) | exact absurd hc8 (by decide) | exact absurd hc9 (by decide) | (exact Or.inr (Or.inr (Or.inl (⟨by decide, fun t => by rw [own_fn hcl (nd := 2) (by decide) (by decide) (by decide)]⟩))))
                  · first | exact absurd hc7 (by decide) | exact absurd hc8 (by decide) | exact absurd hc9 (by decide) | (exact Or.inr (Or.inr (Or.inr ((⟨by decide, by rw [own_fn hcl (nd := 3) (by decide) (by decide) (by decide)]; rfl⟩)))))
                have fx20 : Arv Z h18 o0 kv .int (4 : Int32) [(.int v0), (.int v1), (.int v2), (.int v3)] (.int (0 : Int32)) := (Arv.other (Arv.other fx12 W16 hn02) W18 hn03)
                have fx21 : Arv Z h18 o2 ko .boolean (4 : Int32) [(.int (own_b true)), (.int (own_b a1_)), (.int (own_b a2_)), (.int (own_b g3))] (.int (0 : Int32)) := (Arv.other V16 W18 hn23)
                rw [← hQQ]
                exact ⟨((0 : Int32) + len), true, a1_, a2_, g3, (decide (len = (1 : Int32))), c1_, c2_, true, rfl, N18, K18, hrel, fx20, fx21, V18⟩
              ·
                refine own_go (g' := (mkF m 428 #[.val (.ref o0), .val (.int (0 : Int32)), .val (.ref o2), .val (.ref o3), .val (.int v0), .val (.int len), .val (.int lo), .val (.int hi), .val (.int v3), .val (.int (own_b g3))] [])) (fun _ kgo => XS.ifNo X18.here hx rfl (hb hby d1_425) rfl ((if0 _ _).trans (teq (own_b_f hc19)).2) kgo) ?_
                refine own_go (g' := (mkF m 429 #[.val (.ref o0), .val (.int (0 : Int32)), .val (.ref o2), .val (.ref o3), .val (.int v0), .val (.int len), .val (.int lo), .val (.int hi), .val (.int v3), .val (.int (own_b g3))] [(.int (4 : Int32))])) (fun _ kgo => XS.iconst X18.here hx rfl (hb hby d1_428) kgo) ?_
                refine own_retI X18 hx Bd.returns Bd.notSynchronized (hb hby d1_429) (by decide) (by decide) ?_
                show QQ _ T18.heap _
                rw [e18]
                have hrel : (((4 : Int32) = 1 ∧ ∀ t, own_chk ((v0, true, (decide (len = (1 : Int32)))) :: t) 0 128 191 = own_chk t 0 128 191) ∨ ((4 : Int32) = 2 ∧ ∀ t, own_chk ((v0, true, (decide (len = (1 : Int32)))) :: (v1, a1_, c1_) :: t) 0 128 191 = own_chk t 0 128 191) ∨ ((4 : Int32) = 3 ∧ ∀ t, own_chk ((v0, true, (decide (len = (1 : Int32)))) :: (v1, a1_, c1_) :: (v2, a2_, c2_) :: t) 0 128 191 = own_chk t 0 128 191) ∨ (¬ (4 : Int32) < 4 ∧ own_chk [(v0, true, (decide (len = (1 : Int32)))), (v1, a1_, c1_), (v2, a2_, c2_), (v3, g3, true)] 0 128 191 = true)) := by
                  rcases hlen with rfl | rfl | rfl | rfl
                  · first | exact absurd hc7 (by decide) | exact absurd hc8 (by decide) | exact absurd hc9 (by decide) | (exact Or.inl (⟨by decide, fun t => by rw [own_f1 hcl (hl1 rfl).1 (hl1 rfl).2 (by decide)]⟩))
                  · first | exact absurd hc7 (by decide) | exact absurd hc8 (by decide) | exact absurd hc9 (by decide) | (exact Or.inr (Or.inl (⟨by decide, fun t => by rw [own_fn hcl (nd := 1) (by decide) (by decide) (by decide)]⟩)))
                  · first | exact absurd hc7 (by decide) | exact absurd hc8 (by decide) | exact absurd hc9 (by decide) | (exact Or.inr (Or.inr (Or.inl (⟨by decide, fun t => by rw [own_fn hcl (nd := 2) (by decide) (by decide) (by decide)]⟩))))
                  · first | exact absurd hc7 (by decide) | exact absurd hc8 (by decide) | exact absurd hc9 (by decide) | (exact Or.inr (Or.inr (Or.inr ((⟨by decide, by rw [own_fn hcl (nd := 3) (by decide) (by decide) (by decide)]; rfl⟩)))))
                have fx22 : Arv Z h18 o0 kv .int (4 : Int32) [(.int v0), (.int v1), (.int v2), (.int v3)] (.int (0 : Int32)) := (Arv.other (Arv.other fx12 W16 hn02) W18 hn03)
                have fx23 : Arv Z h18 o2 ko .boolean (4 : Int32) [(.int (own_b true)), (.int (own_b a1_)), (.int (own_b a2_)), (.int (own_b g3))] (.int (0 : Int32)) := (Arv.other V16 W18 hn23)
                rw [← hQQ]
                exact ⟨(4 : Int32), true, a1_, a2_, g3, (decide (len = (1 : Int32))), c1_, c2_, true, rfl, N18, K18, hrel, fx22, fx23, V18⟩
            by_cases hc24 : v3 < (128 : Int32)
            ·
              refine own_go (g' := (mkF m 407 #[.val (.ref o0), .val (.int (0 : Int32)), .val (.ref o2), .val (.ref o3), .val (.int v0), .val (.int len), .val (.int lo), .val (.int hi), .val (.int v3), .unset] [])) (fun _ kgo => XS.icmpYes X6.here hx rfl (pc0 := 392) (pc' := 407) rfl (hb hby d1_392) rfl (tlt hc24).1 (by decide) (by decide) kgo) ?_
              refine own_go (g' := (mkF m 408 #[.val (.ref o0), .val (.int (0 : Int32)), .val (.ref o2), .val (.ref o3), .val (.int v0), .val (.int len), .val (.int lo), .val (.int hi), .val (.int v3), .unset] [(.int (0 : Int32))])) (fun _ kgo => XS.iconst X6.here hx rfl (hb hby d1_407) kgo) ?_
              have hE14 : own_b ((!decide (v3 < (128 : Int32)) && !decide ((191 : Int32) < v3))) = (0 : Int32) := by simp only [decide_eq_true hc24]; first | done | rfl
              exact own_cast (by rw [hE14]) J14
            ·
              refine own_go (g' := (mkF m 395 #[.val (.ref o0), .val (.int (0 : Int32)), .val (.ref o2), .val (.ref o3), .val (.int v0), .val (.int len), .val (.int lo), .val (.int hi), .val (.int v3), .unset] [])) (fun _ kgo => XS.icmpNo X6.here hx rfl (hb hby d1_392) rfl (flt hc24).1 kgo) ?_
              refine own_go (g' := (mkF m 397 #[.val (.ref o0), .val (.int (0 : Int32)), .val (.ref o2), .val (.ref o3), .val (.int v0), .val (.int len), .val (.int lo), .val (.int hi), .val (.int v3), .unset] [(.int v3)])) (fun _ kgo => XS.iload X6.here hx rfl (hb hby d1_395) rfl kgo) ?_
              refine own_go (g' := (mkF m 400 #[.val (.ref o0), .val (.int (0 : Int32)), .val (.ref o2), .val (.ref o3), .val (.int v0), .val (.int len), .val (.int lo), .val (.int hi), .val (.int v3), .unset] [(.int (191 : Int32)), (.int v3)])) (fun _ kgo => XS.sipush X6.here hx rfl (hb hby d1_397) kgo) ?_
              have J25 : own_Go p e below (own_Post s QQ 0 0) T6 (mkF m 408 #[.val (.ref o0), .val (.int (0 : Int32)), .val (.ref o2), .val (.ref o3), .val (.int v0), .val (.int len), .val (.int lo), .val (.int hi), .val (.int v3), .unset] [(.int (own_b (!decide ((191 : Int32) < v3))))]) := by
                have hE14 : own_b ((!decide (v3 < (128 : Int32)) && !decide ((191 : Int32) < v3))) = (own_b (!decide ((191 : Int32) < v3))) := by simp only [decide_eq_false hc24]; first | done | rfl
                exact own_cast (by rw [hE14]) J14
              by_cases hc26 : (191 : Int32) < v3
              ·
                refine own_go (g' := (mkF m 407 #[.val (.ref o0), .val (.int (0 : Int32)), .val (.ref o2), .val (.ref o3), .val (.int v0), .val (.int len), .val (.int lo), .val (.int hi), .val (.int v3), .unset] [])) (fun _ kgo => XS.icmpYes X6.here hx rfl (pc0 := 400) (pc' := 407) rfl (hb hby d1_400) rfl (tlt hc26).2.2.1 (by decide) (by decide) kgo) ?_
                refine own_go (g' := (mkF m 408 #[.val (.ref o0), .val (.int (0 : Int32)), .val (.ref o2), .val (.ref o3), .val (.int v0), .val (.int len), .val (.int lo), .val (.int hi), .val (.int v3), .unset] [(.int (0 : Int32))])) (fun _ kgo => XS.iconst X6.here hx rfl (hb hby d1_407) kgo) ?_
                have hE25 : own_b (!decide ((191 : Int32) < v3)) = (0 : Int32) := by simp only [decide_eq_true hc26]; first | done | rfl
                exact own_cast (by rw [hE25]) J25
              ·
                refine own_go (g' := (mkF m 403 #[.val (.ref o0), .val (.int (0 : Int32)), .val (.ref o2), .val (.ref o3), .val (.int v0), .val (.int len), .val (.int lo), .val (.int hi), .val (.int v3), .unset] [])) (fun _ kgo => XS.icmpNo X6.here hx rfl (hb hby d1_400) rfl (flt hc26).2.2.1 kgo) ?_
                refine own_go (g' := (mkF m 404 #[.val (.ref o0), .val (.int (0 : Int32)), .val (.ref o2), .val (.ref o3), .val (.int v0), .val (.int len), .val (.int lo), .val (.int hi), .val (.int v3), .unset] [(.int (1 : Int32))])) (fun _ kgo => XS.iconst X6.here hx rfl (hb hby d1_403) kgo) ?_
                refine own_go (g' := (mkF m 408 #[.val (.ref o0), .val (.int (0 : Int32)), .val (.ref o2), .val (.ref o3), .val (.int v0), .val (.int len), .val (.int lo), .val (.int hi), .val (.int v3), .unset] [(.int (1 : Int32))])) (fun _ kgo => XS.goto X6.here hx rfl (pc0 := 404) (pc' := 408) rfl (hb hby d1_404) (by decide) (by decide) kgo) ?_
                have hE25 : own_b (!decide ((191 : Int32) < v3)) = (1 : Int32) := by simp only [decide_eq_false hc26]; first | done | rfl
                exact own_cast (by rw [hE25]) J25
        ·
          refine own_go (g' := (mkF m 300 #[.val (.ref o0), .val (.int (0 : Int32)), .val (.ref o2), .val (.ref o3), .val (.int v0), .val (.int len), .val (.int lo), .val (.int hi), .unset, .unset] [])) (fun _ kgo => XS.icmpNo X6.here hx rfl (hb hby d1_297) rfl (flt hc8).1 kgo) ?_
          refine own_go (g' := (mkF m 301 #[.val (.ref o0), .val (.int (0 : Int32)), .val (.ref o2), .val (.ref o3), .val (.int v0), .val (.int len), .val (.int lo), .val (.int hi), .unset, .unset] [(.int (0 : Int32))])) (fun _ kgo => XS.iloadN X6.here hx rfl (hb hby d1_300) rfl kgo) ?_
          refine own_go (g' := (mkF m 302 #[.val (.ref o0), .val (.int (0 : Int32)), .val (.ref o2), .val (.ref o3), .val (.int v0), .val (.int len), .val (.int lo), .val (.int hi), .unset, .unset] [(.int (2 : Int32)), (.int (0 : Int32))])) (fun _ kgo => XS.iconst X6.here hx rfl (hb hby d1_301) kgo) ?_
          refine own_go (g' := (mkF m 303 #[.val (.ref o0), .val (.int (0 : Int32)), .val (.ref o2), .val (.ref o3), .val (.int v0), .val (.int len), .val (.int lo), .val (.int hi), .unset, .unset] [(.int (2 : Int32))])) (fun _ kgo => XS.iadd X6.here hx rfl (hb hby d1_302) rfl kgo) ?_
          refine own_go (g' := (mkF m 304 #[.val (.ref o0), .val (.int (0 : Int32)), .val (.ref o2), .val (.ref o3), .val (.int v0), .val (.int len), .val (.int lo), .val (.int hi), .unset, .unset] [(.int (4 : Int32)), (.int (2 : Int32))])) (fun _ kgo => XS.iconst X6.here hx rfl (hb hby d1_303) kgo) ?_
          refine own_go (g' := (mkF m 307 #[.val (.ref o0), .val (.int (0 : Int32)), .val (.ref o2), .val (.ref o3), .val (.int v0), .val (.int len), .val (.int lo), .val (.int hi), .unset, .unset] [])) (fun _ kgo => XS.icmpNo X6.here hx rfl (hb hby d1_304) rfl (tlt (by decide)).2.1 kgo) ?_
          refine own_go (g' := (mkF m 308 #[.val (.ref o0), .val (.int (0 : Int32)), .val (.ref o2), .val (.ref o3), .val (.int v0), .val (.int len), .val (.int lo), .val (.int hi), .unset, .unset] [(.ref o0)])) (fun _ kgo => XS.aloadN X6.here hx rfl (hb hby d1_307) rfl rfl kgo) ?_
          refine own_go (g' := (mkF m 309 #[.val (.ref o0), .val (.int (0 : Int32)), .val (.ref o2), .val (.ref o3), .val (.int v0), .val (.int len), .val (.int lo), .val (.int hi), .unset, .unset] [(.int (0 : Int32)), (.ref o0)])) (fun _ kgo => XS.iloadN X6.here hx rfl (hb hby d1_308) rfl kgo) ?_
          refine own_go (g' := (mkF m 310 #[.val (.ref o0), .val (.int (0 : Int32)), .val (.ref o2), .val (.ref o3), .val (.int v0), .val (.int len), .val (.int lo), .val (.int hi), .unset, .unset] [(.int (2 : Int32)), (.int (0 : Int32)), (.ref o0)])) (fun _ kgo => XS.iconst X6.here hx rfl (hb hby d1_309) kgo) ?_
          refine own_go (g' := (mkF m 311 #[.val (.ref o0), .val (.int (0 : Int32)), .val (.ref o2), .val (.ref o3), .val (.int v0), .val (.int len), .val (.int lo), .val (.int hi), .unset, .unset] [(.int (2 : Int32)), (.ref o0)])) (fun _ kgo => XS.iadd X6.here hx rfl (hb hby d1_310) rfl kgo) ?_
          have fx27 : Arv Z h6 o0 kv .int (4 : Int32) [(.int v0), (.int v1), (.int v2), (.int v3)] (.int (0 : Int32)) := (Arv.other (Arv.other P0 W3 hn02) W6 hn03)
          obtain ⟨cl28, Ar28, qk28, sz28, nn28, Hs28, Gs28⟩ := id fx27
          have hin28 : ¬ ((2 : Int32) < 0 ∨ cl28.slots.size ≤ ((2 : Int32)).toNatClampNeg) := inb_of sz28 ⟨by decide, by decide⟩
          have hat28 : cl28.slots[((2 : Int32)).toNatClampNeg]? = some (.int v2) := Has.at Hs28 hin28 rfl
          refine own_go (g' := (mkF m 312 #[.val (.ref o0), .val (.int (0 : Int32)), .val (.ref o2), .val (.ref o3), .val (.int v0), .val (.int len), .val (.int lo), .val (.int hi), .unset, .unset] [(.int v2)])) (X6.iaload hx (j := (2 : Int32)) (v := (.int v2)) (by rw [e6]; exact Ar28.1) (State.isArrayOf_alike hZ.alike Ar28.2.1) Ar28.2.2 hin28 hat28 (g := (mkF m 311 #[.val (.ref o0), .val (.int (0 : Int32)), .val (.ref o2), .val (.ref o3), .val (.int v0), .val (.int len), .val (.int lo), .val (.int hi), .unset, .unset] [(.int (2 : Int32)), (.ref o0)])) rfl rfl (hb hby d1_311)) ?_
          refine own_go (g' := (mkF m 314 #[.val (.ref o0), .val (.int (0 : Int32)), .val (.ref o2), .val (.ref o3), .val (.int v0), .val (.int len), .val (.int lo), .val (.int hi), .val (.int v2), .unset] [])) (fun _ kgo => XS.istore X6.here hx rfl (hb hby d1_312) rfl (l' := #[.val (.ref o0), .val (.int (0 : Int32)), .val (.ref o2), .val (.ref o3), .val (.int v0), .val (.int len), .val (.int lo), .val (.int hi), .val (.int v2), .unset]) rfl kgo) ?_
          refine own_go (g' := (mkF m 316 #[.val (.ref o0), .val (.int (0 : Int32)), .val (.ref o2), .val (.ref o3), .val (.int v0), .val (.int len), .val (.int lo), .val (.int hi), .val (.int v2), .unset] [(.int v2)])) (fun _ kgo => XS.iload X6.here hx rfl (hb hby d1_314) rfl kgo) ?_
          refine own_go (g' := (mkF m 319 #[.val (.ref o0), .val (.int (0 : Int32)), .val (.ref o2), .val (.ref o3), .val (.int v0), .val (.int len), .val (.int lo), .val (.int hi), .val (.int v2), .unset] [(.int (128 : Int32)), (.int v2)])) (fun _ kgo => XS.sipush X6.here hx rfl (hb hby d1_316) kgo) ?_
          have J29 : own_Go p e below (own_Post s QQ 0 0) T6 (mkF m 335 #[.val (.ref o0), .val (.int (0 : Int32)), .val (.ref o2), .val (.ref o3), .val (.int v0), .val (.int len), .val (.int lo), .val (.int hi), .val (.int v2), .unset] [(.int (own_b ((!decide (v2 < (128 : Int32)) && !decide ((191 : Int32) < v2)))))]) := by
            suffices JNhg2 : ∀ g2 : Bool, g2 = ((!decide (v2 < (128 : Int32)) && !decide ((191 : Int32) < v2))) → own_Go p e below (own_Post s QQ 0 0) T6 (mkF m 335 #[.val (.ref o0), .val (.int (0 : Int32)), .val (.ref o2), .val (.ref o3), .val (.int v0), .val (.int len), .val (.int lo), .val (.int hi), .val (.int v2), .unset] [(.int (own_b g2))]) from JNhg2 _ (rfl)
            intro g2 hg2
            refine own_go (g' := (mkF m 337 #[.val (.ref o0), .val (.int (0 : Int32)), .val (.ref o2), .val (.ref o3), .val (.int v0), .val (.int len), .val (.int lo), .val (.int hi), .val (.int v2), .val (.int (own_b g2))] [])) (fun _ kgo => XS.istore X6.here hx rfl (hb hby d1_335) rfl (l' := #[.val (.ref o0), .val (.int (0 : Int32)), .val (.ref o2), .val (.ref o3), .val (.int v0), .val (.int len), .val (.int lo), .val (.int hi), .val (.int v2), .val (.int (own_b g2))]) rfl kgo) ?_
            refine own_go (g' := (mkF m 338 #[.val (.ref o0), .val (.int (0 : Int32)), .val (.ref o2), .val (.ref o3), .val (.int v0), .val (.int len), .val (.int lo), .val (.int hi), .val (.int v2), .val (.int (own_b g2))] [(.ref o2)])) (fun _ kgo => XS.aloadN X6.here hx rfl (hb hby d1_337) rfl rfl kgo) ?_
            refine own_go (g' := (mkF m 339 #[.val (.ref o0), .val (.int (0 : Int32)), .val (.ref o2), .val (.ref o3), .val (.int v0), .val (.int len), .val (.int lo), .val (.int hi), .val (.int v2), .val (.int (own_b g2))] [(.int (0 : Int32)), (.ref o2)])) (fun _ kgo => XS.iloadN X6.here hx rfl (hb hby d1_338) rfl kgo) ?_
            refine own_go (g' := (mkF m 340 #[.val (.ref o0), .val (.int (0 : Int32)), .val (.ref o2), .val (.ref o3), .val (.int v0), .val (.int len), .val (.int lo), .val (.int hi), .val (.int v2), .val (.int (own_b g2))] [(.int (2 : Int32)), (.int (0 : Int32)), (.ref o2)])) (fun _ kgo => XS.iconst X6.here hx rfl (hb hby d1_339) kgo) ?_
            refine own_go (g' := (mkF m 341 #[.val (.ref o0), .val (.int (0 : Int32)), .val (.ref o2), .val (.ref o3), .val (.int v0), .val (.int len), .val (.int lo), .val (.int hi), .val (.int v2), .val (.int (own_b g2))] [(.int (2 : Int32)), (.ref o2)])) (fun _ kgo => XS.iadd X6.here hx rfl (hb hby d1_340) rfl kgo) ?_
            refine own_go (g' := (mkF m 343 #[.val (.ref o0), .val (.int (0 : Int32)), .val (.ref o2), .val (.ref o3), .val (.int v0), .val (.int len), .val (.int lo), .val (.int hi), .val (.int v2), .val (.int (own_b g2))] [(.int (own_b g2)), (.int (2 : Int32)), (.ref o2)])) (fun _ kgo => XS.iload X6.here hx rfl (hb hby d1_341) rfl kgo) ?_
            have fx30 : Arv Z h6 o2 ko .boolean (4 : Int32) [(.int (own_b true)), (.int (own_b a1_)), (.int (own_b a2_)), (.int (own_b a3_))] (.int (0 : Int32)) := (Arv.other V3 W6 hn23)
            obtain ⟨cl31, Ar31, qk31, sz31, nn31, Hs31, Gs31⟩ := id fx30
            have hin31 : ¬ ((2 : Int32) < 0 ∨ cl31.slots.size ≤ ((2 : Int32)).toNatClampNeg) := inb_of sz31 ⟨by decide, by decide⟩
            obtain ⟨T31, h31, X31, e31, W31, st31⟩ := stZ X6 hx hZ e6 Ar31 (j := (2 : Int32)) hin31 (g := (mkF m 343 #[.val (.ref o0), .val (.int (0 : Int32)), .val (.ref o2), .val (.ref o3), .val (.int v0), .val (.int len), .val (.int lo), .val (.int hi), .val (.int v2), .val (.int (own_b g2))] [(.int (own_b g2)), (.int (2 : Int32)), (.ref o2)])) rfl rfl (hb hby d1_343)
            have Vn31 : Arv Z h31 o2 ko .boolean (4 : Int32) [(.int (own_b true)), (.int (own_b a1_)), (.int (nar .boolean (own_b g2))), (.int (own_b a3_))] (.int (0 : Int32)) := Arv.set Ar31 qk31 sz31 nn31 Hs31 Gs31 (fits_nar_bool _) W31 2 rfl (Nat.le_of_ble_eq_true rfl)
            have V31 : Arv Z h31 o2 ko .boolean (4 : Int32) [(.int (own_b true)), (.int (own_b a1_)), (.int (own_b g2)), (.int (own_b a3_))] (.int (0 : Int32)) := by rw [own_b_nar] at Vn31; exact Vn31
            have N31 := Fr.snoc X31 N6 g_o2
            have Z31 : n0 ≤ h31.size := by rw [W31.size]; exact Z6
            have K31 : Keep h0 h31 [o2, o3] := K6.wr W31 (Or.inl (List.mem_of_getElem? (i := 0) rfl))
            refine own_go (g' := (mkF m 344 #[.val (.ref o0), .val (.int (0 : Int32)), .val (.ref o2), .val (.ref o3), .val (.int v0), .val (.int len), .val (.int lo), .val (.int hi), .val (.int v2), .val (.int (own_b g2))] [])) (st31) ?_
            refine own_go (g' := (mkF m 345 #[.val (.ref o0), .val (.int (0 : Int32)), .val (.ref o2), .val (.ref o3), .val (.int v0), .val (.int len), .val (.int lo), .val (.int hi), .val (.int v2), .val (.int (own_b g2))] [(.ref o3)])) (fun _ kgo => XS.aloadN X31.here hx rfl (hb hby d1_344) rfl rfl kgo) ?_
            refine own_go (g' := (mkF m 346 #[.val (.ref o0), .val (.int (0 : Int32)), .val (.ref o2), .val (.ref o3), .val (.int v0), .val (.int len), .val (.int lo), .val (.int hi), .val (.int v2), .val (.int (own_b g2))] [(.int (0 : Int32)), (.ref o3)])) (fun _ kgo => XS.iloadN X31.here hx rfl (hb hby d1_345) rfl kgo) ?_
            refine own_go (g' := (mkF m 347 #[.val (.ref o0), .val (.int (0 : Int32)), .val (.ref o2), .val (.ref o3), .val (.int v0), .val (.int len), .val (.int lo), .val (.int hi), .val (.int v2), .val (.int (own_b g2))] [(.int (2 : Int32)), (.int (0 : Int32)), (.ref o3)])) (fun _ kgo => XS.iconst X31.here hx rfl (hb hby d1_346) kgo) ?_
            refine own_go (g' := (mkF m 348 #[.val (.ref o0), .val (.int (0 : Int32)), .val (.ref o2), .val (.ref o3), .val (.int v0), .val (.int len), .val (.int lo), .val (.int hi), .val (.int v2), .val (.int (own_b g2))] [(.int (2 : Int32)), (.ref o3)])) (fun _ kgo => XS.iadd X31.here hx rfl (hb hby d1_347) rfl kgo) ?_
            refine own_go (g' := (mkF m 350 #[.val (.ref o0), .val (.int (0 : Int32)), .val (.ref o2), .val (.ref o3), .val (.int v0), .val (.int len), .val (.int lo), .val (.int hi), .val (.int v2), .val (.int (own_b g2))] [(.int len), (.int (2 : Int32)), (.ref o3)])) (fun _ kgo => XS.iload X31.here hx rfl (hb hby d1_348) rfl kgo) ?_
            refine own_go (g' := (mkF m 351 #[.val (.ref o0), .val (.int (0 : Int32)), .val (.ref o2), .val (.ref o3), .val (.int v0), .val (.int len), .val (.int lo), .val (.int hi), .val (.int v2), .val (.int (own_b g2))] [(.int (3 : Int32)), (.int len), (.int (2 : Int32)), (.ref o3)])) (fun _ kgo => XS.iconst X31.here hx rfl (hb hby d1_350) kgo) ?_
            have J32 : own_Go p e below (own_Post s QQ 0 0) T31 (mkF m 359 #[.val (.ref o0), .val (.int (0 : Int32)), .val (.ref o2), .val (.ref o3), .val (.int v0), .val (.int len), .val (.int lo), .val (.int hi), .val (.int v2), .val (.int (own_b g2))] [(.int (own_b (decide (len = (3 : Int32))))), (.int (2 : Int32)), (.ref o3)]) := by
              have fx33 : Arv Z h31 o3 kc .boolean (4 : Int32) [(.int (own_b (decide (len = (1 : Int32))))), (.int (own_b c1_)), (.int (own_b c2_)), (.int (own_b c3_))] (.int (0 : Int32)) := (Arv.other V6 W31 (Ne.symm hn23))
              obtain ⟨cl34, Ar34, qk34, sz34, nn34, Hs34, Gs34⟩ := id fx33
              have hin34 : ¬ ((2 : Int32) < 0 ∨ cl34.slots.size ≤ ((2 : Int32)).toNatClampNeg) := inb_of sz34 ⟨by decide, by decide⟩
              obtain ⟨T34, h34, X34, e34, W34, st34⟩ := stZ X31 hx hZ e31 Ar34 (j := (2 : Int32)) hin34 (g := (mkF m 359 #[.val (.ref o0), .val (.int (0 : Int32)), .val (.ref o2), .val (.ref o3), .val (.int v0), .val (.int len), .val (.int lo), .val (.int hi), .val (.int v2), .val (.int (own_b g2))] [(.int (own_b (decide (len = (3 : Int32))))), (.int (2 : Int32)), (.ref o3)])) rfl rfl (hb hby d1_359)
              have Vn34 : Arv Z h34 o3 kc .boolean (4 : Int32) [(.int (own_b (decide (len = (1 : Int32))))), (.int (own_b c1_)), (.int (nar .boolean (own_b (decide (len = (3 : Int32)))))), (.int (own_b c3_))] (.int (0 : Int32)) := Arv.set Ar34 qk34 sz34 nn34 Hs34 Gs34 (fits_nar_bool _) W34 2 rfl (Nat.le_of_ble_eq_true rfl)
              have V34 : Arv Z h34 o3 kc .boolean (4 : Int32) [(.int (own_b (decide (len = (1 : Int32))))), (.int (own_b c1_)), (.int (own_b (decide (len = (3 : Int32))))), (.int (own_b c3_))] (.int (0 : Int32)) := by rw [own_b_nar] at Vn34; exact Vn34
              have N34 := Fr.snoc X34 N31 g_o3
              have Z34 : n0 ≤ h34.size := by rw [W34.size]; exact Z31
              have K34 : Keep h0 h34 [o2, o3] := K31.wr W34 (Or.inl (List.mem_of_getElem? (i := 1) rfl))
              refine own_go (g' := (mkF m 360 #[.val (.ref o0), .val (.int (0 : Int32)), .val (.ref o2), .val (.ref o3), .val (.int v0), .val (.int len), .val (.int lo), .val (.int hi), .val (.int v2), .val (.int (own_b g2))] [])) (st34) ?_
              refine own_go (g' := (mkF m 362 #[.val (.ref o0), .val (.int (0 : Int32)), .val (.ref o2), .val (.ref o3), .val (.int v0), .val (.int len), .val (.int lo), .val (.int hi), .val (.int v2), .val (.int (own_b g2))] [(.int (own_b g2))])) (fun _ kgo => XS.iload X34.here hx rfl (hb hby d1_360) rfl kgo) ?_
              by_cases hc35 : g2 = true
              ·
                refine own_go (g' := (mkF m 367 #[.val (.ref o0), .val (.int (0 : Int32)), .val (.ref o2), .val (.ref o3), .val (.int v0), .val (.int len), .val (.int lo), .val (.int hi), .val (.int v2), .val (.int (own_b g2))] [])) (fun _ kgo => XS.ifYes X34.here hx rfl (pc0 := 362) (pc' := 367) rfl (hb hby d1_362) rfl ((if0 _ _).trans (feq (own_b_n hc35)).2) (by decide) (by decide) kgo) ?_
                refine own_go (g' := (mkF m 369 #[.val (.ref o0), .val (.int (0 : Int32)), .val (.ref o2), .val (.ref o3), .val (.int v0), .val (.int len), .val (.int lo), .val (.int hi), .val (.int v2), .val (.int (own_b g2))] [(.int len)])) (fun _ kgo => XS.iload X34.here hx rfl (hb hby d1_367) rfl kgo) ?_
                refine own_go (g' := (mkF m 370 #[.val (.ref o0), .val (.int (0 : Int32)), .val (.ref o2), .val (.ref o3), .val (.int v0), .val (.int len), .val (.int lo), .val (.int hi), .val (.int v2), .val (.int (own_b g2))] [(.int (4 : Int32)), (.int len)])) (fun _ kgo => XS.iconst X34.here hx rfl (hb hby d1_369) kgo) ?_
                by_cases hc36 : len < (4 : Int32)
                ·
                  refine own_go (g' := (mkF m 430 #[.val (.ref o0), .val (.int (0 : Int32)), .val (.ref o2), .val (.ref o3), .val (.int v0), .val (.int len), .val (.int lo), .val (.int hi), .val (.int v2), .val (.int (own_b g2))] [])) (fun _ kgo => XS.icmpYes X34.here hx rfl (pc0 := 370) (pc' := 430) rfl (hb hby d1_370) rfl (tlt hc36).1 (by decide) (by decide) kgo) ?_
                  refine own_go (g' := (mkF m 431 #[.val (.ref o0), .val (.int (0 : Int32)), .val (.ref o2), .val (.ref o3), .val (.int v0), .val (.int len), .val (.int lo), .val (.int hi), .val (.int v2), .val (.int (own_b g2))] [(.int (0 : Int32))])) (fun _ kgo => XS.iloadN X34.here hx rfl (hb hby d1_430) rfl kgo) ?_
                  refine own_go (g' := (mkF m 433 #[.val (.ref o0), .val (.int (0 : Int32)), .val (.ref o2), .val (.ref o3), .val (.int v0), .val (.int len), .val (.int lo), .val (.int hi), .val (.int v2), .val (.int (own_b g2))] [(.int len), (.int (0 : Int32))])) (fun _ kgo => XS.iload X34.here hx rfl (hb hby d1_431) rfl kgo) ?_
                  refine own_go (g' := (mkF m 434 #[.val (.ref o0), .val (.int (0 : Int32)), .val (.ref o2), .val (.ref o3), .val (.int v0), .val (.int len), .val (.int lo), .val (.int hi), .val (.int v2), .val (.int (own_b g2))] [(.int ((0 : Int32) + len))])) (fun _ kgo => XS.iadd X34.here hx rfl (hb hby d1_433) rfl kgo) ?_
                  refine own_retI X34 hx Bd.returns Bd.notSynchronized (hb hby d1_434) (by decide) (by decide) ?_
                  show QQ _ T34.heap _
                  rw [e34]
                  have hrel : ((((0 : Int32) + len) = 1 ∧ ∀ t, own_chk ((v0, true, (decide (len = (1 : Int32)))) :: t) 0 128 191 = own_chk t 0 128 191) ∨ (((0 : Int32) + len) = 2 ∧ ∀ t, own_chk ((v0, true, (decide (len = (1 : Int32)))) :: (v1, a1_, c1_) :: t) 0 128 191 = own_chk t 0 128 191) ∨ (((0 : Int32) + len) = 3 ∧ ∀ t, own_chk ((v0, true, (decide (len = (1 : Int32)))) :: (v1, a1_, c1_) :: (v2, g2, (decide (len = (3 : Int32)))) :: t) 0 128 191 = own_chk t 0 128 191) ∨ (¬ ((0 : Int32) + len) < 4 ∧ own_chk [(v0, true, (decide (len = (1 : Int32)))), (v1, a1_, c1_), (v2, g2, (decide (len = (3 : Int32)))), (v3, a3_, c3_)] 0 128 191 = true)) := by
                    rcases hlen with rfl | rfl | rfl | rfl
                    · first | exact absurd hc7 (by decide) | exact absurd hc8 (by decide) | exact absurd hc36 (by decide) | (exact Or.inl (⟨by decide, fun t => by rw [own_f1 hcl (hl1 rfl).1 (hl1 rfl).2 (by decide)]⟩))
                    · first | exact absurd hc7 (by decide) | exact absurd hc8 (by decide) | exact absurd hc36 (by decide) | (exact Or.inr (Or.inl (⟨by decide, fun t => by rw [own_fn hcl (nd := 1) (by decide) (by decide) (by decide)]⟩)))
                    · first | exact absurd hc7 (by decide) | exact absurd hc8 (by decide) | exact absurd hc36 (by decide) | (exact Or.inr (Or.inr (Or.inl (⟨by decide, fun t => by rw [own_fn hcl (nd := 2) (by decide) (by decide) (by decide)]⟩))))
                    · first | exact absurd hc7 (by decide) | exact absurd hc8 (by decide) | exact absurd hc36 (by decide) | (exact Or.inr (Or.inr (Or.inr ((⟨by decide, by rw [own_fn hcl (nd := 3) (by decide) (by decide) (by decide)]; rfl⟩)))))
                  have fx37 : Arv Z h34 o0 kv .int (4 : Int32) [(.int v0), (.int v1), (.int v2), (.int v3)] (.int (0 : Int32)) := (Arv.other (Arv.other fx27 W31 hn02) W34 hn03)
                  have fx38 : Arv Z h34 o2 ko .boolean (4 : Int32) [(.int (own_b true)), (.int (own_b a1_)), (.int (own_b g2)), (.int (own_b a3_))] (.int (0 : Int32)) := (Arv.other V31 W34 hn23)
                  rw [← hQQ]
                  exact ⟨((0 : Int32) + len), true, a1_, g2, a3_, (decide (len = (1 : Int32))), c1_, (decide (len = (3 : Int32))), c3_, rfl, N34, K34, hrel, fx37, fx38, V34⟩
                ·
                  refine own_go (g' := (mkF m 373 #[.val (.ref o0), .val (.int (0 : Int32)), .val (.ref o2), .val (.ref o3), .val (.int v0), .val (.int len), .val (.int lo), .val (.int hi), .val (.int v2), .val (.int (own_b g2))] [])) (fun _ kgo => XS.icmpNo X34.here hx rfl (hb hby d1_370) rfl (flt hc36).1 kgo) ?_
                  refine own_go (g' := (mkF m 374 #[.val (.ref o0), .val (.int (0 : Int32)), .val (.ref o2), .val (.ref o3), .val (.int v0), .val (.int len), .val (.int lo), .val (.int hi), .val (.int v2), .val (.int (own_b g2))] [(.int (0 : Int32))])) (fun _ kgo => XS.iloadN X34.here hx rfl (hb hby d1_373) rfl kgo) ?_
                  refine own_go (g' := (mkF m 375 #[.val (.ref o0), .val (.int (0 : Int32)), .val (.ref o2), .val (.ref o3), .val (.int v0), .val (.int len), .val (.int lo), .val (.int hi), .val (.int v2), .val (.int (own_b g2))] [(.int (3 : Int32)), (.int (0 : Int32))])) (fun _ kgo => XS.iconst X34.here hx rfl (hb hby d1_374) kgo) ?_
                  refine own_go (g' := (mkF m 376 #[.val (.ref o0), .val (.int (0 : Int32)), .val (.ref o2), .val (.ref o3), .val (.int v0), .val (.int len), .val (.int lo), .val (.int hi), .val (.int v2), .val (.int (own_b g2))] [(.int (3 : Int32))])) (fun _ kgo => XS.iadd X34.here hx rfl (hb hby d1_375) rfl kgo) ?_
                  refine own_go (g' := (mkF m 377 #[.val (.ref o0), .val (.int (0 : Int32)), .val (.ref o2), .val (.ref o3), .val (.int v0), .val (.int len), .val (.int lo), .val (.int hi), .val (.int v2), .val (.int (own_b g2))] [(.int (4 : Int32)), (.int (3 : Int32))])) (fun _ kgo => XS.iconst X34.here hx rfl (hb hby d1_376) kgo) ?_
                  refine own_go (g' := (mkF m 380 #[.val (.ref o0), .val (.int (0 : Int32)), .val (.ref o2), .val (.ref o3), .val (.int v0), .val (.int len), .val (.int lo), .val (.int hi), .val (.int v2), .val (.int (own_b g2))] [])) (fun _ kgo => XS.icmpNo X34.here hx rfl (hb hby d1_377) rfl (tlt (by decide)).2.1 kgo) ?_
                  refine own_go (g' := (mkF m 381 #[.val (.ref o0), .val (.int (0 : Int32)), .val (.ref o2), .val (.ref o3), .val (.int v0), .val (.int len), .val (.int lo), .val (.int hi), .val (.int v2), .val (.int (own_b g2))] [(.ref o0)])) (fun _ kgo => XS.aloadN X34.here hx rfl (hb hby d1_380) rfl rfl kgo) ?_
                  refine own_go (g' := (mkF m 382 #[.val (.ref o0), .val (.int (0 : Int32)), .val (.ref o2), .val (.ref o3), .val (.int v0), .val (.int len), .val (.int lo), .val (.int hi), .val (.int v2), .val (.int (own_b g2))] [(.int (0 : Int32)), (.ref o0)])) (fun _ kgo => XS.iloadN X34.here hx rfl (hb hby d1_381) rfl kgo) ?_
                  refine own_go (g' := (mkF m 383 #[.val (.ref o0), .val (.int (0 : Int32)), .val (.ref o2), .val (.ref o3), .val (.int v0), .val (.int len), .val (.int lo), .val (.int hi), .val (.int v2), .val (.int (own_b g2))] [(.int (3 : Int32)), (.int (0 : Int32)), (.ref o0)])) (fun _ kgo => XS.iconst X34.here hx rfl (hb hby d1_382) kgo) ?_
                  refine own_go (g' := (mkF m 384 #[.val (.ref o0), .val (.int (0 : Int32)), .val (.ref o2), .val (.ref o3), .val (.int v0), .val (.int len), .val (.int lo), .val (.int hi), .val (.int v2), .val (.int (own_b g2))] [(.int (3 : Int32)), (.ref o0)])) (fun _ kgo => XS.iadd X34.here hx rfl (hb hby d1_383) rfl kgo) ?_
                  have fx39 : Arv Z h34 o0 kv .int (4 : Int32) [(.int v0), (.int v1), (.int v2), (.int v3)] (.int (0 : Int32)) := (Arv.other (Arv.other fx27 W31 hn02) W34 hn03)
                  obtain ⟨cl40, Ar40, qk40, sz40, nn40, Hs40, Gs40⟩ := id fx39
                  have hin40 : ¬ ((3 : Int32) < 0 ∨ cl40.slots.size ≤ ((3 : Int32)).toNatClampNeg) := inb_of sz40 ⟨by decide, by decide⟩
                  have hat40 : cl40.slots[((3 : Int32)).toNatClampNeg]? = some (.int v3) := Has.at Hs40 hin40 rfl
                  refine own_go (g' := (mkF m 385 #[.val (.ref o0), .val (.int (0 : Int32)), .val (.ref o2), .val (.ref o3), .val (.int v0), .val (.int len), .val (.int lo), .val (.int hi), .val (.int v2), .val (.int (own_b g2))] [(.int v3)])) (X34.iaload hx (j := (3 : Int32)) (v := (.int v3)) (by rw [e34]; exact Ar40.1) (State.isArrayOf_alike hZ.alike Ar40.2.1) Ar40.2.2 hin40 hat40 (g := (mkF m 384 #[.val (.ref o0), .val (.int (0 : Int32)), .val (.ref o2), .val (.ref o3), .val (.int v0), .val (.int len), .val (.int lo), .val (.int hi), .val (.int v2), .val (.int (own_b g2))] [(.int (3 : Int32)), (.ref o0)])) rfl rfl (hb hby d1_384)) ?_
                  refine own_go (g' := (mkF m 387 #[.val (.ref o0), .val (.int (0 : Int32)), .val (.ref o2), .val (.ref o3), .val (.int v0), .val (.int len), .val (.int lo), .val (.int hi), .val (.int v3), .val (.int (own_b g2))] [])) (fun _ kgo => XS.istore X34.here hx rfl (hb hby d1_385) rfl (l' := #[.val (.ref o0), .val (.int (0 : Int32)), .val (.ref o2), .val (.ref o3), .val (.int v0), .val (.int len), .val (.int lo), .val (.int hi), .val (.int v3), .val (.int (own_b g2))]) rfl kgo) ?_
                  refine own_go (g' := (mkF m 389 #[.val (.ref o0), .val (.int (0 : Int32)), .val (.ref o2), .val (.ref o3), .val (.int v0), .val (.int len), .val (.int lo), .val (.int hi), .val (.int v3), .val (.int (own_b g2))] [(.int v3)])) (fun _ kgo => XS.iload X34.here hx rfl (hb hby d1_387) rfl kgo) ?_
                  refine own_go (g' := (mkF m 392 #[.val (.ref o0), .val (.int (0 : Int32)), .val (.ref o2), .val (.ref o3), .val (.int v0), .val (.int len), .val (.int lo), .val (.int hi), .val (.int v3), .val (.int (own_b g2))] [(.int (128 : Int32)), (.int v3)])) (fun _ kgo => XS.sipush X34.here hx rfl (hb hby d1_389) kgo) ?_
                  have J41 : own_Go p e below (own_Post s QQ 0 0) T34 (mkF m 408 #[.val (.ref o0), .val (.int (0 : Int32)), .val (.ref o2), .val (.ref o3), .val (.int v0), .val (.int len), .val (.int lo), .val (.int hi), .val (.int v3), .val (.int (own_b g2))] [(.int (own_b ((!decide (v3 < (128 : Int32)) && !decide ((191 : Int32) < v3)))))]) := by
                    suffices JNhg3 : ∀ g3 : Bool, g3 = ((!decide (v3 < (128 : Int32)) && !decide ((191 : Int32) < v3))) → own_Go p e below (own_Post s QQ 0 0) T34 (mkF m 408 #[.val (.ref o0), .val (.int (0 : Int32)), .val (.ref o2), .val (.ref o3), .val (.int v0), .val (.int len), .val (.int lo), .val (.int hi), .val (.int v3), .val (.int (own_b g2))] [(.int (own_b g3))]) from JNhg3 _ (rfl)
                    intro g3 hg3
                    refine own_go (g' := (mkF m 410 #[.val (.ref o0), .val (.int (0 : Int32)), .val (.ref o2), .val (.ref o3), .val (.int v0), .val (.int len), .val (.int lo), .val (.int hi), .val (.int v3), .val (.int (own_b g3))] [])) (fun _ kgo => XS.istore X34.here hx rfl (hb hby d1_408) rfl (l' := #[.val (.ref o0), .val (.int (0 : Int32)), .val (.ref o2), .val (.ref o3), .val (.int v0), .val (.int len), .val (.int lo), .val (.int hi), .val (.int v3), .val (.int (own_b g3))]) rfl kgo) ?_
                    refine own_go (g' := (mkF m 411 #[.val (.ref o0), .val (.int (0 : Int32)), .val (.ref o2), .val (.ref o3), .val (.int v0), .val (.int len), .val (.int lo), .val (.int hi), .val (.int v3), .val (.int (own_b g3))] [(.ref o2)])) (fun _ kgo => XS.aloadN X34.here hx rfl (hb hby d1_410) rfl rfl kgo) ?_
                    refine own_go (g' := (mkF m 412 #[.val (.ref o0), .val (.int (0 : Int32)), .val (.ref o2), .val (.ref o3), .val (.int v0), .val (.int len), .val (.int lo), .val (.int hi), .val (.int v3), .val (.int (own_b g3))] [(.int (0 : Int32)), (.ref o2)])) (fun _ kgo => XS.iloadN X34.here hx rfl (hb hby d1_411) rfl kgo) ?_
                    refine own_go (g' := (mkF m 413 #[.val (.ref o0), .val (.int (0 : Int32)), .val (.ref o2), .val (.ref o3), .val (.int v0), .val (.int len), .val (.int lo), .val (.int hi), .val (.int v3), .val (.int (own_b g3))] [(.int (3 : Int32)), (.int (0 : Int32)), (.ref o2)])) (fun _ kgo => XS.iconst X34.here hx rfl (hb hby d1_412) kgo) ?_
                    refine own_go (g' := (mkF m 414 #[.val (.ref o0), .val (.int (0 : Int32)), .val (.ref o2), .val (.ref o3), .val (.int v0), .val (.int len), .val (.int lo), .val (.int hi), .val (.int v3), .val (.int (own_b g3))] [(.int (3 : Int32)), (.ref o2)])) (fun _ kgo => XS.iadd X34.here hx rfl (hb hby d1_413) rfl kgo) ?_
                    refine own_go (g' := (mkF m 416 #[.val (.ref o0), .val (.int (0 : Int32)), .val (.ref o2), .val (.ref o3), .val (.int v0), .val (.int len), .val (.int lo), .val (.int hi), .val (.int v3), .val (.int (own_b g3))] [(.int (own_b g3)), (.int (3 : Int32)), (.ref o2)])) (fun _ kgo => XS.iload X34.here hx rfl (hb hby d1_414) rfl kgo) ?_
                    have fx42 : Arv Z h34 o2 ko .boolean (4 : Int32) [(.int (own_b true)), (.int (own_b a1_)), (.int (own_b g2)), (.int (own_b a3_))] (.int (0 : Int32)) := (Arv.other V31 W34 hn23)
                    obtain ⟨cl43, Ar43, qk43, sz43, nn43, Hs43, Gs43⟩ := id fx42
                    have hin43 : ¬ ((3 : Int32) < 0 ∨ cl43.slots.size ≤ ((3 : Int32)).toNatClampNeg) := inb_of sz43 ⟨by decide, by decide⟩
                    obtain ⟨T43, h43, X43, e43, W43, st43⟩ := stZ X34 hx hZ e34 Ar43 (j := (3 : Int32)) hin43 (g := (mkF m 416 #[.val (.ref o0), .val (.int (0 : Int32)), .val (.ref o2), .val (.ref o3), .val (.int v0), .val (.int len), .val (.int lo), .val (.int hi), .val (.int v3), .val (.int (own_b g3))] [(.int (own_b g3)), (.int (3 : Int32)), (.ref o2)])) rfl rfl (hb hby d1_416)
                    have Vn43 : Arv Z h43 o2 ko .boolean (4 : Int32) [(.int (own_b true)), (.int (own_b a1_)), (.int (own_b g2)), (.int (nar .boolean (own_b g3)))] (.int (0 : Int32)) := Arv.set Ar43 qk43 sz43 nn43 Hs43 Gs43 (fits_nar_bool _) W43 3 rfl (Nat.le_of_ble_eq_true rfl)
                    have V43 : Arv Z h43 o2 ko .boolean (4 : Int32) [(.int (own_b true)), (.int (own_b a1_)), (.int (own_b g2)), (.int (own_b g3))] (.int (0 : Int32)) := by rw [own_b_nar] at Vn43; exact Vn43
                    have N43 := Fr.snoc X43 N34 g_o2
                    have Z43 : n0 ≤ h43.size := by rw [W43.size]; exact Z34
                    have K43 : Keep h0 h43 [o2, o3] := K34.wr W43 (Or.inl (List.mem_of_getElem? (i := 0) rfl))
                    refine own_go (g' := (mkF m 417 #[.val (.ref o0), .val (.int (0 : Int32)), .val (.ref o2), .val (.ref o3), .val (.int v0), .val (.int len), .val (.int lo), .val (.int hi), .val (.int v3), .val (.int (own_b g3))] [])) (st43) ?_
                    refine own_go (g' := (mkF m 418 #[.val (.ref o0), .val (.int (0 : Int32)), .val (.ref o2), .val (.ref o3), .val (.int v0), .val (.int len), .val (.int lo), .val (.int hi), .val (.int v3), .val (.int (own_b g3))] [(.ref o3)])) (fun _ kgo => XS.aloadN X43.here hx rfl (hb hby d1_417) rfl rfl kgo) ?_
                    refine own_go (g' := (mkF m 419 #[.val (.ref o0), .val (.int (0 : Int32)), .val (.ref o2), .val (.ref o3), .val (.int v0), .val (.int len), .val (.int lo), .val (.int hi), .val (.int v3), .val (.int (own_b g3))] [(.int (0 : Int32)), (.ref o3)])) (fun _ kgo => XS.iloadN X43.here hx rfl (hb hby d1_418) rfl kgo) ?_
                    refine own_go (g' := (mkF m 420 #[.val (.ref o0), .val (.int (0 : Int32)), .val (.ref o2), .val (.ref o3), .val (.int v0), .val (.int len), .val (.int lo), .val (.int hi), .val (.int v3), .val (.int (own_b g3))] [(.int (3 : Int32)), (.int (0 : Int32)), (.ref o3)])) (fun _ kgo => XS.iconst X43.here hx rfl (hb hby d1_419) kgo) ?_
                    refine own_go (g' := (mkF m 421 #[.val (.ref o0), .val (.int (0 : Int32)), .val (.ref o2), .val (.ref o3), .val (.int v0), .val (.int len), .val (.int lo), .val (.int hi), .val (.int v3), .val (.int (own_b g3))] [(.int (3 : Int32)), (.ref o3)])) (fun _ kgo => XS.iadd X43.here hx rfl (hb hby d1_420) rfl kgo) ?_
                    refine own_go (g' := (mkF m 422 #[.val (.ref o0), .val (.int (0 : Int32)), .val (.ref o2), .val (.ref o3), .val (.int v0), .val (.int len), .val (.int lo), .val (.int hi), .val (.int v3), .val (.int (own_b g3))] [(.int (1 : Int32)), (.int (3 : Int32)), (.ref o3)])) (fun _ kgo => XS.iconst X43.here hx rfl (hb hby d1_421) kgo) ?_
                    have fx44 : Arv Z h43 o3 kc .boolean (4 : Int32) [(.int (own_b (decide (len = (1 : Int32))))), (.int (own_b c1_)), (.int (own_b (decide (len = (3 : Int32))))), (.int (own_b c3_))] (.int (0 : Int32)) := (Arv.other V34 W43 (Ne.symm hn23))
                    obtain ⟨cl45, Ar45, qk45, sz45, nn45, Hs45, Gs45⟩ := id fx44
                    have hin45 : ¬ ((3 : Int32) < 0 ∨ cl45.slots.size ≤ ((3 : Int32)).toNatClampNeg) := inb_of sz45 ⟨by decide, by decide⟩
                    obtain ⟨T45, h45, X45, e45, W45, st45⟩ := stZ X43 hx hZ e43 Ar45 (j := (3 : Int32)) hin45 (g := (mkF m 422 #[.val (.ref o0), .val (.int (0 : Int32)), .val (.ref o2), .val (.ref o3), .val (.int v0), .val (.int len), .val (.int lo), .val (.int hi), .val (.int v3), .val (.int (own_b g3))] [(.int (1 : Int32)), (.int (3 : Int32)), (.ref o3)])) rfl rfl (hb hby d1_422)
                    have Vn45 : Arv Z h45 o3 kc .boolean (4 : Int32) [(.int (own_b (decide (len = (1 : Int32))))), (.int (own_b c1_)), (.int (own_b (decide (len = (3 : Int32))))), (.int (nar .boolean (own_b true)))] (.int (0 : Int32)) := Arv.set Ar45 qk45 sz45 nn45 Hs45 Gs45 (fits_nar_bool _) W45 3 rfl (Nat.le_of_ble_eq_true rfl)
                    have V45 : Arv Z h45 o3 kc .boolean (4 : Int32) [(.int (own_b (decide (len = (1 : Int32))))), (.int (own_b c1_)), (.int (own_b (decide (len = (3 : Int32))))), (.int (own_b true))] (.int (0 : Int32)) := by rw [own_b_nar] at Vn45; exact Vn45
                    have N45 := Fr.snoc X45 N43 g_o3
                    have Z45 : n0 ≤ h45.size := by rw [W45.size]; exact Z43
                    have K45 : Keep h0 h45 [o2, o3] := K43.wr W45 (Or.inl (List.mem_of_getElem? (i := 1) rfl))
                    refine own_go (g' := (mkF m 423 #[.val (.ref o0), .val (.int (0 : Int32)), .val (.ref o2), .val (.ref o3), .val (.int v0), .val (.int len), .val (.int lo), .val (.int hi), .val (.int v3), .val (.int (own_b g3))] [])) (st45) ?_
                    refine own_go (g' := (mkF m 425 #[.val (.ref o0), .val (.int (0 : Int32)), .val (.ref o2), .val (.ref o3), .val (.int v0), .val (.int len), .val (.int lo), .val (.int hi), .val (.int v3), .val (.int (own_b g3))] [(.int (own_b g3))])) (fun _ kgo => XS.iload X45.here hx rfl (hb hby d1_423) rfl kgo) ?_
                    by_cases hc46 : g3 = true
                    ·
                      refine own_go (g' := (mkF m 430 #[.val (.ref o0), .val (.int (0 : Int32)), .val (.ref o2), .val (.ref o3), .val (.int v0), .val (.int len), .val (.int lo), .val (.int hi), .val (.int v3), .val (.int (own_b g3))] [])) (fun _ kgo => XS.ifYes X45.here hx rfl (pc0 := 425) (pc' := 430) rfl (hb hby d1_425) rfl ((if0 _ _).trans (feq (own_b_n hc46)).2) (by decide) (by decide) kgo) ?_
                      refine own_go (g' := (mkF m 431 #[.val (.ref o0), .val (.int (0 : Int32)), .val (.ref o2), .val (.ref o3), .val (.int v0), .val (.int len), .val (.int lo), .val (.int hi), .val (.int v3), .val (.int (own_b g3))] [(.int (0 : Int32))])) (fun _ kgo => XS.iloadN X45.here hx rfl (hb hby d1_430) rfl kgo) ?_
                      refine own_go (g' := (mkF m 433 #[.val (.ref o0), .val (.int (0 : Int32)), .val (.ref o2), .val (.ref o3), .val (.int v0), .val (.int len), .val (.int lo), .val (.int hi), .val (.int v3), .val (.int (own_b g3))] [(.int len), (.int (0 : Int32))])) (fun _ kgo => XS.iload X45.here hx rfl (hb hby d1_431) rfl kgo) ?_
                      refine own_go (g' := (mkF m 434 #[.val (.ref o0), .val (.int (0 : Int32)), .val (.ref o2), .val (.ref o3), .val (.int v0), .val (.int len), .val (.int lo), .val (.int hi), .val (.int v3), .val (.int (own_b g3))] [(.int ((0 : Int32) + len))])) (fun _ kgo => XS.iadd X45.here hx rfl (hb hby d1_433) rfl kgo) ?_
                      refine own_retI X45 hx Bd.returns Bd.notSynchronized (hb hby d1_434) (by decide) (by decide) ?_
                      show QQ _ T45.heap _
                      rw [e45]
                      have hrel : ((((0 : Int32) + len) = 1 ∧ ∀ t, own_chk ((v0, true, (decide (len = (1 : Int32)))) :: t) 0 128 191 = own_chk t 0 128 191) ∨ (((0 : Int32) + len) = 2 ∧ ∀ t, own_chk ((v0, true, (decide (len = (1 : Int32)))) :: (v1, a1_, c1_) :: t) 0 128 191 = own_chk t 0 128 191) ∨ (((0 : Int32) + len) = 3 ∧ ∀ t, own_chk ((v0, true, (decide (len = (1 : Int32)))) :: (v1, a1_, c1_) :: (v2, g2, (decide (len = (3 : Int32)))) :: t) 0 128 191 = own_chk t 0 128 191) ∨ (¬ ((0 : Int32) + len) < 4 ∧ own_chk [(v0, true, (decide (len = (1 : Int32)))), (v1, a1_, c1_), (v2, g2, (decide (len = (3 : Int32)))), (v3, g3, true)] 0 128 191 = true)) := by
                        rcases hlen with rfl | rfl | rfl | rfl
                        · first | exact absurd hc7 (by decide) | exact absurd hc8 (by decide) | exact absurd hc36 (by decide) | (exact Or.inl (⟨by decide, fun t => by rw [own_f1 hcl (hl1 rfl).1 (hl1 rfl).2 (by decide)]⟩))
                        · first | exact absurd hc7 (by decide) | exact absurd hc8 (by decide) | exact absurd hc36 (by decide) | (exact Or.inr (Or.inl (⟨by decide, fun t => by rw [own_fn hcl (nd := 1) (by decide) (by decide) (by decide)]⟩)))
                        · first | exact absurd hc7 (by decide) | exact absurd hc8 (by decide) | exact absurd hc36 (by decide) | (exact Or.inr (Or.inr (Or.inl (⟨by decide, fun t => by rw [own_fn hcl (nd := 2) (by decide) (by decide) (by decide)]⟩))))
                        · first | exact absurd hc7 (by decide) | exact absurd hc8 (by decide) | exact absurd hc36 (by decide) | (exact Or.inr (Or.inr (Or.inr ((⟨by decide, by rw [own_fn hcl (nd := 3) (by decide) (by decide) (by decide)]; rfl⟩)))))
                      have fx47 : Arv Z h45 o0 kv .int (4 : Int32) [(.int v0), (.int v1), (.int v2), (.int v3)] (.int (0 : Int32)) := (Arv.other (Arv.other fx39 W43 hn02) W45 hn03)
                      have fx48 : Arv Z h45 o2 ko .boolean (4 : Int32) [(.int (own_b true)), (.int (own_b a1_)), (.int (own_b g2)), (.int (own_b g3))] (.int (0 : Int32)) := (Arv.other V43 W45 hn23)
                      rw [← hQQ]
                      exact ⟨((0 : Int32) + len), true, a1_, g2, g3, (decide (len = (1 : Int32))), c1_, (decide (len = (3 : Int32))), true, rfl, N45, K45, hrel, fx47, fx48, V45⟩
                    ·
                      refine own_go (g' := (mkF m 428 #[.val (.ref o0), .val (.int (0 : Int32)), .val (.ref o2), .val (.ref o3), .val (.int v0), .val (.int len), .val (.int lo), .val (.int hi), .val (.int v3), .val (.int (own_b g3))] [])) (fun _ kgo => XS.ifNo X45.here hx rfl (hb hby d1_425) rfl ((if0 _ _).trans (teq (own_b_f hc46)).2) kgo) ?_
                      refine own_go (g' := (mkF m 429 #[.val (.ref o0), .val (.int (0 : Int32)), .val (.ref o2), .val (.ref o3), .val (.int v0), .val (.int len), .val (.int lo), .val (.int hi), .val (.int v3), .val (.int (own_b g3))] [(.int (4 : Int32))])) (fun _ kgo => XS.iconst X45.here hx rfl (hb hby d1_428) kgo) ?_
                      refine own_retI X45 hx Bd.returns Bd.notSynchronized (hb hby d1_429) (by decide) (by decide) ?_
                      show QQ _ T45.heap _
                      rw [e45]
                      have hrel : (((4 : Int32) = 1 ∧ ∀ t, own_chk ((v0, true, (decide (len = (1 : Int32)))) :: t) 0 128 191 = own_chk t 0 128 191) ∨ ((4 : Int32) = 2 ∧ ∀ t, own_chk ((v0, true, (decide (len = (1 : Int32)))) :: (v1, a1_, c1_) :: t) 0 128 191 = own_chk t 0 128 191) ∨ ((4 : Int32) = 3 ∧ ∀ t, own_chk ((v0, true, (decide (len = (1 : Int32)))) :: (v1, a1_, c1_) :: (v2, g2, (decide (len = (3 : Int32)))) :: t) 0 128 191 = own_chk t 0 128 191) ∨ (¬ (4 : Int32) < 4 ∧ own_chk [(v0, true, (decide (len = (1 : Int32)))), (v1, a1_, c1_), (v2, g2, (decide (len = (3 : Int32)))), (v3, g3, true)] 0 128 191 = true)) := by
                        rcases hlen with rfl | rfl | rfl | rfl
                        · first | exact absurd hc7 (by decide) | exact absurd hc8 (by decide) | exact absurd hc36 (by decide) | (exact Or.inl (⟨by decide, fun t => by rw [own_f1 hcl (hl1 rfl).1 (hl1 rfl).2 (by decide)]⟩))
                        · first | exact absurd hc7 (by decide) | exact absurd hc8 (by decide) | exact absurd hc36 (by decide) | (exact Or.inr (Or.inl (⟨by decide, fun t => by rw [own_fn hcl (nd := 1) (by decide) (by decide) (by decide)]⟩)))
                        · first | exact absurd hc7 (by decide) | exact absurd hc8 (by decide) | exact absurd hc36 (by decide) | (exact Or.inr (Or.inr (Or.inl (⟨by decide, fun t => by rw [own_fn hcl (nd := 2) (by decide) (by decide) (by decide)]⟩))))
                        · first | exact absurd hc7 (by decide) | exact absurd hc8 (by decide) | exact absurd hc36 (by decide) | (exact Or.inr (Or.inr (Or.inr ((⟨by decide, by rw [own_fn hcl (nd := 3) (by decide) (by decide) (by decide)]; rfl⟩)))))
                      have fx49 : Arv Z h45 o0 kv .int (4 : Int32) [(.int v0), (.int v1), (.int v2), (.int v3)] (.int (0 : Int32)) := (Arv.other (Arv.other fx39 W43 hn02) W45 hn03)
                      have fx50 : Arv Z h45 o2 ko .boolean (4 : Int32) [(.int (own_b true)), (.int (own_b a1_)), (.int (own_b g2)), (.int (own_b g3))] (.int (0 : Int32)) := (Arv.other V43 W45 hn23)
                      rw [← hQQ]
                      exact ⟨(4 : Int32), true, a1_, g2, g3, (decide (len = (1 : Int32))), c1_, (decide (len = (3 : Int32))), true, rfl, N45, K45, hrel, fx49, fx50, V45⟩
                  by_cases hc51 : v3 < (128 : Int32)
                  ·
                    refine own_go (g' := (mkF m 407 #[.val (.ref o0), .val (.int (0 : Int32)), .val (.ref o2), .val (.ref o3), .val (.int v0), .val (.int len), .val (.int lo), .val (.int hi), .val (.int v3), .val (.int (own_b g2))] [])) (fun _ kgo => XS.icmpYes X34.here hx rfl (pc0 := 392) (pc' := 407) rfl (hb hby d1_392) rfl (tlt hc51).1 (by decide) (by decide) kgo) ?_
                    refine own_go (g' := (mkF m 408 #[.val (.ref o0), .val (.int (0 : Int32)), .val (.ref o2), .val (.ref o3), .val (.int v0), .val (.int len), .val (.int lo), .val (.int hi), .val (.int v3), .val (.int (own_b g2))] [(.int (0 : Int32))])) (fun _ kgo => XS.iconst X34.here hx rfl (hb hby d1_407) kgo) ?_
                    have hE41 : own_b ((!decide (v3 < (128 : Int32)) && !decide ((191 : Int32) < v3))) = (0 : Int32) := by simp only [decide_eq_true hc51]; first | done | rfl
                    exact own_cast (by rw [hE41]) J41
                  ·
                    refine own_go (g' := (mkF m 395 #[.val (.ref o0), .val (.int (0 : Int32)), .val (.ref o2), .val (.ref o3), .val (.int v0), .val (.int len), .val (.int lo), .val (.int hi), .val (.int v3), .val (.int (own_b g2))] [])) (fun _ kgo => XS.icmpNo X34.here hx rfl (hb hby d1_392) rfl (flt hc51).1 kgo) ?_
                    refine own_go (g' := (mkF m 397 #[.val (.ref o0), .val (.int (0 : Int32)), .val (.ref o2), .val (.ref o3), .val (.int v0), .val (.int len), .val (.int lo), .val (.int hi), .val (.int v3), .val (.int (own_b g2))] [(.int v3)])) (fun _ kgo => XS.iload X34.here hx rfl (hb hby d1_395) rfl kgo) ?_
                    refine own_go (g' := (mkF m 400 #[.val (.ref o0), .val (.int (0 : Int32)), .val (.ref o2), .val (.ref o3), .val (.int v0), .val (.int len), .val (.int lo), .val (.int hi), .val (.int v3), .val (.int (own_b g2))] [(.int (191 : Int32)), (.int v3)])) (fun _ kgo => XS.sipush X34.here hx rfl (hb hby d1_397) kgo) ?_
                    have J52 : own_Go p e below (own_Post s QQ 0 0) T34 (mkF m 408 #[.val (.ref o0), .val (.int (0 : Int32)), .val (.ref o2), .val (.ref o3), .val (.int v0), .val (.int len), .val (.int lo), .val (.int hi), .val (.int v3), .val (.int (own_b g2))] [(.int (own_b (!decide ((191 : Int32) < v3))))]) := by
                      have hE41 : own_b ((!decide (v3 < (128 : Int32)) && !decide ((191 : Int32) < v3))) = (own_b (!decide ((191 : Int32) < v3))) := by simp only [decide_eq_false hc51]; first | done | rfl
                      exact own_cast (by rw [hE41]) J41
                    by_cases hc53 : (191 : Int32) < v3
                    ·
                      refine own_go (g' := (mkF m 407 #[.val (.ref o0), .val (.int (0 : Int32)), .val (.ref o2), .val (.ref o3), .val (.int v0), .val (.int len), .val (.int lo), .val (.int hi), .val (.int v3), .val (.int (own_b g2))] [])) (fun _ kgo => XS.icmpYes X34.here hx rfl (pc0 := 400) (pc' := 407) rfl (hb hby d1_400) rfl (tlt hc53).2.2.1 (by decide) (by decide) kgo) ?_
                      refine own_go (g' := (mkF m 408 #[.val (.ref o0), .val (.int (0 : Int32)), .val (.ref o2), .val (.ref o3), .val (.int v0), .val (.int len), .val (.int lo), .val (.int hi), .val (.int v3), .val (.int (own_b g2))] [(.int (0 : Int32))])) (fun _ kgo => XS.iconst X34.here hx rfl (hb hby d1_407) kgo) ?_
                      have hE52 : own_b (!decide ((191 : Int32) < v3)) = (0 : Int32) := by simp only [decide_eq_true hc53]; first | done | rfl
                      exact own_cast (by rw [hE52]) J52
                    ·
                      refine own_go (g' := (mkF m 403 #[.val (.ref o0), .val (.int (0 : Int32)), .val (.ref o2), .val (.ref o3), .val (.int v0), .val (.int len), .val (.int lo), .val (.int hi), .val (.int v3), .val (.int (own_b g2))] [])) (fun _ kgo => XS.icmpNo X34.here hx rfl (hb hby d1_400) rfl (flt hc53).2.2.1 kgo) ?_
                      refine own_go (g' := (mkF m 404 #[.val (.ref o0), .val (.int (0 : Int32)), .val (.ref o2), .val (.ref o3), .val (.int v0), .val (.int len), .val (.int lo), .val (.int hi), .val (.int v3), .val (.int (own_b g2))] [(.int (1 : Int32))])) (fun _ kgo => XS.iconst X34.here hx rfl (hb hby d1_403) kgo) ?_
                      refine own_go (g' := (mkF m 408 #[.val (.ref o0), .val (.int (0 : Int32)), .val (.ref o2), .val (.ref o3), .val (.int v0), .val (.int len), .val (.int lo), .val (.int hi), .val (.int v3), .val (.int (own_b g2))] [(.int (1 : Int32))])) (fun _ kgo => XS.goto X34.here hx rfl (pc0 := 404) (pc' := 408) rfl (hb hby d1_404) (by decide) (by decide) kgo) ?_
                      have hE52 : own_b (!decide ((191 : Int32) < v3)) = (1 : Int32) := by simp only [decide_eq_false hc53]; first | done | rfl
                      exact own_cast (by rw [hE52]) J52
              ·
                refine own_go (g' := (mkF m 365 #[.val (.ref o0), .val (.int (0 : Int32)), .val (.ref o2), .val (.ref o3), .val (.int v0), .val (.int len), .val (.int lo), .val (.int hi), .val (.int v2), .val (.int (own_b g2))] [])) (fun _ kgo => XS.ifNo X34.here hx rfl (hb hby d1_362) rfl ((if0 _ _).trans (teq (own_b_f hc35)).2) kgo) ?_
                refine own_go (g' := (mkF m 366 #[.val (.ref o0), .val (.int (0 : Int32)), .val (.ref o2), .val (.ref o3), .val (.int v0), .val (.int len), .val (.int lo), .val (.int hi), .val (.int v2), .val (.int (own_b g2))] [(.int (4 : Int32))])) (fun _ kgo => XS.iconst X34.here hx rfl (hb hby d1_365) kgo) ?_
                refine own_retI X34 hx Bd.returns Bd.notSynchronized (hb hby d1_366) (by decide) (by decide) ?_
                show QQ _ T34.heap _
                rw [e34]
                have hrel : (((4 : Int32) = 1 ∧ ∀ t, own_chk ((v0, true, (decide (len = (1 : Int32)))) :: t) 0 128 191 = own_chk t 0 128 191) ∨ ((4 : Int32) = 2 ∧ ∀ t, own_chk ((v0, true, (decide (len = (1 : Int32)))) :: (v1, a1_, c1_) :: t) 0 128 191 = own_chk t 0 128 191) ∨ ((4 : Int32) = 3 ∧ ∀ t, own_chk ((v0, true, (decide (len = (1 : Int32)))) :: (v1, a1_, c1_) :: (v2, g2, (decide (len = (3 : Int32)))) :: t) 0 128 191 = own_chk t 0 128 191) ∨ (¬ (4 : Int32) < 4 ∧ own_chk [(v0, true, (decide (len = (1 : Int32)))), (v1, a1_, c1_), (v2, g2, (decide (len = (3 : Int32)))), (v3, a3_, c3_)] 0 128 191 = true)) := by
                  rcases hlen with rfl | rfl | rfl | rfl
                  · first | exact absurd hc7 (by decide) | exact absurd hc8 (by decide) | (exact Or.inl (⟨by decide, fun t => by rw [own_f1 hcl (hl1 rfl).1 (hl1 rfl).2 (by decide)]⟩))
                  · first | exact absurd hc7 (by decide) | exact absurd hc8 (by decide) | (exact Or.inr (Or.inl (⟨by decide, fun t => by rw [own_fn hcl (nd := 1) (by decide) (by decide) (by decide)]⟩)))
                  · first | exact absurd hc7 (by decide) | exact absurd hc8 (by decide) | (exact Or.inr (Or.inr (Or.inl (⟨by decide, fun t => by rw [own_fn hcl (nd := 2) (by decide) (by decide) (by decide)]⟩))))
                  · first | exact absurd hc7 (by decide) | exact absurd hc8 (by decide) | (exact Or.inr (Or.inr (Or.inr ((⟨by decide, by rw [own_fn hcl (nd := 3) (by decide) (by decide) (by decide)]; rfl⟩)))))
                have fx54 : Arv Z h34 o0 kv .int (4 : Int32) [(.int v0), (.int v1), (.int v2), (.int v3)] (.int (0 : Int32)) := (Arv.other (Arv.other fx27 W31 hn02) W34 hn03)
                have fx55 : Arv Z h34 o2 ko .boolean (4 : Int32) [(.int (own_b true)), (.int (own_b a1_)), (.int (own_b g2)), (.int (own_b a3_))] (.int (0 : Int32)) := (Arv.other V31 W34 hn23)
                rw [← hQQ]
                exact ⟨(4 : Int32), true, a1_, g2, a3_, (decide (len = (1 : Int32))), c1_, (decide (len = (3 : Int32))), c3_, rfl, N34, K34, hrel, fx54, fx55, V34⟩
            by_cases hc56 : len = (3 : Int32)
            ·
              refine own_go (g' := (mkF m 354 #[.val (.ref o0), .val (.int (0 : Int32)), .val (.ref o2), .val (.ref o3), .val (.int v0), .val (.int len), .val (.int lo), .val (.int hi), .val (.int v2), .val (.int (own_b g2))] [(.int (2 : Int32)), (.ref o3)])) (fun _ kgo => XS.icmpNo X31.here hx rfl (hb hby d1_351) rfl (teq hc56).2 kgo) ?_
              refine own_go (g' := (mkF m 355 #[.val (.ref o0), .val (.int (0 : Int32)), .val (.ref o2), .val (.ref o3), .val (.int v0), .val (.int len), .val (.int lo), .val (.int hi), .val (.int v2), .val (.int (own_b g2))] [(.int (1 : Int32)), (.int (2 : Int32)), (.ref o3)])) (fun _ kgo => XS.iconst X31.here hx rfl (hb hby d1_354) kgo) ?_
              refine own_go (g' := (mkF m 359 #[.val (.ref o0), .val (.int (0 : Int32)), .val (.ref o2), .val (.ref o3), .val (.int v0), .val (.int len), .val (.int lo), .val (.int hi), .val (.int v2), .val (.int (own_b g2))] [(.int (1 : Int32)), (.int (2 : Int32)), (.ref o3)])) (fun _ kgo => XS.goto X31.here hx rfl (pc0 := 355) (pc' := 359) rfl (hb hby d1_355) (by decide) (by decide) kgo) ?_
              have hE32 : own_b (decide (len = (3 : Int32))) = (1 : Int32) := by simp only [decide_eq_true hc56]; first | done | rfl
              exact own_cast (by rw [hE32]) J32
            ·
              refine own_go (g' := (mkF m 358 #[.val (.ref o0), .val (.int (0 : Int32)), .val (.ref o2), .val (.ref o3), .val (.int v0), .val (.int len), .val (.int lo), .val (.int hi), .val (.int v2), .val (.int (own_b g2))] [(.int (2 : Int32)), (.ref o3)])) (fun _ kgo => XS.icmpYes X31.here hx rfl (pc0 := 351) (pc' := 358) rfl (hb hby d1_351) rfl (feq hc56).2 (by decide) (by decide) kgo) ?_
              refine own_go (g' := (mkF m 359 #[.val (.ref o0), .val (.int (0 : Int32)), .val (.ref o2), .val (.ref o3), .val (.int v0), .val (.int len), .val (.int lo), .val (.int hi), .val (.int v2), .val (.int (own_b g2))] [(.int (0 : Int32)), (.int (2 : Int32)), (.ref o3)])) (fun _ kgo => XS.iconst X31.here hx rfl (hb hby d1_358) kgo) ?_
              have hE32 : own_b (decide (len = (3 : Int32))) = (0 : Int32) := by simp only [decide_eq_false hc56]; first | done | rfl
              exact own_cast (by rw [hE32]) J32
          by_cases hc57 : v2 < (128 : Int32)
          ·
            refine own_go (g' := (mkF m 334 #[.val (.ref o0), .val (.int (0 : Int32)), .val (.ref o2), .val (.ref o3), .val (.int v0), .val (.int len), .val (.int lo), .val (.int hi), .val (.int v2), .unset] [])) (fun _ kgo => XS.icmpYes X6.here hx rfl (pc0 := 319) (pc' := 334) rfl (hb hby d1_319) rfl (tlt hc57).1 (by decide) (by decide) kgo) ?_
            refine own_go (g' := (mkF m 335 #[.val (.ref o0), .val (.int (0 : Int32)), .val (.ref o2), .val (.ref o3), .val (.int v0), .val (.int len), .val (.int lo), .val (.int hi), .val (.int v2), .unset] [(.int (0 : Int32))])) (fun _ kgo => XS.iconst X6.here hx rfl (hb hby d1_334) kgo) ?_
            have hE29 : own_b ((!decide (v2 < (128 : Int32)) && !decide ((191 : Int32) < v2))) = (0 : Int32) := by simp only [decide_eq_true hc57]; first | done | rfl
            exact own_cast (by rw [hE29]) J29
          ·
            refine own_go (g' := (mkF m 322 #[.val (.ref o0), .val (.int (0 : Int32)), .val (.ref o2), .val (.ref o3), .val (.int v0), .val (.int len), .val (.int lo), .val (.int hi), .val (.int v2), .unset] [])) (fun _ kgo => XS.icmpNo X6.here hx rfl (hb hby d1_319) rfl (flt hc57).1 kgo) ?_
            refine own_go (g' := (mkF m 324 #[.val (.ref o0), .val (.int (0 : Int32)), .val (.ref o2), .val (.ref o3), .val (.int v0), .val (.int len), .val (.int lo), .val (.int hi), .val (.int v2), .unset] [(.int v2)])) (fun _ kgo => XS.iload X6.here hx rfl (hb hby d1_322) rfl kgo) ?_
            refine own_go (g' := (mkF m 327 #[.val (.ref o0), .val (.int (0 : Int32)), .val (.ref o2), .val (.ref o3), .val (.int v0), .val (.int len), .val (.int lo), .val (.int hi), .val (.int v2), .unset] [(.int (191 : Int32)), (.int v2)])) (fun _ kgo => XS.sipush X6.here hx rfl (hb hby d1_324) kgo) ?_
            have J58 : own_Go p e below (own_Post s QQ 0 0) T6 (mkF m 335 #[.val (.ref o0), .val (.int (0 : Int32)), .val (.ref o2), .val (.ref o3), .val (.int v0), .val (.int len), .val (.int lo), .val (.int hi), .val (.int v2), .unset] [(.int (own_b (!decide ((191 : Int32) < v2))))]) := by
              have hE29 : own_b ((!decide (v2 < (128 : Int32)) && !decide ((191 : Int32) < v2))) = (own_b (!decide ((191 : Int32) < v2))) := by simp only [decide_eq_false hc57]; first | done | rfl
              exact own_cast (by rw [hE29]) J29
            by_cases hc59 : (191 : Int32) < v2
            ·
              refine own_go (g' := (mkF m 334 #[.val (.ref o0), .val (.int (0 : Int32)), .val (.ref o2), .val (.ref o3), .val (.int v0), .val (.int len), .val (.int lo), .val (.int hi), .val (.int v2), .unset] [])) (fun _ kgo => XS.icmpYes X6.here hx rfl (pc0 := 327) (pc' := 334) rfl (hb hby d1_327) rfl (tlt hc59).2.2.1 (by decide) (by decide) kgo) ?_
              refine own_go (g' := (mkF m 335 #[.val (.ref o0), .val (.int (0 : Int32)), .val (.ref o2), .val (.ref o3), .val (.int v0), .val (.int len), .val (.int lo), .val (.int hi), .val (.int v2), .unset] [(.int (0 : Int32))])) (fun _ kgo => XS.iconst X6.here hx rfl (hb hby d1_334) kgo) ?_
              have hE58 : own_b (!decide ((191 : Int32) < v2)) = (0 : Int32) := by simp only [decide_eq_true hc59]; first | done | rfl
              exact own_cast (by rw [hE58]) J58
            ·
              refine own_go (g' := (mkF m 330 #[.val (.ref o0), .val (.int (0 : Int32)), .val (.ref o2), .val (.ref o3), .val (.int v0), .val (.int len), .val (.int lo), .val (.int hi), .val (.int v2), .unset] [])) (fun _ kgo => XS.icmpNo X6.here hx rfl (hb hby d1_327) rfl (flt hc59).2.2.1 kgo) ?_
              refine own_go (g' := (mkF m 331 #[.val (.ref o0), .val (.int (0 : Int32)), .val (.ref o2), .val (.ref o3), .val (.int v0), .val (.int len), .val (.int lo), .val (.int hi), .val (.int v2), .unset] [(.int (1 : Int32))])) (fun _ kgo => XS.iconst X6.here hx rfl (hb hby d1_330) kgo) ?_
              refine own_go (g' := (mkF m 335 #[.val (.ref o0), .val (.int (0 : Int32)), .val (.ref o2), .val (.ref o3), .val (.int v0), .val (.int len), .val (.int lo), .val (.int hi), .val (.int v2), .unset] [(.int (1 : Int32))])) (fun _ kgo => XS.goto X6.here hx rfl (pc0 := 331) (pc' := 335) rfl (hb hby d1_331) (by decide) (by decide) kgo) ?_
              have hE58 : own_b (!decide ((191 : Int32) < v2)) = (1 : Int32) := by simp only [decide_eq_false hc59]; first | done | rfl
              exact own_cast (by rw [hE58]) J58
      ·
        refine own_go (g' := (mkF m 229 #[.val (.ref o0), .val (.int (0 : Int32)), .val (.ref o2), .val (.ref o3), .val (.int v0), .val (.int len), .val (.int lo), .val (.int hi), .unset, .unset] [])) (fun _ kgo => XS.icmpNo X6.here hx rfl (hb hby d1_226) rfl (flt hc7).1 kgo) ?_
        refine own_go (g' := (mkF m 230 #[.val (.ref o0), .val (.int (0 : Int32)), .val (.ref o2), .val (.ref o3), .val (.int v0), .val (.int len), .val (.int lo), .val (.int hi), .unset, .unset] [(.int (0 : Int32))])) (fun _ kgo => XS.iloadN X6.here hx rfl (hb hby d1_229) rfl kgo) ?_
        refine own_go (g' := (mkF m 231 #[.val (.ref o0), .val (.int (0 : Int32)), .val (.ref o2), .val (.ref o3), .val (.int v0), .val (.int len), .val (.int lo), .val (.int hi), .unset, .unset] [(.int (1 : Int32)), (.int (0 : Int32))])) (fun _ kgo => XS.iconst X6.here hx rfl (hb hby d1_230) kgo) ?_
        refine own_go (g' := (mkF m 232 #[.val (.ref o0), .val (.int (0 : Int32)), .val (.ref o2), .val (.ref o3), .val (.int v0), .val (.int len), .val (.int lo), .val (.int hi), .unset, .unset] [(.int (1 : Int32))])) (fun _ kgo => XS.iadd X6.here hx rfl (hb hby d1_231) rfl kgo) ?_
        refine own_go (g' := (mkF m 233 #[.val (.ref o0), .val (.int (0 : Int32)), .val (.ref o2), .val (.ref o3), .val (.int v0), .val (.int len), .val (.int lo), .val (.int hi), .unset, .unset] [(.int (4 : Int32)), (.int (1 : Int32))])) (fun _ kgo => XS.iconst X6.here hx rfl (hb hby d1_232) kgo) ?_
        refine own_go (g' := (mkF m 236 #[.val (.ref o0), .val (.int (0 : Int32)), .val (.ref o2), .val (.ref o3), .val (.int v0), .val (.int len), .val (.int lo), .val (.int hi), .unset, .unset] [])) (fun _ kgo => XS.icmpNo X6.here hx rfl (hb hby d1_233) rfl (tlt (by decide)).2.1 kgo) ?_
        refine own_go (g' := (mkF m 237 #[.val (.ref o0), .val (.int (0 : Int32)), .val (.ref o2), .val (.ref o3), .val (.int v0), .val (.int len), .val (.int lo), .val (.int hi), .unset, .unset] [(.ref o0)])) (fun _ kgo => XS.aloadN X6.here hx rfl (hb hby d1_236) rfl rfl kgo) ?_
        refine own_go (g' := (mkF m 238 #[.val (.ref o0), .val (.int (0 : Int32)), .val (.ref o2), .val (.ref o3), .val (.int v0), .val (.int len), .val (.int lo), .val (.int hi), .unset, .unset] [(.int (0 : Int32)), (.ref o0)])) (fun _ kgo => XS.iloadN X6.here hx rfl (hb hby d1_237) rfl kgo) ?_
        refine own_go (g' := (mkF m 239 #[.val (.ref o0), .val (.int (0 : Int32)), .val (.ref o2), .val (.ref o3), .val (.int v0), .val (.int len), .val (.int lo), .val (.int hi), .unset, .unset] [(.int (1 : Int32)), (.int (0 : Int32)), (.ref o0)])) (fun _ kgo => XS.iconst X6.here hx rfl (hb hby d1_238) kgo) ?_
        refine own_go (g' := (mkF m 240 #[.val (.ref o0), .val (.int (0 : Int32)), .val (.ref o2), .val (.ref o3), .val (.int v0), .val (.int len), .val (.int lo), .val (.int hi), .unset, .unset] [(.int (1 : Int32)), (.ref o0)])) (fun _ kgo => XS.iadd X6.here hx rfl (hb hby d1_239) rfl kgo) ?_
        have fx60 : Arv Z h6 o0 kv .int (4 : Int32) [(.int v0), (.int v1), (.int v2), (.int v3)] (.int (0 : Int32)) := (Arv.other (Arv.other P0 W3 hn02) W6 hn03)
        obtain ⟨cl61, Ar61, qk61, sz61, nn61, Hs61, Gs61⟩ := id fx60
        have hin61 : ¬ ((1 : Int32) < 0 ∨ cl61.slots.size ≤ ((1 : Int32)).toNatClampNeg) := inb_of sz61 ⟨by decide, by decide⟩
        have hat61 : cl61.slots[((1 : Int32)).toNatClampNeg]? = some (.int v1) := Has.at Hs61 hin61 rfl
        refine own_go (g' := (mkF m 241 #[.val (.ref o0), .val (.int (0 : Int32)), .val (.ref o2), .val (.ref o3), .val (.int v0), .val (.int len), .val (.int lo), .val (.int hi), .unset, .unset] [(.int v1)])) (X6.iaload hx (j := (1 : Int32)) (v := (.int v1)) (by rw [e6]; exact Ar61.1) (State.isArrayOf_alike hZ.alike Ar61.2.1) Ar61.2.2 hin61 hat61 (g := (mkF m 240 #[.val (.ref o0), .val (.int (0 : Int32)), .val (.ref o2), .val (.ref o3), .val (.int v0), .val (.int len), .val (.int lo), .val (.int hi), .unset, .unset] [(.int (1 : Int32)), (.ref o0)])) rfl rfl (hb hby d1_240)) ?_
        refine own_go (g' := (mkF m 243 #[.val (.ref o0), .val (.int (0 : Int32)), .val (.ref o2), .val (.ref o3), .val (.int v0), .val (.int len), .val (.int lo), .val (.int hi), .val (.int v1), .unset] [])) (fun _ kgo => XS.istore X6.here hx rfl (hb hby d1_241) rfl (l' := #[.val (.ref o0), .val (.int (0 : Int32)), .val (.ref o2), .val (.ref o3), .val (.int v0), .val (.int len), .val (.int lo), .val (.int hi), .val (.int v1), .unset]) rfl kgo) ?_
        refine own_go (g' := (mkF m 245 #[.val (.ref o0), .val (.int (0 : Int32)), .val (.ref o2), .val (.ref o3), .val (.int v0), .val (.int len), .val (.int lo), .val (.int hi), .val (.int v1), .unset] [(.int v1)])) (fun _ kgo => XS.iload X6.here hx rfl (hb hby d1_243) rfl kgo) ?_
        refine own_go (g' := (mkF m 247 #[.val (.ref o0), .val (.int (0 : Int32)), .val (.ref o2), .val (.ref o3), .val (.int v0), .val (.int len), .val (.int lo), .val (.int hi), .val (.int v1), .unset] [(.int lo), (.int v1)])) (fun _ kgo => XS.iload X6.here hx rfl (hb hby d1_245) rfl kgo) ?_
        have J62 : own_Go p e below (own_Post s QQ 0 0) T6 (mkF m 262 #[.val (.ref o0), .val (.int (0 : Int32)), .val (.ref o2), .val (.ref o3), .val (.int v0), .val (.int len), .val (.int lo), .val (.int hi), .val (.int v1), .unset] [(.int (own_b ((!decide (v1 < lo) && !decide (hi < v1)))))]) := by
          suffices JNhg1 : ∀ g1 : Bool, g1 = ((!decide (v1 < lo) && !decide (hi < v1))) → own_Go p e below (own_Post s QQ 0 0) T6 (mkF m 262 #[.val (.ref o0), .val (.int (0 : Int32)), .val (.ref o2), .val (.ref o3), .val (.int v0), .val (.int len), .val (.int lo), .val (.int hi), .val (.int v1), .unset] [(.int (own_b g1))]) from JNhg1 _ (rfl)
          intro g1 hg1
          refine own_go (g' := (mkF m 264 #[.val (.ref o0), .val (.int (0 : Int32)), .val (.ref o2), .val (.ref o3), .val (.int v0), .val (.int len), .val (.int lo), .val (.int hi), .val (.int v1), .val (.int (own_b g1))] [])) (fun _ kgo => XS.istore X6.here hx rfl (hb hby d1_262) rfl (l' := #[.val (.ref o0), .val (.int (0 : Int32)), .val (.ref o2), .val (.ref o3), .val (.int v0), .val (.int len), .val (.int lo), .val (.int hi), .val (.int v1), .val (.int (own_b g1))]) rfl kgo) ?_
          refine own_go (g' := (mkF m 265 #[.val (.ref o0), .val (.int (0 : Int32)), .val (.ref o2), .val (.ref o3), .val (.int v0), .val (.int len), .val (.int lo), .val (.int hi), .val (.int v1), .val (.int (own_b g1))] [(.ref o2)])) (fun _ kgo => XS.aloadN X6.here hx rfl (hb hby d1_264) rfl rfl kgo) ?_
          refine own_go (g' := (mkF m 266 #[.val (.ref o0), .val (.int (0 : Int32)), .val (.ref o2), .val (.ref o3), .val (.int v0), .val (.int len), .val (.int lo), .val (.int hi), .val (.int v1), .val (.int (own_b g1))] [(.int (0 : Int32)), (.ref o2)])) (fun _ kgo => XS.iloadN X6.here hx rfl (hb hby d1_265) rfl kgo) ?_
          refine own_go (g' := (mkF m 267 #[.val (.ref o0), .val (.int (0 : Int32)), .val (.ref o2), .val (.ref o3), .val (.int v0), .val (.int len), .val (.int lo), .val (.int hi), .val (.int v1), .val (.int (own_b g1))] [(.int (1 : Int32)), (.int (0 : Int32)), (.ref o2)])) (fun _ kgo => XS.iconst X6.here hx rfl (hb hby d1_266) kgo) ?_
          refine own_go (g' := (mkF m 268 #[.val (.ref o0), .val (.int (0 : Int32)), .val (.ref o2), .val (.ref o3), .val (.int v0), .val (.int len), .val (.int lo), .val (.int hi), .val (.int v1), .val (.int (own_b g1))] [(.int (1 : Int32)), (.ref o2)])) (fun _ kgo => XS.iadd X6.here hx rfl (hb hby d1_267) rfl kgo) ?_
          refine own_go (g' := (mkF m 270 #[.val (.ref o0), .val (.int (0 : Int32)), .val (.ref o2), .val (.ref o3), .val (.int v0), .val (.int len), .val (.int lo), .val (.int hi), .val (.int v1), .val (.int (own_b g1))] [(.int (own_b g1)), (.int (1 : Int32)), (.ref o2)])) (fun _ kgo => XS.iload X6.here hx rfl (hb hby d1_268) rfl kgo) ?_
          have fx63 : Arv Z h6 o2 ko .boolean (4 : Int32) [(.int (own_b true)), (.int (own_b a1_)), (.int (own_b a2_)), (.int (own_b a3_))] (.int (0 : Int32)) := (Arv.other V3 W6 hn23)
          obtain ⟨cl64, Ar64, qk64, sz64, nn64, Hs64, Gs64⟩ := id fx63
          have hin64 : ¬ ((1 : Int32) < 0 ∨ cl64.slots.size ≤ ((1 : Int32)).toNatClampNeg) := inb_of sz64 ⟨by decide, by decide⟩
          obtain ⟨T64, h64, X64, e64, W64, st64⟩ := stZ X6 hx hZ e6 Ar64 (j := (1 : Int32)) hin64 (g := (mkF m 270 #[.val (.ref o0), .val (.int (0 : Int32)), .val (.ref o2), .val (.ref o3), .val (.int v0), .val (.int len), .val (.int lo), .val (.int hi), .val (.int v1), .val (.int (own_b g1))] [(.int (own_b g1)), (.int (1 : Int32)), (.ref o2)])) rfl rfl (hb hby d1_270)
          have Vn64 : Arv Z h64 o2 ko .boolean (4 : Int32) [(.int (own_b true)), (.int (nar .boolean (own_b g1))), (.int (own_b a2_)), (.int (own_b a3_))] (.int (0 : Int32)) := Arv.set Ar64 qk64 sz64 nn64 Hs64 Gs64 (fits_nar_bool _) W64 1 rfl (Nat.le_of_ble_eq_true rfl)
          have V64 : Arv Z h64 o2 ko .boolean (4 : Int32) [(.int (own_b true)), (.int (own_b g1)), (.int (own_b a2_)), (.int (own_b a3_))] (.int (0 : Int32)) := by rw [own_b_nar] at Vn64; exact Vn64
          have N64 := Fr.snoc X64 N6 g_o2
          have Z64 : n0 ≤ h64.size := by rw [W64.size]; exact Z6
          have K64 : Keep h0 h64 [o2, o3] := K6.wr W64 (Or.inl (List.mem_of_getElem? (i := 0) rfl))
          refine own_go (g' := (mkF m 271 #[.val (.ref o0), .val (.int (0 : Int32)), .val (.ref o2), .val (.ref o3), .val (.int v0), .val (.int len), .val (.int lo), .val (.int hi), .val (.int v1), .val (.int (own_b g1))] [])) (st64) ?_
          refine own_go (g' := (mkF m 272 #[.val (.ref o0), .val (.int (0 : Int32)), .val (.ref o2), .val (.ref o3), .val (.int v0), .val (.int len), .val (.int lo), .val (.int hi), .val (.int v1), .val (.int (own_b g1))] [(.ref o3)])) (fun _ kgo => XS.aloadN X64.here hx rfl (hb hby d1_271) rfl rfl kgo) ?_
          refine own_go (g' := (mkF m 273 #[.val (.ref o0), .val (.int (0 : Int32)), .val (.ref o2), .val (.ref o3), .val (.int v0), .val (.int len), .val (.int lo), .val (.int hi), .val (.int v1), .val (.int (own_b g1))] [(.int (0 : Int32)), (.ref o3)])) (fun _ kgo => XS.iloadN X64.here hx rfl (hb hby d1_272) rfl kgo) ?_
          refine own_go (g' := (mkF m 274 #[.val (.ref o0), .val (.int (0 : Int32)), .val (.ref o2), .val (.ref o3), .val (.int v0), .val (.int len), .val (.int lo), .val (.int hi), .val (.int v1), .val (.int (own_b g1))] [(.int (1 : Int32)), (.int (0 : Int32)), (.ref o3)])) (fun _ kgo => XS.iconst X64.here hx rfl (hb hby d1_273) kgo) ?_
          refine own_go (g' := (mkF m 275 #[.val (.ref o0), .val (.int (0 : Int32)), .val (.ref o2), .val (.ref o3), .val (.int v0), .val (.int len), .val (.int lo), .val (.int hi), .val (.int v1), .val (.int (own_b g1))] [(.int (1 : Int32)), (.ref o3)])) (fun _ kgo => XS.iadd X64.here hx rfl (hb hby d1_274) rfl kgo) ?_
          refine own_go (g' := (mkF m 277 #[.val (.ref o0), .val (.int (0 : Int32)), .val (.ref o2), .val (.ref o3), .val (.int v0), .val (.int len), .val (.int lo), .val (.int hi), .val (.int v1), .val (.int (own_b g1))] [(.int len), (.int (1 : Int32)), (.ref o3)])) (fun _ kgo => XS.iload X64.here hx rfl (hb hby d1_275) rfl kgo) ?_
          refine own_go (g' := (mkF m 278 #[.val (.ref o0), .val (.int (0 : Int32)), .val (.ref o2), .val (.ref o3), .val (.int v0), .val (.int len), .val (.int lo), .val (.int hi), .val (.int v1), .val (.int (own_b g1))] [(.int (2 : Int32)), (.int len), (.int (1 : Int32)), (.ref o3)])) (fun _ kgo => XS.iconst X64.here hx rfl (hb hby d1_277) kgo) ?_
          have J65 : own_Go p e below (own_Post s QQ 0 0) T64 (mkF m 286 #[.val (.ref o0), .val (.int (0 : Int32)), .val (.ref o2), .val (.ref o3), .val (.int v0), .val (.int len), .val (.int lo), .val (.int hi), .val (.int v1), .val (.int (own_b g1))] [(.int (own_b (decide (len = (2 : Int32))))), (.int (1 : Int32)), (.ref o3)]) := by
            have fx66 : Arv Z h64 o3 kc .boolean (4 : Int32) [(.int (own_b (decide (len = (1 : Int32))))), (.int (own_b c1_)), (.int (own_b c2_)), (.int (own_b c3_))] (.int (0 : Int32)) := (Arv.other V6 W64 (Ne.symm hn23))
            obtain ⟨cl67, Ar67, qk67, sz67, nn67, Hs67, Gs67⟩ := id fx66
            have hin67 : ¬ ((1 : Int32) < 0 ∨ cl67.slots.size ≤ ((1 : Int32)).toNatClampNeg) := inb_of sz67 ⟨by decide, by decide⟩
            obtain ⟨T67, h67, X67, e67, W67, st67⟩ := stZ X64 hx hZ e64 Ar67 (j := (1 : Int32)) hin67 (g := (mkF m 286 #[.val (.ref o0), .val (.int (0 : Int32)), .val (.ref o2), .val (.ref o3), .val (.int v0), .val (.int len), .val (.int lo), .val (.int hi), .val (.int v1), .val (.int (own_b g1))] [(.int (own_b (decide (len = (2 : Int32))))), (.int (1 : Int32)), (.ref o3)])) rfl rfl (hb hby d1_286)
            have Vn67 : Arv Z h67 o3 kc .boolean (4 : Int32) [(.int (own_b (decide (len = (1 : Int32))))), (.int (nar .boolean (own_b (decide (len = (2 : Int32)))))), (.int (own_b c2_)), (.int (own_b c3_))] (.int (0 : Int32)) := Arv.set Ar67 qk67 sz67 nn67 Hs67 Gs67 (fits_nar_bool _) W67 1 rfl (Nat.le_of_ble_eq_true rfl)
            have V67 : Arv Z h67 o3 kc .boolean (4 : Int32) [(.int (own_b (decide (len = (1 : Int32))))), (.int (own_b (decide (len = (2 : Int32))))), (.int (own_b c2_)), (.int (own_b c3_))] (.int (0 : Int32)) := by rw [own_b_nar] at Vn67; exact Vn67
            have N67 := Fr.snoc X67 N64 g_o3
            have Z67 : n0 ≤ h67.size := by rw [W67.size]; exact Z64
            have K67 : Keep h0 h67 [o2, o3] := K64.wr W67 (Or.inl (List.mem_of_getElem? (i := 1) rfl))
            refine own_go (g' := (mkF m 287 #[.val (.ref o0), .val (.int (0 : Int32)), .val (.ref o2), .val (.ref o3), .val (.int v0), .val (.int len), .val (.int lo), .val (.int hi), .val (.int v1), .val (.int (own_b g1))] [])) (st67) ?_
            refine own_go (g' := (mkF m 289 #[.val (.ref o0), .val (.int (0 : Int32)), .val (.ref o2), .val (.ref o3), .val (.int v0), .val (.int len), .val (.int lo), .val (.int hi), .val (.int v1), .val (.int (own_b g1))] [(.int (own_b g1))])) (fun _ kgo => XS.iload X67.here hx rfl (hb hby d1_287) rfl kgo) ?_
            by_cases hc68 : g1 = true
            ·
              refine own_go (g' := (mkF m 294 #[.val (.ref o0), .val (.int (0 : Int32)), .val (.ref o2), .val (.ref o3), .val (.int v0), .val (.int len), .val (.int lo), .val (.int hi), .val (.int v1), .val (.int (own_b g1))] [])) (fun _ kgo => XS.ifYes X67.here hx rfl (pc0 := 289) (pc' := 294) rfl (hb hby d1_289) rfl ((if0 _ _).trans (feq (own_b_n hc68)).2) (by decide) (by decide) kgo) ?_
              refine own_go (g' := (mkF m 296 #[.val (.ref o0), .val (.int (0 : Int32)), .val (.ref o2), .val (.ref o3), .val (.int v0), .val (.int len), .val (.int lo), .val (.int hi), .val (.int v1), .val (.int (own_b g1))] [(.int len)])) (fun _ kgo => XS.iload X67.here hx rfl (hb hby d1_294) rfl kgo) ?_
              refine own_go (g' := (mkF m 297 #[.val (.ref o0), .val (.int (0 : Int32)), .val (.ref o2), .val (.ref o3), .val (.int v0), .val (.int len), .val (.int lo), .val (.int hi), .val (.int v1), .val (.int (own_b g1))] [(.int (3 : Int32)), (.int len)])) (fun _ kgo => XS.iconst X67.here hx rfl (hb hby d1_296) kgo) ?_
              by_cases hc69 : len < (3 : Int32)
              ·
                refine own_go (g' := (mkF m 367 #[.val (.ref o0), .val (.int (0 : Int32)), .val (.ref o2), .val (.ref o3), .val (.int v0), .val (.int len), .val (.int lo), .val (.int hi), .val (.int v1), .val (.int (own_b g1))] [])) (fun _ kgo => XS.icmpYes X67.here hx rfl (pc0 := 297) (pc' := 367) rfl (hb hby d1_297) rfl (tlt hc69).1 (by decide) (by decide) kgo) ?_
                refine own_go (g' := (mkF m 369 #[.val (.ref o0), .val (.int (0 : Int32)), .val (.ref o2), .val (.ref o3), .val (.int v0), .val (.int len), .val (.int lo), .val (.int hi), .val (.int v1), .val (.int (own_b g1))] [(.int len)])) (fun _ kgo => XS.iload X67.here hx rfl (hb hby d1_367) rfl kgo) ?_
                refine own_go (g' := (mkF m 370 #[.val (.ref o0), .val (.int (0 : Int32)), .val (.ref o2), .val (.ref o3), .val (.int v0), .val (.int len), .val (.int lo), .val (.int hi), .val (.int v1), .val (.int (own_b g1))] [(.int (4 : Int32)), (.int len)])) (fun _ kgo => XS.iconst X67.here hx rfl (hb hby d1_369) kgo) ?_
                by_cases hc70 : len < (4 : Int32)
                ·
                  refine own_go (g' := (mkF m 430 #[.val (.ref o0), .val (.int (0 : Int32)), .val (.ref o2), .val (.ref o3), .val (.int v0), .val (.int len), .val (.int lo), .val (.int hi), .val (.int v1), .val (.int (own_b g1))] [])) (fun _ kgo => XS.icmpYes X67.here hx rfl (pc0 := 370) (pc' := 430) rfl (hb hby d1_370) rfl (tlt hc70).1 (by decide) (by decide) kgo) ?_
                  refine own_go (g' := (mkF m 431 #[.val (.ref o0), .val (.int (0 : Int32)), .val (.ref o2), .val (.ref o3), .val (.int v0), .val (.int len), .val (.int lo), .val (.int hi), .val (.int v1), .val (.int (own_b g1))] [(.int (0 : Int32))])) (fun _ kgo => XS.iloadN X67.here hx rfl (hb hby d1_430) rfl kgo) ?_
                  refine own_go (g' := (mkF m 433 #[.val (.ref o0), .val (.int (0 : Int32)), .val (.ref o2), .val (.ref o3), .val (.int v0), .val (.int len), .val (.int lo), .val (.int hi), .val (.int v1), .val (.int (own_b g1))] [(.int len), (.int (0 : Int32))])) (fun _ kgo => XS.iload X67.here hx rfl (hb hby d1_431) rfl kgo) ?_
                  refine own_go (g' := (mkF m 434 #[.val (.ref o0), .val (.int (0 : Int32)), .val (.ref o2), .val (.ref o3), .val (.int v0), .val (.int len), .val (.int lo), .val (.int hi), .val (.int v1), .val (.int (own_b g1))] [(.int ((0 : Int32) + len))])) (fun _ kgo => XS.iadd X67.here hx rfl (hb hby d1_433) rfl kgo) ?_
                  refine own_retI X67 hx Bd.returns Bd.notSynchronized (hb hby d1_434) (by decide) (by decide) ?_
                  show QQ _ T67.heap _
                  rw [e67]
                  have hrel : ((((0 : Int32) + len) = 1 ∧ ∀ t, own_chk ((v0, true, (decide (len = (1 : Int32)))) :: t) 0 128 191 = own_chk t 0 128 191) ∨ (((0 : Int32) + len) = 2 ∧ ∀ t, own_chk ((v0, true, (decide (len = (1 : Int32)))) :: (v1, g1, (decide (len = (2 : Int32)))) :: t) 0 128 191 = own_chk t 0 128 191) ∨ (((0 : Int32) + len) = 3 ∧ ∀ t, own_chk ((v0, true, (decide (len = (1 : Int32)))) :: (v1, g1, (decide (len = (2 : Int32)))) :: (v2, a2_, c2_) :: t) 0 128 191 = own_chk t 0 128 191) ∨ (¬ ((0 : Int32) + len) < 4 ∧ own_chk [(v0, true, (decide (len = (1 : Int32)))), (v1, g1, (decide (len = (2 : Int32)))), (v2, a2_, c2_), (v3, a3_, c3_)] 0 128 191 = true)) := by
                    rcases hlen with rfl | rfl | rfl | rfl
                    · first | exact absurd hc7 (by decide) | exact absurd hc69 (by decide) | exact absurd hc70 (by decide) | (exact Or.inl (⟨by decide, fun t => by rw [own_f1 hcl (hl1 rfl).1 (hl1 rfl).2 (by decide)]⟩))
                    · first | exact absurd hc7 (by decide) | exact absurd hc69 (by decide) | exact absurd hc70 (by decide) | (exact Or.inr (Or.inl (⟨by decide, fun t => by rw [own_fn hcl (nd := 1) (by decide) (by decide) (by decide), own_nt (nd' := 0) (by decide) (by decide) hg1 hc68 (by decide)]⟩)))
                    · first | exact absurd hc7 (by decide) | exact absurd hc69 (by decide) | exact absurd hc70 (by decide) | (exact Or.inr (Or.inr (Or.inl (⟨by decide, fun t => by rw [own_fn hcl (nd := 2) (by decide) (by decide) (by decide), own_nt (nd' := 1) (by decide) (by decide) hg1 hc68 (by decide)]⟩))))
                    · first | exact absurd hc7 (by decide) | exact absurd hc69 (by decide) | exact absurd hc70 (by decide) | (exact Or.inr (Or.inr (Or.inr ((⟨by decide, by rw [own_fn hcl (nd := 3) (by decide) (by decide) (by decide), own_nt (nd' := 2) (by decide) (by decide) hg1 hc68 (by decide)]; rfl⟩)))))
                  have fx71 : Arv Z h67 o0 kv .int (4 : Int32) [(.int v0), (.int v1), (.int v2), (.int v3)] (.int (0 : Int32)) := (Arv.other (Arv.other fx60 W64 hn02) W67 hn03)
                  have fx72 : Arv Z h67 o2 ko .boolean (4 : Int32) [(.int (own_b true)), (.int (own_b g1)), (.int (own_b a2_)), (.int (own_b a3_))] (.int (0 : Int32)) := (Arv.other V64 W67 hn23)
                  rw [← hQQ]
                  exact ⟨((0 : Int32) + len), true, g1, a2_, a3_, (decide (len = (1 : Int32))), (decide (len = (2 : Int32))), c2_, c3_, rfl, N67, K67, hrel, fx71, fx72, V67⟩
                ·
                  refine own_go (g' := (mkF m 373 #[.val (.ref o0), .val (.int (0 : Int32)), .val (.ref o2), .val (.ref o3), .val (.int v0), .val (.int len), .val (.int lo), .val (.int hi), .val (.int v1), .val (.int (own_b g1))] [])) (fun _ kgo => XS.icmpNo X67.here hx rfl (hb hby d1_370) rfl (flt hc70).1 kgo) ?_
                  refine own_go (g' := (mkF m 374 #[.val (.ref o0), .val (.int (0 : Int32)), .val (.ref o2), .val (.ref o3), .val (.int v0), .val (.int len), .val (.int lo), .val (.int hi), .val (.int v1), .val (.int (own_b g1))] [(.int (0 : Int32))])) (fun _ kgo => XS.iloadN X67.here hx rfl (hb hby d1_373) rfl kgo) ?_
                  refine own_go (g' := (mkF m 375 #[.val (.ref o0), .val (.int (0 : Int32)), .val (.ref o2), .val (.ref o3), .val (.int v0), .val (.int len), .val (.int lo), .val (.int hi), .val (.int v1), .val (.int (own_b g1))] [(.int (3 : Int32)), (.int (0 : Int32))])) (fun _ kgo => XS.iconst X67.here hx rfl (hb hby d1_374) kgo) ?_
                  refine own_go (g' := (mkF m 376 #[.val (.ref o0), .val (.int (0 : Int32)), .val (.ref o2), .val (.ref o3), .val (.int v0), .val (.int len), .val (.int lo), .val (.int hi), .val (.int v1), .val (.int (own_b g1))] [(.int (3 : Int32))])) (fun _ kgo => XS.iadd X67.here hx rfl (hb hby d1_375) rfl kgo) ?_
                  refine own_go (g' := (mkF m 377 #[.val (.ref o0), .val (.int (0 : Int32)), .val (.ref o2), .val (.ref o3), .val (.int v0), .val (.int len), .val (.int lo), .val (.int hi), .val (.int v1), .val (.int (own_b g1))] [(.int (4 : Int32)), (.int (3 : Int32))])) (fun _ kgo => XS.iconst X67.here hx rfl (hb hby d1_376) kgo) ?_
                  refine own_go (g' := (mkF m 380 #[.val (.ref o0), .val (.int (0 : Int32)), .val (.ref o2), .val (.ref o3), .val (.int v0), .val (.int len), .val (.int lo), .val (.int hi), .val (.int v1), .val (.int (own_b g1))] [])) (fun _ kgo => XS.icmpNo X67.here hx rfl (hb hby d1_377) rfl (tlt (by decide)).2.1 kgo) ?_
                  refine own_go (g' := (mkF m 381 #[.val (.ref o0), .val (.int (0 : Int32)), .val (.ref o2), .val (.ref o3), .val (.int v0), .val (.int len), .val (.int lo), .val (.int hi), .val (.int v1), .val (.int (own_b g1))] [(.ref o0)])) (fun _ kgo => XS.aloadN X67.here hx rfl (hb hby d1_380) rfl rfl kgo) ?_
                  refine own_go (g' := (mkF m 382 #[.val (.ref o0), .val (.int (0 : Int32)), .val (.ref o2), .val (.ref o3), .val (.int v0), .val (.int len), .val (.int lo), .val (.int hi), .val (.int v1), .val (.int (own_b g1))] [(.int (0 : Int32)), (.ref o0)])) (fun _ kgo => XS.iloadN X67.here hx rfl (hb hby d1_381) rfl kgo) ?_
                  refine own_go (g' := (mkF m 383 #[.val (.ref o0), .val (.int (0 : Int32)), .val (.ref o2), .val (.ref o3), .val (.int v0), .val (.int len), .val (.int lo), .val (.int hi), .val (.int v1), .val (.int (own_b g1))] [(.int (3 : Int32)), (.int (0 : Int32)), (.ref o0)])) (fun _ kgo => XS.iconst X67.here hx rfl (hb hby d1_382) kgo) ?_
                  refine own_go (g' := (mkF m 384 #[.val (.ref o0), .val (.int (0 : Int32)), .val (.ref o2), .val (.ref o3), .val (.int v0), .val (.int len), .val (.int lo), .val (.int hi), .val (.int v1), .val (.int (own_b g1))] [(.int (3 : Int32)), (.ref o0)])) (fun _ kgo => XS.iadd X67.here hx rfl (hb hby d1_383) rfl kgo) ?_
                  have fx73 : Arv Z h67 o0 kv .int (4 : Int32) [(.int v0), (.int v1), (.int v2), (.int v3)] (.int (0 : Int32)) := (Arv.other (Arv.other fx60 W64 hn02) W67 hn03)
                  obtain ⟨cl74, Ar74, qk74, sz74, nn74, Hs74, Gs74⟩ := id fx73
                  have hin74 : ¬ ((3 : Int32) < 0 ∨ cl74.slots.size ≤ ((3 : Int32)).toNatClampNeg) := inb_of sz74 ⟨by decide, by decide⟩
                  have hat74 : cl74.slots[((3 : Int32)).toNatClampNeg]? = some (.int v3) := Has.at Hs74 hin74 rfl
                  refine own_go (g' := (mkF m 385 #[.val (.ref o0), .val (.int (0 : Int32)), .val (.ref o2), .val (.ref o3), .val (.int v0), .val (.int len), .val (.int lo), .val (.int hi), .val (.int v1), .val (.int (own_b g1))] [(.int v3)])) (X67.iaload hx (j := (3 : Int32)) (v := (.int v3)) (by rw [e67]; exact Ar74.1) (State.isArrayOf_alike hZ.alike Ar74.2.1) Ar74.2.2 hin74 hat74 (g := (mkF m 384 #[.val (.ref o0), .val (.int (0 : Int32)), .val (.ref o2), .val (.ref o3), .val (.int v0), .val (.int len), .val (.int lo), .val (.int hi), .val (.int v1), .val (.int (own_b g1))] [(.int (3 : Int32)), (.ref o0)])) rfl rfl (hb hby d1_384)) ?_
                  refine own_go (g' := (mkF m 387 #[.val (.ref o0), .val (.int (0 : Int32)), .val (.ref o2), .val (.ref o3), .val (.int v0), .val (.int len), .val (.int lo), .val (.int hi), .val (.int v3), .val (.int (own_b g1))] [])) (fun _ kgo => XS.istore X67.here hx rfl (hb hby d1_385) rfl (l' := #[.val (.ref o0), .val (.int (0 : Int32)), .val (.ref o2), .val (.ref o3), .val (.int v0), .val (.int len), .val (.int lo), .val (.int hi), .val (.int v3), .val (.int (own_b g1))]) rfl kgo) ?_
                  refine own_go (g' := (mkF m 389 #[.val (.ref o0), .val (.int (0 : Int32)), .val (.ref o2), .val (.ref o3), .val (.int v0), .val (.int len), .val (.int lo), .val (.int hi), .val (.int v3), .val (.int (own_b g1))] [(.int v3)])) (fun _ kgo => XS.iload X67.here hx rfl (hb hby d1_387) rfl kgo) ?_
                  refine own_go (g' := (mkF m 392 #[.val (.ref o0), .val (.int (0 : Int32)), .val (.ref o2), .val (.ref o3), .val (.int v0), .val (.int len), .val (.int lo), .val (.int hi), .val (.int v3), .val (.int (own_b g1))] [(.int (128 : Int32)), (.int v3)])) (fun _ kgo => XS.sipush X67.here hx rfl (hb hby d1_389) kgo) ?_
                  have J75 : own_Go p e below (own_Post s QQ 0 0) T67 (mkF m 408 #[.val (.ref o0), .val (.int (0 : Int32)), .val (.ref o2), .val (.ref o3), .val (.int v0), .val (.int len), .val (.int lo), .val (.int hi), .val (.int v3), .val (.int (own_b g1))] [(.int (own_b ((!decide (v3 < (128 : Int32)) && !decide ((191 : Int32) < v3)))))]) := by
                    suffices JNhg3 : ∀ g3 : Bool, g3 = ((!decide (v3 < (128 : Int32)) && !decide ((191 : Int32) < v3))) → own_Go p e below (own_Post s QQ 0 0) T67 (mkF m 408 #[.val (.ref o0), .val (.int (0 : Int32)), .val (.ref o2), .val (.ref o3), .val (.int v0), .val (.int len), .val (.int lo), .val (.int hi), .val (.int v3), .val (.int (own_b g1))] [(.int (own_b g3))]) from JNhg3 _ (rfl)
                    intro g3 hg3
                    refine own_go (g' := (mkF m 410 #[.val (.ref o0), .val (.int (0 : Int32)), .val (.ref o2), .val (.ref o3), .val (.int v0), .val (.int len), .val (.int lo), .val (.int hi), .val (.int v3), .val (.int (own_b g3))] [])) (fun _ kgo => XS.istore X67.here hx rfl (hb hby d1_408) rfl (l' := #[.val (.ref o0), .val (.int (0 : Int32)), .val (.ref o2), .val (.ref o3), .val (.int v0), .val (.int len), .val (.int lo), .val (.int hi), .val (.int v3), .val (.int (own_b g3))]) rfl kgo) ?_
                    refine own_go (g' := (mkF m 411 #[.val (.ref o0), .val (.int (0 : Int32)), .val (.ref o2), .val (.ref o3), .val (.int v0), .val (.int len), .val (.int lo), .val (.int hi), .val (.int v3), .val (.int (own_b g3))] [(.ref o2)])) (fun _ kgo => XS.aloadN X67.here hx rfl (hb hby d1_410) rfl rfl kgo) ?_
                    refine own_go (g' := (mkF m 412 #[.val (.ref o0), .val (.int (0 : Int32)), .val (.ref o2), .val (.ref o3), .val (.int v0), .val (.int len), .val (.int lo), .val (.int hi), .val (.int v3), .val (.int (own_b g3))] [(.int (0 : Int32)), (.ref o2)])) (fun _ kgo => XS.iloadN X67.here hx rfl (hb hby d1_411) rfl kgo) ?_
                    refine own_go (g' := (mkF m 413 #[.val (.ref o0), .val (.int (0 : Int32)), .val (.ref o2), .val (.ref o3), .val (.int v0), .val (.int len), .val (.int lo), .val (.int hi), .val (.int v3), .val (.int (own_b g3))] [(.int (3 : Int32)), (.int (0 : Int32)), (.ref o2)])) (fun _ kgo => XS.iconst X67.here hx rfl (hb hby d1_412) kgo) ?_
                    refine own_go (g' := (mkF m 414 #[.val (.ref o0), .val (.int (0 : Int32)), .val (.ref o2), .val (.ref o3), .val (.int v0), .val (.int len), .val (.int lo), .val (.int hi), .val (.int v3), .val (.int (own_b g3))] [(.int (3 : Int32)), (.ref o2)])) (fun _ kgo => XS.iadd X67.here hx rfl (hb hby d1_413) rfl kgo) ?_
                    refine own_go (g' := (mkF m 416 #[.val (.ref o0), .val (.int (0 : Int32)), .val (.ref o2), .val (.ref o3), .val (.int v0), .val (.int len), .val (.int lo), .val (.int hi), .val (.int v3), .val (.int (own_b g3))] [(.int (own_b g3)), (.int (3 : Int32)), (.ref o2)])) (fun _ kgo => XS.iload X67.here hx rfl (hb hby d1_414) rfl kgo) ?_
                    have fx76 : Arv Z h67 o2 ko .boolean (4 : Int32) [(.int (own_b true)), (.int (own_b g1)), (.int (own_b a2_)), (.int (own_b a3_))] (.int (0 : Int32)) := (Arv.other V64 W67 hn23)
                    obtain ⟨cl77, Ar77, qk77, sz77, nn77, Hs77, Gs77⟩ := id fx76
                    have hin77 : ¬ ((3 : Int32) < 0 ∨ cl77.slots.size ≤ ((3 : Int32)).toNatClampNeg) := inb_of sz77 ⟨by decide, by decide⟩
                    obtain ⟨T77, h77, X77, e77, W77, st77⟩ := stZ X67 hx hZ e67 Ar77 (j := (3 : Int32)) hin77 (g := (mkF m 416 #[.val (.ref o0), .val (.int (0 : Int32)), .val (.ref o2), .val (.ref o3), .val (.int v0), .val (.int len), .val (.int lo), .val (.int hi), .val (.int v3), .val (.int (own_b g3))] [(.int (own_b g3)), (.int (3 : Int32)), (.ref o2)])) rfl rfl (hb hby d1_416)
                    have Vn77 : Arv Z h77 o2 ko .boolean (4 : Int32) [(.int (own_b true)), (.int (own_b g1)), (.int (own_b a2_)), (.int (nar .boolean (own_b g3)))] (.int (0 : Int32)) := Arv.set Ar77 qk77 sz77 nn77 Hs77 Gs77 (fits_nar_bool _) W77 3 rfl (Nat.le_of_ble_eq_true rfl)
                    have V77 : Arv Z h77 o2 ko .boolean (4 : Int32) [(.int (own_b true)), (.int (own_b g1)), (.int (own_b a2_)), (.int (own_b g3))] (.int (0 : Int32)) := by rw [own_b_nar] at Vn77; exact Vn77
                    have N77 := Fr.snoc X77 N67 g_o2
                    have Z77 : n0 ≤ h77.size := by rw [W77.size]; exact Z67
                    have K77 : Keep h0 h77 [o2, o3] := K67.wr W77 (Or.inl (List.mem_of_getElem? (i := 0) rfl))
                    refine own_go (g' := (mkF m 417 #[.val (.ref o0), .val (.int (0 : Int32)), .val (.ref o2), .val (.ref o3), .val (.int v0), .val (.int len), .val (.int lo), .val (.int hi), .val (.int v3), .val (.int (own_b g3))] [])) (st77) ?_
                    refine own_go (g' := (mkF m 418 #[.val (.ref o0), .val (.int (0 : Int32)), .val (.ref o2), .val (.ref o3), .val (.int v0), .val (.int len), .val (.int lo), .val (.int hi), .val (.int v3), .val (.int (own_b g3))] [(.ref o3)])) (fun _ kgo => XS.aloadN X77.here hx rfl (hb hby d1_417) rfl rfl kgo) ?_
                    refine own_go (g' := (mkF m 419 #[.val (.ref o0), .val (.int (0 : Int32)), .val (.ref o2), .val (.ref o3), .val (.int v0), .val (.int len), .val (.int lo), .val (.int hi), .val (.int v3), .val (.int (own_b g3))] [(.int (0 : Int32)), (.ref o3)])) (fun _ kgo => XS.iloadN X77.here hx rfl (hb hby d1_418) rfl kgo) ?_
                    refine own_go (g' := (mkF m 420 #[.val (.ref o0), .val (.int (0 : Int32)), .val (.ref o2), .val (.ref o3), .val (.int v0), .val (.int len), .val (.int lo), .val (.int hi), .val (.int v3), .val (.int (own_b g3))] [(.int (3 : Int32)), (.int (0 : Int32)), (.ref o3)])) (fun _ kgo => XS.iconst X77.here hx rfl (hb hby d1_419) kgo) ?_
                    refine own_go (g' := (mkF m 421 #[.val (.ref o0), .val (.int (0 : Int32)), .val (.ref o2), .val (.ref o3), .val (.int v0), .val (.int len), .val (.int lo), .val (.int hi), .val (.int v3), .val (.int (own_b g3))] [(.int (3 : Int32)), (.ref o3)])) (fun _ kgo => XS.iadd X77.here hx rfl (hb hby d1_420) rfl kgo) ?_
                    refine own_go (g' := (mkF m 422 #[.val (.ref o0), .val (.int (0 : Int32)), .val (.ref o2), .val (.ref o3), .val (.int v0), .val (.int len), .val (.int lo), .val (.int hi), .val (.int v3), .val (.int (own_b g3))] [(.int (1 : Int32)), (.int (3 : Int32)), (.ref o3)])) (fun _ kgo => XS.iconst X77.here hx rfl (hb hby d1_421) kgo) ?_
                    have fx78 : Arv Z h77 o3 kc .boolean (4 : Int32) [(.int (own_b (decide (len = (1 : Int32))))), (.int (own_b (decide (len = (2 : Int32))))), (.int (own_b c2_)), (.int (own_b c3_))] (.int (0 : Int32)) := (Arv.other V67 W77 (Ne.symm hn23))
                    obtain ⟨cl79, Ar79, qk79, sz79, nn79, Hs79, Gs79⟩ := id fx78
                    have hin79 : ¬ ((3 : Int32) < 0 ∨ cl79.slots.size ≤ ((3 : Int32)).toNatClampNeg) := inb_of sz79 ⟨by decide, by decide⟩
                    obtain ⟨T79, h79, X79, e79, W79, st79⟩ := stZ X77 hx hZ e77 Ar79 (j := (3 : Int32)) hin79 (g := (mkF m 422 #[.val (.ref o0), .val (.int (0 : Int32)), .val (.ref o2), .val (.ref o3), .val (.int v0), .val (.int len), .val (.int lo), .val (.int hi), .val (.int v3), .val (.int (own_b g3))] [(.int (1 : Int32)), (.int (3 : Int32)), (.ref o3)])) rfl rfl (hb hby d1_422)
                    have Vn79 : Arv Z h79 o3 kc .boolean (4 : Int32) [(.int (own_b (decide (len = (1 : Int32))))), (.int (own_b (decide (len = (2 : Int32))))), (.int (own_b c2_)), (.int (nar .boolean (own_b true)))] (.int (0 : Int32)) := Arv.set Ar79 qk79 sz79 nn79 Hs79 Gs79 (fits_nar_bool _) W79 3 rfl (Nat.le_of_ble_eq_true rfl)
                    have V79 : Arv Z h79 o3 kc .boolean (4 : Int32) [(.int (own_b (decide (len = (1 : Int32))))), (.int (own_b (decide (len = (2 : Int32))))), (.int (own_b c2_)), (.int (own_b true))] (.int (0 : Int32)) := by rw [own_b_nar] at Vn79; exact Vn79
                    have N79 := Fr.snoc X79 N77 g_o3
                    have Z79 : n0 ≤ h79.size := by rw [W79.size]; exact Z77
                    have K79 : Keep h0 h79 [o2, o3] := K77.wr W79 (Or.inl (List.mem_of_getElem? (i := 1) rfl))
                    refine own_go (g' := (mkF m 423 #[.val (.ref o0), .val (.int (0 : Int32)), .val (.ref o2), .val (.ref o3), .val (.int v0), .val (.int len), .val (.int lo), .val (.int hi), .val (.int v3), .val (.int (own_b g3))] [])) (st79) ?_
                    refine own_go (g' := (mkF m 425 #[.val (.ref o0), .val (.int (0 : Int32)), .val (.ref o2), .val (.ref o3), .val (.int v0), .val (.int len), .val (.int lo), .val (.int hi), .val (.int v3), .val (.int (own_b g3))] [(.int (own_b g3))])) (fun _ kgo => XS.iload X79.here hx rfl (hb hby d1_423) rfl kgo) ?_
                    by_cases hc80 : g3 = true
                    ·
                      refine own_go (g' := (mkF m 430 #[.val (.ref o0), .val (.int (0 : Int32)), .val (.ref o2), .val (.ref o3), .val (.int v0), .val (.int len), .val (.int lo), .val (.int hi), .val (.int v3), .val (.int (own_b g3))] [])) (fun _ kgo => XS.ifYes X79.here hx rfl (pc0 := 425) (pc' := 430) rfl (hb hby d1_425) rfl ((if0 _ _).trans (feq (own_b_n hc80)).2) (by decide) (by decide) kgo) ?_
                      refine own_go (g' := (mkF m 431 #[.val (.ref o0), .val (.int (0 : Int32)), .val (.ref o2), .val (.ref o3), .val (.int v0), .val (.int len), .val (.int lo), .val (.int hi), .val (.int v3), .val (.int (own_b g3))] [(.int (0 : Int32))])) (fun _ kgo => XS.iloadN X79.here hx rfl (hb hby d1_430) rfl kgo) ?_
                      refine own_go (g' := (mkF m 433 #[.val (.ref o0), .val (.int (0 : Int32)), .val (.ref o2), .val (.ref o3), .val (.int v0), .val (.int len), .val (.int lo), .val (.int hi), .val (.int v3), .val (.int (own_b g3))] [(.int len), (.int (0 : Int32))])) (fun _ kgo => XS.iload X79.here hx rfl (hb hby d1_431) rfl kgo) ?_
                      refine own_go (g' := (mkF m 434 #[.val (.ref o0), .val (.int (0 : Int32)), .val (.ref o2), .val (.ref o3), .val (.int v0), .val (.int len), .val (.int lo), .val (.int hi), .val (.int v3), .val (.int (own_b g3))] [(.int ((0 : Int32) + len))])) (fun _ kgo => XS.iadd X79.here hx rfl (hb hby d1_433) rfl kgo) ?_
                      refine own_retI X79 hx Bd.returns Bd.notSynchronized (hb hby d1_434) (by decide) (by decide) ?_
                      show QQ _ T79.heap _
                      rw [e79]
                      have hrel : ((((0 : Int32) + len) = 1 ∧ ∀ t, own_chk ((v0, true, (decide (len = (1 : Int32)))) :: t) 0 128 191 = own_chk t 0 128 191) ∨ (((0 : Int32) + len) = 2 ∧ ∀ t, own_chk ((v0, true, (decide (len = (1 : Int32)))) :: (v1, g1, (decide (len = (2 : Int32)))) :: t) 0 128 191 = own_chk t 0 128 191) ∨ (((0 : Int32) + len) = 3 ∧ ∀ t, own_chk ((v0, true, (decide (len = (1 : Int32)))) :: (v1, g1, (decide (len = (2 : Int32)))) :: (v2, a2_, c2_) :: t) 0 128 191 = own_chk t 0 128 191) ∨ (¬ ((0 : Int32) + len) < 4 ∧ own_chk [(v0, true, (decide (len = (1 : Int32)))), (v1, g1, (decide (len = (2 : Int32)))), (v2, a2_, c2_), (v3, g3, true)] 0 128 191 = true)) := by
                        rcases hlen with rfl | rfl | rfl | rfl
                        · first | exact absurd hc7 (by decide) | exact absurd hc69 (by decide) | exact absurd hc70 (by decide) | (exact Or.inl (⟨by decide, fun t => by rw [own_f1 hcl (hl1 rfl).1 (hl1 rfl).2 (by decide)]⟩))
                        · first | exact absurd hc7 (by decide) | exact absurd hc69 (by decide) | exact absurd hc70 (by decide) | (exact Or.inr (Or.inl (⟨by decide, fun t => by rw [own_fn hcl (nd := 1) (by decide) (by decide) (by decide), own_nt (nd' := 0) (by decide) (by decide) hg1 hc68 (by decide)]⟩)))
                        · first | exact absurd hc7 (by decide) | exact absurd hc69 (by decide) | exact absurd hc70 (by decide) | (exact Or.inr (Or.inr (Or.inl (⟨by decide, fun t => by rw [own_fn hcl (nd := 2) (by decide) (by decide) (by decide), own_nt (nd' := 1) (by decide) (by decide) hg1 hc68 (by decide)]⟩))))
                        · first | exact absurd hc7 (by decide) | exact absurd hc69 (by decide) | exact absurd hc70 (by decide) | (exact Or.inr (Or.inr (Or.inr ((⟨by decide, by rw [own_fn hcl (nd := 3) (by decide) (by decide) (by decide), own_nt (nd' := 2) (by decide) (by decide) hg1 hc68 (by decide)]; rfl⟩)))))
                      have fx81 : Arv Z h79 o0 kv .int (4 : Int32) [(.int v0), (.int v1), (.int v2), (.int v3)] (.int (0 : Int32)) := (Arv.other (Arv.other fx73 W77 hn02) W79 hn03)
                      have fx82 : Arv Z h79 o2 ko .boolean (4 : Int32) [(.int (own_b true)), (.int (own_b g1)), (.int (own_b a2_)), (.int (own_b g3))] (.int (0 : Int32)) := (Arv.other V77 W79 hn23)
                      rw [← hQQ]
                      exact ⟨((0 : Int32) + len), true, g1, a2_, g3, (decide (len = (1 : Int32))), (decide (len = (2 : Int32))), c2_, true, rfl, N79, K79, hrel, fx81, fx82, V79⟩
                    ·
                      refine own_go (g' := (mkF m 428 #[.val (.ref o0), .val (.int (0 : Int32)), .val (.ref o2), .val (.ref o3), .val (.int v0), .val (.int len), .val (.int lo), .val (.int hi), .val (.int v3), .val (.int (own_b g3))] [])) (fun _ kgo => XS.ifNo X79.here hx rfl (hb hby d1_425) rfl ((if0 _ _).trans (teq (own_b_f hc80)).2) kgo) ?_
                      refine own_go (g' := (mkF m 429 #[.val (.ref o0), .val (.int (0 : Int32)), .val (.ref o2), .val (.ref o3), .val (.int v0), .val (.int len), .val (.int lo), .val (.int hi), .val (.int v3), .val (.int (own_b g3))] [(.int (4 : Int32))])) (fun _ kgo => XS.iconst X79.here hx rfl (hb hby d1_428) kgo) ?_
                      refine own_retI X79 hx Bd.returns Bd.notSynchronized (hb hby d1_429) (by decide) (by decide) ?_
                      show QQ _ T79.heap _
                      rw [e79]
                      have hrel : (((4 : Int32) = 1 ∧ ∀ t, own_chk ((v0, true, (decide (len = (1 : Int32)))) :: t) 0 128 191 = own_chk t 0 128 191) ∨ ((4 : Int32) = 2 ∧ ∀ t, own_chk ((v0, true, (decide (len = (1 : Int32)))) :: (v1, g1, (decide (len = (2 : Int32)))) :: t) 0 128 191 = own_chk t 0 128 191) ∨ ((4 : Int32) = 3 ∧ ∀ t, own_chk ((v0, true, (decide (len = (1 : Int32)))) :: (v1, g1, (decide (len = (2 : Int32)))) :: (v2, a2_, c2_) :: t) 0 128 191 = own_chk t 0 128 191) ∨ (¬ (4 : Int32) < 4 ∧ own_chk [(v0, true, (decide (len = (1 : Int32)))), (v1, g1, (decide (len = (2 : Int32)))), (v2, a2_, c2_), (v3, g3, true)] 0 128 191 = true)) := by
                        rcases hlen with rfl | rfl | rfl | rfl
                        · first | exact absurd hc7 (by decide) | exact absurd hc69 (by decide) | exact absurd hc70 (by decide) | (exact Or.inl (⟨by decide, fun t => by rw [own_f1 hcl (hl1 rfl).1 (hl1 rfl).2 (by decide)]⟩))
                        · first | exact absurd hc7 (by decide) | exact absurd hc69 (by decide) | exact absurd hc70 (by decide) | (exact Or.inr (Or.inl (⟨by decide, fun t => by rw [own_fn hcl (nd := 1) (by decide) (by decide) (by decide), own_nt (nd' := 0) (by decide) (by decide) hg1 hc68 (by decide)]⟩)))
                        · first | exact absurd hc7 (by decide) | exact absurd hc69 (by decide) | exact absurd hc70 (by decide) | (exact Or.inr (Or.inr (Or.inl (⟨by decide, fun t => by rw [own_fn hcl (nd := 2) (by decide) (by decide) (by decide), own_nt (nd' := 1) (by decide) (by decide) hg1 hc68 (by decide)]⟩))))
                        · first | exact absurd hc7 (by decide) | exact absurd hc69 (by decide) | exact absurd hc70 (by decide) | (exact Or.inr (Or.inr (Or.inr ((⟨by decide, by rw [own_fn hcl (nd := 3) (by decide) (by decide) (by decide), own_nt (nd' := 2) (by decide) (by decide) hg1 hc68 (by decide)]; rfl⟩)))))
                      have fx83 : Arv Z h79 o0 kv .int (4 : Int32) [(.int v0), (.int v1), (.int v2), (.int v3)] (.int (0 : Int32)) := (Arv.other (Arv.other fx73 W77 hn02) W79 hn03)
                      have fx84 : Arv Z h79 o2 ko .boolean (4 : Int32) [(.int (own_b true)), (.int (own_b g1)), (.int (own_b a2_)), (.int (own_b g3))] (.int (0 : Int32)) := (Arv.other V77 W79 hn23)
                      rw [← hQQ]
                      exact ⟨(4 : Int32), true, g1, a2_, g3, (decide (len = (1 : Int32))), (decide (len = (2 : Int32))), c2_, true, rfl, N79, K79, hrel, fx83, fx84, V79⟩
                  by_cases hc85 : v3 < (128 : Int32)
                  ·
                    refine own_go (g' := (mkF m 407 #[.val (.ref o0), .val (.int (0 : Int32)), .val (.ref o2), .val (.ref o3), .val (.int v0), .val (.int len), .val (.int lo), .val (.int hi), .val (.int v3), .val (.int (own_b g1))] [])) (fun _ kgo => XS.icmpYes X67.here hx rfl (pc0 := 392) (pc' := 407) rfl (hb hby d1_392) rfl (tlt hc85).1 (by decide) (by decide) kgo) ?_
                    refine own_go (g' := (mkF m 408 #[.val (.ref o0), .val (.int (0 : Int32)), .val (.ref o2), .val (.ref o3), .val (.int v0), .val (.int len), .val (.int lo), .val (.int hi), .val (.int v3), .val (.int (own_b g1))] [(.int (0 : Int32))])) (fun _ kgo => XS.iconst X67.here hx rfl (hb hby d1_407) kgo) ?_
                    have hE75 : own_b ((!decide (v3 < (128 : Int32)) && !decide ((191 : Int32) < v3))) = (0 : Int32) := by simp only [decide_eq_true hc85]; first | done | rfl
                    exact own_cast (by rw [hE75]) J75
                  ·
                    refine own_go (g' := (mkF m 395 #[.val (.ref o0), .val (.int (0 : Int32)), .val (.ref o2), .val (.ref o3), .val (.int v0), .val (.int len), .val (.int lo), .val (.int hi), .val (.int v3), .val (.int (own_b g1))] [])) (fun _ kgo => XS.icmpNo X67.here hx rfl (hb hby d1_392) rfl (flt hc85).1 kgo) ?_
                    refine own_go (g' := (mkF m 397 #[.val (.ref o0), .val (.int (0 : Int32)), .val (.ref o2), .val (.ref o3), .val (.int v0), .val (.int len), .val (.int lo), .val (.int hi), .val (.int v3), .val (.int (own_b g1))] [(.int v3)])) (fun _ kgo => XS.iload X67.here hx rfl (hb hby d1_395) rfl kgo) ?_
                    refine own_go (g' := (mkF m 400 #[.val (.ref o0), .val (.int (0 : Int32)), .val (.ref o2), .val (.ref o3), .val (.int v0), .val (.int len), .val (.int lo), .val (.int hi), .val (.int v3), .val (.int (own_b g1))] [(.int (191 : Int32)), (.int v3)])) (fun _ kgo => XS.sipush X67.here hx rfl (hb hby d1_397) kgo) ?_
                    have J86 : own_Go p e below (own_Post s QQ 0 0) T67 (mkF m 408 #[.val (.ref o0), .val (.int (0 : Int32)), .val (.ref o2), .val (.ref o3), .val (.int v0), .val (.int len), .val (.int lo), .val (.int hi), .val (.int v3), .val (.int (own_b g1))] [(.int (own_b (!decide ((191 : Int32) < v3))))]) := by
                      have hE75 : own_b ((!decide (v3 < (128 : Int32)) && !decide ((191 : Int32) < v3))) = (own_b (!decide ((191 : Int32) < v3))) := by simp only [decide_eq_false hc85]; first | done | rfl
                      exact own_cast (by rw [hE75]) J75
                    by_cases hc87 : (191 : Int32) < v3
                    ·
                      refine own_go (g' := (mkF m 407 #[.val (.ref o0), .val (.int (0 : Int32)), .val (.ref o2), .val (.ref o3), .val (.int v0), .val (.int len), .val (.int lo), .val (.int hi), .val (.int v3), .val (.int (own_b g1))] [])) (fun _ kgo => XS.icmpYes X67.here hx rfl (pc0 := 400) (pc' := 407) rfl (hb hby d1_400) rfl (tlt hc87).2.2.1 (by decide) (by decide) kgo) ?_
                      refine own_go (g' := (mkF m 408 #[.val (.ref o0), .val (.int (0 : Int32)), .val (.ref o2), .val (.ref o3), .val (.int v0), .val (.int len), .val (.int lo), .val (.int hi), .val (.int v3), .val (.int (own_b g1))] [(.int (0 : Int32))])) (fun _ kgo => XS.iconst X67.here hx rfl (hb hby d1_407) kgo) ?_
                      have hE86 : own_b (!decide ((191 : Int32) < v3)) = (0 : Int32) := by simp only [decide_eq_true hc87]; first | done | rfl
                      exact own_cast (by rw [hE86]) J86
                    ·
                      refine own_go (g' := (mkF m 403 #[.val (.ref o0), .val (.int (0 : Int32)), .val (.ref o2), .val (.ref o3), .val (.int v0), .val (.int len), .val (.int lo), .val (.int hi), .val (.int v3), .val (.int (own_b g1))] [])) (fun _ kgo => XS.icmpNo X67.here hx rfl (hb hby d1_400) rfl (flt hc87).2.2.1 kgo) ?_
                      refine own_go (g' := (mkF m 404 #[.val (.ref o0), .val (.int (0 : Int32)), .val (.ref o2), .val (.ref o3), .val (.int v0), .val (.int len), .val (.int lo), .val (.int hi), .val (.int v3), .val (.int (own_b g1))] [(.int (1 : Int32))])) (fun _ kgo => XS.iconst X67.here hx rfl (hb hby d1_403) kgo) ?_
                      refine own_go (g' := (mkF m 408 #[.val (.ref o0), .val (.int (0 : Int32)), .val (.ref o2), .val (.ref o3), .val (.int v0), .val (.int len), .val (.int lo), .val (.int hi), .val (.int v3), .val (.int (own_b g1))] [(.int (1 : Int32))])) (fun _ kgo => XS.goto X67.here hx rfl (pc0 := 404) (pc' := 408) rfl (hb hby d1_404) (by decide) (by decide) kgo) ?_
                      have hE86 : own_b (!decide ((191 : Int32) < v3)) = (1 : Int32) := by simp only [decide_eq_false hc87]; first | done | rfl
                      exact own_cast (by rw [hE86]) J86
              ·
                refine own_go (g' := (mkF m 300 #[.val (.ref o0), .val (.int (0 : Int32)), .val (.ref o2), .val (.ref o3), .val (.int v0), .val (.int len), .val (.int lo), .val (.int hi), .val (.int v1), .val (.int (own_b g1))] [])) (fun _ kgo => XS.icmpNo X67.here hx rfl (hb hby d1_297) rfl (flt hc69).1 kgo) ?_
                refine own_go (g' := (mkF m 301 #[.val (.ref o0), .val (.int (0 : Int32)), .val (.ref o2), .val (.ref o3), .val (.int v0), .val (.int len), .val (.int lo), .val (.int hi), .val (.int v1), .val (.int (own_b g1))] [(.int (0 : Int32))])) (fun _ kgo => XS.iloadN X67.here hx rfl (hb hby d1_300) rfl kgo) ?_
                refine own_go (g' := (mkF m 302 #[.val (.ref o0), .val (.int (0 : Int32)), .val (.ref o2), .val (.ref o3), .val (.int v0), .val (.int len), .val (.int lo), .val (.int hi), .val (.int v1), .val (.int (own_b g1))] [(.int (2 : Int32)), (.int (0 : Int32))])) (fun _ kgo => XS.iconst X67.here hx rfl (hb hby d1_301) kgo) ?_
                refine own_go (g' := (mkF m 303 #[.val (.ref o0), .val (.int (0 : Int32)), .val (.ref o2), .val (.ref o3), .val (.int v0), .val (.int len), .val (.int lo), .val (.int hi), .val (.int v1), .val (.int (own_b g1))] [(.int (2 : Int32))])) (fun _ kgo => XS.iadd X67.here hx rfl (hb hby d1_302) rfl kgo) ?_
                refine own_go (g' := (mkF m 304 #[.val (.ref o0), .val (.int (0 : Int32)), .val (.ref o2), .val (.ref o3), .val (.int v0), .val (.int len), .val (.int lo), .val (.int hi), .val (.int v1), .val (.int (own_b g1))] [(.int (4 : Int32)), (.int (2 : Int32))])) (fun _ kgo => XS.iconst X67.here hx rfl (hb hby d1_303) kgo) ?_
                refine own_go (g' := (mkF m 307 #[.val (.ref o0), .val (.int (0 : Int32)), .val (.ref o2), .val (.ref o3), .val (.int v0), .val (.int len), .val (.int lo), .val (.int hi), .val (.int v1), .val (.int (own_b g1))] [])) (fun _ kgo => XS.icmpNo X67.here hx rfl (hb hby d1_304) rfl (tlt (by decide)).2.1 kgo) ?_
                refine own_go (g' := (mkF m 308 #[.val (.ref o0), .val (.int (0 : Int32)), .val (.ref o2), .val (.ref o3), .val (.int v0), .val (.int len), .val (.int lo), .val (.int hi), .val (.int v1), .val (.int (own_b g1))] [(.ref o0)])) (fun _ kgo => XS.aloadN X67.here hx rfl (hb hby d1_307) rfl rfl kgo) ?_
                refine own_go (g' := (mkF m 309 #[.val (.ref o0), .val (.int (0 : Int32)), .val (.ref o2), .val (.ref o3), .val (.int v0), .val (.int len), .val (.int lo), .val (.int hi), .val (.int v1), .val (.int (own_b g1))] [(.int (0 : Int32)), (.ref o0)])) (fun _ kgo => XS.iloadN X67.here hx rfl (hb hby d1_308) rfl kgo) ?_
                refine own_go (g' := (mkF m 310 #[.val (.ref o0), .val (.int (0 : Int32)), .val (.ref o2), .val (.ref o3), .val (.int v0), .val (.int len), .val (.int lo), .val (.int hi), .val (.int v1), .val (.int (own_b g1))] [(.int (2 : Int32)), (.int (0 : Int32)), (.ref o0)])) (fun _ kgo => XS.iconst X67.here hx rfl (hb hby d1_309) kgo) ?_
                refine own_go (g' := (mkF m 311 #[.val (.ref o0), .val (.int (0 : Int32)), .val (.ref o2), .val (.ref o3), .val (.int v0), .val (.int len), .val (.int lo), .val (.int hi), .val (.int v1), .val (.int (own_b g1))] [(.int (2 : Int32)), (.ref o0)])) (fun _ kgo => XS.iadd X67.here hx rfl (hb hby d1_310) rfl kgo) ?_
                have fx88 : Arv Z h67 o0 kv .int (4 : Int32) [(.int v0), (.int v1), (.int v2), (.int v3)] (.int (0 : Int32)) := (Arv.other (Arv.other fx60 W64 hn02) W67 hn03)
                obtain ⟨cl89, Ar89, qk89, sz89, nn89, Hs89, Gs89⟩ := id fx88
                have hin89 : ¬ ((2 : Int32) < 0 ∨ cl89.slots.size ≤ ((2 : Int32)).toNatClampNeg) := inb_of sz89 ⟨by decide, by decide⟩
                have hat89 : cl89.slots[((2 : Int32)).toNatClampNeg]? = some (.int v2) := Has.at Hs89 hin89 rfl
                refine own_go (g' := (mkF m 312 #[.val (.ref o0), .val (.int (0 : Int32)), .val (.ref o2), .val (.ref o3), .val (.int v0), .val (.int len), .val (.int lo), .val (.int hi), .val (.int v1), .val (.int (own_b g1))] [(.int v2)])) (X67.iaload hx (j := (2 : Int32)) (v := (.int v2)) (by rw [e67]; exact Ar89.1) (State.isArrayOf_alike hZ.alike Ar89.2.1) Ar89.2.2 hin89 hat89 (g := (mkF m 311 #[.val (.ref o0), .val (.int (0 : Int32)), .val (.ref o2), .val (.ref o3), .val (.int v0), .val (.int len), .val (.int lo), .val (.int hi), .val (.int v1), .val (.int (own_b g1))] [(.int (2 : Int32)), (.ref o0)])) rfl rfl (hb hby d1_311)) ?_
                refine own_go (g' := (mkF m 314 #[.val (.ref o0), .val (.int (0 : Int32)), .val (.ref o2), .val (.ref o3), .val (.int v0), .val (.int len), .val (.int lo), .val (.int hi), .val (.int v2), .val (.int (own_b g1))] [])) (fun _ kgo => XS.istore X67.here hx rfl (hb hby d1_312) rfl (l' := #[.val (.ref o0), .val (.int (0 : Int32)), .val (.ref o2), .val (.ref o3), .val (.int v0), .val (.int len), .val (.int lo), .val (.int hi), .val (.int v2), .val (.int (own_b g1))]) rfl kgo) ?_
                refine own_go (g' := (mkF m 316 #[.val (.ref o0), .val (.int (0 : Int32)), .val (.ref o2), .val (.ref o3), .val (.int v0), .val (.int len), .val (.int lo), .val (.int hi), .val (.int v2), .val (.int (own_b g1))] [(.int v2)])) (fun _ kgo => XS.iload X67.here hx rfl (hb hby d1_314) rfl kgo) ?_
                refine own_go (g' := (mkF m 319 #[.val (.ref o0), .val (.int (0 : Int32)), .val (.ref o2), .val (.ref o3), .val (.int v0), .val (.int len), .val (.int lo), .val (.int hi), .val (.int v2), .val (.int (own_b g1))] [(.int (128 : Int32)), (.int v2)])) (fun _ kgo => XS.sipush X67.here hx rfl (hb hby d1_316) kgo) ?_
                have J90 : own_Go p e below (own_Post s QQ 0 0) T67 (mkF m 335 #[.val (.ref o0), .val (.int (0 : Int32)), .val (.ref o2), .val (.ref o3), .val (.int v0), .val (.int len), .val (.int lo), .val (.int hi), .val (.int v2), .val (.int (own_b g1))] [(.int (own_b ((!decide (v2 < (128 : Int32)) && !decide ((191 : Int32) < v2)))))]) := by
                  suffices JNhg2 : ∀ g2 : Bool, g2 = ((!decide (v2 < (128 : Int32)) && !decide ((191 : Int32) < v2))) → own_Go p e below (own_Post s QQ 0 0) T67 (mkF m 335 #[.val (.ref o0), .val (.int (0 : Int32)), .val (.ref o2), .val (.ref o3), .val (.int v0), .val (.int len), .val (.int lo), .val (.int hi), .val (.int v2), .val (.int (own_b g1))] [(.int (own_b g2))]) from JNhg2 _ (rfl)
                  intro g2 hg2
                  refine own_go (g' := (mkF m 337 #[.val (.ref o0), .val (.int (0 : Int32)), .val (.ref o2), .val (.ref o3), .val (.int v0), .val (.int len), .val (.int lo), .val (.int hi), .val (.int v2), .val (.int (own_b g2))] [])) (fun _ kgo => XS.istore X67.here hx rfl (hb hby d1_335) rfl (l' := #[.val (.ref o0), .val (.int (0 : Int32)), .val (.ref o2), .val (.ref o3), .val (.int v0), .val (.int len), .val (.int lo), .val (.int hi), .val (.int v2), .val (.int (own_b g2))]) rfl kgo) ?_
                  refine own_go (g' := (mkF m 338 #[.val (.ref o0), .val (.int (0 : Int32)), .val (.ref o2), .val (.ref o3), .val (.int v0), .val (.int len), .val (.int lo), .val (.int hi), .val (.int v2), .val (.int (own_b g2))] [(.ref o2)])) (fun _ kgo => XS.aloadN X67.here hx rfl (hb hby d1_337) rfl rfl kgo) ?_
                  refine own_go (g' := (mkF m 339 #[.val (.ref o0), .val (.int (0 : Int32)), .val (.ref o2), .val (.ref o3), .val (.int v0), .val (.int len), .val (.int lo), .val (.int hi), .val (.int v2), .val (.int (own_b g2))] [(.int (0 : Int32)), (.ref o2)])) (fun _ kgo => XS.iloadN X67.here hx rfl (hb hby d1_338) rfl kgo) ?_
                  refine own_go (g' := (mkF m 340 #[.val (.ref o0), .val (.int (0 : Int32)), .val (.ref o2), .val (.ref o3), .val (.int v0), .val (.int len), .val (.int lo), .val (.int hi), .val (.int v2), .val (.int (own_b g2))] [(.int (2 : Int32)), (.int (0 : Int32)), (.ref o2)])) (fun _ kgo => XS.iconst X67.here hx rfl (hb hby d1_339) kgo) ?_
                  refine own_go (g' := (mkF m 341 #[.val (.ref o0), .val (.int (0 : Int32)), .val (.ref o2), .val (.ref o3), .val (.int v0), .val (.int len), .val (.int lo), .val (.int hi), .val (.int v2), .val (.int (own_b g2))] [(.int (2 : Int32)), (.ref o2)])) (fun _ kgo => XS.iadd X67.here hx rfl (hb hby d1_340) rfl kgo) ?_
                  refine own_go (g' := (mkF m 343 #[.val (.ref o0), .val (.int (0 : Int32)), .val (.ref o2), .val (.ref o3), .val (.int v0), .val (.int len), .val (.int lo), .val (.int hi), .val (.int v2), .val (.int (own_b g2))] [(.int (own_b g2)), (.int (2 : Int32)), (.ref o2)])) (fun _ kgo => XS.iload X67.here hx rfl (hb hby d1_341) rfl kgo) ?_
                  have fx91 : Arv Z h67 o2 ko .boolean (4 : Int32) [(.int (own_b true)), (.int (own_b g1)), (.int (own_b a2_)), (.int (own_b a3_))] (.int (0 : Int32)) := (Arv.other V64 W67 hn23)
                  obtain ⟨cl92, Ar92, qk92, sz92, nn92, Hs92, Gs92⟩ := id fx91
                  have hin92 : ¬ ((2 : Int32) < 0 ∨ cl92.slots.size ≤ ((2 : Int32)).toNatClampNeg) := inb_of sz92 ⟨by decide, by decide⟩
                  obtain ⟨T92, h92, X92, e92, W92, st92⟩ := stZ X67 hx hZ e67 Ar92 (j := (2 : Int32)) hin92 (g := (mkF m 343 #[.val (.ref o0), .val (.int (0 : Int32)), .val (.ref o2), .val (.ref o3), .val (.int v0), .val (.int len), .val (.int lo), .val (.int hi), .val (.int v2), .val (.int (own_b g2))] [(.int (own_b g2)), (.int (2 : Int32)), (.ref o2)])) rfl rfl (hb hby d1_343)
                  have Vn92 : Arv Z h92 o2 ko .boolean (4 : Int32) [(.int (own_b true)), (.int (own_b g1)), (.int (nar .boolean (own_b g2))), (.int (own_b a3_))] (.int (0 : Int32)) := Arv.set Ar92 qk92 sz92 nn92 Hs92 Gs92 (fits_nar_bool _) W92 2 rfl (Nat.le_of_ble_eq_true rfl)
                  have V92 : Arv Z h92 o2 ko .boolean (4 : Int32) [(.int (own_b true)), (.int (own_b g1)), (.int (own_b g2)), (.int (own_b a3_))] (.int (0 : Int32)) := by rw [own_b_nar] at Vn92; exact Vn92
                  have N92 := Fr.snoc X92 N67 g_o2
                  have Z92 : n0 ≤ h92.size := by rw [W92.size]; exact Z67
                  have K92 : Keep h0 h92 [o2, o3] := K67.wr W92 (Or.inl (List.mem_of_getElem? (i := 0) rfl))
                  refine own_go (g' := (mkF m 344 #[.val (.ref o0), .val (.int (0 : Int32)), .val (.ref o2), .val (.ref o3), .val (.int v0), .val (.int len), .val (.int lo), .val (.int hi), .val (.int v2), .val (.int (own_b g2))] [])) (st92) ?_
                  refine own_go (g' := (mkF m 345 #[.val (.ref o0), .val (.int (0 : Int32)), .val (.ref o2), .val (.ref o3), .val (.int v0), .val (.int len), .val (.int lo), .val (.int hi), .val (.int v2), .val (.int (own_b g2))] [(.ref o3)])) (fun _ kgo => XS.aloadN X92.here hx rfl (hb hby d1_344) rfl rfl kgo) ?_
                  refine own_go (g' := (mkF m 346 #[.val (.ref o0), .val (.int (0 : Int32)), .val (.ref o2), .val (.ref o3), .val (.int v0), .val (.int len), .val (.int lo), .val (.int hi), .val (.int v2), .val (.int (own_b g2))] [(.int (0 : Int32)), (.ref o3)])) (fun _ kgo => XS.iloadN X92.here hx rfl (hb hby d1_345) rfl kgo) ?_
                  refine own_go (g' := (mkF m 347 #[.val (.ref o0), .val (.int (0 : Int32)), .val (.ref o2), .val (.ref o3), .val (.int v0), .val (.int len), .val (.int lo), .val (.int hi), .val (.int v2), .val (.int (own_b g2))] [(.int (2 : Int32)), (.int (0 : Int32)), (.ref o3)])) (fun _ kgo => XS.iconst X92.here hx rfl (hb hby d1_346) kgo) ?_
                  refine own_go (g' := (mkF m 348 #[.val (.ref o0), .val (.int (0 : Int32)), .val (.ref o2), .val (.ref o3), .val (.int v0), .val (.int len), .val (.int lo), .val (.int hi), .val (.int v2), .val (.int (own_b g2))] [(.int (2 : Int32)), (.ref o3)])) (fun _ kgo => XS.iadd X92.here hx rfl (hb hby d1_347) rfl kgo) ?_
                  refine own_go (g' := (mkF m 350 #[.val (.ref o0), .val (.int (0 : Int32)), .val (.ref o2), .val (.ref o3), .val (.int v0), .val (.int len), .val (.int lo), .val (.int hi), .val (.int v2), .val (.int (own_b g2))] [(.int len), (.int (2 : Int32)), (.ref o3)])) (fun _ kgo => XS.iload X92.here hx rfl (hb hby d1_348) rfl kgo) ?_
                  refine own_go (g' := (mkF m 351 #[.val (.ref o0), .val (.int (0 : Int32)), .val (.ref o2), .val (.ref o3), .val (.int v0), .val (.int len), .val (.int lo), .val (.int hi), .val (.int v2), .val (.int (own_b g2))] [(.int (3 : Int32)), (.int len), (.int (2 : Int32)), (.ref o3)])) (fun _ kgo => XS.iconst X92.here hx rfl (hb hby d1_350) kgo) ?_
                  have J93 : own_Go p e below (own_Post s QQ 0 0) T92 (mkF m 359 #[.val (.ref o0), .val (.int (0 : Int32)), .val (.ref o2), .val (.ref o3), .val (.int v0), .val (.int len), .val (.int lo), .val (.int hi), .val (.int v2), .val (.int (own_b g2))] [(.int (own_b (decide (len = (3 : Int32))))), (.int (2 : Int32)), (.ref o3)]) := by
                    have fx94 : Arv Z h92 o3 kc .boolean (4 : Int32) [(.int (own_b (decide (len = (1 : Int32))))), (.int (own_b (decide (len = (2 : Int32))))), (.int (own_b c2_)), (.int (own_b c3_))] (.int (0 : Int32)) := (Arv.other V67 W92 (Ne.symm hn23))
                    obtain ⟨cl95, Ar95, qk95, sz95, nn95, Hs95, Gs95⟩ := id fx94
                    have hin95 : ¬ ((2 : Int32) < 0 ∨ cl95.slots.size ≤ ((2 : Int32)).toNatClampNeg) := inb_of sz95 ⟨by decide, by decide⟩
                    obtain ⟨T95, h95, X95, e95, W95, st95⟩ := stZ X92 hx hZ e92 Ar95 (j := (2 : Int32)) hin95 (g := (mkF m 359 #[.val (.ref o0), .val (.int (0 : Int32)), .val (.ref o2), .val (.ref o3), .val (.int v0), .val (.int len), .val (.int lo), .val (.int hi), .val (.int v2), .val (.int (own_b g2))] [(.int (own_b (decide (len = (3 : Int32))))), (.int (2 : Int32)), (.ref o3)])) rfl rfl (hb hby d1_359)
                    have Vn95 : Arv Z h95 o3 kc .boolean (4 : Int32) [(.int (own_b (decide (len = (1 : Int32))))), (.int (own_b (decide (len = (2 : Int32))))), (.int (nar .boolean (own_b (decide (len = (3 : Int32)))))), (.int (own_b c3_))] (.int (0 : Int32)) := Arv.set Ar95 qk95 sz95 nn95 Hs95 Gs95 (fits_nar_bool _) W95 2 rfl (Nat.le_of_ble_eq_true rfl)
                    have V95 : Arv Z h95 o3 kc .boolean (4 : Int32) [(.int (own_b (decide (len = (1 : Int32))))), (.int (own_b (decide (len = (2 : Int32))))), (.int (own_b (decide (len = (3 : Int32))))), (.int (own_b c3_))] (.int (0 : Int32)) := by rw [own_b_nar] at Vn95; exact Vn95
                    have N95 := Fr.snoc X95 N92 g_o3
                    have Z95 : n0 ≤ h95.size := by rw [W95.size]; exact Z92
                    have K95 : Keep h0 h95 [o2, o3] := K92.wr W95 (Or.inl (List.mem_of_getElem? (i := 1) rfl))
                    refine own_go (g' := (mkF m 360 #[.val (.ref o0), .val (.int (0 : Int32)), .val (.ref o2), .val (.ref o3), .val (.int v0), .val (.int len), .val (.int lo), .val (.int hi), .val (.int v2), .val (.int (own_b g2))] [])) (st95) ?_
                    refine own_go (g' := (mkF m 362 #[.val (.ref o0), .val (.int (0 : Int32)), .val (.ref o2), .val (.ref o3), .val (.int v0), .val (.int len), .val (.int lo), .val (.int hi), .val (.int v2), .val (.int (own_b g2))] [(.int (own_b g2))])) (fun _ kgo => XS.iload X95.here hx rfl (hb hby d1_360) rfl kgo) ?_
                    by_cases hc96 : g2 = true
                    ·
                      refine own_go (g' := (mkF m 367 #[.val (.ref o0), .val (.int (0 : Int32)), .val (.ref o2), .val (.ref o3), .val (.int v0), .val (.int len), .val (.int lo), .val (.int hi), .val (.int v2), .val (.int (own_b g2))] [])) (fun _ kgo => XS.ifYes X95.here hx rfl (pc0 := 362) (pc' := 367) rfl (hb hby d1_362) rfl ((if0 _ _).trans (feq (own_b_n hc96)).2) (by decide) (by decide) kgo) ?_
                      refine own_go (g' := (mkF m 369 #[.val (.ref o0), .val (.int (0 : Int32)), .val (.ref o2), .val (.ref o3), .val (.int v0), .val (.int len), .val (.int lo), .val (.int hi), .val (.int v2), .val (.int (own_b g2))] [(.int len)])) (fun _ kgo => XS.iload X95.here hx rfl (hb hby d1_367) rfl kgo) ?_
                      refine own_go (g' := (mkF m 370 #[.val (.ref o0), .val (.int (0 : Int32)), .val (.ref o2), .val (.ref o3), .val (.int v0), .val (.int len), .val (.int lo), .val (.int hi), .val (.int v2), .val (.int (own_b g2))] [(.int (4 : Int32)), (.int len)])) (fun _ kgo => XS.iconst X95.here hx rfl (hb hby d1_369) kgo) ?_
                      by_cases hc97 : len < (4 : Int32)
                      ·
                        refine own_go (g' := (mkF m 430 #[.val (.ref o0), .val (.int (0 : Int32)), .val (.ref o2), .val (.ref o3), .val (.int v0), .val (.int len), .val (.int lo), .val (.int hi), .val (.int v2), .val (.int (own_b g2))] [])) (fun _ kgo => XS.icmpYes X95.here hx rfl (pc0 := 370) (pc' := 430) rfl (hb hby d1_370) rfl (tlt hc97).1 (by decide) (by decide) kgo) ?_
                        refine own_go (g' := (mkF m 431 #[.val (.ref o0), .val (.int (0 : Int32)), .val (.ref o2), .val (.ref o3), .val (.int v0), .val (.int len), .val (.int lo), .val (.int hi), .val (.int v2), .val (.int (own_b g2))] [(.int (0 : Int32))])) (fun _ kgo => XS.iloadN X95.here hx rfl (hb hby d1_430) rfl kgo) ?_
                        refine own_go (g' := (mkF m 433 #[.val (.ref o0), .val (.int (0 : Int32)), .val (.ref o2), .val (.ref o3), .val (.int v0), .val (.int len), .val (.int lo), .val (.int hi), .val (.int v2), .val (.int (own_b g2))] [(.int len), (.int (0 : Int32))])) (fun _ kgo => XS.iload X95.here hx rfl (hb hby d1_431) rfl kgo) ?_
                        refine own_go (g' := (mkF m 434 #[.val (.ref o0), .val (.int (0 : Int32)), .val (.ref o2), .val (.ref o3), .val (.int v0), .val (.int len), .val (.int lo), .val (.int hi), .val (.int v2), .val (.int (own_b g2))] [(.int ((0 : Int32) + len))])) (fun _ kgo => XS.iadd X95.here hx rfl (hb hby d1_433) rfl kgo) ?_
                        refine own_retI X95 hx Bd.returns Bd.notSynchronized (hb hby d1_434) (by decide) (by decide) ?_
                        show QQ _ T95.heap _
                        rw [e95]
                        have hrel : ((((0 : Int32) + len) = 1 ∧ ∀ t, own_chk ((v0, true, (decide (len = (1 : Int32)))) :: t) 0 128 191 = own_chk t 0 128 191) ∨ (((0 : Int32) + len) = 2 ∧ ∀ t, own_chk ((v0, true, (decide (len = (1 : Int32)))) :: (v1, g1, (decide (len = (2 : Int32)))) :: t) 0 128 191 = own_chk t 0 128 191) ∨ (((0 : Int32) + len) = 3 ∧ ∀ t, own_chk ((v0, true, (decide (len = (1 : Int32)))) :: (v1, g1, (decide (len = (2 : Int32)))) :: (v2, g2, (decide (len = (3 : Int32)))) :: t) 0 128 191 = own_chk t 0 128 191) ∨ (¬ ((0 : Int32) + len) < 4 ∧ own_chk [(v0, true, (decide (len = (1 : Int32)))), (v1, g1, (decide (len = (2 : Int32)))), (v2, g2, (decide (len = (3 : Int32)))), (v3, a3_, c3_)] 0 128 191 = true)) := by
                          rcases hlen with rfl | rfl | rfl | rfl
                          · first | exact absurd hc7 (by decide) | exact absurd hc69 (by decide) | exact absurd hc97 (by decide) | (exact Or.inl (⟨by decide, fun t => by rw [own_f1 hcl (hl1 rfl).1 (hl1 rfl).2 (by decide)]⟩))
                          · first | exact absurd hc7 (by decide) | exact absurd hc69 (by decide) | exact absurd hc97 (by decide) | (exact Or.inr (Or.inl (⟨by decide, fun t => by rw [own_fn hcl (nd := 1) (by decide) (by decide) (by decide), own_nt (nd' := 0) (by decide) (by decide) hg1 hc68 (by decide)]⟩)))
                          · first | exact absurd hc7 (by decide) | exact absurd hc69 (by decide) | exact absurd hc97 (by decide) | (exact Or.inr (Or.inr (Or.inl (⟨by decide, fun t => by rw [own_fn hcl (nd := 2) (by decide) (by decide) (by decide), own_nt (nd' := 1) (by decide) (by decide) hg1 hc68 (by decide), own_nt (nd' := 0) (by decide) (by decide) hg2 hc96 (by decide)]⟩))))
                          · first | exact absurd hc7 (by decide) | exact absurd hc69 (by decide) | exact absurd hc97 (by decide) | (exact Or.inr (Or.inr (Or.inr ((⟨by decide, by rw [own_fn hcl (nd := 3) (by decide) (by decide) (by decide), own_nt (nd' := 2) (by decide) (by decide) hg1 hc68 (by decide), own_nt (nd' := 1) (by decide) (by decide) hg2 hc96 (by decide)]; rfl⟩)))))
                        have fx98 : Arv Z h95 o0 kv .int (4 : Int32) [(.int v0), (.int v1), (.int v2), (.int v3)] (.int (0 : Int32)) := (Arv.other (Arv.other fx88 W92 hn02) W95 hn03)
                        have fx99 : Arv Z h95 o2 ko .boolean (4 : Int32) [(.int (own_b true)), (.int (own_b g1)), (.int (own_b g2)), (.int (own_b a3_))] (.int (0 : Int32)) := (Arv.other V92 W95 hn23)
                        rw [← hQQ]
                        exact ⟨((0 : Int32) + len), true, g1, g2, a3_, (decide (len = (1 : Int32))), (decide (len = (2 : Int32))), (decide (len = (3 : Int32))), c3_, rfl, N95, K95, hrel, fx98, fx99, V95⟩
                      ·
                        refine own_go (g' := (mkF m 373 #[.val (.ref o0), .val (.int (0 : Int32)), .val (.ref o2), .val (.ref o3), .val (.int v0), .val (.int len), .val (.int lo), .val (.int hi), .val (.int v2), .val (.int (own_b g2))] [])) (fun _ kgo => XS.icmpNo X95.here hx rfl (hb hby d1_370) rfl (flt hc97).1 kgo) ?_
                        refine own_go (g' := (mkF m 374 #[.val (.ref o0), .val (.int (0 : Int32)), .val (.ref o2), .val (.ref o3), .val (.int v0), .val (.int len), .val (.int lo), .val (.int hi), .val (.int v2), .val (.int (own_b g2))] [(.int (0 : Int32))])) (fun _ kgo => XS.iloadN X95.here hx rfl (hb hby d1_373) rfl kgo) ?_
                        refine own_go (g' := (mkF m 375 #[.val (.ref o0), .val (.int (0 : Int32)), .val (.ref o2), .val (.ref o3), .val (.int v0), .val (.int len), .val (.int lo), .val (.int hi), .val (.int v2), .val (.int (own_b g2))] [(.int (3 : Int32)), (.int (0 : Int32))])) (fun _ kgo => XS.iconst X95.here hx rfl (hb hby d1_374) kgo) ?_
                        refine own_go (g' := (mkF m 376 #[.val (.ref o0), .val (.int (0 : Int32)), .val (.ref o2), .val (.ref o3), .val (.int v0), .val (.int len), .val (.int lo), .val (.int hi), .val (.int v2), .val (.int (own_b g2))] [(.int (3 : Int32))])) (fun _ kgo => XS.iadd X95.here hx rfl (hb hby d1_375) rfl kgo) ?_
                        refine own_go (g' := (mkF m 377 #[.val (.ref o0), .val (.int (0 : Int32)), .val (.ref o2), .val (.ref o3), .val (.int v0), .val (.int len), .val (.int lo), .val (.int hi), .val (.int v2), .val (.int (own_b g2))] [(.int (4 : Int32)), (.int (3 : Int32))])) (fun _ kgo => XS.iconst X95.here hx rfl (hb hby d1_376) kgo) ?_
                        refine own_go (g' := (mkF m 380 #[.val (.ref o0), .val (.int (0 : Int32)), .val (.ref o2), .val (.ref o3), .val (.int v0), .val (.int len), .val (.int lo), .val (.int hi), .val (.int v2), .val (.int (own_b g2))] [])) (fun _ kgo => XS.icmpNo X95.here hx rfl (hb hby d1_377) rfl (tlt (by decide)).2.1 kgo) ?_
                        refine own_go (g' := (mkF m 381 #[.val (.ref o0), .val (.int (0 : Int32)), .val (.ref o2), .val (.ref o3), .val (.int v0), .val (.int len), .val (.int lo), .val (.int hi), .val (.int v2), .val (.int (own_b g2))] [(.ref o0)])) (fun _ kgo => XS.aloadN X95.here hx rfl (hb hby d1_380) rfl rfl kgo) ?_
                        refine own_go (g' := (mkF m 382 #[.val (.ref o0), .val (.int (0 : Int32)), .val (.ref o2), .val (.ref o3), .val (.int v0), .val (.int len), .val (.int lo), .val (.int hi), .val (.int v2), .val (.int (own_b g2))] [(.int (0 : Int32)), (.ref o0)])) (fun _ kgo => XS.iloadN X95.here hx rfl (hb hby d1_381) rfl kgo) ?_
                        refine own_go (g' := (mkF m 383 #[.val (.ref o0), .val (.int (0 : Int32)), .val (.ref o2), .val (.ref o3), .val (.int v0), .val (.int len), .val (.int lo), .val (.int hi), .val (.int v2), .val (.int (own_b g2))] [(.int (3 : Int32)), (.int (0 : Int32)), (.ref o0)])) (fun _ kgo => XS.iconst X95.here hx rfl (hb hby d1_382) kgo) ?_
                        refine own_go (g' := (mkF m 384 #[.val (.ref o0), .val (.int (0 : Int32)), .val (.ref o2), .val (.ref o3), .val (.int v0), .val (.int len), .val (.int lo), .val (.int hi), .val (.int v2), .val (.int (own_b g2))] [(.int (3 : Int32)), (.ref o0)])) (fun _ kgo => XS.iadd X95.here hx rfl (hb hby d1_383) rfl kgo) ?_
                        have fx100 : Arv Z h95 o0 kv .int (4 : Int32) [(.int v0), (.int v1), (.int v2), (.int v3)] (.int (0 : Int32)) := (Arv.other (Arv.other fx88 W92 hn02) W95 hn03)
                        obtain ⟨cl101, Ar101, qk101, sz101, nn101, Hs101, Gs101⟩ := id fx100
                        have hin101 : ¬ ((3 : Int32) < 0 ∨ cl101.slots.size ≤ ((3 : Int32)).toNatClampNeg) := inb_of sz101 ⟨by decide, by decide⟩
                        have hat101 : cl101.slots[((3 : Int32)).toNatClampNeg]? = some (.int v3) := Has.at Hs101 hin101 rfl
                        refine own_go (g' := (mkF m 385 #[.val (.ref o0), .val (.int (0 : Int32)), .val (.ref o2), .val (.ref o3), .val (.int v0), .val (.int len), .val (.int lo), .val (.int hi), .val (.int v2), .val (.int (own_b g2))] [(.int v3)])) (X95.iaload hx (j := (3 : Int32)) (v := (.int v3)) (by rw [e95]; exact Ar101.1) (State.isArrayOf_alike hZ.alike Ar101.2.1) Ar101.2.2 hin101 hat101 (g := (mkF m 384 #[.val (.ref o0), .val (.int (0 : Int32)), .val (.ref o2), .val (.ref o3), .val (.int v0), .val (.int len), .val (.int lo), .val (.int hi), .val (.int v2), .val (.int (own_b g2))] [(.int (3 : Int32)), (.ref o0)])) rfl rfl (hb hby d1_384)) ?_
                        refine own_go (g' := (mkF m 387 #[.val (.ref o0), .val (.int (0 : Int32)), .val (.ref o2), .val (.ref o3), .val (.int v0), .val (.int len), .val (.int lo), .val (.int hi), .val (.int v3), .val (.int (own_b g2))] [])) (fun _ kgo => XS.istore X95.here hx rfl (hb hby d1_385) rfl (l' := #[.val (.ref o0), .val (.int (0 : Int32)), .val (.ref o2), .val (.ref o3), .val (.int v0), .val (.int len), .val (.int lo), .val (.int hi), .val (.int v3), .val (.int (own_b g2))]) rfl kgo) ?_
                        refine own_go (g' := (mkF m 389 #[.val (.ref o0), .val (.int (0 : Int32)), .val (.ref o2), .val (.ref o3), .val (.int v0), .val (.int len), .val (.int lo), .val (.int hi), .val (.int v3), .val (.int (own_b g2))] [(.int v3)])) (fun _ kgo => XS.iload X95.here hx rfl (hb hby d1_387) rfl kgo) ?_
                        refine own_go (g' := (mkF m 392 #[.val (.ref o0), .val (.int (0 : Int32)), .val (.ref o2), .val (.ref o3), .val (.int v0), .val (.int len), .val (.int lo), .val (.int hi), .val (.int v3), .val (.int (own_b g2))] [(.int (128 : Int32)), (.int v3)])) (fun _ kgo => XS.sipush X95.here hx rfl (hb hby d1_389) kgo) ?_
                        have J102 : own_Go p e below (own_Post s QQ 0 0) T95 (mkF m 408 #[.val (.ref o0), .val (.int (0 : Int32)), .val (.ref o2), .val (.ref o3), .val (.int v0), .val (.int len), .val (.int lo), .val (.int hi), .val (.int v3), .val (.int (own_b g2))] [(.int (own_b ((!decide (v3 < (128 : Int32)) && !decide ((191 : Int32) < v3)))))]) := by
                          suffices JNhg3 : ∀ g3 : Bool, g3 = ((!decide (v3 < (128 : Int32)) && !decide ((191 : Int32) < v3))) → own_Go p e below (own_Post s QQ 0 0) T95 (mkF m 408 #[.val (.ref o0), .val (.int (0 : Int32)), .val (.ref o2), .val (.ref o3), .val (.int v0), .val (.int len), .val (.int lo), .val (.int hi), .val (.int v3), .val (.int (own_b g2))] [(.int (own_b g3))]) from JNhg3 _ (rfl)
                          intro g3 hg3
                          refine own_go (g' := (mkF m 410 #[.val (.ref o0), .val (.int (0 : Int32)), .val (.ref o2), .val (.ref o3), .val (.int v0), .val (.int len), .val (.int lo), .val (.int hi), .val (.int v3), .val (.int (own_b g3))] [])) (fun _ kgo => XS.istore X95.here hx rfl (hb hby d1_408) rfl (l' := #[.val (.ref o0), .val (.int (0 : Int32)), .val (.ref o2), .val (.ref o3), .val (.int v0), .val (.int len), .val (.int lo), .val (.int hi), .val (.int v3), .val (.int (own_b g3))]) rfl kgo) ?_
                          refine own_go (g' := (mkF m 411 #[.val (.ref o0), .val (.int (0 : Int32)), .val (.ref o2), .val (.ref o3), .val (.int v0), .val (.int len), .val (.int lo), .val (.int hi), .val (.int v3), .val (.int (own_b g3))] [(.ref o2)])) (fun _ kgo => XS.aloadN X95.here hx rfl (hb hby d1_410) rfl rfl kgo) ?_
                          refine own_go (g' := (mkF m 412 #[.val (.ref o0), .val (.int (0 : Int32)), .val (.ref o2), .val (.ref o3), .val (.int v0), .val (.int len), .val (.int lo), .val (.int hi), .val (.int v3), .val (.int (own_b g3))] [(.int (0 : Int32)), (.ref o2)])) (fun _ kgo => XS.iloadN X95.here hx rfl (hb hby d1_411) rfl kgo) ?_
                          refine own_go (g' := (mkF m 413 #[.val (.ref o0), .val (.int (0 : Int32)), .val (.ref o2), .val (.ref o3), .val (.int v0), .val (.int len), .val (.int lo), .val (.int hi), .val (.int v3), .val (.int (own_b g3))] [(.int (3 : Int32)), (.int (0 : Int32)), (.ref o2)])) (fun _ kgo => XS.iconst X95.here hx rfl (hb hby d1_412) kgo) ?_
                          refine own_go (g' := (mkF m 414 #[.val (.ref o0), .val (.int (0 : Int32)), .val (.ref o2), .val (.ref o3), .val (.int v0), .val (.int len), .val (.int lo), .val (.int hi), .val (.int v3), .val (.int (own_b g3))] [(.int (3 : Int32)), (.ref o2)])) (fun _ kgo => XS.iadd X95.here hx rfl (hb hby d1_413) rfl kgo) ?_
                          refine own_go (g' := (mkF m 416 #[.val (.ref o0), .val (.int (0 : Int32)), .val (.ref o2), .val (.ref o3), .val (.int v0), .val (.int len), .val (.int lo), .val (.int hi), .val (.int v3), .val (.int (own_b g3))] [(.int (own_b g3)), (.int (3 : Int32)), (.ref o2)])) (fun _ kgo => XS.iload X95.here hx rfl (hb hby d1_414) rfl kgo) ?_
                          have fx103 : Arv Z h95 o2 ko .boolean (4 : Int32) [(.int (own_b true)), (.int (own_b g1)), (.int (own_b g2)), (.int (own_b a3_))] (.int (0 : Int32)) := (Arv.other V92 W95 hn23)
                          obtain ⟨cl104, Ar104, qk104, sz104, nn104, Hs104, Gs104⟩ := id fx103
                          have hin104 : ¬ ((3 : Int32) < 0 ∨ cl104.slots.size ≤ ((3 : Int32)).toNatClampNeg) := inb_of sz104 ⟨by decide, by decide⟩
                          obtain ⟨T104, h104, X104, e104, W104, st104⟩ := stZ X95 hx hZ e95 Ar104 (j := (3 : Int32)) hin104 (g := (mkF m 416 #[.val (.ref o0), .val (.int (0 : Int32)), .val (.ref o2), .val (.ref o3), .val (.int v0), .val (.int len), .val (.int lo), .val (.int hi), .val (.int v3), .val (.int (own_b g3))] [(.int (own_b g3)), (.int (3 : Int32)), (.ref o2)])) rfl rfl (hb hby d1_416)
                          have Vn104 : Arv Z h104 o2 ko .boolean (4 : Int32) [(.int (own_b true)), (.int (own_b g1)), (.int (own_b g2)), (.int (nar .boolean (own_b g3)))] (.int (0 : Int32)) := Arv.set Ar104 qk104 sz104 nn104 Hs104 Gs104 (fits_nar_bool _) W104 3 rfl (Nat.le_of_ble_eq_true rfl)
                          have V104 : Arv Z h104 o2 ko .boolean (4 : Int32) [(.int (own_b true)), (.int (own_b g1)), (.int (own_b g2)), (.int (own_b g3))] (.int (0 : Int32)) := by rw [own_b_nar] at Vn104; exact Vn104
                          have N104 := Fr.snoc X104 N95 g_o2
                          have Z104 : n0 ≤ h104.size := by rw [W104.size]; exact Z95
                          have K104 : Keep h0 h104 [o2, o3] := K95.wr W104 (Or.inl (List.mem_of_getElem? (i := 0) rfl))
                          refine own_go (g' := (mkF m 417 #[.val (.ref o0), .val (.int (0 : Int32)), .val (.ref o2), .val (.ref o3), .val (.int v0), .val (.int len), .val (.int lo), .val (.int hi), .val (.int v3), .val (.int (own_b g3))] [])) (st104) ?_
                          refine own_go (g' := (mkF m 418 #[.val (.ref o0), .val (.int (0 : Int32)), .val (.ref o2), .val (.ref o3), .val (.int v0), .val (.int len), .val (.int lo), .val (.int hi), .val (.int v3), .val (.int (own_b g3))] [(.ref o3)])) (fun _ kgo => XS.aloadN X104.here hx rfl (hb hby d1_417) rfl rfl kgo) ?_
                          refine own_go (g' := (mkF m 419 #[.val (.ref o0), .val (.int (0 : Int32)), .val (.ref o2), .val (.ref o3), .val (.int v0), .val (.int len), .val (.int lo), .val (.int hi), .val (.int v3), .val (.int (own_b g3))] [(.int (0 : Int32)), (.ref o3)])) (fun _ kgo => XS.iloadN X104.here hx rfl (hb hby d1_418) rfl kgo) ?_
                          refine own_go (g' := (mkF m 420 #[.val (.ref o0), .val (.int (0 : Int32)), .val (.ref o2), .val (.ref o3), .val (.int v0), .val (.int len), .val (.int lo), .val (.int hi), .val (.int v3), .val (.int (own_b g3))] [(.int (3 : Int32)), (.int (0 : Int32)), (.ref o3)])) (fun _ kgo => XS.iconst X104.here hx rfl (hb hby d1_419) kgo) ?_
                          refine own_go (g' := (mkF m 421 #[.val (.ref o0), .val (.int (0 : Int32)), .val (.ref o2), .val (.ref o3), .val (.int v0), .val (.int len), .val (.int lo), .val (.int hi), .val (.int v3), .val (.int (own_b g3))] [(.int (3 : Int32)), (.ref o3)])) (fun _ kgo => XS.iadd X104.here hx rfl (hb hby d1_420) rfl kgo) ?_
                          refine own_go (g' := (mkF m 422 #[.val (.ref o0), .val (.int (0 : Int32)), .val (.ref o2), .val (.ref o3), .val (.int v0), .val (.int len), .val (.int lo), .val (.int hi), .val (.int v3), .val (.int (own_b g3))] [(.int (1 : Int32)), (.int (3 : Int32)), (.ref o3)])) (fun _ kgo => XS.iconst X104.here hx rfl (hb hby d1_421) kgo) ?_
                          have fx105 : Arv Z h104 o3 kc .boolean (4 : Int32) [(.int (own_b (decide (len = (1 : Int32))))), (.int (own_b (decide (len = (2 : Int32))))), (.int (own_b (decide (len = (3 : Int32))))), (.int (own_b c3_))] (.int (0 : Int32)) := (Arv.other V95 W104 (Ne.symm hn23))
                          obtain ⟨cl106, Ar106, qk106, sz106, nn106, Hs106, Gs106⟩ := id fx105
                          have hin106 : ¬ ((3 : Int32) < 0 ∨ cl106.slots.size ≤ ((3 : Int32)).toNatClampNeg) := inb_of sz106 ⟨by decide, by decide⟩
                          obtain ⟨T106, h106, X106, e106, W106, st106⟩ := stZ X104 hx hZ e104 Ar106 (j := (3 : Int32)) hin106 (g := (mkF m 422 #[.val (.ref o0), .val (.int (0 : Int32)), .val (.ref o2), .val (.ref o3), .val (.int v0), .val (.int len), .val (.int lo), .val (.int hi), .val (.int v3), .val (.int (own_b g3))] [(.int (1 : Int32)), (.int (3 : Int32)), (.ref o3)])) rfl rfl (hb hby d1_422)
                          have Vn106 : Arv Z h106 o3 kc .boolean (4 : Int32) [(.int (own_b (decide (len = (1 : Int32))))), (.int (own_b (decide (len = (2 : Int32))))), (.int (own_b (decide (len = (3 : Int32))))), (.int (nar .boolean (own_b true)))] (.int (0 : Int32)) := Arv.set Ar106 qk106 sz106 nn106 Hs106 Gs106 (fits_nar_bool _) W106 3 rfl (Nat.le_of_ble_eq_true rfl)
                          have V106 : Arv Z h106 o3 kc .boolean (4 : Int32) [(.int (own_b (decide (len = (1 : Int32))))), (.int (own_b (decide (len = (2 : Int32))))), (.int (own_b (decide (len = (3 : Int32))))), (.int (own_b true))] (.int (0 : Int32)) := by rw [own_b_nar] at Vn106; exact Vn106
                          have N106 := Fr.snoc X106 N104 g_o3
                          have Z106 : n0 ≤ h106.size := by rw [W106.size]; exact Z104
                          have K106 : Keep h0 h106 [o2, o3] := K104.wr W106 (Or.inl (List.mem_of_getElem? (i := 1) rfl))
                          refine own_go (g' := (mkF m 423 #[.val (.ref o0), .val (.int (0 : Int32)), .val (.ref o2), .val (.ref o3), .val (.int v0), .val (.int len), .val (.int lo), .val (.int hi), .val (.int v3), .val (.int (own_b g3))] [])) (st106) ?_
                          refine own_go (g' := (mkF m 425 #[.val (.ref o0), .val (.int (0 : Int32)), .val (.ref o2), .val (.ref o3), .val (.int v0), .val (.int len), .val (.int lo), .val (.int hi), .val (.int v3), .val (.int (own_b g3))] [(.int (own_b g3))])) (fun _ kgo => XS.iload X106.here hx rfl (hb hby d1_423) rfl kgo) ?_
                          by_cases hc107 : g3 = true
                          ·
                            refine own_go (g' := (mkF m 430 #[.val (.ref o0), .val (.int (0 : Int32)), .val (.ref o2), .val (.ref o3), .val (.int v0), .val (.int len), .val (.int lo), .val (.int hi), .val (.int v3), .val (.int (own_b g3))] [])) (fun _ kgo => XS.ifYes X106.here hx rfl (pc0 := 425) (pc' := 430) rfl (hb hby d1_425) rfl ((if0 _ _).trans (feq (own_b_n hc107)).2) (by decide) (by decide) kgo) ?_
                            refine own_go (g' := (mkF m 431 #[.val (.ref o0), .val (.int (0 : Int32)), .val (.ref o2), .val (.ref o3), .val (.int v0), .val (.int len), .val (.int lo), .val (.int hi), .val (.int v3), .val (.int (own_b g3))] [(.int (0 : Int32))])) (fun _ kgo => XS.iloadN X106.here hx rfl (hb hby d1_430) rfl kgo) ?_
                            refine own_go (g' := (mkF m 433 #[.val (.ref o0), .val (.int (0 : Int32)), .val (.ref o2), .val (.ref o3), .val (.int v0), .val (.int len), .val (.int lo), .val (.int hi), .val (.int v3), .val (.int (own_b g3))] [(.int len), (.int (0 : Int32))])) (fun _ kgo => XS.iload X106.here hx rfl (hb hby d1_431) rfl kgo) ?_
                            refine own_go (g' := (mkF m 434 #[.val (.ref o0), .val (.int (0 : Int32)), .val (.ref o2), .val (.ref o3), .val (.int v0), .val (.int len), .val (.int lo), .val (.int hi), .val (.int v3), .val (.int (own_b g3))] [(.int ((0 : Int32) + len))])) (fun _ kgo => XS.iadd X106.here hx rfl (hb hby d1_433) rfl kgo) ?_
                            refine own_retI X106 hx Bd.returns Bd.notSynchronized (hb hby d1_434) (by decide) (by decide) ?_
                            show QQ _ T106.heap _
                            rw [e106]
                            have hrel : ((((0 : Int32) + len) = 1 ∧ ∀ t, own_chk ((v0, true, (decide (len = (1 : Int32)))) :: t) 0 128 191 = own_chk t 0 128 191) ∨ (((0 : Int32) + len) = 2 ∧ ∀ t, own_chk ((v0, true, (decide (len = (1 : Int32)))) :: (v1, g1, (decide (len = (2 : Int32)))) :: t) 0 128 191 = own_chk t 0 128 191) ∨ (((0 : Int32) + len) = 3 ∧ ∀ t, own_chk ((v0, true, (decide (len = (1 : Int32)))) :: (v1, g1, (decide (len = (2 : Int32)))) :: (v2, g2, (decide (len = (3 : Int32)))) :: t) 0 128 191 = own_chk t 0 128 191) ∨ (¬ ((0 : Int32) + len) < 4 ∧ own_chk [(v0, true, (decide (len = (1 : Int32)))), (v1, g1, (decide (len = (2 : Int32)))), (v2, g2, (decide (len = (3 : Int32)))), (v3, g3, true)] 0 128 191 = true)) := by
                              rcases hlen with rfl | rfl | rfl | rfl
                              · first | exact absurd hc7 (by decide) | exact absurd hc69 (by decide) | exact absurd hc97 (by decide) | (exact Or.inl (⟨by decide, fun t => by rw [own_f1 hcl (hl1 rfl).1 (hl1 rfl).2 (by decide)]⟩))
                              · first | exact absurd hc7 (by decide) | exact absurd hc69 (by decide) | exact absurd hc97 (by decide) | (exact Or.inr (Or.inl (⟨by decide, fun t => by rw [own_fn hcl (nd := 1) (by decide) (by decide) (by decide), own_nt (nd' := 0) (by decide) (by decide) hg1 hc68 (by decide)]⟩)))
                              · first | exact absurd hc7 (by decide) | exact absurd hc69 (by decide) | exact absurd hc97 (by decide) | (exact Or.inr (Or.inr (Or.inl (⟨by decide, fun t => by rw [own_fn hcl (nd := 2) (by decide) (by decide) (by decide), own_nt (nd' := 1) (by decide) (by decide) hg1 hc68 (by decide), own_nt (nd' := 0) (by decide) (by decide) hg2 hc96 (by decide)]⟩))))
                              · first | exact absurd hc7 (by decide) | exact absurd hc69 (by decide) | exact absurd hc97 (by decide) | (exact Or.inr (Or.inr (Or.inr ((⟨by decide, by rw [own_fn hcl (nd := 3) (by decide) (by decide) (by decide), own_nt (nd' := 2) (by decide) (by decide) hg1 hc68 (by decide), own_nt (nd' := 1) (by decide) (by decide) hg2 hc96 (by decide), own_nt (nd' := 0) (by decide) (by decide) hg3 hc107 (by decide)]; rfl⟩)))))
                            have fx108 : Arv Z h106 o0 kv .int (4 : Int32) [(.int v0), (.int v1), (.int v2), (.int v3)] (.int (0 : Int32)) := (Arv.other (Arv.other fx100 W104 hn02) W106 hn03)
                            have fx109 : Arv Z h106 o2 ko .boolean (4 : Int32) [(.int (own_b true)), (.int (own_b g1)), (.int (own_b g2)), (.int (own_b g3))] (.int (0 : Int32)) := (Arv.other V104 W106 hn23)
                            rw [← hQQ]
                            exact ⟨((0 : Int32) + len), true, g1, g2, g3, (decide (len = (1 : Int32))), (decide (len = (2 : Int32))), (decide (len = (3 : Int32))), true, rfl, N106, K106, hrel, fx108, fx109, V106⟩
                          ·
                            refine own_go (g' := (mkF m 428 #[.val (.ref o0), .val (.int (0 : Int32)), .val (.ref o2), .val (.ref o3), .val (.int v0), .val (.int len), .val (.int lo), .val (.int hi), .val (.int v3), .val (.int (own_b g3))] [])) (fun _ kgo => XS.ifNo X106.here hx rfl (hb hby d1_425) rfl ((if0 _ _).trans (teq (own_b_f hc107)).2) kgo) ?_
                            refine own_go (g' := (mkF m 429 #[.val (.ref o0), .val (.int (0 : Int32)), .val (.ref o2), .val (.ref o3), .val (.int v0), .val (.int len), .val (.int lo), .val (.int hi), .val (.int v3), .val (.int (own_b g3))] [(.int (4 : Int32))])) (fun _ kgo => XS.iconst X106.here hx rfl (hb hby d1_428) kgo) ?_
                            refine own_retI X106 hx Bd.returns Bd.notSynchronized (hb hby d1_429) (by decide) (by decide) ?_
                            show QQ _ T106.heap _
                            rw [e106]
                            have hrel : (((4 : Int32) = 1 ∧ ∀ t, own_chk ((v0, true, (decide (len = (1 : Int32)))) :: t) 0 128 191 = own_chk t 0 128 191) ∨ ((4 : Int32) = 2 ∧ ∀ t, own_chk ((v0, true, (decide (len = (1 : Int32)))) :: (v1, g1, (decide (len = (2 : Int32)))) :: t) 0 128 191 = own_chk t 0 128 191) ∨ ((4 : Int32) = 3 ∧ ∀ t, own_chk ((v0, true, (decide (len = (1 : Int32)))) :: (v1, g1, (decide (len = (2 : Int32)))) :: (v2, g2, (decide (len = (3 : Int32)))) :: t) 0 128 191 = own_chk t 0 128 191) ∨ (¬ (4 : Int32) < 4 ∧ own_chk [(v0, true, (decide (len = (1 : Int32)))), (v1, g1, (decide (len = (2 : Int32)))), (v2, g2, (decide (len = (3 : Int32)))), (v3, g3, true)] 0 128 191 = true)) := by
                              rcases hlen with rfl | rfl | rfl | rfl
                              · first | exact absurd hc7 (by decide) | exact absurd hc69 (by decide) | exact absurd hc97 (by decide) | (exact Or.inl (⟨by decide, fun t => by rw [own_f1 hcl (hl1 rfl).1 (hl1 rfl).2 (by decide)]⟩))
                              · first | exact absurd hc7 (by decide) | exact absurd hc69 (by decide) | exact absurd hc97 (by decide) | (exact Or.inr (Or.inl (⟨by decide, fun t => by rw [own_fn hcl (nd := 1) (by decide) (by decide) (by decide), own_nt (nd' := 0) (by decide) (by decide) hg1 hc68 (by decide)]⟩)))
                              · first | exact absurd hc7 (by decide) | exact absurd hc69 (by decide) | exact absurd hc97 (by decide) | (exact Or.inr (Or.inr (Or.inl (⟨by decide, fun t => by rw [own_fn hcl (nd := 2) (by decide) (by decide) (by decide), own_nt (nd' := 1) (by decide) (by decide) hg1 hc68 (by decide), own_nt (nd' := 0) (by decide) (by decide) hg2 hc96 (by decide)]⟩))))
                              · first | exact absurd hc7 (by decide) | exact absurd hc69 (by decide) | exact absurd hc97 (by decide) | (exact Or.inr (Or.inr (Or.inr ((⟨by decide, by rw [own_fn hcl (nd := 3) (by decide) (by decide) (by decide), own_nt (nd' := 2) (by decide) (by decide) hg1 hc68 (by decide), own_nt (nd' := 1) (by decide) (by decide) hg2 hc96 (by decide)]; exact own_nf (by decide) hg3 hc107⟩)))))
                            have fx110 : Arv Z h106 o0 kv .int (4 : Int32) [(.int v0), (.int v1), (.int v2), (.int v3)] (.int (0 : Int32)) := (Arv.other (Arv.other fx100 W104 hn02) W106 hn03)
                            have fx111 : Arv Z h106 o2 ko .boolean (4 : Int32) [(.int (own_b true)), (.int (own_b g1)), (.int (own_b g2)), (.int (own_b g3))] (.int (0 : Int32)) := (Arv.other V104 W106 hn23)
                            rw [← hQQ]
                            exact ⟨(4 : Int32), true, g1, g2, g3, (decide (len = (1 : Int32))), (decide (len = (2 : Int32))), (decide (len = (3 : Int32))), true, rfl, N106, K106, hrel, fx110, fx111, V106⟩
                        by_cases hc112 : v3 < (128 : Int32)
                        ·
                          refine own_go (g' := (mkF m 407 #[.val (.ref o0), .val (.int (0 : Int32)), .val (.ref o2), .val (.ref o3), .val (.int v0), .val (.int len), .val (.int lo), .val (.int hi), .val (.int v3), .val (.int (own_b g2))] [])) (fun _ kgo => XS.icmpYes X95.here hx rfl (pc0 := 392) (pc' := 407) rfl (hb hby d1_392) rfl (tlt hc112).1 (by decide) (by decide) kgo) ?_
                          refine own_go (g' := (mkF m 408 #[.val (.ref o0), .val (.int (0 : Int32)), .val (.ref o2), .val (.ref o3), .val (.int v0), .val (.int len), .val (.int lo), .val (.int hi), .val (.int v3), .val (.int (own_b g2))] [(.int (0 : Int32))])) (fun _ kgo => XS.iconst X95.here hx rfl (hb hby d1_407) kgo) ?_
                          have hE102 : own_b ((!decide (v3 < (128 : Int32)) && !decide ((191 : Int32) < v3))) = (0 : Int32) := by simp only [decide_eq_true hc112]; first | done | rfl
                          exact own_cast (by rw [hE102]) J102
                        ·
                          refine own_go (g' := (mkF m 395 #[.val (.ref o0), .val (.int (0 : Int32)), .val (.ref o2), .val (.ref o3), .val (.int v0), .val (.int len), .val (.int lo), .val (.int hi), .val (.int v3), .val (.int (own_b g2))] [])) (fun _ kgo => XS.icmpNo X95.here hx rfl (hb hby d1_392) rfl (flt hc112).1 kgo) ?_
                          refine own_go (g' := (mkF m 397 #[.val (.ref o0), .val (.int (0 : Int32)), .val (.ref o2), .val (.ref o3), .val (.int v0), .val (.int len), .val (.int lo), .val (.int hi), .val (.int v3), .val (.int (own_b g2))] [(.int v3)])) (fun _ kgo => XS.iload X95.here hx rfl (hb hby d1_395) rfl kgo) ?_
                          refine own_go (g' := (mkF m 400 #[.val (.ref o0), .val (.int (0 : Int32)), .val (.ref o2), .val (.ref o3), .val (.int v0), .val (.int len), .val (.int lo), .val (.int hi), .val (.int v3), .val (.int (own_b g2))] [(.int (191 : Int32)), (.int v3)])) (fun _ kgo => XS.sipush X95.here hx rfl (hb hby d1_397) kgo) ?_
                          have J113 : own_Go p e below (own_Post s QQ 0 0) T95 (mkF m 408 #[.val (.ref o0), .val (.int (0 : Int32)), .val (.ref o2), .val (.ref o3), .val (.int v0), .val (.int len), .val (.int lo), .val (.int hi), .val (.int v3), .val (.int (own_b g2))] [(.int (own_b (!decide ((191 : Int32) < v3))))]) := by
                            have hE102 : own_b ((!decide (v3 < (128 : Int32)) && !decide ((191 : Int32) < v3))) = (own_b (!decide ((191 : Int32) < v3))) := by simp only [decide_eq_false hc112]; first | done | rfl
                            exact own_cast (by rw [hE102]) J102
                          by_cases hc114 : (191 : Int32) < v3
                          ·
                            refine own_go (g' := (mkF m 407 #[.val (.ref o0), .val (.int (0 : Int32)), .val (.ref o2), .val (.ref o3), .val (.int v0), .val (.int len), .val (.int lo), .val (.int hi), .val (.int v3), .val (.int (own_b g2))] [])) (fun _ kgo => XS.icmpYes X95.here hx rfl (pc0 := 400) (pc' := 407) rfl (hb hby d1_400) rfl (tlt hc114).2.2.1 (by decide) (by decide) kgo) ?_
                            refine own_go (g' := (mkF m 408 #[.val (.ref o0), .val (.int (0 : Int32)), .val (.ref o2), .val (.ref o3), .val (.int v0), .val (.int len), .val (.int lo), .val (.int hi), .val (.int v3), .val (.int (own_b g2))] [(.int (0 : Int32))])) (fun _ kgo => XS.iconst X95.here hx rfl (hb hby d1_407) kgo) ?_
                            have hE113 : own_b (!decide ((191 : Int32) < v3)) = (0 : Int32) := by simp only [decide_eq_true hc114]; first | done | rfl
                            exact own_cast (by rw [hE113]) J113
                          ·
                            refine own_go (g' := (mkF m 403 #[.val (.ref o0), .val (.int (0 : Int32)), .val (.ref o2), .val (.ref o3), .val (.int v0), .val (.int len), .val (.int lo), .val (.int hi), .val (.int v3), .val (.int (own_b g2))] [])) (fun _ kgo => XS.icmpNo X95.here hx rfl (hb hby d1_400) rfl (flt hc114).2.2.1 kgo) ?_
                            refine own_go (g' := (mkF m 404 #[.val (.ref o0), .val (.int (0 : Int32)), .val (.ref o2), .val (.ref o3), .val (.int v0), .val (.int len), .val (.int lo), .val (.int hi), .val (.int v3), .val (.int (own_b g2))] [(.int (1 : Int32))])) (fun _ kgo => XS.iconst X95.here hx rfl (hb hby d1_403) kgo) ?_
                            refine own_go (g' := (mkF m 408 #[.val (.ref o0), .val (.int (0 : Int32)), .val (.ref o2), .val (.ref o3), .val (.int v0), .val (.int len), .val (.int lo), .val (.int hi), .val (.int v3), .val (.int (own_b g2))] [(.int (1 : Int32))])) (fun _ kgo => XS.goto X95.here hx rfl (pc0 := 404) (pc' := 408) rfl (hb hby d1_404) (by decide) (by decide) kgo) ?_
                            have hE113 : own_b (!decide ((191 : Int32) < v3)) = (1 : Int32) := by simp only [decide_eq_false hc114]; first | done | rfl
                            exact own_cast (by rw [hE113]) J113
                    ·
                      refine own_go (g' := (mkF m 365 #[.val (.ref o0), .val (.int (0 : Int32)), .val (.ref o2), .val (.ref o3), .val (.int v0), .val (.int len), .val (.int lo), .val (.int hi), .val (.int v2), .val (.int (own_b g2))] [])) (fun _ kgo => XS.ifNo X95.here hx rfl (hb hby d1_362) rfl ((if0 _ _).trans (teq (own_b_f hc96)).2) kgo) ?_
                      refine own_go (g' := (mkF m 366 #[.val (.ref o0), .val (.int (0 : Int32)), .val (.ref o2), .val (.ref o3), .val (.int v0), .val (.int len), .val (.int lo), .val (.int hi), .val (.int v2), .val (.int (own_b g2))] [(.int (4 : Int32))])) (fun _ kgo => XS.iconst X95.here hx rfl (hb hby d1_365) kgo) ?_
                      refine own_retI X95 hx Bd.returns Bd.notSynchronized (hb hby d1_366) (by decide) (by decide) ?_
                      show QQ _ T95.heap _
                      rw [e95]
                      have hrel : (((4 : Int32) = 1 ∧ ∀ t, own_chk ((v0, true, (decide (len = (1 : Int32)))) :: t) 0 128 191 = own_chk t 0 128 191) ∨ ((4 : Int32) = 2 ∧ ∀ t, own_chk ((v0, true, (decide (len = (1 : Int32)))) :: (v1, g1, (decide (len = (2 : Int32)))) :: t) 0 128 191 = own_chk t 0 128 191) ∨ ((4 : Int32) = 3 ∧ ∀ t, own_chk ((v0, true, (decide (len = (1 : Int32)))) :: (v1, g1, (decide (len = (2 : Int32)))) :: (v2, g2, (decide (len = (3 : Int32)))) :: t) 0 128 191 = own_chk t 0 128 191) ∨ (¬ (4 : Int32) < 4 ∧ own_chk [(v0, true, (decide (len = (1 : Int32)))), (v1, g1, (decide (len = (2 : Int32)))), (v2, g2, (decide (len = (3 : Int32)))), (v3, a3_, c3_)] 0 128 191 = true)) := by
                        rcases hlen with rfl | rfl | rfl | rfl
                        · first | exact absurd hc7 (by decide) | exact absurd hc69 (by decide) | (exact Or.inl (⟨by decide, fun t => by rw [own_f1 hcl (hl1 rfl).1 (hl1 rfl).2 (by decide)]⟩))
                        · first | exact absurd hc7 (by decide) | exact absurd hc69 (by decide) | (exact Or.inr (Or.inl (⟨by decide, fun t => by rw [own_fn hcl (nd := 1) (by decide) (by decide) (by decide), own_nt (nd' := 0) (by decide) (by decide) hg1 hc68 (by decide)]⟩)))
                        · first | exact absurd hc7 (by decide) | exact absurd hc69 (by decide) | (exact Or.inr (Or.inr (Or.inr ((⟨by decide, by rw [own_fn hcl (nd := 2) (by decide) (by decide) (by decide), own_nt (nd' := 1) (by decide) (by decide) hg1 hc68 (by decide)]; exact own_nf (by decide) hg2 hc96⟩)))))
                        · first | exact absurd hc7 (by decide) | exact absurd hc69 (by decide) | (exact Or.inr (Or.inr (Or.inr ((⟨by decide, by rw [own_fn hcl (nd := 3) (by decide) (by decide) (by decide), own_nt (nd' := 2) (by decide) (by decide) hg1 hc68 (by decide)]; exact own_nf (by decide) hg2 hc96⟩)))))
                      have fx115 : Arv Z h95 o0 kv .int (4 : Int32) [(.int v0), (.int v1), (.int v2), (.int v3)] (.int (0 : Int32)) := (Arv.other (Arv.other fx88 W92 hn02) W95 hn03)
                      have fx116 : Arv Z h95 o2 ko .boolean (4 : Int32) [(.int (own_b true)), (.int (own_b g1)), (.int (own_b g2)), (.int (own_b a3_))] (.int (0 : Int32)) := (Arv.other V92 W95 hn23)
                      rw [← hQQ]
                      exact ⟨(4 : Int32), true, g1, g2, a3_, (decide (len = (1 : Int32))), (decide (len = (2 : Int32))), (decide (len = (3 : Int32))), c3_, rfl, N95, K95, hrel, fx115, fx116, V95⟩
                  by_cases hc117 : len = (3 : Int32)
                  ·
                    refine own_go (g' := (mkF m 354 #[.val (.ref o0), .val (.int (0 : Int32)), .val (.ref o2), .val (.ref o3), .val (.int v0), .val (.int len), .val (.int lo), .val (.int hi), .val (.int v2), .val (.int (own_b g2))] [(.int (2 : Int32)), (.ref o3)])) (fun _ kgo => XS.icmpNo X92.here hx rfl (hb hby d1_351) rfl (teq hc117).2 kgo) ?_
                    refine own_go (g' := (mkF m 355 #[.val (.ref o0), .val (.int (0 : Int32)), .val (.ref o2), .val (.ref o3), .val (.int v0), .val (.int len), .val (.int lo), .val (.int hi), .val (.int v2), .val (.int (own_b g2))] [(.int (1 : Int32)), (.int (2 : Int32)), (.ref o3)])) (fun _ kgo => XS.iconst X92.here hx rfl (hb hby d1_354) kgo) ?_
                    refine own_go (g' := (mkF m 359 #[.val (.ref o0), .val (.int (0 : Int32)), .val (.ref o2), .val (.ref o3), .val (.int v0), .val (.int len), .val (.int lo), .val (.int hi), .val (.int v2), .val (.int (own_b g2))] [(.int (1 : Int32)), (.int (2 : Int32)), (.ref o3)])) (fun _ kgo => XS.goto X92.here hx rfl (pc0 := 355) (pc' := 359) rfl (hb hby d1_355) (by decide) (by decide) kgo) ?_
                    have hE93 : own_b (decide (len = (3 : Int32))) = (1 : Int32) := by simp only [decide_eq_true hc117]; first | done | rfl
                    exact own_cast (by rw [hE93]) J93
                  ·
                    refine own_go (g' := (mkF m 358 #[.val (.ref o0), .val (.int (0 : Int32)), .val (.ref o2), .val (.ref o3), .val (.int v0), .val (.int len), .val (.int lo), .val (.int hi), .val (.int v2), .val (.int (own_b g2))] [(.int (2 : Int32)), (.ref o3)])) (fun _ kgo => XS.icmpYes X92.here hx rfl (pc0 := 351) (pc' := 358) rfl (hb hby d1_351) rfl (feq hc117).2 (by decide) (by decide) kgo) ?_
                    refine own_go (g' := (mkF m 359 #[.val (.ref o0), .val (.int (0 : Int32)), .val (.ref o2), .val (.ref o3), .val (.int v0), .val (.int len), .val (.int lo), .val (.int hi), .val (.int v2), .val (.int (own_b g2))] [(.int (0 : Int32)), (.int (2 : Int32)), (.ref o3)])) (fun _ kgo => XS.iconst X92.here hx rfl (hb hby d1_358) kgo) ?_
                    have hE93 : own_b (decide (len = (3 : Int32))) = (0 : Int32) := by simp only [decide_eq_false hc117]; first | done | rfl
                    exact own_cast (by rw [hE93]) J93
                by_cases hc118 : v2 < (128 : Int32)
                ·
                  refine own_go (g' := (mkF m 334 #[.val (.ref o0), .val (.int (0 : Int32)), .val (.ref o2), .val (.ref o3), .val (.int v0), .val (.int len), .val (.int lo), .val (.int hi), .val (.int v2), .val (.int (own_b g1))] [])) (fun _ kgo => XS.icmpYes X67.here hx rfl (pc0 := 319) (pc' := 334) rfl (hb hby d1_319) rfl (tlt hc118).1 (by decide) (by decide) kgo) ?_
                  refine own_go (g' := (mkF m 335 #[.val (.ref o0), .val (.int (0 : Int32)), .val (.ref o2), .val (.ref o3), .val (.int v0), .val (.int len), .val (.int lo), .val (.int hi), .val (.int v2), .val (.int (own_b g1))] [(.int (0 : Int32))])) (fun _ kgo => XS.iconst X67.here hx rfl (hb hby d1_334) kgo) ?_
                  have hE90 : own_b ((!decide (v2 < (128 : Int32)) && !decide ((191 : Int32) < v2))) = (0 : Int32) := by simp only [decide_eq_true hc118]; first | done | rfl
                  exact own_cast (by rw [hE90]) J90
                ·
                  refine own_go (g' := (mkF m 322 #[.val (.ref o0), .val (.int (0 : Int32)), .val (.ref o2), .val (.ref o3), .val (.int v0), .val (.int len), .val (.int lo), .val (.int hi), .val (.int v2), .val (.int (own_b g1))] [])) (fun _ kgo => XS.icmpNo X67.here hx rfl (hb hby d1_319) rfl (flt hc118).1 kgo) ?_
                  refine own_go (g' := (mkF m 324 #[.val (.ref o0), .val (.int (0 : Int32)), .val (.ref o2), .val (.ref o3), .val (.int v0), .val (.int len), .val (.int lo), .val (.int hi), .val (.int v2), .val (.int (own_b g1))] [(.int v2)])) (fun _ kgo => XS.iload X67.here hx rfl (hb hby d1_322) rfl kgo) ?_
                  refine own_go (g' := (mkF m 327 #[.val (.ref o0), .val (.int (0 : Int32)), .val (.ref o2), .val (.ref o3), .val (.int v0), .val (.int len), .val (.int lo), .val (.int hi), .val (.int v2), .val (.int (own_b g1))] [(.int (191 : Int32)), (.int v2)])) (fun _ kgo => XS.sipush X67.here hx rfl (hb hby d1_324) kgo) ?_
                  have J119 : own_Go p e below (own_Post s QQ 0 0) T67 (mkF m 335 #[.val (.ref o0), .val (.int (0 : Int32)), .val (.ref o2), .val (.ref o3), .val (.int v0), .val (.int len), .val (.int lo), .val (.int hi), .val (.int v2), .val (.int (own_b g1))] [(.int (own_b (!decide ((191 : Int32) < v2))))]) := by
                    have hE90 : own_b ((!decide (v2 < (128 : Int32)) && !decide ((191 : Int32) < v2))) = (own_b (!decide ((191 : Int32) < v2))) := by simp only [decide_eq_false hc118]; first | done | rfl
                    exact own_cast (by rw [hE90]) J90
                  by_cases hc120 : (191 : Int32) < v2
                  ·
                    refine own_go (g' := (mkF m 334 #[.val (.ref o0), .val (.int (0 : Int32)), .val (.ref o2), .val (.ref o3), .val (.int v0), .val (.int len), .val (.int lo), .val (.int hi), .val (.int v2), .val (.int (own_b g1))] [])) (fun _ kgo => XS.icmpYes X67.here hx rfl (pc0 := 327) (pc' := 334) rfl (hb hby d1_327) rfl (tlt hc120).2.2.1 (by decide) (by decide) kgo) ?_
                    refine own_go (g' := (mkF m 335 #[.val (.ref o0), .val (.int (0 : Int32)), .val (.ref o2), .val (.ref o3), .val (.int v0), .val (.int len), .val (.int lo), .val (.int hi), .val (.int v2), .val (.int (own_b g1))] [(.int (0 : Int32))])) (fun _ kgo => XS.iconst X67.here hx rfl (hb hby d1_334) kgo) ?_
                    have hE119 : own_b (!decide ((191 : Int32) < v2)) = (0 : Int32) := by simp only [decide_eq_true hc120]; first | done | rfl
                    exact own_cast (by rw [hE119]) J119
                  ·
                    refine own_go (g' := (mkF m 330 #[.val (.ref o0), .val (.int (0 : Int32)), .val (.ref o2), .val (.ref o3), .val (.int v0), .val (.int len), .val (.int lo), .val (.int hi), .val (.int v2), .val (.int (own_b g1))] [])) (fun _ kgo => XS.icmpNo X67.here hx rfl (hb hby d1_327) rfl (flt hc120).2.2.1 kgo) ?_
                    refine own_go (g' := (mkF m 331 #[.val (.ref o0), .val (.int (0 : Int32)), .val (.ref o2), .val (.ref o3), .val (.int v0), .val (.int len), .val (.int lo), .val (.int hi), .val (.int v2), .val (.int (own_b g1))] [(.int (1 : Int32))])) (fun _ kgo => XS.iconst X67.here hx rfl (hb hby d1_330) kgo) ?_
                    refine own_go (g' := (mkF m 335 #[.val (.ref o0), .val (.int (0 : Int32)), .val (.ref o2), .val (.ref o3), .val (.int v0), .val (.int len), .val (.int lo), .val (.int hi), .val (.int v2), .val (.int (own_b g1))] [(.int (1 : Int32))])) (fun _ kgo => XS.goto X67.here hx rfl (pc0 := 331) (pc' := 335) rfl (hb hby d1_331) (by decide) (by decide) kgo) ?_
                    have hE119 : own_b (!decide ((191 : Int32) < v2)) = (1 : Int32) := by simp only [decide_eq_false hc120]; first | done | rfl
                    exact own_cast (by rw [hE119]) J119
            ·
              refine own_go (g' := (mkF m 292 #[.val (.ref o0), .val (.int (0 : Int32)), .val (.ref o2), .val (.ref o3), .val (.int v0), .val (.int len), .val (.int lo), .val (.int hi), .val (.int v1), .val (.int (own_b g1))] [])) (fun _ kgo => XS.ifNo X67.here hx rfl (hb hby d1_289) rfl ((if0 _ _).trans (teq (own_b_f hc68)).2) kgo) ?_
              refine own_go (g' := (mkF m 293 #[.val (.ref o0), .val (.int (0 : Int32)), .val (.ref o2), .val (.ref o3), .val (.int v0), .val (.int len), .val (.int lo), .val (.int hi), .val (.int v1), .val (.int (own_b g1))] [(.int (4 : Int32))])) (fun _ kgo => XS.iconst X67.here hx rfl (hb hby d1_292) kgo) ?_
              refine own_retI X67 hx Bd.returns Bd.notSynchronized (hb hby d1_293) (by decide) (by decide) ?_
              show QQ _ T67.heap _
              rw [e67]
              have hrel : (((4 : Int32) = 1 ∧ ∀ t, own_chk ((v0, true, (decide (len = (1 : Int32)))) :: t) 0 128 191 = own_chk t 0 128 191) ∨ ((4 : Int32) = 2 ∧ ∀ t, own_chk ((v0, true, (decide (len = (1 : Int32)))) :: (v1, g1, (decide (len = (2 : Int32)))) :: t) 0 128 191 = own_chk t 0 128 191) ∨ ((4 : Int32) = 3 ∧ ∀ t, own_chk ((v0, true, (decide (len = (1 : Int32)))) :: (v1, g1, (decide (len = (2 : Int32)))) :: (v2, a2_, c2_) :: t) 0 128 191 = own_chk t 0 128 191) ∨ (¬ (4 : Int32) < 4 ∧ own_chk [(v0, true, (decide (len = (1 : Int32)))), (v1, g1, (decide (len = (2 : Int32)))), (v2, a2_, c2_), (v3, a3_, c3_)] 0 128 191 = true)) := by
                rcases hlen with rfl | rfl | rfl | rfl
                · first | exact absurd hc7 (by decide) | (exact Or.inl (⟨by decide, fun t => by rw [own_f1 hcl (hl1 rfl).1 (hl1 rfl).2 (by decide)]⟩))
                · first | exact absurd hc7 (by decide) | (exact Or.inr (Or.inr (Or.inr ((⟨by decide, by rw [own_fn hcl (nd := 1) (by decide) (by decide) (by decide)]; exact own_nf (by decide) hg1 hc68⟩)))))
                · first | exact absurd hc7 (by decide) | (exact Or.inr (Or.inr (Or.inr ((⟨by decide, by rw [own_fn hcl (nd := 2) (by decide) (by decide) (by decide)]; exact own_nf (by decide) hg1 hc68⟩)))))
                · first | exact absurd hc7 (by decide) | (exact Or.inr (Or.inr (Or.inr ((⟨by decide, by rw [own_fn hcl (nd := 3) (by decide) (by decide) (by decide)]; exact own_nf (by decide) hg1 hc68⟩)))))
              have fx121 : Arv Z h67 o0 kv .int (4 : Int32) [(.int v0), (.int v1), (.int v2), (.int v3)] (.int (0 : Int32)) := (Arv.other (Arv.other fx60 W64 hn02) W67 hn03)
              have fx122 : Arv Z h67 o2 ko .boolean (4 : Int32) [(.int (own_b true)), (.int (own_b g1)), (.int (own_b a2_)), (.int (own_b a3_))] (.int (0 : Int32)) := (Arv.other V64 W67 hn23)
              rw [← hQQ]
              exact ⟨(4 : Int32), true, g1, a2_, a3_, (decide (len = (1 : Int32))), (decide (len = (2 : Int32))), c2_, c3_, rfl, N67, K67, hrel, fx121, fx122, V67⟩
          by_cases hc123 : len = (2 : Int32)
          ·
            refine own_go (g' := (mkF m 281 #[.val (.ref o0), .val (.int (0 : Int32)), .val (.ref o2), .val (.ref o3), .val (.int v0), .val (.int len), .val (.int lo), .val (.int hi), .val (.int v1), .val (.int (own_b g1))] [(.int (1 : Int32)), (.ref o3)])) (fun _ kgo => XS.icmpNo X64.here hx rfl (hb hby d1_278) rfl (teq hc123).2 kgo) ?_
            refine own_go (g' := (mkF m 282 #[.val (.ref o0), .val (.int (0 : Int32)), .val (.ref o2), .val (.ref o3), .val (.int v0), .val (.int len), .val (.int lo), .val (.int hi), .val (.int v1), .val (.int (own_b g1))] [(.int (1 : Int32)), (.int (1 : Int32)), (.ref o3)])) (fun _ kgo => XS.iconst X64.here hx rfl (hb hby d1_281) kgo) ?_
            refine own_go (g' := (mkF m 286 #[.val (.ref o0), .val (.int (0 : Int32)), .val (.ref o2), .val (.ref o3), .val (.int v0), .val (.int len), .val (.int lo), .val (.int hi), .val (.int v1), .val (.int (own_b g1))] [(.int (1 : Int32)), (.int (1 : Int32)), (.ref o3)])) (fun _ kgo => XS.goto X64.here hx rfl (pc0 := 282) (pc' := 286) rfl (hb hby d1_282) (by decide) (by decide) kgo) ?_
            have hE65 : own_b (decide (len = (2 : Int32))) = (1 : Int32) := by simp only [decide_eq_true hc123]; first | done | rfl
            exact own_cast (by rw [hE65]) J65
          ·
            refine own_go (g' := (mkF m 285 #[.val (.ref o0), .val (.int (0 : Int32)), .val (.ref o2), .val (.ref o3), .val (.int v0), .val (.int len), .val (.int lo), .val (.int hi), .val (.int v1), .val (.int (own_b g1))] [(.int (1 : Int32)), (.ref o3)])) (fun _ kgo => XS.icmpYes X64.here hx rfl (pc0 := 278) (pc' := 285) rfl (hb hby d1_278) rfl (feq hc123).2 (by decide) (by decide) kgo) ?_
            refine own_go (g' := (mkF m 286 #[.val (.ref o0), .val (.int (0 : Int32)), .val (.ref o2), .val (.ref o3), .val (.int v0), .val (.int len), .val (.int lo), .val (.int hi), .val (.int v1), .val (.int (own_b g1))] [(.int (0 : Int32)), (.int (1 : Int32)), (.ref o3)])) (fun _ kgo => XS.iconst X64.here hx rfl (hb hby d1_285) kgo) ?_
            have hE65 : own_b (decide (len = (2 : Int32))) = (0 : Int32) := by simp only [decide_eq_false hc123]; first | done | rfl
            exact own_cast (by rw [hE65]) J65
        by_cases hc124 : v1 < lo
        ·
          refine own_go (g' := (mkF m 261 #[.val (.ref o0), .val (.int (0 : Int32)), .val (.ref o2), .val (.ref o3), .val (.int v0), .val (.int len), .val (.int lo), .val (.int hi), .val (.int v1), .unset] [])) (fun _ kgo => XS.icmpYes X6.here hx rfl (pc0 := 247) (pc' := 261) rfl (hb hby d1_247) rfl (tlt hc124).1 (by decide) (by decide) kgo) ?_
          refine own_go (g' := (mkF m 262 #[.val (.ref o0), .val (.int (0 : Int32)), .val (.ref o2), .val (.ref o3), .val (.int v0), .val (.int len), .val (.int lo), .val (.int hi), .val (.int v1), .unset] [(.int (0 : Int32))])) (fun _ kgo => XS.iconst X6.here hx rfl (hb hby d1_261) kgo) ?_
          have hE62 : own_b ((!decide (v1 < lo) && !decide (hi < v1))) = (0 : Int32) := by simp only [decide_eq_true hc124]; first | done | rfl
          exact own_cast (by rw [hE62]) J62
        ·
          refine own_go (g' := (mkF m 250 #[.val (.ref o0), .val (.int (0 : Int32)), .val (.ref o2), .val (.ref o3), .val (.int v0), .val (.int len), .val (.int lo), .val (.int hi), .val (.int v1), .unset] [])) (fun _ kgo => XS.icmpNo X6.here hx rfl (hb hby d1_247) rfl (flt hc124).1 kgo) ?_
          refine own_go (g' := (mkF m 252 #[.val (.ref o0), .val (.int (0 : Int32)), .val (.ref o2), .val (.ref o3), .val (.int v0), .val (.int len), .val (.int lo), .val (.int hi), .val (.int v1), .unset] [(.int v1)])) (fun _ kgo => XS.iload X6.here hx rfl (hb hby d1_250) rfl kgo) ?_
          refine own_go (g' := (mkF m 254 #[.val (.ref o0), .val (.int (0 : Int32)), .val (.ref o2), .val (.ref o3), .val (.int v0), .val (.int len), .val (.int lo), .val (.int hi), .val (.int v1), .unset] [(.int hi), (.int v1)])) (fun _ kgo => XS.iload X6.here hx rfl (hb hby d1_252) rfl kgo) ?_
          have J125 : own_Go p e below (own_Post s QQ 0 0) T6 (mkF m 262 #[.val (.ref o0), .val (.int (0 : Int32)), .val (.ref o2), .val (.ref o3), .val (.int v0), .val (.int len), .val (.int lo), .val (.int hi), .val (.int v1), .unset] [(.int (own_b (!decide (hi < v1))))]) := by
            have hE62 : own_b ((!decide (v1 < lo) && !decide (hi < v1))) = (own_b (!decide (hi < v1))) := by simp only [decide_eq_false hc124]; first | done | rfl
            exact own_cast (by rw [hE62]) J62
          by_cases hc126 : hi < v1
          ·
            refine own_go (g' := (mkF m 261 #[.val (.ref o0), .val (.int (0 : Int32)), .val (.ref o2), .val (.ref o3), .val (.int v0), .val (.int len), .val (.int lo), .val (.int hi), .val (.int v1), .unset] [])) (fun _ kgo => XS.icmpYes X6.here hx rfl (pc0 := 254) (pc' := 261) rfl (hb hby d1_254) rfl (tlt hc126).2.2.1 (by decide) (by decide) kgo) ?_
            refine own_go (g' := (mkF m 262 #[.val (.ref o0), .val (.int (0 : Int32)), .val (.ref o2), .val (.ref o3), .val (.int v0), .val (.int len), .val (.int lo), .val (.int hi), .val (.int v1), .unset] [(.int (0 : Int32))])) (fun _ kgo => XS.iconst X6.here hx rfl (hb hby d1_261) kgo) ?_
            have hE125 : own_b (!decide (hi < v1)) = (0 : Int32) := by simp only [decide_eq_true hc126]; first | done | rfl
            exact own_cast (by rw [hE125]) J125
          ·
            refine own_go (g' := (mkF m 257 #[.val (.ref o0), .val (.int (0 : Int32)), .val (.ref o2), .val (.ref o3), .val (.int v0), .val (.int len), .val (.int lo), .val (.int hi), .val (.int v1), .unset] [])) (fun _ kgo => XS.icmpNo X6.here hx rfl (hb hby d1_254) rfl (flt hc126).2.2.1 kgo) ?_
            refine own_go (g' := (mkF m 258 #[.val (.ref o0), .val (.int (0 : Int32)), .val (.ref o2), .val (.ref o3), .val (.int v0), .val (.int len), .val (.int lo), .val (.int hi), .val (.int v1), .unset] [(.int (1 : Int32))])) (fun _ kgo => XS.iconst X6.here hx rfl (hb hby d1_257) kgo) ?_
            refine own_go (g' := (mkF m 262 #[.val (.ref o0), .val (.int (0 : Int32)), .val (.ref o2), .val (.ref o3), .val (.int v0), .val (.int len), .val (.int lo), .val (.int hi), .val (.int v1), .unset] [(.int (1 : Int32))])) (fun _ kgo => XS.goto X6.here hx rfl (pc0 := 258) (pc' := 262) rfl (hb hby d1_258) (by decide) (by decide) kgo) ?_
            have hE125 : own_b (!decide (hi < v1)) = (1 : Int32) := by simp only [decide_eq_false hc126]; first | done | rfl
            exact own_cast (by rw [hE125]) J125
    by_cases hc127 : len = (1 : Int32)
    ·
      refine own_go (g' := (mkF m 217 #[.val (.ref o0), .val (.int (0 : Int32)), .val (.ref o2), .val (.ref o3), .val (.int v0), .val (.int len), .val (.int lo), .val (.int hi), .unset, .unset] [(.int (0 : Int32)), (.ref o3)])) (fun _ kgo => XS.icmpNo X3.here hx rfl (hb hby d1_214) rfl (teq hc127).2 kgo) ?_
      refine own_go (g' := (mkF m 218 #[.val (.ref o0), .val (.int (0 : Int32)), .val (.ref o2), .val (.ref o3), .val (.int v0), .val (.int len), .val (.int lo), .val (.int hi), .unset, .unset] [(.int (1 : Int32)), (.int (0 : Int32)), (.ref o3)])) (fun _ kgo => XS.iconst X3.here hx rfl (hb hby d1_217) kgo) ?_
      refine own_go (g' := (mkF m 222 #[.val (.ref o0), .val (.int (0 : Int32)), .val (.ref o2), .val (.ref o3), .val (.int v0), .val (.int len), .val (.int lo), .val (.int hi), .unset, .unset] [(.int (1 : Int32)), (.int (0 : Int32)), (.ref o3)])) (fun _ kgo => XS.goto X3.here hx rfl (pc0 := 218) (pc' := 222) rfl (hb hby d1_218) (by decide) (by decide) kgo) ?_
      have hE4 : own_b (decide (len = (1 : Int32))) = (1 : Int32) := by simp only [decide_eq_true hc127]; first | done | rfl
      exact own_cast (by rw [hE4]) J4
    ·
      refine own_go (g' := (mkF m 221 #[.val (.ref o0), .val (.int (0 : Int32)), .val (.ref o2), .val (.ref o3), .val (.int v0), .val (.int len), .val (.int lo), .val (.int hi), .unset, .unset] [(.int (0 : Int32)), (.ref o3)])) (fun _ kgo => XS.icmpYes X3.here hx rfl (pc0 := 214) (pc' := 221) rfl (hb hby d1_214) rfl (feq hc127).2 (by decide) (by decide) kgo) ?_
      refine own_go (g' := (mkF m 222 #[.val (.ref o0), .val (.int (0 : Int32)), .val (.ref o2), .val (.ref o3), .val (.int v0), .val (.int len), .val (.int lo), .val (.int hi), .unset, .unset] [(.int (0 : Int32)), (.int (0 : Int32)), (.ref o3)])) (fun _ kgo => XS.iconst X3.here hx rfl (hb hby d1_221) kgo) ?_
      have hE4 : own_b (decide (len = (1 : Int32))) = (0 : Int32) := by simp only [decide_eq_false hc127]; first | done | rfl
      exact own_cast (by rw [hE4]) J4
  by_cases hc128 : (127 : Int32) < v0
  ·
    refine own_go (g' := (mkF m 35 #[.val (.ref o0), .val (.int (0 : Int32)), .val (.ref o2), .val (.ref o3), .val (.int v0), .unset, .val (.int (128 : Int32)), .val (.int (191 : Int32)), .unset, .unset] [])) (fun _ kgo => XS.icmpYes X0.here hx rfl (pc0 := 26) (pc' := 35) rfl (hb hby d1_26) rfl (tlt hc128).2.2.1 (by decide) (by decide) kgo) ?_
    refine own_go (g' := (mkF m 37 #[.val (.ref o0), .val (.int (0 : Int32)), .val (.ref o2), .val (.ref o3), .val (.int v0), .unset, .val (.int (128 : Int32)), .val (.int (191 : Int32)), .unset, .unset] [(.int v0)])) (fun _ kgo => XS.iload X0.here hx rfl (hb hby d1_35) rfl kgo) ?_
    refine own_go (g' := (mkF m 40 #[.val (.ref o0), .val (.int (0 : Int32)), .val (.ref o2), .val (.ref o3), .val (.int v0), .unset, .val (.int (128 : Int32)), .val (.int (191 : Int32)), .unset, .unset] [(.int (194 : Int32)), (.int v0)])) (fun _ kgo => XS.sipush X0.here hx rfl (hb hby d1_37) kgo) ?_
    have J129 : (¬ (¬ v0 < (194 : Int32) ∧ ¬ (223 : Int32) < v0)) → own_Go p e below (own_Post s QQ 0 0) s₁ (mkF m 57 #[.val (.ref o0), .val (.int (0 : Int32)), .val (.ref o2), .val (.ref o3), .val (.int v0), .unset, .val (.int (128 : Int32)), .val (.int (191 : Int32)), .unset, .unset] []) := by
      intro h57
      refine own_go (g' := (mkF m 59 #[.val (.ref o0), .val (.int (0 : Int32)), .val (.ref o2), .val (.ref o3), .val (.int v0), .unset, .val (.int (128 : Int32)), .val (.int (191 : Int32)), .unset, .unset] [(.int v0)])) (fun _ kgo => XS.iload X0.here hx rfl (hb hby d1_57) rfl kgo) ?_
      refine own_go (g' := (mkF m 62 #[.val (.ref o0), .val (.int (0 : Int32)), .val (.ref o2), .val (.ref o3), .val (.int v0), .unset, .val (.int (128 : Int32)), .val (.int (191 : Int32)), .unset, .unset] [(.int (224 : Int32)), (.int v0)])) (fun _ kgo => XS.sipush X0.here hx rfl (hb hby d1_59) kgo) ?_
      by_cases hc130 : v0 = (224 : Int32)
      ·
        refine own_go (g' := (mkF m 65 #[.val (.ref o0), .val (.int (0 : Int32)), .val (.ref o2), .val (.ref o3), .val (.int v0), .unset, .val (.int (128 : Int32)), .val (.int (191 : Int32)), .unset, .unset] [])) (fun _ kgo => XS.icmpNo X0.here hx rfl (hb hby d1_62) rfl (teq hc130).2 kgo) ?_
        refine own_go (g' := (mkF m 66 #[.val (.ref o0), .val (.int (0 : Int32)), .val (.ref o2), .val (.ref o3), .val (.int v0), .unset, .val (.int (128 : Int32)), .val (.int (191 : Int32)), .unset, .unset] [(.int (3 : Int32))])) (fun _ kgo => XS.iconst X0.here hx rfl (hb hby d1_65) kgo) ?_
        refine own_go (g' := (mkF m 68 #[.val (.ref o0), .val (.int (0 : Int32)), .val (.ref o2), .val (.ref o3), .val (.int v0), .val (.int (3 : Int32)), .val (.int (128 : Int32)), .val (.int (191 : Int32)), .unset, .unset] [])) (fun _ kgo => XS.istore X0.here hx rfl (hb hby d1_66) rfl (l' := #[.val (.ref o0), .val (.int (0 : Int32)), .val (.ref o2), .val (.ref o3), .val (.int v0), .val (.int (3 : Int32)), .val (.int (128 : Int32)), .val (.int (191 : Int32)), .unset, .unset]) rfl kgo) ?_
        refine own_go (g' := (mkF m 71 #[.val (.ref o0), .val (.int (0 : Int32)), .val (.ref o2), .val (.ref o3), .val (.int v0), .val (.int (3 : Int32)), .val (.int (128 : Int32)), .val (.int (191 : Int32)), .unset, .unset] [(.int (160 : Int32))])) (fun _ kgo => XS.sipush X0.here hx rfl (hb hby d1_68) kgo) ?_
        refine own_go (g' := (mkF m 73 #[.val (.ref o0), .val (.int (0 : Int32)), .val (.ref o2), .val (.ref o3), .val (.int v0), .val (.int (3 : Int32)), .val (.int (160 : Int32)), .val (.int (191 : Int32)), .unset, .unset] [])) (fun _ kgo => XS.istore X0.here hx rfl (hb hby d1_71) rfl (l' := #[.val (.ref o0), .val (.int (0 : Int32)), .val (.ref o2), .val (.ref o3), .val (.int v0), .val (.int (3 : Int32)), .val (.int (160 : Int32)), .val (.int (191 : Int32)), .unset, .unset]) rfl kgo) ?_
        refine own_go (g' := (mkF m 205 #[.val (.ref o0), .val (.int (0 : Int32)), .val (.ref o2), .val (.ref o3), .val (.int v0), .val (.int (3 : Int32)), .val (.int (160 : Int32)), .val (.int (191 : Int32)), .unset, .unset] [])) (fun _ kgo => XS.goto X0.here hx rfl (pc0 := 73) (pc' := 205) rfl (hb hby d1_73) (by decide) (by decide) kgo) ?_
        exact J2 (3 : Int32) (160 : Int32) (191 : Int32) (by rw [hc130]; exact own_clE0) (by decide) (by decide)
      ·
        refine own_go (g' := (mkF m 76 #[.val (.ref o0), .val (.int (0 : Int32)), .val (.ref o2), .val (.ref o3), .val (.int v0), .unset, .val (.int (128 : Int32)), .val (.int (191 : Int32)), .unset, .unset] [])) (fun _ kgo => XS.icmpYes X0.here hx rfl (pc0 := 62) (pc' := 76) rfl (hb hby d1_62) rfl (feq hc130).2 (by decide) (by decide) kgo) ?_
        refine own_go (g' := (mkF m 78 #[.val (.ref o0), .val (.int (0 : Int32)), .val (.ref o2), .val (.ref o3), .val (.int v0), .unset, .val (.int (128 : Int32)), .val (.int (191 : Int32)), .unset, .unset] [(.int v0)])) (fun _ kgo => XS.iload X0.here hx rfl (hb hby d1_76) rfl kgo) ?_
        refine own_go (g' := (mkF m 81 #[.val (.ref o0), .val (.int (0 : Int32)), .val (.ref o2), .val (.ref o3), .val (.int v0), .unset, .val (.int (128 : Int32)), .val (.int (191 : Int32)), .unset, .unset] [(.int (225 : Int32)), (.int v0)])) (fun _ kgo => XS.sipush X0.here hx rfl (hb hby d1_78) kgo) ?_
        have J131 : (¬ (¬ v0 < (225 : Int32) ∧ ¬ (236 : Int32) < v0)) → own_Go p e below (own_Post s QQ 0 0) s₁ (mkF m 98 #[.val (.ref o0), .val (.int (0 : Int32)), .val (.ref o2), .val (.ref o3), .val (.int v0), .unset, .val (.int (128 : Int32)), .val (.int (191 : Int32)), .unset, .unset] []) := by
          intro h98
          refine own_go (g' := (mkF m 100 #[.val (.ref o0), .val (.int (0 : Int32)), .val (.ref o2), .val (.ref o3), .val (.int v0), .unset, .val (.int (128 : Int32)), .val (.int (191 : Int32)), .unset, .unset] [(.int v0)])) (fun _ kgo => XS.iload X0.here hx rfl (hb hby d1_98) rfl kgo) ?_
          refine own_go (g' := (mkF m 103 #[.val (.ref o0), .val (.int (0 : Int32)), .val (.ref o2), .val (.ref o3), .val (.int v0), .unset, .val (.int (128 : Int32)), .val (.int (191 : Int32)), .unset, .unset] [(.int (237 : Int32)), (.int v0)])) (fun _ kgo => XS.sipush X0.here hx rfl (hb hby d1_100) kgo) ?_
          by_cases hc132 : v0 = (237 : Int32)
          ·
            refine own_go (g' := (mkF m 106 #[.val (.ref o0), .val (.int (0 : Int32)), .val (.ref o2), .val (.ref o3), .val (.int v0), .unset, .val (.int (128 : Int32)), .val (.int (191 : Int32)), .unset, .unset] [])) (fun _ kgo => XS.icmpNo X0.here hx rfl (hb hby d1_103) rfl (teq hc132).2 kgo) ?_
            refine own_go (g' := (mkF m 107 #[.val (.ref o0), .val (.int (0 : Int32)), .val (.ref o2), .val (.ref o3), .val (.int v0), .unset, .val (.int (128 : Int32)), .val (.int (191 : Int32)), .unset, .unset] [(.int (3 : Int32))])) (fun _ kgo => XS.iconst X0.here hx rfl (hb hby d1_106) kgo) ?_
            refine own_go (g' := (mkF m 109 #[.val (.ref o0), .val (.int (0 : Int32)), .val (.ref o2), .val (.ref o3), .val (.int v0), .val (.int (3 : Int32)), .val (.int (128 : Int32)), .val (.int (191 : Int32)), .unset, .unset] [])) (fun _ kgo => XS.istore X0.here hx rfl (hb hby d1_107) rfl (l' := #[.val (.ref o0), .val (.int (0 : Int32)), .val (.ref o2), .val (.ref o3), .val (.int v0), .val (.int (3 : Int32)), .val (.int (128 : Int32)), .val (.int (191 : Int32)), .unset, .unset]) rfl kgo) ?_
            refine own_go (g' := (mkF m 112 #[.val (.ref o0), .val (.int (0 : Int32)), .val (.ref o2), .val (.ref o3), .val (.int v0), .val (.int (3 : Int32)), .val (.int (128 : Int32)), .val (.int (191 : Int32)), .unset, .unset] [(.int (159 : Int32))])) (fun _ kgo => XS.sipush X0.here hx rfl (hb hby d1_109) kgo) ?_
            refine own_go (g' := (mkF m 114 #[.val (.ref o0), .val (.int (0 : Int32)), .val (.ref o2), .val (.ref o3), .val (.int v0), .val (.int (3 : Int32)), .val (.int (128 : Int32)), .val (.int (159 : Int32)), .unset, .unset] [])) (fun _ kgo => XS.istore X0.here hx rfl (hb hby d1_112) rfl (l' := #[.val (.ref o0), .val (.int (0 : Int32)), .val (.ref o2), .val (.ref o3), .val (.int v0), .val (.int (3 : Int32)), .val (.int (128 : Int32)), .val (.int (159 : Int32)), .unset, .unset]) rfl kgo) ?_
            refine own_go (g' := (mkF m 205 #[.val (.ref o0), .val (.int (0 : Int32)), .val (.ref o2), .val (.ref o3), .val (.int v0), .val (.int (3 : Int32)), .val (.int (128 : Int32)), .val (.int (159 : Int32)), .unset, .unset] [])) (fun _ kgo => XS.goto X0.here hx rfl (pc0 := 114) (pc' := 205) rfl (hb hby d1_114) (by decide) (by decide) kgo) ?_
            exact J2 (3 : Int32) (128 : Int32) (159 : Int32) (by rw [hc132]; exact own_clED) (by decide) (by decide)
          ·
            refine own_go (g' := (mkF m 117 #[.val (.ref o0), .val (.int (0 : Int32)), .val (.ref o2), .val (.ref o3), .val (.int v0), .unset, .val (.int (128 : Int32)), .val (.int (191 : Int32)), .unset, .unset] [])) (fun _ kgo => XS.icmpYes X0.here hx rfl (pc0 := 103) (pc' := 117) rfl (hb hby d1_103) rfl (feq hc132).2 (by decide) (by decide) kgo) ?_
            refine own_go (g' := (mkF m 119 #[.val (.ref o0), .val (.int (0 : Int32)), .val (.ref o2), .val (.ref o3), .val (.int v0), .unset, .val (.int (128 : Int32)), .val (.int (191 : Int32)), .unset, .unset] [(.int v0)])) (fun _ kgo => XS.iload X0.here hx rfl (hb hby d1_117) rfl kgo) ?_
            refine own_go (g' := (mkF m 122 #[.val (.ref o0), .val (.int (0 : Int32)), .val (.ref o2), .val (.ref o3), .val (.int v0), .unset, .val (.int (128 : Int32)), .val (.int (191 : Int32)), .unset, .unset] [(.int (238 : Int32)), (.int v0)])) (fun _ kgo => XS.sipush X0.here hx rfl (hb hby d1_119) kgo) ?_
            by_cases hc133 : v0 = (238 : Int32)
            ·
              refine own_go (g' := (mkF m 133 #[.val (.ref o0), .val (.int (0 : Int32)), .val (.ref o2), .val (.ref o3), .val (.int v0), .unset, .val (.int (128 : Int32)), .val (.int (191 : Int32)), .unset, .unset] [])) (fun _ kgo => XS.icmpYes X0.here hx rfl (pc0 := 122) (pc' := 133) rfl (hb hby d1_122) rfl (teq hc133).1 (by decide) (by decide) kgo) ?_
              refine own_go (g' := (mkF m 134 #[.val (.ref o0), .val (.int (0 : Int32)), .val (.ref o2), .val (.ref o3), .val (.int v0), .unset, .val (.int (128 : Int32)), .val (.int (191 : Int32)), .unset, .unset] [(.int (3 : Int32))])) (fun _ kgo => XS.iconst X0.here hx rfl (hb hby d1_133) kgo) ?_
              refine own_go (g' := (mkF m 136 #[.val (.ref o0), .val (.int (0 : Int32)), .val (.ref o2), .val (.ref o3), .val (.int v0), .val (.int (3 : Int32)), .val (.int (128 : Int32)), .val (.int (191 : Int32)), .unset, .unset] [])) (fun _ kgo => XS.istore X0.here hx rfl (hb hby d1_134) rfl (l' := #[.val (.ref o0), .val (.int (0 : Int32)), .val (.ref o2), .val (.ref o3), .val (.int v0), .val (.int (3 : Int32)), .val (.int (128 : Int32)), .val (.int (191 : Int32)), .unset, .unset]) rfl kgo) ?_
              refine own_go (g' := (mkF m 205 #[.val (.ref o0), .val (.int (0 : Int32)), .val (.ref o2), .val (.ref o3), .val (.int v0), .val (.int (3 : Int32)), .val (.int (128 : Int32)), .val (.int (191 : Int32)), .unset, .unset] [])) (fun _ kgo => XS.goto X0.here hx rfl (pc0 := 136) (pc' := 205) rfl (hb hby d1_136) (by decide) (by decide) kgo) ?_
              exact J2 (3 : Int32) (128 : Int32) (191 : Int32) (own_cl3 hv (by simp only [← Int32.toInt_inj, Int32.lt_iff_toInt_lt, Int32.reduceToInt] at hc128 h57 hc130 h98 hc132 hc133; omega)) (by decide) (by decide)
            ·
              refine own_go (g' := (mkF m 125 #[.val (.ref o0), .val (.int (0 : Int32)), .val (.ref o2), .val (.ref o3), .val (.int v0), .unset, .val (.int (128 : Int32)), .val (.int (191 : Int32)), .unset, .unset] [])) (fun _ kgo => XS.icmpNo X0.here hx rfl (hb hby d1_122) rfl (feq hc133).1 kgo) ?_
              refine own_go (g' := (mkF m 127 #[.val (.ref o0), .val (.int (0 : Int32)), .val (.ref o2), .val (.ref o3), .val (.int v0), .unset, .val (.int (128 : Int32)), .val (.int (191 : Int32)), .unset, .unset] [(.int v0)])) (fun _ kgo => XS.iload X0.here hx rfl (hb hby d1_125) rfl kgo) ?_
              refine own_go (g' := (mkF m 130 #[.val (.ref o0), .val (.int (0 : Int32)), .val (.ref o2), .val (.ref o3), .val (.int v0), .unset, .val (.int (128 : Int32)), .val (.int (191 : Int32)), .unset, .unset] [(.int (239 : Int32)), (.int v0)])) (fun _ kgo => XS.sipush X0.here hx rfl (hb hby d1_127) kgo) ?_
              by_cases hc134 : v0 = (239 : Int32)
              ·
                refine own_go (g' := (mkF m 133 #[.val (.ref o0), .val (.int (0 : Int32)), .val (.ref o2), .val (.ref o3), .val (.int v0), .unset, .val (.int (128 : Int32)), .val (.int (191 : Int32)), .unset, .unset] [])) (fun _ kgo => XS.icmpNo X0.here hx rfl (hb hby d1_130) rfl (teq hc134).2 kgo) ?_
                refine own_go (g' := (mkF m 134 #[.val (.ref o0), .val (.int (0 : Int32)), .val (.ref o2), .val (.ref o3), .val (.int v0), .unset, .val (.int (128 : Int32)), .val (.int (191 : Int32)), .unset, .unset] [(.int (3 : Int32))])) (fun _ kgo => XS.iconst X0.here hx rfl (hb hby d1_133) kgo) ?_
                refine own_go (g' := (mkF m 136 #[.val (.ref o0), .val (.int (0 : Int32)), .val (.ref o2), .val (.ref o3), .val (.int v0), .val (.int (3 : Int32)), .val (.int (128 : Int32)), .val (.int (191 : Int32)), .unset, .unset] [])) (fun _ kgo => XS.istore X0.here hx rfl (hb hby d1_134) rfl (l' := #[.val (.ref o0), .val (.int (0 : Int32)), .val (.ref o2), .val (.ref o3), .val (.int v0), .val (.int (3 : Int32)), .val (.int (128 : Int32)), .val (.int (191 : Int32)), .unset, .unset]) rfl kgo) ?_
                refine own_go (g' := (mkF m 205 #[.val (.ref o0), .val (.int (0 : Int32)), .val (.ref o2), .val (.ref o3), .val (.int v0), .val (.int (3 : Int32)), .val (.int (128 : Int32)), .val (.int (191 : Int32)), .unset, .unset] [])) (fun _ kgo => XS.goto X0.here hx rfl (pc0 := 136) (pc' := 205) rfl (hb hby d1_136) (by decide) (by decide) kgo) ?_
                exact J2 (3 : Int32) (128 : Int32) (191 : Int32) (own_cl3 hv (by simp only [← Int32.toInt_inj, Int32.lt_iff_toInt_lt, Int32.reduceToInt] at hc128 h57 hc130 h98 hc132 hc133 hc134; omega)) (by decide) (by decide)
              ·
                refine own_go (g' := (mkF m 139 #[.val (.ref o0), .val (.int (0 : Int32)), .val (.ref o2), .val (.ref o3), .val (.int v0), .unset, .val (.int (128 : Int32)), .val (.int (191 : Int32)), .unset, .unset] [])) (fun _ kgo => XS.icmpYes X0.here hx rfl (pc0 := 130) (pc' := 139) rfl (hb hby d1_130) rfl (feq hc134).2 (by decide) (by decide) kgo) ?_
                refine own_go (g' := (mkF m 141 #[.val (.ref o0), .val (.int (0 : Int32)), .val (.ref o2), .val (.ref o3), .val (.int v0), .unset, .val (.int (128 : Int32)), .val (.int (191 : Int32)), .unset, .unset] [(.int v0)])) (fun _ kgo => XS.iload X0.here hx rfl (hb hby d1_139) rfl kgo) ?_
                refine own_go (g' := (mkF m 144 #[.val (.ref o0), .val (.int (0 : Int32)), .val (.ref o2), .val (.ref o3), .val (.int v0), .unset, .val (.int (128 : Int32)), .val (.int (191 : Int32)), .unset, .unset] [(.int (240 : Int32)), (.int v0)])) (fun _ kgo => XS.sipush X0.here hx rfl (hb hby d1_141) kgo) ?_
                by_cases hc135 : v0 = (240 : Int32)
                ·
                  refine own_go (g' := (mkF m 147 #[.val (.ref o0), .val (.int (0 : Int32)), .val (.ref o2), .val (.ref o3), .val (.int v0), .unset, .val (.int (128 : Int32)), .val (.int (191 : Int32)), .unset, .unset] [])) (fun _ kgo => XS.icmpNo X0.here hx rfl (hb hby d1_144) rfl (teq hc135).2 kgo) ?_
                  refine own_go (g' := (mkF m 148 #[.val (.ref o0), .val (.int (0 : Int32)), .val (.ref o2), .val (.ref o3), .val (.int v0), .unset, .val (.int (128 : Int32)), .val (.int (191 : Int32)), .unset, .unset] [(.int (4 : Int32))])) (fun _ kgo => XS.iconst X0.here hx rfl (hb hby d1_147) kgo) ?_
                  refine own_go (g' := (mkF m 150 #[.val (.ref o0), .val (.int (0 : Int32)), .val (.ref o2), .val (.ref o3), .val (.int v0), .val (.int (4 : Int32)), .val (.int (128 : Int32)), .val (.int (191 : Int32)), .unset, .unset] [])) (fun _ kgo => XS.istore X0.here hx rfl (hb hby d1_148) rfl (l' := #[.val (.ref o0), .val (.int (0 : Int32)), .val (.ref o2), .val (.ref o3), .val (.int v0), .val (.int (4 : Int32)), .val (.int (128 : Int32)), .val (.int (191 : Int32)), .unset, .unset]) rfl kgo) ?_
                  refine own_go (g' := (mkF m 153 #[.val (.ref o0), .val (.int (0 : Int32)), .val (.ref o2), .val (.ref o3), .val (.int v0), .val (.int (4 : Int32)), .val (.int (128 : Int32)), .val (.int (191 : Int32)), .unset, .unset] [(.int (144 : Int32))])) (fun _ kgo => XS.sipush X0.here hx rfl (hb hby d1_150) kgo) ?_
                  refine own_go (g' := (mkF m 155 #[.val (.ref o0), .val (.int (0 : Int32)), .val (.ref o2), .val (.ref o3), .val (.int v0), .val (.int (4 : Int32)), .val (.int (144 : Int32)), .val (.int (191 : Int32)), .unset, .unset] [])) (fun _ kgo => XS.istore X0.here hx rfl (hb hby d1_153) rfl (l' := #[.val (.ref o0), .val (.int (0 : Int32)), .val (.ref o2), .val (.ref o3), .val (.int v0), .val (.int (4 : Int32)), .val (.int (144 : Int32)), .val (.int (191 : Int32)), .unset, .unset]) rfl kgo) ?_
                  refine own_go (g' := (mkF m 205 #[.val (.ref o0), .val (.int (0 : Int32)), .val (.ref o2), .val (.ref o3), .val (.int v0), .val (.int (4 : Int32)), .val (.int (144 : Int32)), .val (.int (191 : Int32)), .unset, .unset] [])) (fun _ kgo => XS.goto X0.here hx rfl (pc0 := 155) (pc' := 205) rfl (hb hby d1_155) (by decide) (by decide) kgo) ?_
                  exact J2 (4 : Int32) (144 : Int32) (191 : Int32) (by rw [hc135]; exact own_clF0) (by decide) (by decide)
                ·
                  refine own_go (g' := (mkF m 158 #[.val (.ref o0), .val (.int (0 : Int32)), .val (.ref o2), .val (.ref o3), .val (.int v0), .unset, .val (.int (128 : Int32)), .val (.int (191 : Int32)), .unset, .unset] [])) (fun _ kgo => XS.icmpYes X0.here hx rfl (pc0 := 144) (pc' := 158) rfl (hb hby d1_144) rfl (feq hc135).2 (by decide) (by decide) kgo) ?_
                  refine own_go (g' := (mkF m 160 #[.val (.ref o0), .val (.int (0 : Int32)), .val (.ref o2), .val (.ref o3), .val (.int v0), .unset, .val (.int (128 : Int32)), .val (.int (191 : Int32)), .unset, .unset] [(.int v0)])) (fun _ kgo => XS.iload X0.here hx rfl (hb hby d1_158) rfl kgo) ?_
                  refine own_go (g' := (mkF m 163 #[.val (.ref o0), .val (.int (0 : Int32)), .val (.ref o2), .val (.ref o3), .val (.int v0), .unset, .val (.int (128 : Int32)), .val (.int (191 : Int32)), .unset, .unset] [(.int (241 : Int32)), (.int v0)])) (fun _ kgo => XS.sipush X0.here hx rfl (hb hby d1_160) kgo) ?_
                  have J136 : (¬ (¬ v0 < (241 : Int32) ∧ ¬ (243 : Int32) < v0)) → own_Go p e below (own_Post s QQ 0 0) s₁ (mkF m 180 #[.val (.ref o0), .val (.int (0 : Int32)), .val (.ref o2), .val (.ref o3), .val (.int v0), .unset, .val (.int (128 : Int32)), .val (.int (191 : Int32)), .unset, .unset] []) := by
                    intro h180
                    refine own_go (g' := (mkF m 182 #[.val (.ref o0), .val (.int (0 : Int32)), .val (.ref o2), .val (.ref o3), .val (.int v0), .unset, .val (.int (128 : Int32)), .val (.int (191 : Int32)), .unset, .unset] [(.int v0)])) (fun _ kgo => XS.iload X0.here hx rfl (hb hby d1_180) rfl kgo) ?_
                    refine own_go (g' := (mkF m 185 #[.val (.ref o0), .val (.int (0 : Int32)), .val (.ref o2), .val (.ref o3), .val (.int v0), .unset, .val (.int (128 : Int32)), .val (.int (191 : Int32)), .unset, .unset] [(.int (244 : Int32)), (.int v0)])) (fun _ kgo => XS.sipush X0.here hx rfl (hb hby d1_182) kgo) ?_
                    by_cases hc137 : v0 = (244 : Int32)
                    ·
                      refine own_go (g' := (mkF m 188 #[.val (.ref o0), .val (.int (0 : Int32)), .val (.ref o2), .val (.ref o3), .val (.int v0), .unset, .val (.int (128 : Int32)), .val (.int (191 : Int32)), .unset, .unset] [])) (fun _ kgo => XS.icmpNo X0.here hx rfl (hb hby d1_185) rfl (teq hc137).2 kgo) ?_
                      refine own_go (g' := (mkF m 189 #[.val (.ref o0), .val (.int (0 : Int32)), .val (.ref o2), .val (.ref o3), .val (.int v0), .unset, .val (.int (128 : Int32)), .val (.int (191 : Int32)), .unset, .unset] [(.int (4 : Int32))])) (fun _ kgo => XS.iconst X0.here hx rfl (hb hby d1_188) kgo) ?_
                      refine own_go (g' := (mkF m 191 #[.val (.ref o0), .val (.int (0 : Int32)), .val (.ref o2), .val (.ref o3), .val (.int v0), .val (.int (4 : Int32)), .val (.int (128 : Int32)), .val (.int (191 : Int32)), .unset, .unset] [])) (fun _ kgo => XS.istore X0.here hx rfl (hb hby d1_189) rfl (l' := #[.val (.ref o0), .val (.int (0 : Int32)), .val (.ref o2), .val (.ref o3), .val (.int v0), .val (.int (4 : Int32)), .val (.int (128 : Int32)), .val (.int (191 : Int32)), .unset, .unset]) rfl kgo) ?_
                      refine own_go (g' := (mkF m 194 #[.val (.ref o0), .val (.int (0 : Int32)), .val (.ref o2), .val (.ref o3), .val (.int v0), .val (.int (4 : Int32)), .val (.int (128 : Int32)), .val (.int (191 : Int32)), .unset, .unset] [(.int (143 : Int32))])) (fun _ kgo => XS.sipush X0.here hx rfl (hb hby d1_191) kgo) ?_
                      refine own_go (g' := (mkF m 196 #[.val (.ref o0), .val (.int (0 : Int32)), .val (.ref o2), .val (.ref o3), .val (.int v0), .val (.int (4 : Int32)), .val (.int (128 : Int32)), .val (.int (143 : Int32)), .unset, .unset] [])) (fun _ kgo => XS.istore X0.here hx rfl (hb hby d1_194) rfl (l' := #[.val (.ref o0), .val (.int (0 : Int32)), .val (.ref o2), .val (.ref o3), .val (.int v0), .val (.int (4 : Int32)), .val (.int (128 : Int32)), .val (.int (143 : Int32)), .unset, .unset]) rfl kgo) ?_
                      refine own_go (g' := (mkF m 205 #[.val (.ref o0), .val (.int (0 : Int32)), .val (.ref o2), .val (.ref o3), .val (.int v0), .val (.int (4 : Int32)), .val (.int (128 : Int32)), .val (.int (143 : Int32)), .unset, .unset] [])) (fun _ kgo => XS.goto X0.here hx rfl (pc0 := 196) (pc' := 205) rfl (hb hby d1_196) (by decide) (by decide) kgo) ?_
                      exact J2 (4 : Int32) (128 : Int32) (143 : Int32) (by rw [hc137]; exact own_clF4) (by decide) (by decide)
                    ·
                      refine own_go (g' := (mkF m 199 #[.val (.ref o0), .val (.int (0 : Int32)), .val (.ref o2), .val (.ref o3), .val (.int v0), .unset, .val (.int (128 : Int32)), .val (.int (191 : Int32)), .unset, .unset] [])) (fun _ kgo => XS.icmpYes X0.here hx rfl (pc0 := 185) (pc' := 199) rfl (hb hby d1_185) rfl (feq hc137).2 (by decide) (by decide) kgo) ?_
                      refine own_go (g' := (mkF m 200 #[.val (.ref o0), .val (.int (0 : Int32)), .val (.ref o2), .val (.ref o3), .val (.int v0), .unset, .val (.int (128 : Int32)), .val (.int (191 : Int32)), .unset, .unset] [(.ref o2)])) (fun _ kgo => XS.aloadN X0.here hx rfl (hb hby d1_199) rfl rfl kgo) ?_
                      refine own_go (g' := (mkF m 201 #[.val (.ref o0), .val (.int (0 : Int32)), .val (.ref o2), .val (.ref o3), .val (.int v0), .unset, .val (.int (128 : Int32)), .val (.int (191 : Int32)), .unset, .unset] [(.int (0 : Int32)), (.ref o2)])) (fun _ kgo => XS.iloadN X0.here hx rfl (hb hby d1_200) rfl kgo) ?_
                      refine own_go (g' := (mkF m 202 #[.val (.ref o0), .val (.int (0 : Int32)), .val (.ref o2), .val (.ref o3), .val (.int v0), .unset, .val (.int (128 : Int32)), .val (.int (191 : Int32)), .unset, .unset] [(.int (0 : Int32)), (.int (0 : Int32)), (.ref o2)])) (fun _ kgo => XS.iconst X0.here hx rfl (hb hby d1_201) kgo) ?_
                      obtain ⟨cl138, Ar138, qk138, sz138, nn138, Hs138, Gs138⟩ := id P1
                      have hin138 : ¬ ((0 : Int32) < 0 ∨ cl138.slots.size ≤ ((0 : Int32)).toNatClampNeg) := inb_of sz138 ⟨by decide, by decide⟩
                      obtain ⟨T138, h138, X138, e138, W138, st138⟩ := stZ X0 hx hZ e0 Ar138 (j := (0 : Int32)) hin138 (g := (mkF m 202 #[.val (.ref o0), .val (.int (0 : Int32)), .val (.ref o2), .val (.ref o3), .val (.int v0), .unset, .val (.int (128 : Int32)), .val (.int (191 : Int32)), .unset, .unset] [(.int (0 : Int32)), (.int (0 : Int32)), (.ref o2)])) rfl rfl (hb hby d1_202)
                      have Vn138 : Arv Z h138 o2 ko .boolean (4 : Int32) [(.int (nar .boolean (own_b false))), (.int (own_b a1_)), (.int (own_b a2_)), (.int (own_b a3_))] (.int (0 : Int32)) := Arv.set Ar138 qk138 sz138 nn138 Hs138 Gs138 (fits_nar_bool _) W138 0 rfl (Nat.le_of_ble_eq_true rfl)
                      have V138 : Arv Z h138 o2 ko .boolean (4 : Int32) [(.int (own_b false)), (.int (own_b a1_)), (.int (own_b a2_)), (.int (own_b a3_))] (.int (0 : Int32)) := by rw [own_b_nar] at Vn138; exact Vn138
                      have N138 := Fr.snoc X138 N0 g_o2
                      have Z138 : n0 ≤ h138.size := by rw [W138.size]; exact Z0
                      have K138 : Keep h0 h138 [o2, o3] := K0.wr W138 (Or.inl (List.mem_of_getElem? (i := 0) rfl))
                      refine own_go (g' := (mkF m 203 #[.val (.ref o0), .val (.int (0 : Int32)), .val (.ref o2), .val (.ref o3), .val (.int v0), .unset, .val (.int (128 : Int32)), .val (.int (191 : Int32)), .unset, .unset] [])) (st138) ?_
                      refine own_go (g' := (mkF m 204 #[.val (.ref o0), .val (.int (0 : Int32)), .val (.ref o2), .val (.ref o3), .val (.int v0), .unset, .val (.int (128 : Int32)), .val (.int (191 : Int32)), .unset, .unset] [(.int (4 : Int32))])) (fun _ kgo => XS.iconst X138.here hx rfl (hb hby d1_203) kgo) ?_
                      refine own_retI X138 hx Bd.returns Bd.notSynchronized (hb hby d1_204) (by decide) (by decide) ?_
                      show QQ _ T138.heap _
                      rw [e138]
                      have hok : own_ok 0 128 191 v0 = false := by rw [own_inv hv]; exact decide_eq_false (by simp only [← Int32.toInt_inj, Int32.lt_iff_toInt_lt, Int32.reduceToInt] at hc128 h57 hc130 h98 hc132 hc133 hc134 hc135 h180 hc137; omega)
                      have hrel : (((4 : Int32) = 1 ∧ ∀ t, own_chk ((v0, false, c0_) :: t) 0 128 191 = own_chk t 0 128 191) ∨ ((4 : Int32) = 2 ∧ ∀ t, own_chk ((v0, false, c0_) :: (v1, a1_, c1_) :: t) 0 128 191 = own_chk t 0 128 191) ∨ ((4 : Int32) = 3 ∧ ∀ t, own_chk ((v0, false, c0_) :: (v1, a1_, c1_) :: (v2, a2_, c2_) :: t) 0 128 191 = own_chk t 0 128 191) ∨ (¬ (4 : Int32) < 4 ∧ own_chk [(v0, false, c0_), (v1, a1_, c1_), (v2, a2_, c2_), (v3, a3_, c3_)] 0 128 191 = true)) := by
                        exact Or.inr (Or.inr (Or.inr ((⟨by decide, own_no hok⟩))))
                      have fx139 : Arv Z h138 o0 kv .int (4 : Int32) [(.int v0), (.int v1), (.int v2), (.int v3)] (.int (0 : Int32)) := (Arv.other P0 W138 hn02)
                      have fx140 : Arv Z h138 o3 kc .boolean (4 : Int32) [(.int (own_b c0_)), (.int (own_b c1_)), (.int (own_b c2_)), (.int (own_b c3_))] (.int (0 : Int32)) := (Arv.other P2 W138 (Ne.symm hn23))
                      rw [← hQQ]
                      exact ⟨(4 : Int32), false, a1_, a2_, a3_, c0_, c1_, c2_, c3_, rfl, N138, K138, hrel, fx139, V138, fx140⟩
                  by_cases hc141 : v0 < (241 : Int32)
                  ·
                    refine own_go (g' := (mkF m 180 #[.val (.ref o0), .val (.int (0 : Int32)), .val (.ref o2), .val (.ref o3), .val (.int v0), .unset, .val (.int (128 : Int32)), .val (.int (191 : Int32)), .unset, .unset] [])) (fun _ kgo => XS.icmpYes X0.here hx rfl (pc0 := 163) (pc' := 180) rfl (hb hby d1_163) rfl (tlt hc141).1 (by decide) (by decide) kgo) ?_
                    exact J136 (fun q => q.1 hc141)
                  ·
                    refine own_go (g' := (mkF m 166 #[.val (.ref o0), .val (.int (0 : Int32)), .val (.ref o2), .val (.ref o3), .val (.int v0), .unset, .val (.int (128 : Int32)), .val (.int (191 : Int32)), .unset, .unset] [])) (fun _ kgo => XS.icmpNo X0.here hx rfl (hb hby d1_163) rfl (flt hc141).1 kgo) ?_
                    refine own_go (g' := (mkF m 168 #[.val (.ref o0), .val (.int (0 : Int32)), .val (.ref o2), .val (.ref o3), .val (.int v0), .unset, .val (.int (128 : Int32)), .val (.int (191 : Int32)), .unset, .unset] [(.int v0)])) (fun _ kgo => XS.iload X0.here hx rfl (hb hby d1_166) rfl kgo) ?_
                    refine own_go (g' := (mkF m 171 #[.val (.ref o0), .val (.int (0 : Int32)), .val (.ref o2), .val (.ref o3), .val (.int v0), .unset, .val (.int (128 : Int32)), .val (.int (191 : Int32)), .unset, .unset] [(.int (243 : Int32)), (.int v0)])) (fun _ kgo => XS.sipush X0.here hx rfl (hb hby d1_168) kgo) ?_
                    by_cases hc142 : (243 : Int32) < v0
                    ·
                      refine own_go (g' := (mkF m 180 #[.val (.ref o0), .val (.int (0 : Int32)), .val (.ref o2), .val (.ref o3), .val (.int v0), .unset, .val (.int (128 : Int32)), .val (.int (191 : Int32)), .unset, .unset] [])) (fun _ kgo => XS.icmpYes X0.here hx rfl (pc0 := 171) (pc' := 180) rfl (hb hby d1_171) rfl (tlt hc142).2.2.1 (by decide) (by decide) kgo) ?_
                      exact J136 (fun q => q.2 hc142)
                    ·
                      refine own_go (g' := (mkF m 174 #[.val (.ref o0), .val (.int (0 : Int32)), .val (.ref o2), .val (.ref o3), .val (.int v0), .unset, .val (.int (128 : Int32)), .val (.int (191 : Int32)), .unset, .unset] [])) (fun _ kgo => XS.icmpNo X0.here hx rfl (hb hby d1_171) rfl (flt hc142).2.2.1 kgo) ?_
                      refine own_go (g' := (mkF m 175 #[.val (.ref o0), .val (.int (0 : Int32)), .val (.ref o2), .val (.ref o3), .val (.int v0), .unset, .val (.int (128 : Int32)), .val (.int (191 : Int32)), .unset, .unset] [(.int (4 : Int32))])) (fun _ kgo => XS.iconst X0.here hx rfl (hb hby d1_174) kgo) ?_
                      refine own_go (g' := (mkF m 177 #[.val (.ref o0), .val (.int (0 : Int32)), .val (.ref o2), .val (.ref o3), .val (.int v0), .val (.int (4 : Int32)), .val (.int (128 : Int32)), .val (.int (191 : Int32)), .unset, .unset] [])) (fun _ kgo => XS.istore X0.here hx rfl (hb hby d1_175) rfl (l' := #[.val (.ref o0), .val (.int (0 : Int32)), .val (.ref o2), .val (.ref o3), .val (.int v0), .val (.int (4 : Int32)), .val (.int (128 : Int32)), .val (.int (191 : Int32)), .unset, .unset]) rfl kgo) ?_
                      refine own_go (g' := (mkF m 205 #[.val (.ref o0), .val (.int (0 : Int32)), .val (.ref o2), .val (.ref o3), .val (.int v0), .val (.int (4 : Int32)), .val (.int (128 : Int32)), .val (.int (191 : Int32)), .unset, .unset] [])) (fun _ kgo => XS.goto X0.here hx rfl (pc0 := 177) (pc' := 205) rfl (hb hby d1_177) (by decide) (by decide) kgo) ?_
                      exact J2 (4 : Int32) (128 : Int32) (191 : Int32) (own_cl4 hv (by simp only [← Int32.toInt_inj, Int32.lt_iff_toInt_lt, Int32.reduceToInt] at hc128 h57 hc130 h98 hc132 hc133 hc134 hc135 hc141 hc142; omega)) (by decide) (by decide)
        by_cases hc143 : v0 < (225 : Int32)
        ·
          refine own_go (g' := (mkF m 98 #[.val (.ref o0), .val (.int (0 : Int32)), .val (.ref o2), .val (.ref o3), .val (.int v0), .unset, .val (.int (128 : Int32)), .val (.int (191 : Int32)), .unset, .unset] [])) (fun _ kgo => XS.icmpYes X0.here hx rfl (pc0 := 81) (pc' := 98) rfl (hb hby d1_81) rfl (tlt hc143).1 (by decide) (by decide) kgo) ?_
          exact J131 (fun q => q.1 hc143)
        ·
          refine own_go (g' := (mkF m 84 #[.val (.ref o0), .val (.int (0 : Int32)), .val (.ref o2), .val (.ref o3), .val (.int v0), .unset, .val (.int (128 : Int32)), .val (.int (191 : Int32)), .unset, .unset] [])) (fun _ kgo => XS.icmpNo X0.here hx rfl (hb hby d1_81) rfl (flt hc143).1 kgo) ?_
          refine own_go (g' := (mkF m 86 #[.val (.ref o0), .val (.int (0 : Int32)), .val (.ref o2), .val (.ref o3), .val (.int v0), .unset, .val (.int (128 : Int32)), .val (.int (191 : Int32)), .unset, .unset] [(.int v0)])) (fun _ kgo => XS.iload X0.here hx rfl (hb hby d1_84) rfl kgo) ?_
          refine own_go (g' := (mkF m 89 #[.val (.ref o0), .val (.int (0 : Int32)), .val (.ref o2), .val (.ref o3), .val (.int v0), .unset, .val (.int (128 : Int32)), .val (.int (191 : Int32)), .unset, .unset] [(.int (236 : Int32)), (.int v0)])) (fun _ kgo => XS.sipush X0.here hx rfl (hb hby d1_86) kgo) ?_
          by_cases hc144 : (236 : Int32) < v0
          ·
            refine own_go (g' := (mkF m 98 #[.val (.ref o0), .val (.int (0 : Int32)), .val (.ref o2), .val (.ref o3), .val (.int v0), .unset, .val (.int (128 : Int32)), .val (.int (191 : Int32)), .unset, .unset] [])) (fun _ kgo => XS.icmpYes X0.here hx rfl (pc0 := 89) (pc' := 98) rfl (hb hby d1_89) rfl (tlt hc144).2.2.1 (by decide) (by decide) kgo) ?_
            exact J131 (fun q => q.2 hc144)
          ·
            refine own_go (g' := (mkF m 92 #[.val (.ref o0), .val (.int (0 : Int32)), .val (.ref o2), .val (.ref o3), .val (.int v0), .unset, .val (.int (128 : Int32)), .val (.int (191 : Int32)), .unset, .unset] [])) (fun _ kgo => XS.icmpNo X0.here hx rfl (hb hby d1_89) rfl (flt hc144).2.2.1 kgo) ?_
            refine own_go (g' := (mkF m 93 #[.val (.ref o0), .val (.int (0 : Int32)), .val (.ref o2), .val (.ref o3), .val (.int v0), .unset, .val (.int (128 : Int32)), .val (.int (191 : Int32)), .unset, .unset] [(.int (3 : Int32))])) (fun _ kgo => XS.iconst X0.here hx rfl (hb hby d1_92) kgo) ?_
            refine own_go (g' := (mkF m 95 #[.val (.ref o0), .val (.int (0 : Int32)), .val (.ref o2), .val (.ref o3), .val (.int v0), .val (.int (3 : Int32)), .val (.int (128 : Int32)), .val (.int (191 : Int32)), .unset, .unset] [])) (fun _ kgo => XS.istore X0.here hx rfl (hb hby d1_93) rfl (l' := #[.val (.ref o0), .val (.int (0 : Int32)), .val (.ref o2), .val (.ref o3), .val (.int v0), .val (.int (3 : Int32)), .val (.int (128 : Int32)), .val (.int (191 : Int32)), .unset, .unset]) rfl kgo) ?_
            refine own_go (g' := (mkF m 205 #[.val (.ref o0), .val (.int (0 : Int32)), .val (.ref o2), .val (.ref o3), .val (.int v0), .val (.int (3 : Int32)), .val (.int (128 : Int32)), .val (.int (191 : Int32)), .unset, .unset] [])) (fun _ kgo => XS.goto X0.here hx rfl (pc0 := 95) (pc' := 205) rfl (hb hby d1_95) (by decide) (by decide) kgo) ?_
            exact J2 (3 : Int32) (128 : Int32) (191 : Int32) (own_cl3 hv (by simp only [← Int32.toInt_inj, Int32.lt_iff_toInt_lt, Int32.reduceToInt] at hc128 h57 hc130 hc143 hc144; omega)) (by decide) (by decide)
    by_cases hc145 : v0 < (194 : Int32)
    ·
      refine own_go (g' := (mkF m 57 #[.val (.ref o0), .val (.int (0 : Int32)), .val (.ref o2), .val (.ref o3), .val (.int v0), .unset, .val (.int (128 : Int32)), .val (.int (191 : Int32)), .unset, .unset] [])) (fun _ kgo => XS.icmpYes X0.here hx rfl (pc0 := 40) (pc' := 57) rfl (hb hby d1_40) rfl (tlt hc145).1 (by decide) (by decide) kgo) ?_
      exact J129 (fun q => q.1 hc145)
    ·
      refine own_go (g' := (mkF m 43 #[.val (.ref o0), .val (.int (0 : Int32)), .val (.ref o2), .val (.ref o3), .val (.int v0), .unset, .val (.int (128 : Int32)), .val (.int (191 : Int32)), .unset, .unset] [])) (fun _ kgo => XS.icmpNo X0.here hx rfl (hb hby d1_40) rfl (flt hc145).1 kgo) ?_
      refine own_go (g' := (mkF m 45 #[.val (.ref o0), .val (.int (0 : Int32)), .val (.ref o2), .val (.ref o3), .val (.int v0), .unset, .val (.int (128 : Int32)), .val (.int (191 : Int32)), .unset, .unset] [(.int v0)])) (fun _ kgo => XS.iload X0.here hx rfl (hb hby d1_43) rfl kgo) ?_
      refine own_go (g' := (mkF m 48 #[.val (.ref o0), .val (.int (0 : Int32)), .val (.ref o2), .val (.ref o3), .val (.int v0), .unset, .val (.int (128 : Int32)), .val (.int (191 : Int32)), .unset, .unset] [(.int (223 : Int32)), (.int v0)])) (fun _ kgo => XS.sipush X0.here hx rfl (hb hby d1_45) kgo) ?_
      by_cases hc146 : (223 : Int32) < v0
      ·
        refine own_go (g' := (mkF m 57 #[.val (.ref o0), .val (.int (0 : Int32)), .val (.ref o2), .val (.ref o3), .val (.int v0), .unset, .val (.int (128 : Int32)), .val (.int (191 : Int32)), .unset, .unset] [])) (fun _ kgo => XS.icmpYes X0.here hx rfl (pc0 := 48) (pc' := 57) rfl (hb hby d1_48) rfl (tlt hc146).2.2.1 (by decide) (by decide) kgo) ?_
        exact J129 (fun q => q.2 hc146)
      ·
        refine own_go (g' := (mkF m 51 #[.val (.ref o0), .val (.int (0 : Int32)), .val (.ref o2), .val (.ref o3), .val (.int v0), .unset, .val (.int (128 : Int32)), .val (.int (191 : Int32)), .unset, .unset] [])) (fun _ kgo => XS.icmpNo X0.here hx rfl (hb hby d1_48) rfl (flt hc146).2.2.1 kgo) ?_
        refine own_go (g' := (mkF m 52 #[.val (.ref o0), .val (.int (0 : Int32)), .val (.ref o2), .val (.ref o3), .val (.int v0), .unset, .val (.int (128 : Int32)), .val (.int (191 : Int32)), .unset, .unset] [(.int (2 : Int32))])) (fun _ kgo => XS.iconst X0.here hx rfl (hb hby d1_51) kgo) ?_
        refine own_go (g' := (mkF m 54 #[.val (.ref o0), .val (.int (0 : Int32)), .val (.ref o2), .val (.ref o3), .val (.int v0), .val (.int (2 : Int32)), .val (.int (128 : Int32)), .val (.int (191 : Int32)), .unset, .unset] [])) (fun _ kgo => XS.istore X0.here hx rfl (hb hby d1_52) rfl (l' := #[.val (.ref o0), .val (.int (0 : Int32)), .val (.ref o2), .val (.ref o3), .val (.int v0), .val (.int (2 : Int32)), .val (.int (128 : Int32)), .val (.int (191 : Int32)), .unset, .unset]) rfl kgo) ?_
        refine own_go (g' := (mkF m 205 #[.val (.ref o0), .val (.int (0 : Int32)), .val (.ref o2), .val (.ref o3), .val (.int v0), .val (.int (2 : Int32)), .val (.int (128 : Int32)), .val (.int (191 : Int32)), .unset, .unset] [])) (fun _ kgo => XS.goto X0.here hx rfl (pc0 := 54) (pc' := 205) rfl (hb hby d1_54) (by decide) (by decide) kgo) ?_
        exact J2 (2 : Int32) (128 : Int32) (191 : Int32) (own_cl2 hv (by simp only [← Int32.toInt_inj, Int32.lt_iff_toInt_lt, Int32.reduceToInt] at hc128 hc145 hc146; omega)) (by decide) (by decide)
  ·
    refine own_go (g' := (mkF m 29 #[.val (.ref o0), .val (.int (0 : Int32)), .val (.ref o2), .val (.ref o3), .val (.int v0), .unset, .val (.int (128 : Int32)), .val (.int (191 : Int32)), .unset, .unset] [])) (fun _ kgo => XS.icmpNo X0.here hx rfl (hb hby d1_26) rfl (flt hc128).2.2.1 kgo) ?_
    refine own_go (g' := (mkF m 30 #[.val (.ref o0), .val (.int (0 : Int32)), .val (.ref o2), .val (.ref o3), .val (.int v0), .unset, .val (.int (128 : Int32)), .val (.int (191 : Int32)), .unset, .unset] [(.int (1 : Int32))])) (fun _ kgo => XS.iconst X0.here hx rfl (hb hby d1_29) kgo) ?_
    refine own_go (g' := (mkF m 32 #[.val (.ref o0), .val (.int (0 : Int32)), .val (.ref o2), .val (.ref o3), .val (.int v0), .val (.int (1 : Int32)), .val (.int (128 : Int32)), .val (.int (191 : Int32)), .unset, .unset] [])) (fun _ kgo => XS.istore X0.here hx rfl (hb hby d1_30) rfl (l' := #[.val (.ref o0), .val (.int (0 : Int32)), .val (.ref o2), .val (.ref o3), .val (.int v0), .val (.int (1 : Int32)), .val (.int (128 : Int32)), .val (.int (191 : Int32)), .unset, .unset]) rfl kgo) ?_
    refine own_go (g' := (mkF m 205 #[.val (.ref o0), .val (.int (0 : Int32)), .val (.ref o2), .val (.ref o3), .val (.int v0), .val (.int (1 : Int32)), .val (.int (128 : Int32)), .val (.int (191 : Int32)), .unset, .unset] [])) (fun _ kgo => XS.goto X0.here hx rfl (pc0 := 32) (pc' := 205) rfl (hb hby d1_32) (by decide) (by decide) kgo) ?_
    exact J2 (1 : Int32) (128 : Int32) (191 : Int32) (own_cl1 hv (by simp only [← Int32.toInt_inj, Int32.lt_iff_toInt_lt, Int32.reduceToInt] at hc128; omega)) (by decide) (by decide)
theorem pn_stp1 : plainName "com/example/firm_tread/firmtread/transport/Utf8AcceptPinLaw" = true := by first | (simp [plainName, overriddenIn]; done) | decide +kernel
theorem ef_stp1 (m : MethodId) (o0 : Addr) (o2 : Addr) (o3 : Addr) : entryFrame m #[(.ref o0), (.int (1 : Int32)), (.ref o2), (.ref o3)] 10 = mkF m 0 #[.val (.ref o0), .val (.int (1 : Int32)), .val (.ref o2), .val (.ref o3), .unset, .unset, .unset, .unset, .unset, .unset] [] := by first | (simp [entryFrame, mkF, argsToLocals, Value.category]; done) | rfl
set_option maxRecDepth 65536 in
set_option maxHeartbeats 40000000 in
theorem stp1 (l : Launch) (Z : State) (a0 : Array Value) (hw : ∀ d ∈ tables_1, d.before a0 Z = true) (o0 : Addr) (o2 : Addr) (o3 : Addr) (v0 : Int32) (v1 : Int32) (v2 : Int32) (v3 : Int32) (a0_ : Bool) (a1_ : Bool) (a2_ : Bool) (a3_ : Bool) (c0_ : Bool) (c1_ : Bool) (c2_ : Bool) (c3_ : Bool) (kv : ClassId) (ko : ClassId) (kc : ClassId) (h0 : Heap) (n0 : Nat) (Z0 : n0 ≤ h0.size) (g_o2 : n0 ≤ o2) (g_o3 : n0 ≤ o3) (P0 : Arv Z h0 o0 kv .int (4 : Int32) [(.int v0), (.int v1), (.int v2), (.int v3)] (.int (0 : Int32))) (P1 : Arv Z h0 o2 ko .boolean (4 : Int32) [(.int (own_b a0_)), (.int (own_b a1_)), (.int (own_b a2_)), (.int (own_b a3_))] (.int (0 : Int32))) (P2 : Arv Z h0 o3 kc .boolean (4 : Int32) [(.int (own_b c0_)), (.int (own_b c1_)), (.int (own_b c2_)), (.int (own_b c3_))] (.int (0 : Int32))) (hn02 : o0 ≠ o2) (hn03 : o0 ≠ o3) (hn23 : o2 ≠ o3) (hv : 0 ≤ v1.toInt ∧ v1.toInt ≤ 255) :
    own_Met l Z (⟨"com/example/firm_tread/firmtread/transport/Utf8AcceptPinLaw", "step", "([II[Z[Z)I"⟩ : MethodName) method_2_code 10 (some .int) [] ({ frames := 0, cells := 0, slots := 0, locals := 0 } : Room) #[(.ref o0), (.int (1 : Int32)), (.ref o2), (.ref o3)] h0 0 0 (fun v h L => ∃ (r : Int32), ∃ (a1' : Bool), ∃ (a2' : Bool), ∃ (a3' : Bool), ∃ (c1' : Bool), ∃ (c2' : Bool), ∃ (c3' : Bool), v = some (.int r) ∧ Fr n0 L ∧ Keep h0 h [o2, o3] ∧ ((r = 2 ∧ ∀ t, own_chk ((v1, a1', c1') :: t) 0 128 191 = own_chk t 0 128 191) ∨ (r = 3 ∧ ∀ t, own_chk ((v1, a1', c1') :: (v2, a2', c2') :: t) 0 128 191 = own_chk t 0 128 191) ∨ (¬ r < 4 ∧ own_chk [(v1, a1', c1'), (v2, a2', c2'), (v3, a3', c3')] 0 128 191 = true)) ∧ Arv Z h o0 kv .int (4 : Int32) [(.int v0), (.int v1), (.int v2), (.int v3)] (.int (0 : Int32)) ∧ Arv Z h o2 ko .boolean (4 : Int32) [(.int (own_b a0_)), (.int (own_b a1')), (.int (own_b a2')), (.int (own_b a3'))] (.int (0 : Int32)) ∧ Arv Z h o3 kc .boolean (4 : Int32) [(.int (own_b c0_)), (.int (own_b c1')), (.int (own_b c2')), (.int (own_b c3'))] (.int (0 : Int32))) := by
  refine own_met (plainFor_of_name pn_stp1) ?_
  intro p e s m below meth c s₁ Bd hml0 hZ X0 e0
  have hx := Bd.exec
  have hby := Bd.bytes
  have hml : c.maxLocals = 10 := hml0
  have hown : s.vm.findClass "com/example/firm_tread/firmtread/transport/Utf8AcceptPinLaw" = some m.cls := findClass_of_methodNamed Bd.named
  have hnm := (name_of_methodNamed Bd.named Bd.method).1
  refine own_cast (ef_stp1 m o0 o2 o3) ?_
  generalize hQQ : (fun (v : Option Value) (h : Heap) (L : List Loc) => ∃ (r : Int32), ∃ (a1' : Bool), ∃ (a2' : Bool), ∃ (a3' : Bool), ∃ (c1' : Bool), ∃ (c2' : Bool), ∃ (c3' : Bool), v = some (.int r) ∧ Fr n0 L ∧ Keep h0 h [o2, o3] ∧ ((r = 2 ∧ ∀ t, own_chk ((v1, a1', c1') :: t) 0 128 191 = own_chk t 0 128 191) ∨ (r = 3 ∧ ∀ t, own_chk ((v1, a1', c1') :: (v2, a2', c2') :: t) 0 128 191 = own_chk t 0 128 191) ∨ (¬ r < 4 ∧ own_chk [(v1, a1', c1'), (v2, a2', c2'), (v3, a3', c3')] 0 128 191 = true)) ∧ Arv Z h o0 kv .int (4 : Int32) [(.int v0), (.int v1), (.int v2), (.int v3)] (.int (0 : Int32)) ∧ Arv Z h o2 ko .boolean (4 : Int32) [(.int (own_b a0_)), (.int (own_b a1')), (.int (own_b a2')), (.int (own_b a3'))] (.int (0 : Int32)) ∧ Arv Z h o3 kc .boolean (4 : Int32) [(.int (own_b c0_)), (.int (own_b c1')), (.int (own_b c2')), (.int (own_b c3'))] (.int (0 : Int32))) = QQ
  have N0 := Fr.nil n0
  have K0 := Keep.refl h0 [o2, o3]
  refine own_go (g' := (mkF m 1 #[.val (.ref o0), .val (.int (1 : Int32)), .val (.ref o2), .val (.ref o3), .unset, .unset, .unset, .unset, .unset, .unset] [(.int (1 : Int32))])) (fun _ kgo => XS.iloadN X0.here hx rfl (hb hby d1_0) rfl kgo) ?_
  refine own_go (g' := (mkF m 2 #[.val (.ref o0), .val (.int (1 : Int32)), .val (.ref o2), .val (.ref o3), .unset, .unset, .unset, .unset, .unset, .unset] [(.int (4 : Int32)), (.int (1 : Int32))])) (fun _ kgo => XS.iconst X0.here hx rfl (hb hby d1_1) kgo) ?_
  refine own_go (g' := (mkF m 7 #[.val (.ref o0), .val (.int (1 : Int32)), .val (.ref o2), .val (.ref o3), .unset, .unset, .unset, .unset, .unset, .unset] [])) (fun _ kgo => XS.icmpYes X0.here hx rfl (pc0 := 2) (pc' := 7) rfl (hb hby d1_2) rfl (tlt (by decide)).1 (by decide) (by decide) kgo) ?_
  refine own_go (g' := (mkF m 8 #[.val (.ref o0), .val (.int (1 : Int32)), .val (.ref o2), .val (.ref o3), .unset, .unset, .unset, .unset, .unset, .unset] [(.ref o0)])) (fun _ kgo => XS.aloadN X0.here hx rfl (hb hby d1_7) rfl rfl kgo) ?_
  refine own_go (g' := (mkF m 9 #[.val (.ref o0), .val (.int (1 : Int32)), .val (.ref o2), .val (.ref o3), .unset, .unset, .unset, .unset, .unset, .unset] [(.int (1 : Int32)), (.ref o0)])) (fun _ kgo => XS.iloadN X0.here hx rfl (hb hby d1_8) rfl kgo) ?_
  obtain ⟨cl1, Ar1, qk1, sz1, nn1, Hs1, Gs1⟩ := id P0
  have hin1 : ¬ ((1 : Int32) < 0 ∨ cl1.slots.size ≤ ((1 : Int32)).toNatClampNeg) := inb_of sz1 ⟨by decide, by decide⟩
  have hat1 : cl1.slots[((1 : Int32)).toNatClampNeg]? = some (.int v1) := Has.at Hs1 hin1 rfl
  refine own_go (g' := (mkF m 10 #[.val (.ref o0), .val (.int (1 : Int32)), .val (.ref o2), .val (.ref o3), .unset, .unset, .unset, .unset, .unset, .unset] [(.int v1)])) (X0.iaload hx (j := (1 : Int32)) (v := (.int v1)) (by rw [e0]; exact Ar1.1) (State.isArrayOf_alike hZ.alike Ar1.2.1) Ar1.2.2 hin1 hat1 (g := (mkF m 9 #[.val (.ref o0), .val (.int (1 : Int32)), .val (.ref o2), .val (.ref o3), .unset, .unset, .unset, .unset, .unset, .unset] [(.int (1 : Int32)), (.ref o0)])) rfl rfl (hb hby d1_9)) ?_
  refine own_go (g' := (mkF m 12 #[.val (.ref o0), .val (.int (1 : Int32)), .val (.ref o2), .val (.ref o3), .val (.int v1), .unset, .unset, .unset, .unset, .unset] [])) (fun _ kgo => XS.istore X0.here hx rfl (hb hby d1_10) rfl (l' := #[.val (.ref o0), .val (.int (1 : Int32)), .val (.ref o2), .val (.ref o3), .val (.int v1), .unset, .unset, .unset, .unset, .unset]) rfl kgo) ?_
  refine own_go (g' := (mkF m 15 #[.val (.ref o0), .val (.int (1 : Int32)), .val (.ref o2), .val (.ref o3), .val (.int v1), .unset, .unset, .unset, .unset, .unset] [(.int (128 : Int32))])) (fun _ kgo => XS.sipush X0.here hx rfl (hb hby d1_12) kgo) ?_
  refine own_go (g' := (mkF m 17 #[.val (.ref o0), .val (.int (1 : Int32)), .val (.ref o2), .val (.ref o3), .val (.int v1), .unset, .val (.int (128 : Int32)), .unset, .unset, .unset] [])) (fun _ kgo => XS.istore X0.here hx rfl (hb hby d1_15) rfl (l' := #[.val (.ref o0), .val (.int (1 : Int32)), .val (.ref o2), .val (.ref o3), .val (.int v1), .unset, .val (.int (128 : Int32)), .unset, .unset, .unset]) rfl kgo) ?_
  refine own_go (g' := (mkF m 20 #[.val (.ref o0), .val (.int (1 : Int32)), .val (.ref o2), .val (.ref o3), .val (.int v1), .unset, .val (.int (128 : Int32)), .unset, .unset, .unset] [(.int (191 : Int32))])) (fun _ kgo => XS.sipush X0.here hx rfl (hb hby d1_17) kgo) ?_
  refine own_go (g' := (mkF m 22 #[.val (.ref o0), .val (.int (1 : Int32)), .val (.ref o2), .val (.ref o3), .val (.int v1), .unset, .val (.int (128 : Int32)), .val (.int (191 : Int32)), .unset, .unset] [])) (fun _ kgo => XS.istore X0.here hx rfl (hb hby d1_20) rfl (l' := #[.val (.ref o0), .val (.int (1 : Int32)), .val (.ref o2), .val (.ref o3), .val (.int v1), .unset, .val (.int (128 : Int32)), .val (.int (191 : Int32)), .unset, .unset]) rfl kgo) ?_
  refine own_go (g' := (mkF m 24 #[.val (.ref o0), .val (.int (1 : Int32)), .val (.ref o2), .val (.ref o3), .val (.int v1), .unset, .val (.int (128 : Int32)), .val (.int (191 : Int32)), .unset, .unset] [(.int v1)])) (fun _ kgo => XS.iload X0.here hx rfl (hb hby d1_22) rfl kgo) ?_
  refine own_go (g' := (mkF m 26 #[.val (.ref o0), .val (.int (1 : Int32)), .val (.ref o2), .val (.ref o3), .val (.int v1), .unset, .val (.int (128 : Int32)), .val (.int (191 : Int32)), .unset, .unset] [(.int (127 : Int32)), (.int v1)])) (fun _ kgo => XS.bipush X0.here hx rfl (hb hby d1_24) kgo) ?_
  have J2 : ∀ (len : Int32), ∀ (lo : Int32), ∀ (hi : Int32), (own_cl v1 len lo hi) → (len = 1 ∨ len = 2 ∨ len = 3 ∨ len = 4) → (len = 1 → lo = 128 ∧ hi = 191) → own_Go p e below (own_Post s QQ 0 0) s₁ (mkF m 205 #[.val (.ref o0), .val (.int (1 : Int32)), .val (.ref o2), .val (.ref o3), .val (.int v1), .val (.int len), .val (.int lo), .val (.int hi), .unset, .unset] []) := by
    intro len lo hi hcl hlen hl1
    refine own_go (g' := (mkF m 206 #[.val (.ref o0), .val (.int (1 : Int32)), .val (.ref o2), .val (.ref o3), .val (.int v1), .val (.int len), .val (.int lo), .val (.int hi), .unset, .unset] [(.ref o2)])) (fun _ kgo => XS.aloadN X0.here hx rfl (hb hby d1_205) rfl rfl kgo) ?_
    refine own_go (g' := (mkF m 207 #[.val (.ref o0), .val (.int (1 : Int32)), .val (.ref o2), .val (.ref o3), .val (.int v1), .val (.int len), .val (.int lo), .val (.int hi), .unset, .unset] [(.int (1 : Int32)), (.ref o2)])) (fun _ kgo => XS.iloadN X0.here hx rfl (hb hby d1_206) rfl kgo) ?_
    refine own_go (g' := (mkF m 208 #[.val (.ref o0), .val (.int (1 : Int32)), .val (.ref o2), .val (.ref o3), .val (.int v1), .val (.int len), .val (.int lo), .val (.int hi), .unset, .unset] [(.int (1 : Int32)), (.int (1 : Int32)), (.ref o2)])) (fun _ kgo => XS.iconst X0.here hx rfl (hb hby d1_207) kgo) ?_
    obtain ⟨cl3, Ar3, qk3, sz3, nn3, Hs3, Gs3⟩ := id P1
    have hin3 : ¬ ((1 : Int32) < 0 ∨ cl3.slots.size ≤ ((1 : Int32)).toNatClampNeg) := inb_of sz3 ⟨by decide, by decide⟩
    obtain ⟨T3, h3, X3, e3, W3, st3⟩ := stZ X0 hx hZ e0 Ar3 (j := (1 : Int32)) hin3 (g := (mkF m 208 #[.val (.ref o0), .val (.int (1 : Int32)), .val (.ref o2), .val (.ref o3), .val (.int v1), .val (.int len), .val (.int lo), .val (.int hi), .unset, .unset] [(.int (1 : Int32)), (.int (1 : Int32)), (.ref o2)])) rfl rfl (hb hby d1_208)
    have Vn3 : Arv Z h3 o2 ko .boolean (4 : Int32) [(.int (own_b a0_)), (.int (nar .boolean (own_b true))), (.int (own_b a2_)), (.int (own_b a3_))] (.int (0 : Int32)) := Arv.set Ar3 qk3 sz3 nn3 Hs3 Gs3 (fits_nar_bool _) W3 1 rfl (Nat.le_of_ble_eq_true rfl)
    have V3 : Arv Z h3 o2 ko .boolean (4 : Int32) [(.int (own_b a0_)), (.int (own_b true)), (.int (own_b a2_)), (.int (own_b a3_))] (.int (0 : Int32)) := by rw [own_b_nar] at Vn3; exact Vn3
    have N3 := Fr.snoc X3 N0 g_o2
    have Z3 : n0 ≤ h3.size := by rw [W3.size]; exact Z0
    have K3 : Keep h0 h3 [o2, o3] := K0.wr W3 (Or.inl (List.mem_of_getElem? (i := 0) rfl))
    refine own_go (g' := (mkF m 209 #[.val (.ref o0), .val (.int (1 : Int32)), .val (.ref o2), .val (.ref o3), .val (.int v1), .val (.int len), .val (.int lo), .val (.int hi), .unset, .unset] [])) (st3) ?_
    refine own_go (g' := (mkF m 210 #[.val (.ref o0), .val (.int (1 : Int32)), .val (.ref o2), .val (.ref o3), .val (.int v1), .val (.int len), .val (.int lo), .val (.int hi), .unset, .unset] [(.ref o3)])) (fun _ kgo => XS.aloadN X3.here hx rfl (hb hby d1_209) rfl rfl kgo) ?_
    refine own_go (g' := (mkF m 211 #[.val (.ref o0), .val (.int (1 : Int32)), .val (.ref o2), .val (.ref o3), .val (.int v1), .val (.int len), .val (.int lo), .val (.int hi), .unset, .unset] [(.int (1 : Int32)), (.ref o3)])) (fun _ kgo => XS.iloadN X3.here hx rfl (hb hby d1_210) rfl kgo) ?_
    refine own_go (g' := (mkF m 213 #[.val (.ref o0), .val (.int (1 : Int32)), .val (.ref o2), .val (.ref o3), .val (.int v1), .val (.int len), .val (.int lo), .val (.int hi), .unset, .unset] [(.int len), (.int (1 : Int32)), (.ref o3)])) (fun _ kgo => XS.iload X3.here hx rfl (hb hby d1_211) rfl kgo) ?_
    refine own_go (g' := (mkF m 214 #[.val (.ref o0), .val (.int (1 : Int32)), .val (.ref o2), .val (.ref o3), .val (.int v1), .val (.int len), .val (.int lo), .val (.int hi), .unset, .unset] [(.int (1 : Int32)), (.int len), (.int (1 : Int32)), (.ref o3)])) (fun _ kgo => XS.iconst X3.here hx rfl (hb hby d1_213) kgo) ?_
    have J4 : own_Go p e below (own_Post s QQ 0 0) T3 (mkF m 222 #[.val (.ref o0), .val (.int (1 : Int32)), .val (.ref o2), .val (.ref o3), .val (.int v1), .val (.int len), .val (.int lo), .val (.int hi), .unset, .unset] [(.int (own_b (decide (len = (1 : Int32))))), (.int (1 : Int32)), (.ref o3)]) := by
      have fx5 : Arv Z h3 o3 kc .boolean (4 : Int32) [(.int (own_b c0_)), (.int (own_b c1_)), (.int (own_b c2_)), (.int (own_b c3_))] (.int (0 : Int32)) := (Arv.other P2 W3 (Ne.symm hn23))
      obtain ⟨cl6, Ar6, qk6, sz6, nn6, Hs6, Gs6⟩ := id fx5
      have hin6 : ¬ ((1 : Int32) < 0 ∨ cl6.slots.size ≤ ((1 : Int32)).toNatClampNeg) := inb_of sz6 ⟨by decide, by decide⟩
      obtain ⟨T6, h6, X6, e6, W6, st6⟩ := stZ X3 hx hZ e3 Ar6 (j := (1 : Int32)) hin6 (g := (mkF m 222 #[.val (.ref o0), .val (.int (1 : Int32)), .val (.ref o2), .val (.ref o3), .val (.int v1), .val (.int len), .val (.int lo), .val (.int hi), .unset, .unset] [(.int (own_b (decide (len = (1 : Int32))))), (.int (1 : Int32)), (.ref o3)])) rfl rfl (hb hby d1_222)
      have Vn6 : Arv Z h6 o3 kc .boolean (4 : Int32) [(.int (own_b c0_)), (.int (nar .boolean (own_b (decide (len = (1 : Int32)))))), (.int (own_b c2_)), (.int (own_b c3_))] (.int (0 : Int32)) := Arv.set Ar6 qk6 sz6 nn6 Hs6 Gs6 (fits_nar_bool _) W6 1 rfl (Nat.le_of_ble_eq_true rfl)
      have V6 : Arv Z h6 o3 kc .boolean (4 : Int32) [(.int (own_b c0_)), (.int (own_b (decide (len = (1 : Int32))))), (.int (own_b c2_)), (.int (own_b c3_))] (.int (0 : Int32)) := by rw [own_b_nar] at Vn6; exact Vn6
      have N6 := Fr.snoc X6 N3 g_o3
      have Z6 : n0 ≤ h6.size := by rw [W6.size]; exact Z3
      have K6 : Keep h0 h6 [o2, o3] := K3.wr W6 (Or.inl (List.mem_of_getElem? (i := 1) rfl))
      refine own_go (g' := (mkF m 223 #[.val (.ref o0), .val (.int (1 : Int32)), .val (.ref o2), .val (.ref o3), .val (.int v1), .val (.int len), .val (.int lo), .val (.int hi), .unset, .unset] [])) (st6) ?_
      refine own_go (g' := (mkF m 225 #[.val (.ref o0), .val (.int (1 : Int32)), .val (.ref o2), .val (.ref o3), .val (.int v1), .val (.int len), .val (.int lo), .val (.int hi), .unset, .unset] [(.int len)])) (fun _ kgo => XS.iload X6.here hx rfl (hb hby d1_223) rfl kgo) ?_
      refine own_go (g' := (mkF m 226 #[.val (.ref o0), .val (.int (1 : Int32)), .val (.ref o2), .val (.ref o3), .val (.int v1), .val (.int len), .val (.int lo), .val (.int hi), .unset, .unset] [(.int (2 : Int32)), (.int len)])) (fun _ kgo => XS.iconst X6.here hx rfl (hb hby d1_225) kgo) ?_
      by_cases hc7 : len < (2 : Int32)
      ·
        refine own_go (g' := (mkF m 294 #[.val (.ref o0), .val (.int (1 : Int32)), .val (.ref o2), .val (.ref o3), .val (.int v1), .val (.int len), .val (.int lo), .val (.int hi), .unset, .unset] [])) (fun _ kgo => XS.icmpYes X6.here hx rfl (pc0 := 226) (pc' := 294) rfl (hb hby d1_226) rfl (tlt hc7).1 (by decide) (by decide) kgo) ?_
        refine own_go (g' := (mkF m 296 #[.val (.ref o0), .val (.int (1 : Int32)), .val (.ref o2), .val (.ref o3), .val (.int v1), .val (.int len), .val (.int lo), .val (.int hi), .unset, .unset] [(.int len)])) (fun _ kgo => XS.iload X6.here hx rfl (hb hby d1_294) rfl kgo) ?_
        refine own_go (g' := (mkF m 297 #[.val (.ref o0), .val (.int (1 : Int32)), .val (.ref o2), .val (.ref o3), .val (.int v1), .val (.int len), .val (.int lo), .val (.int hi), .unset, .unset] [(.int (3 : Int32)), (.int len)])) (fun _ kgo => XS.iconst X6.here hx rfl (hb hby d1_296) kgo) ?_
        by_cases hc8 : len < (3 : Int32)
        ·
          refine own_go (g' := (mkF m 367 #[.val (.ref o0), .val (.int (1 : Int32)), .val (.ref o2), .val (.ref o3), .val (.int v1), .val (.int len), .val (.int lo), .val (.int hi), .unset, .unset] [])) (fun _ kgo => XS.icmpYes X6.here hx rfl (pc0 := 297) (pc' := 367) rfl (hb hby d1_297) rfl (tlt hc8).1 (by decide) (by decide) kgo) ?_
          refine own_go (g' := (mkF m 369 #[.val (.ref o0), .val (.int (1 : Int32)), .val (.ref o2), .val (.ref o3), .val (.int v1), .val (.int len), .val (.int lo), .val (.int hi), .unset, .unset] [(.int len)])) (fun _ kgo => XS.iload X6.here hx rfl (hb hby d1_367) rfl kgo) ?_
          refine own_go (g' := (mkF m 370 #[.val (.ref o0), .val (.int (1 : Int32)), .val (.ref o2), .val (.ref o3), .val (.int v1), .val (.int len), .val (.int lo), .val (.int hi), .unset, .unset] [(.int (4 : Int32)), (.int len)])) (fun _ kgo => XS.iconst X6.here hx rfl (hb hby d1_369) kgo) ?_
          by_cases hc9 : len < (4 : Int32)
          ·
            refine own_go (g' := (mkF m 430 #[.val (.ref o0), .val (.int (1 : Int32)), .val (.ref o2), .val (.ref o3), .val (.int v1), .val (.int len), .val (.int lo), .val (.int hi), .unset, .unset] [])) (fun _ kgo => XS.icmpYes X6.here hx rfl (pc0 := 370) (pc' := 430) rfl (hb hby d1_370) rfl (tlt hc9).1 (by decide) (by decide) kgo) ?_
            refine own_go (g' := (mkF m 431 #[.val (.ref o0), .val (.int (1 : Int32)), .val (.ref o2), .val (.ref o3), .val (.int v1), .val (.int len), .val (.int lo), .val (.int hi), .unset, .unset] [(.int (1 : Int32))])) (fun _ kgo => XS.iloadN X6.here hx rfl (hb hby d1_430) rfl kgo) ?_
            refine own_go (g' := (mkF m 433 #[.val (.ref o0), .val (.int (1 : Int32)), .val (.ref o2), .val (.ref o3), .val (.int v1), .val (.int len), .val (.int lo), .val (.int hi), .unset, .unset] [(.int len), (.int (1 : Int32))])) (fun _ kgo => XS.iload X6.here hx rfl (hb hby d1_431) rfl kgo) ?_
            refine own_go (g' := (mkF m 434 #[.val (.ref o0), .val (.int (1 : Int32)), .val (.ref o2), .val (.ref o3), .val (.int v1), .val (.int len), .val (.int lo), .val (.int hi), .unset, .unset] [(.int ((1 : Int32) + len))])) (fun _ kgo => XS.iadd X6.here hx rfl (hb hby d1_433) rfl kgo) ?_
            refine own_retI X6 hx Bd.returns Bd.notSynchronized (hb hby d1_434) (by decide) (by decide) ?_
            show QQ _ T6.heap _
            rw [e6]
            have hrel : ((((1 : Int32) + len) = 2 ∧ ∀ t, own_chk ((v1, true, (decide (len = (1 : Int32)))) :: t) 0 128 191 = own_chk t 0 128 191) ∨ (((1 : Int32) + len) = 3 ∧ ∀ t, own_chk ((v1, true, (decide (len = (1 : Int32)))) :: (v2, a2_, c2_) :: t) 0 128 191 = own_chk t 0 128 191) ∨ (¬ ((1 : Int32) + len) < 4 ∧ own_chk [(v1, true, (decide (len = (1 : Int32)))), (v2, a2_, c2_), (v3, a3_, c3_)] 0 128 191 = true)) := by
              rcases hlen with rfl | rfl | rfl | rfl
              · first | exact absurd hc7 (by decide) | exact absurd hc8 (by decide) | exact absurd hc9 (by decide) | (exact Or.inl (⟨by decide, fun t => by rw [own_f1 hcl (hl1 rfl).1 (hl1 rfl).2 (by decide)]⟩))
              · first | exact absurd hc7 (by decide) | exact absurd hc8 (by decide) | exact absurd hc9 (by decide) | (exact Or.inr (Or.inl (⟨by decide, fun t => by rw [own_fn hcl (nd := 1) (by decide) (by decide) (by decide)]⟩)))
              · first | exact absurd hc7 (by decide) | exact absurd hc8 (by decide) | exact absurd hc9 (by decide) | (exact Or.inr (Or.inr ((⟨by decide, by rw [own_fn hcl (nd := 2) (by decide) (by decide) (by decide)]; rfl⟩))))
              · first | exact absurd hc7 (by decide) | exact absurd hc8 (by decide) | exact absurd hc9 (by decide) | (exact Or.inr (Or.inr ((⟨by decide, by rw [own_fn hcl (nd := 3) (by decide) (by decide) (by decide)]; rfl⟩))))
            have fx10 : Arv Z h6 o0 kv .int (4 : Int32) [(.int v0), (.int v1), (.int v2), (.int v3)] (.int (0 : Int32)) := (Arv.other (Arv.other P0 W3 hn02) W6 hn03)
            have fx11 : Arv Z h6 o2 ko .boolean (4 : Int32) [(.int (own_b a0_)), (.int (own_b true)), (.int (own_b a2_)), (.int (own_b a3_))] (.int (0 : Int32)) := (Arv.other V3 W6 hn23)
            rw [← hQQ]
            exact ⟨((1 : Int32) + len), true, a2_, a3_, (decide (len = (1 : Int32))), c2_, c3_, rfl, N6, K6, hrel, fx10, fx11, V6⟩
          ·
            refine own_go (g' := (mkF m 373 #[.val (.ref o0), .val (.int (1 : Int32)), .val (.ref o2), .val (.ref o3), .val (.int v1), .val (.int len), .val (.int lo), .val (.int hi), .unset, .unset] [])) (fun _ kgo => XS.icmpNo X6.here hx rfl (hb hby d1_370) rfl (flt hc9).1 kgo) ?_
            refine own_go (g' := (mkF m 374 #[.val (.ref o0), .val (.int (1 : Int32)), .val (.ref o2), .val (.ref o3), .val (.int v1), .val (.int len), .val (.int lo), .val (.int hi), .unset, .unset] [(.int (1 : Int32))])) (fun _ kgo => XS.iloadN X6.here hx rfl (hb hby d1_373) rfl kgo) ?_
            refine own_go (g' := (mkF m 375 #[.val (.ref o0), .val (.int (1 : Int32)), .val (.ref o2), .val (.ref o3), .val (.int v1), .val (.int len), .val (.int lo), .val (.int hi), .unset, .unset] [(.int (3 : Int32)), (.int (1 : Int32))])) (fun _ kgo => XS.iconst X6.here hx rfl (hb hby d1_374) kgo) ?_
            refine own_go (g' := (mkF m 376 #[.val (.ref o0), .val (.int (1 : Int32)), .val (.ref o2), .val (.ref o3), .val (.int v1), .val (.int len), .val (.int lo), .val (.int hi), .unset, .unset] [(.int (4 : Int32))])) (fun _ kgo => XS.iadd X6.here hx rfl (hb hby d1_375) rfl kgo) ?_
            refine own_go (g' := (mkF m 377 #[.val (.ref o0), .val (.int (1 : Int32)), .val (.ref o2), .val (.ref o3), .val (.int v1), .val (.int len), .val (.int lo), .val (.int hi), .unset, .unset] [(.int (4 : Int32)), (.int (4 : Int32))])) (fun _ kgo => XS.iconst X6.here hx rfl (hb hby d1_376) kgo) ?_
            refine own_go (g' := (mkF m 430 #[.val (.ref o0), .val (.int (1 : Int32)), .val (.ref o2), .val (.ref o3), .val (.int v1), .val (.int len), .val (.int lo), .val (.int hi), .unset, .unset] [])) (fun _ kgo => XS.icmpYes X6.here hx rfl (pc0 := 377) (pc' := 430) rfl (hb hby d1_377) rfl (flt (by decide)).2.1 (by decide) (by decide) kgo) ?_
            refine own_go (g' := (mkF m 431 #[.val (.ref o0), .val (.int (1 : Int32)), .val (.ref o2), .val (.ref o3), .val (.int v1), .val (.int len), .val (.int lo), .val (.int hi), .unset, .unset] [(.int (1 : Int32))])) (fun _ kgo => XS.iloadN X6.here hx rfl (hb hby d1_430) rfl kgo) ?_
            refine own_go (g' := (mkF m 433 #[.val (.ref o0), .val (.int (1 : Int32)), .val (.ref o2), .val (.ref o3), .val (.int v1), .val (.int len), .val (.int lo), .val (.int hi), .unset, .unset] [(.int len), (.int (1 : Int32))])) (fun _ kgo => XS.iload X6.here hx rfl (hb hby d1_431) rfl kgo) ?_
            refine own_go (g' := (mkF m 434 #[.val (.ref o0), .val (.int (1 : Int32)), .val (.ref o2), .val (.ref o3), .val (.int v1), .val (.int len), .val (.int lo), .val (.int hi), .unset, .unset] [(.int ((1 : Int32) + len))])) (fun _ kgo => XS.iadd X6.here hx rfl (hb hby d1_433) rfl kgo) ?_
            refine own_retI X6 hx Bd.returns Bd.notSynchronized (hb hby d1_434) (by decide) (by decide) ?_
            show QQ _ T6.heap _
            rw [e6]
            have hrel : ((((1 : Int32) + len) = 2 ∧ ∀ t, own_chk ((v1, true, (decide (len = (1 : Int32)))) :: t) 0 128 191 = own_chk t 0 128 191) ∨ (((1 : Int32) + len) = 3 ∧ ∀ t, own_chk ((v1, true, (decide (len = (1 : Int32)))) :: (v2, a2_, c2_) :: t) 0 128 191 = own_chk t 0 128 191) ∨ (¬ ((1 : Int32) + len) < 4 ∧ own_chk [(v1, true, (decide (len = (1 : Int32)))), (v2, a2_, c2_), (v3, a3_, c3_)] 0 128 191 = true)) := by
              rcases hlen with rfl | rfl | rfl | rfl
              · first | exact absurd hc7 (by decide) | exact absurd hc8 (by decide) | exact absurd hc9 (by decide) | (exact Or.inl (⟨by decide, fun t => by rw [own_f1 hcl (hl1 rfl).1 (hl1 rfl).2 (by decide)]⟩))
              · first | exact absurd hc7 (by decide) | exact absurd hc8 (by decide) | exact absurd hc9 (by decide) | (exact Or.inr (Or.inl (⟨by decide, fun t => by rw [own_fn hcl (nd := 1) (by decide) (by decide) (by decide)]⟩)))
              · first | exact absurd hc7 (by decide) | exact absurd hc8 (by decide) | exact absurd hc9 (by decide) | (exact Or.inr (Or.inr ((⟨by decide, by rw [own_fn hcl (nd := 2) (by decide) (by decide) (by decide)]; rfl⟩))))
              · first | exact absurd hc7 (by decide) | exact absurd hc8 (by decide) | exact absurd hc9 (by decide) | (exact Or.inr (Or.inr ((⟨by decide, by rw [own_fn hcl (nd := 3) (by decide) (by decide) (by decide)]; rfl⟩))))
            have fx12 : Arv Z h6 o0 kv .int (4 : Int32) [(.int v0), (.int v1), (.int v2), (.int v3)] (.int (0 : Int32)) := (Arv.other (Arv.other P0 W3 hn02) W6 hn03)
            have fx13 : Arv Z h6 o2 ko .boolean (4 : Int32) [(.int (own_b a0_)), (.int (own_b true)), (.int (own_b a2_)), (.int (own_b a3_))] (.int (0 : Int32)) := (Arv.other V3 W6 hn23)
            rw [← hQQ]
            exact ⟨((1 : Int32) + len), true, a2_, a3_, (decide (len = (1 : Int32))), c2_, c3_, rfl, N6, K6, hrel, fx12, fx13, V6⟩
        ·
          refine own_go (g' := (mkF m 300 #[.val (.ref o0), .val (.int (1 : Int32)), .val (.ref o2), .val (.ref o3), .val (.int v1), .val (.int len), .val (.int lo), .val (.int hi), .unset, .unset] [])) (fun _ kgo => XS.icmpNo X6.here hx rfl (hb hby d1_297) rfl (flt hc8).1 kgo) ?_
          refine own_go (g' := (mkF m 301 #[.val (.ref o0), .val (.int (1 : Int32)), .val (.ref o2), .val (.ref o3), .val (.int v1), .val (.int len), .val (.int lo), .val (.int hi), .unset, .unset] [(.int (1 : Int32))])) (fun _ kgo => XS.iloadN X6.here hx rfl (hb hby d1_300) rfl kgo) ?_
          refine own_go (g' := (mkF m 302 #[.val (.ref o0), .val (.int (1 : Int32)), .val (.ref o2), .val (.ref o3), .val (.int v1), .val (.int len), .val (.int lo), .val (.int hi), .unset, .unset] [(.int (2 : Int32)), (.int (1 : Int32))])) (fun _ kgo => XS.iconst X6.here hx rfl (hb hby d1_301) kgo) ?_
          refine own_go (g' := (mkF m 303 #[.val (.ref o0), .val (.int (1 : Int32)), .val (.ref o2), .val (.ref o3), .val (.int v1), .val (.int len), .val (.int lo), .val (.int hi), .unset, .unset] [(.int (3 : Int32))])) (fun _ kgo => XS.iadd X6.here hx rfl (hb hby d1_302) rfl kgo) ?_
          refine own_go (g' := (mkF m 304 #[.val (.ref o0), .val (.int (1 : Int32)), .val (.ref o2), .val (.ref o3), .val (.int v1), .val (.int len), .val (.int lo), .val (.int hi), .unset, .unset] [(.int (4 : Int32)), (.int (3 : Int32))])) (fun _ kgo => XS.iconst X6.here hx rfl (hb hby d1_303) kgo) ?_
          refine own_go (g' := (mkF m 307 #[.val (.ref o0), .val (.int (1 : Int32)), .val (.ref o2), .val (.ref o3), .val (.int v1), .val (.int len), .val (.int lo), .val (.int hi), .unset, .unset] [])) (fun _ kgo => XS.icmpNo X6.here hx rfl (hb hby d1_304) rfl (tlt (by decide)).2.1 kgo) ?_
          refine own_go (g' := (mkF m 308 #[.val (.ref o0), .val (.int (1 : Int32)), .val (.ref o2), .val (.ref o3), .val (.int v1), .val (.int len), .val (.int lo), .val (.int hi), .unset, .unset] [(.ref o0)])) (fun _ kgo => XS.aloadN X6.here hx rfl (hb hby d1_307) rfl rfl kgo) ?_
          refine own_go (g' := (mkF m 309 #[.val (.ref o0), .val (.int (1 : Int32)), .val (.ref o2), .val (.ref o3), .val (.int v1), .val (.int len), .val (.int lo), .val (.int hi), .unset, .unset] [(.int (1 : Int32)), (.ref o0)])) (fun _ kgo => XS.iloadN X6.here hx rfl (hb hby d1_308) rfl kgo) ?_
          refine own_go (g' := (mkF m 310 #[.val (.ref o0), .val (.int (1 : Int32)), .val (.ref o2), .val (.ref o3), .val (.int v1), .val (.int len), .val (.int lo), .val (.int hi), .unset, .unset] [(.int (2 : Int32)), (.int (1 : Int32)), (.ref o0)])) (fun _ kgo => XS.iconst X6.here hx rfl (hb hby d1_309) kgo) ?_
          refine own_go (g' := (mkF m 311 #[.val (.ref o0), .val (.int (1 : Int32)), .val (.ref o2), .val (.ref o3), .val (.int v1), .val (.int len), .val (.int lo), .val (.int hi), .unset, .unset] [(.int (3 : Int32)), (.ref o0)])) (fun _ kgo => XS.iadd X6.here hx rfl (hb hby d1_310) rfl kgo) ?_
          have fx14 : Arv Z h6 o0 kv .int (4 : Int32) [(.int v0), (.int v1), (.int v2), (.int v3)] (.int (0 : Int32)) := (Arv.other (Arv.other P0 W3 hn02) W6 hn03)
          obtain ⟨cl15, Ar15, qk15, sz15, nn15, Hs15, Gs15⟩ := id fx14
          have hin15 : ¬ ((3 : Int32) < 0 ∨ cl15.slots.size ≤ ((3 : Int32)).toNatClampNeg) := inb_of sz15 ⟨by decide, by decide⟩
          have hat15 : cl15.slots[((3 : Int32)).toNatClampNeg]? = some (.int v3) := Has.at Hs15 hin15 rfl
          refine own_go (g' := (mkF m 312 #[.val (.ref o0), .val (.int (1 : Int32)), .val (.ref o2), .val (.ref o3), .val (.int v1), .val (.int len), .val (.int lo), .val (.int hi), .unset, .unset] [(.int v3)])) (X6.iaload hx (j := (3 : Int32)) (v := (.int v3)) (by rw [e6]; exact Ar15.1) (State.isArrayOf_alike hZ.alike Ar15.2.1) Ar15.2.2 hin15 hat15 (g := (mkF m 311 #[.val (.ref o0), .val (.int (1 : Int32)), .val (.ref o2), .val (.ref o3), .val (.int v1), .val (.int len), .val (.int lo), .val (.int hi), .unset, .unset] [(.int (3 : Int32)), (.ref o0)])) rfl rfl (hb hby d1_311)) ?_
          refine own_go (g' := (mkF m 314 #[.val (.ref o0), .val (.int (1 : Int32)), .val (.ref o2), .val (.ref o3), .val (.int v1), .val (.int len), .val (.int lo), .val (.int hi), .val (.int v3), .unset] [])) (fun _ kgo => XS.istore X6.here hx rfl (hb hby d1_312) rfl (l' := #[.val (.ref o0), .val (.int (1 : Int32)), .val (.ref o2), .val (.ref o3), .val (.int v1), .val (.int len), .val (.int lo), .val (.int hi), .val (.int v3), .unset]) rfl kgo) ?_
          refine own_go (g' := (mkF m 316 #[.val (.ref o0), .val (.int (1 : Int32)), .val (.ref o2), .val (.ref o3), .val (.int v1), .val (.int len), .val (.int lo), .val (.int hi), .val (.int v3), .unset] [(.int v3)])) (fun _ kgo => XS.iload X6.here hx rfl (hb hby d1_314) rfl kgo) ?_
          refine own_go (g' := (mkF m 319 #[.val (.ref o0), .val (.int (1 : Int32)), .val (.ref o2), .val (.ref o3), .val (.int v1), .val (.int len), .val (.int lo), .val (.int hi), .val (.int v3), .unset] [(.int (128 : Int32)), (.int v3)])) (fun _ kgo => XS.sipush X6.here hx rfl (hb hby d1_316) kgo) ?_
          have J16 : own_Go p e below (own_Post s QQ 0 0) T6 (mkF m 335 #[.val (.ref o0), .val (.int (1 : Int32)), .val (.ref o2), .val (.ref o3), .val (.int v1), .val (.int len), .val (.int lo), .val (.int hi), .val (.int v3), .unset] [(.int (own_b ((!decide (v3 < (128 : Int32)) && !decide ((191 : Int32) < v3)))))]) := by
            suffices JNhg2 : ∀ g2 : Bool, g2 = ((!decide (v3 < (128 : Int32)) && !decide ((191 : Int32) < v3))) → own_Go p e below (own_Post s QQ 0 0) T6 (mkF m 335 #[.val (.ref o0), .val (.int (1 : Int32)), .val (.ref o2), .val (.ref o3), .val (.int v1), .val (.int len), .val (.int lo), .val (.int hi), .val (.int v3), .unset] [(.int (own_b g2))]) from JNhg2 _ (rfl)
            intro g2 hg2
            refine own_go (g' := (mkF m 337 #[.val (.ref o0), .val (.int (1 : Int32)), .val (.ref o2), .val (.ref o3), .val (.int v1), .val (.int len), .val (.int lo), .val (.int hi), .val (.int v3), .val (.int (own_b g2))] [])) (fun _ kgo => XS.istore X6.here hx rfl (hb hby d1_335) rfl (l' := #[.val (.ref o0), .val (.int (1 : Int32)), .val (.ref o2), .val (.ref o3), .val (.int v1), .val (.int len), .val (.int lo), .val (.int hi), .val (.int v3), .val (.int (own_b g2))]) rfl kgo) ?_
            refine own_go (g' := (mkF m 338 #[.val (.ref o0), .val (.int (1 : Int32)), .val (.ref o2), .val (.ref o3), .val (.int v1), .val (.int len), .val (.int lo), .val (.int hi), .val (.int v3), .val (.int (own_b g2))] [(.ref o2)])) (fun _ kgo => XS.aloadN X6.here hx rfl (hb hby d1_337) rfl rfl kgo) ?_
            refine own_go (g' := (mkF m 339 #[.val (.ref o0), .val (.int (1 : Int32)), .val (.ref o2), .val (.ref o3), .val (.int v1), .val (.int len), .val (.int lo), .val (.int hi), .val (.int v3), .val (.int (own_b g2))] [(.int (1 : Int32)), (.ref o2)])) (fun _ kgo => XS.iloadN X6.here hx rfl (hb hby d1_338) rfl kgo) ?_
            refine own_go (g' := (mkF m 340 #[.val (.ref o0), .val (.int (1 : Int32)), .val (.ref o2), .val (.ref o3), .val (.int v1), .val (.int len), .val (.int lo), .val (.int hi), .val (.int v3), .val (.int (own_b g2))] [(.int (2 : Int32)), (.int (1 : Int32)), (.ref o2)])) (fun _ kgo => XS.iconst X6.here hx rfl (hb hby d1_339) kgo) ?_
            refine own_go (g' := (mkF m 341 #[.val (.ref o0), .val (.int (1 : Int32)), .val (.ref o2), .val (.ref o3), .val (.int v1), .val (.int len), .val (.int lo), .val (.int hi), .val (.int v3), .val (.int (own_b g2))] [(.int (3 : Int32)), (.ref o2)])) (fun _ kgo => XS.iadd X6.here hx rfl (hb hby d1_340) rfl kgo) ?_
            refine own_go (g' := (mkF m 343 #[.val (.ref o0), .val (.int (1 : Int32)), .val (.ref o2), .val (.ref o3), .val (.int v1), .val (.int len), .val (.int lo), .val (.int hi), .val (.int v3), .val (.int (own_b g2))] [(.int (own_b g2)), (.int (3 : Int32)), (.ref o2)])) (fun _ kgo => XS.iload X6.here hx rfl (hb hby d1_341) rfl kgo) ?_
            have fx17 : Arv Z h6 o2 ko .boolean (4 : Int32) [(.int (own_b a0_)), (.int (own_b true)), (.int (own_b a2_)), (.int (own_b a3_))] (.int (0 : Int32)) := (Arv.other V3 W6 hn23)
            obtain ⟨cl18, Ar18, qk18, sz18, nn18, Hs18, Gs18⟩ := id fx17
            have hin18 : ¬ ((3 : Int32) < 0 ∨ cl18.slots.size ≤ ((3 : Int32)).toNatClampNeg) := inb_of sz18 ⟨by decide, by decide⟩
            obtain ⟨T18, h18, X18, e18, W18, st18⟩ := stZ X6 hx hZ e6 Ar18 (j := (3 : Int32)) hin18 (g := (mkF m 343 #[.val (.ref o0), .val (.int (1 : Int32)), .val (.ref o2), .val (.ref o3), .val (.int v1), .val (.int len), .val (.int lo), .val (.int hi), .val (.int v3), .val (.int (own_b g2))] [(.int (own_b g2)), (.int (3 : Int32)), (.ref o2)])) rfl rfl (hb hby d1_343)
            have Vn18 : Arv Z h18 o2 ko .boolean (4 : Int32) [(.int (own_b a0_)), (.int (own_b true)), (.int (own_b a2_)), (.int (nar .boolean (own_b g2)))] (.int (0 : Int32)) := Arv.set Ar18 qk18 sz18 nn18 Hs18 Gs18 (fits_nar_bool _) W18 3 rfl (Nat.le_of_ble_eq_true rfl)
            have V18 : Arv Z h18 o2 ko .boolean (4 : Int32) [(.int (own_b a0_)), (.int (own_b true)), (.int (own_b a2_)), (.int (own_b g2))] (.int (0 : Int32)) := by rw [own_b_nar] at Vn18; exact Vn18
            have N18 := Fr.snoc X18 N6 g_o2
            have Z18 : n0 ≤ h18.size := by rw [W18.size]; exact Z6
            have K18 : Keep h0 h18 [o2, o3] := K6.wr W18 (Or.inl (List.mem_of_getElem? (i := 0) rfl))
            refine own_go (g' := (mkF m 344 #[.val (.ref o0), .val (.int (1 : Int32)), .val (.ref o2), .val (.ref o3), .val (.int v1), .val (.int len), .val (.int lo), .val (.int hi), .val (.int v3), .val (.int (own_b g2))] [])) (st18) ?_
            refine own_go (g' := (mkF m 345 #[.val (.ref o0), .val (.int (1 : Int32)), .val (.ref o2), .val (.ref o3), .val (.int v1), .val (.int len), .val (.int lo), .val (.int hi), .val (.int v3), .val (.int (own_b g2))] [(.ref o3)])) (fun _ kgo => XS.aloadN X18.here hx rfl (hb hby d1_344) rfl rfl kgo) ?_
            refine own_go (g' := (mkF m 346 #[.val (.ref o0), .val (.int (1 : Int32)), .val (.ref o2), .val (.ref o3), .val (.int v1), .val (.int len), .val (.int lo), .val (.int hi), .val (.int v3), .val (.int (own_b g2))] [(.int (1 : Int32)), (.ref o3)])) (fun _ kgo => XS.iloadN X18.here hx rfl (hb hby d1_345) rfl kgo) ?_
            refine own_go (g' := (mkF m 347 #[.val (.ref o0), .val (.int (1 : Int32)), .val (.ref o2), .val (.ref o3), .val (.int v1), .val (.int len), .val (.int lo), .val (.int hi), .val (.int v3), .val (.int (own_b g2))] [(.int (2 : Int32)), (.int (1 : Int32)), (.ref o3)])) (fun _ kgo => XS.iconst X18.here hx rfl (hb hby d1_346) kgo) ?_
            refine own_go (g' := (mkF m 348 #[.val (.ref o0), .val (.int (1 : Int32)), .val (.ref o2), .val (.ref o3), .val (.int v1), .val (.int len), .val (.int lo), .val (.int hi), .val (.int v3), .val (.int (own_b g2))] [(.int (3 : Int32)), (.ref o3)])) (fun _ kgo => XS.iadd X18.here hx rfl (hb hby d1_347) rfl kgo) ?_
            refine own_go (g' := (mkF m 350 #[.val (.ref o0), .val (.int (1 : Int32)), .val (.ref o2), .val (.ref o3), .val (.int v1), .val (.int len), .val (.int lo), .val (.int hi), .val (.int v3), .val (.int (own_b g2))] [(.int len), (.int (3 : Int32)), (.ref o3)])) (fun _ kgo => XS.iload X18.here hx rfl (hb hby d1_348) rfl kgo) ?_
            refine own_go (g' := (mkF m 351 #[.val (.ref o0), .val (.int (1 : Int32)), .val (.ref o2), .val (.ref o3), .val (.int v1), .val (.int len), .val (.int lo), .val (.int hi), .val (.int v3), .val (.int (own_b g2))] [(.int (3 : Int32)), (.int len), (.int (3 : Int32)), (.ref o3)])) (fun _ kgo => XS.iconst X18.here hx rfl (hb hby d1_350) kgo) ?_
            have J19 : own_Go p e below (own_Post s QQ 0 0) T18 (mkF m 359 #[.val (.ref o0), .val (.int (1 : Int32)), .val (.ref o2), .val (.ref o3), .val (.int v1), .val (.int len), .val (.int lo), .val (.int hi), .val (.int v3), .val (.int (own_b g2))] [(.int (own_b (decide (len = (3 : Int32))))), (.int (3 : Int32)), (.ref o3)]) := by
              have fx20 : Arv Z h18 o3 kc .boolean (4 : Int32) [(.int (own_b c0_)), (.int (own_b (decide (len = (1 : Int32))))), (.int (own_b c2_)), (.int (own_b c3_))] (.int (0 : Int32)) := (Arv.other V6 W18 (Ne.symm hn23))
              obtain ⟨cl21, Ar21, qk21, sz21, nn21, Hs21, Gs21⟩ := id fx20
              have hin21 : ¬ ((3 : Int32) < 0 ∨ cl21.slots.size ≤ ((3 : Int32)).toNatClampNeg) := inb_of sz21 ⟨by decide, by decide⟩
              obtain ⟨T21, h21, X21, e21, W21, st21⟩ := stZ X18 hx hZ e18 Ar21 (j := (3 : Int32)) hin21 (g := (mkF m 359 #[.val (.ref o0), .val (.int (1 : Int32)), .val (.ref o2), .val (.ref o3), .val (.int v1), .val (.int len), .val (.int lo), .val (.int hi), .val (.int v3), .val (.int (own_b g2))] [(.int (own_b (decide (len = (3 : Int32))))), (.int (3 : Int32)), (.ref o3)])) rfl rfl (hb hby d1_359)
              have Vn21 : Arv Z h21 o3 kc .boolean (4 : Int32) [(.int (own_b c0_)), (.int (own_b (decide (len = (1 : Int32))))), (.int (own_b c2_)), (.int (nar .boolean (own_b (decide (len = (3 : Int32))))))] (.int (0 : Int32)) := Arv.set Ar21 qk21 sz21 nn21 Hs21 Gs21 (fits_nar_bool _) W21 3 rfl (Nat.le_of_ble_eq_true rfl)
              have V21 : Arv Z h21 o3 kc .boolean (4 : Int32) [(.int (own_b c0_)), (.int (own_b (decide (len = (1 : Int32))))), (.int (own_b c2_)), (.int (own_b (decide (len = (3 : Int32)))))] (.int (0 : Int32)) := by rw [own_b_nar] at Vn21; exact Vn21
              have N21 := Fr.snoc X21 N18 g_o3
              have Z21 : n0 ≤ h21.size := by rw [W21.size]; exact Z18
              have K21 : Keep h0 h21 [o2, o3] := K18.wr W21 (Or.inl (List.mem_of_getElem? (i := 1) rfl))
              refine own_go (g' := (mkF m 360 #[.val (.ref o0), .val (.int (1 : Int32)), .val (.ref o2), .val (.ref o3), .val (.int v1), .val (.int len), .val (.int lo), .val (.int hi), .val (.int v3), .val (.int (own_b g2))] [])) (st21) ?_
              refine own_go (g' := (mkF m 362 #[.val (.ref o0), .val (.int (1 : Int32)), .val (.ref o2), .val (.ref o3), .val (.int v1), .val (.int len), .val (.int lo), .val (.int hi), .val (.int v3), .val (.int (own_b g2))] [(.int (own_b g2))])) (fun _ kgo => XS.iload X21.here hx rfl (hb hby d1_360) rfl kgo) ?_
              by_cases hc22 : g2 = true
              ·
                refine own_go (g' := (mkF m 367 #[.val (.ref o0), .val (.int (1 : Int32)), .val (.ref o2), .val (.ref o3), .val (.int v1), .val (.int len), .val (.int lo), .val (.int hi), .val (.int v3), .val (.int (own_b g2))] [])) (fun _ kgo => XS.ifYes X21.here hx rfl (pc0 := 362) (pc' := 367) rfl (hb hby d1_362) rfl ((if0 _ _).trans (feq (own_b_n hc22)).2) (by decide) (by decide) kgo) ?_
                refine own_go (g' := (mkF m 369 #[.val (.ref o0), .val (.int (1 : Int32)), .val (.ref o2), .val (.ref o3), .val (.int v1), .val (.int len), .val (.int lo), .val (.int hi), .val (.int v3), .val (.int (own_b g2))] [(.int len)])) (fun _ kgo => XS.iload X21.here hx rfl (hb hby d1_367) rfl kgo) ?_
                refine own_go (g' := (mkF m 370 #[.val (.ref o0), .val (.int (1 : Int32)), .val (.ref o2), .val (.ref o3), .val (.int v1), .val (.int len), .val (.int lo), .val (.int hi), .val (.int v3), .val (.int (own_b g2))] [(.int (4 : Int32)), (.int len)])) (fun _ kgo => XS.iconst X21.here hx rfl (hb hby d1_369) kgo) ?_
                by_cases hc23 : len < (4 : Int32)
                ·
                  refine own_go (g' := (mkF m 430 #[.val (.ref o0), .val (.int (1 : Int32)), .val (.ref o2), .val (.ref o3), .val (.int v1), .val (.int len), .val (.int lo), .val (.int hi), .val (.int v3), .val (.int (own_b g2))] [])) (fun _ kgo => XS.icmpYes X21.here hx rfl (pc0 := 370) (pc' := 430) rfl (hb hby d1_370) rfl (tlt hc23).1 (by decide) (by decide) kgo) ?_
                  refine own_go (g' := (mkF m 431 #[.val (.ref o0), .val (.int (1 : Int32)), .val (.ref o2), .val (.ref o3), .val (.int v1), .val (.int len), .val (.int lo), .val (.int hi), .val (.int v3), .val (.int (own_b g2))] [(.int (1 : Int32))])) (fun _ kgo => XS.iloadN X21.here hx rfl (hb hby d1_430) rfl kgo) ?_
                  refine own_go (g' := (mkF m 433 #[.val (.ref o0), .val (.int (1 : Int32)), .val (.ref o2), .val (.ref o3), .val (.int v1), .val (.int len), .val (.int lo), .val (.int hi), .val (.int v3), .val (.int (own_b g2))] [(.int len), (.int (1 : Int32))])) (fun _ kgo => XS.iload X21.here hx rfl (hb hby d1_431) rfl kgo) ?_
                  refine own_go (g' := (mkF m 434 #[.val (.ref o0), .val (.int (1 : Int32)), .val (.ref o2), .val (.ref o3), .val (.int v1), .val (.int len), .val (.int lo), .val (.int hi), .val (.int v3), .val (.int (own_b g2))] [(.int ((1 : Int32) + len))])) (fun _ kgo => XS.iadd X21.here hx rfl (hb hby d1_433) rfl kgo) ?_
                  refine own_retI X21 hx Bd.returns Bd.notSynchronized (hb hby d1_434) (by decide) (by decide) ?_
                  show QQ _ T21.heap _
                  rw [e21]
                  have hrel : ((((1 : Int32) + len) = 2 ∧ ∀ t, own_chk ((v1, true, (decide (len = (1 : Int32)))) :: t) 0 128 191 = own_chk t 0 128 191) ∨ (((1 : Int32) + len) = 3 ∧ ∀ t, own_chk ((v1, true, (decide (len = (1 : Int32)))) :: (v2, a2_, c2_) :: t) 0 128 191 = own_chk t 0 128 191) ∨ (¬ ((1 : Int32) + len) < 4 ∧ own_chk [(v1, true, (decide (len = (1 : Int32)))), (v2, a2_, c2_), (v3, g2, (decide (len = (3 : Int32))))] 0 128 191 = true)) := by
                    rcases hlen with rfl | rfl | rfl | rfl
                    · first | exact absurd hc7 (by decide) | exact absurd hc8 (by decide) | exact absurd hc23 (by decide) | (exact Or.inl (⟨by decide, fun t => by rw [own_f1 hcl (hl1 rfl).1 (hl1 rfl).2 (by decide)]⟩))
                    · first | exact absurd hc7 (by decide) | exact absurd hc8 (by decide) | exact absurd hc23 (by decide) | (exact Or.inr (Or.inl (⟨by decide, fun t => by rw [own_fn hcl (nd := 1) (by decide) (by decide) (by decide)]⟩)))
                    · first | exact absurd hc7 (by decide) | exact absurd hc8 (by decide) | exact absurd hc23 (by decide) | (exact Or.inr (Or.inr ((⟨by decide, by rw [own_fn hcl (nd := 2) (by decide) (by decide) (by decide)]; rfl⟩))))
                    · first | exact absurd hc7 (by decide) | exact absurd hc8 (by decide) | exact absurd hc23 (by decide) | (exact Or.inr (Or.inr ((⟨by decide, by rw [own_fn hcl (nd := 3) (by decide) (by decide) (by decide)]; rfl⟩))))
                  have fx24 : Arv Z h21 o0 kv .int (4 : Int32) [(.int v0), (.int v1), (.int v2), (.int v3)] (.int (0 : Int32)) := (Arv.other (Arv.other fx14 W18 hn02) W21 hn03)
                  have fx25 : Arv Z h21 o2 ko .boolean (4 : Int32) [(.int (own_b a0_)), (.int (own_b true)), (.int (own_b a2_)), (.int (own_b g2))] (.int (0 : Int32)) := (Arv.other V18 W21 hn23)
                  rw [← hQQ]
                  exact ⟨((1 : Int32) + len), true, a2_, g2, (decide (len = (1 : Int32))), c2_, (decide (len = (3 : Int32))), rfl, N21, K21, hrel, fx24, fx25, V21⟩
                ·
                  refine own_go (g' := (mkF m 373 #[.val (.ref o0), .val (.int (1 : Int32)), .val (.ref o2), .val (.ref o3), .val (.int v1), .val (.int len), .val (.int lo), .val (.int hi), .val (.int v3), .val (.int (own_b g2))] [])) (fun _ kgo => XS.icmpNo X21.here hx rfl (hb hby d1_370) rfl (flt hc23).1 kgo) ?_
                  refine own_go (g' := (mkF m 374 #[.val (.ref o0), .val (.int (1 : Int32)), .val (.ref o2), .val (.ref o3), .val (.int v1), .val (.int len), .val (.int lo), .val (.int hi), .val (.int v3), .val (.int (own_b g2))] [(.int (1 : Int32))])) (fun _ kgo => XS.iloadN X21.here hx rfl (hb hby d1_373) rfl kgo) ?_
                  refine own_go (g' := (mkF m 375 #[.val (.ref o0), .val (.int (1 : Int32)), .val (.ref o2), .val (.ref o3), .val (.int v1), .val (.int len), .val (.int lo), .val (.int hi), .val (.int v3), .val (.int (own_b g2))] [(.int (3 : Int32)), (.int (1 : Int32))])) (fun _ kgo => XS.iconst X21.here hx rfl (hb hby d1_374) kgo) ?_
                  refine own_go (g' := (mkF m 376 #[.val (.ref o0), .val (.int (1 : Int32)), .val (.ref o2), .val (.ref o3), .val (.int v1), .val (.int len), .val (.int lo), .val (.int hi), .val (.int v3), .val (.int (own_b g2))] [(.int (4 : Int32))])) (fun _ kgo => XS.iadd X21.here hx rfl (hb hby d1_375) rfl kgo) ?_
                  refine own_go (g' := (mkF m 377 #[.val (.ref o0), .val (.int (1 : Int32)), .val (.ref o2), .val (.ref o3), .val (.int v1), .val (.int len), .val (.int lo), .val (.int hi), .val (.int v3), .val (.int (own_b g2))] [(.int (4 : Int32)), (.int (4 : Int32))])) (fun _ kgo => XS.iconst X21.here hx rfl (hb hby d1_376) kgo) ?_
                  refine own_go (g' := (mkF m 430 #[.val (.ref o0), .val (.int (1 : Int32)), .val (.ref o2), .val (.ref o3), .val (.int v1), .val (.int len), .val (.int lo), .val (.int hi), .val (.int v3), .val (.int (own_b g2))] [])) (fun _ kgo => XS.icmpYes X21.here hx rfl (pc0 := 377) (pc' := 430) rfl (hb hby d1_377) rfl (flt (by decide)).2.1 (by decide) (by decide) kgo) ?_
                  refine own_go (g' := (mkF m 431 #[.val (.ref o0), .val (.int (1 : Int32)), .val (.ref o2), .val (.ref o3), .val (.int v1), .val (.int len), .val (.int lo), .val (.int hi), .val (.int v3), .val (.int (own_b g2))] [(.int (1 : Int32))])) (fun _ kgo => XS.iloadN X21.here hx rfl (hb hby d1_430) rfl kgo) ?_
                  refine own_go (g' := (mkF m 433 #[.val (.ref o0), .val (.int (1 : Int32)), .val (.ref o2), .val (.ref o3), .val (.int v1), .val (.int len), .val (.int lo), .val (.int hi), .val (.int v3), .val (.int (own_b g2))] [(.int len), (.int (1 : Int32))])) (fun _ kgo => XS.iload X21.here hx rfl (hb hby d1_431) rfl kgo) ?_
                  refine own_go (g' := (mkF m 434 #[.val (.ref o0), .val (.int (1 : Int32)), .val (.ref o2), .val (.ref o3), .val (.int v1), .val (.int len), .val (.int lo), .val (.int hi), .val (.int v3), .val (.int (own_b g2))] [(.int ((1 : Int32) + len))])) (fun _ kgo => XS.iadd X21.here hx rfl (hb hby d1_433) rfl kgo) ?_
                  refine own_retI X21 hx Bd.returns Bd.notSynchronized (hb hby d1_434) (by decide) (by decide) ?_
                  show QQ _ T21.heap _
                  rw [e21]
                  have hrel : ((((1 : Int32) + len) = 2 ∧ ∀ t, own_chk ((v1, true, (decide (len = (1 : Int32)))) :: t) 0 128 191 = own_chk t 0 128 191) ∨ (((1 : Int32) + len) = 3 ∧ ∀ t, own_chk ((v1, true, (decide (len = (1 : Int32)))) :: (v2, a2_, c2_) :: t) 0 128 191 = own_chk t 0 128 191) ∨ (¬ ((1 : Int32) + len) < 4 ∧ own_chk [(v1, true, (decide (len = (1 : Int32)))), (v2, a2_, c2_), (v3, g2, (decide (len = (3 : Int32))))] 0 128 191 = true)) := by
                    rcases hlen with rfl | rfl | rfl | rfl
                    · first | exact absurd hc7 (by decide) | exact absurd hc8 (by decide) | exact absurd hc23 (by decide) | (exact Or.inl (⟨by decide, fun t => by rw [own_f1 hcl (hl1 rfl).1 (hl1 rfl).2 (by decide)]⟩))
                    · first | exact absurd hc7 (by decide) | exact absurd hc8 (by decide) | exact absurd hc23 (by decide) | (exact Or.inr (Or.inl (⟨by decide, fun t => by rw [own_fn hcl (nd := 1) (by decide) (by decide) (by decide)]⟩)))
                    · first | exact absurd hc7 (by decide) | exact absurd hc8 (by decide) | exact absurd hc23 (by decide) | (exact Or.inr (Or.inr ((⟨by decide, by rw [own_fn hcl (nd := 2) (by decide) (by decide) (by decide)]; rfl⟩))))
                    · first | exact absurd hc7 (by decide) | exact absurd hc8 (by decide) | exact absurd hc23 (by decide) | (exact Or.inr (Or.inr ((⟨by decide, by rw [own_fn hcl (nd := 3) (by decide) (by decide) (by decide)]; rfl⟩))))
                  have fx26 : Arv Z h21 o0 kv .int (4 : Int32) [(.int v0), (.int v1), (.int v2), (.int v3)] (.int (0 : Int32)) := (Arv.other (Arv.other fx14 W18 hn02) W21 hn03)
                  have fx27 : Arv Z h21 o2 ko .boolean (4 : Int32) [(.int (own_b a0_)), (.int (own_b true)), (.int (own_b a2_)), (.int (own_b g2))] (.int (0 : Int32)) := (Arv.other V18 W21 hn23)
                  rw [← hQQ]
                  exact ⟨((1 : Int32) + len), true, a2_, g2, (decide (len = (1 : Int32))), c2_, (decide (len = (3 : Int32))), rfl, N21, K21, hrel, fx26, fx27, V21⟩
              ·
                refine own_go (g' := (mkF m 365 #[.val (.ref o0), .val (.int (1 : Int32)), .val (.ref o2), .val (.ref o3), .val (.int v1), .val (.int len), .val (.int lo), .val (.int hi), .val (.int v3), .val (.int (own_b g2))] [])) (fun _ kgo => XS.ifNo X21.here hx rfl (hb hby d1_362) rfl ((if0 _ _).trans (teq (own_b_f hc22)).2) kgo) ?_
                refine own_go (g' := (mkF m 366 #[.val (.ref o0), .val (.int (1 : Int32)), .val (.ref o2), .val (.ref o3), .val (.int v1), .val (.int len), .val (.int lo), .val (.int hi), .val (.int v3), .val (.int (own_b g2))] [(.int (4 : Int32))])) (fun _ kgo => XS.iconst X21.here hx rfl (hb hby d1_365) kgo) ?_
                refine own_retI X21 hx Bd.returns Bd.notSynchronized (hb hby d1_366) (by decide) (by decide) ?_
                show QQ _ T21.heap _
                rw [e21]
                have hrel : (((4 : Int32) = 2 ∧ ∀ t, own_chk ((v1, true, (decide (len = (1 : Int32)))) :: t) 0 128 191 = own_chk t 0 128 191) ∨ ((4 : Int32) = 3 ∧ ∀ t, own_chk ((v1, true, (decide (len = (1 : Int32)))) :: (v2, a2_, c2_) :: t) 0 128 191 = own_chk t 0 128 191) ∨ (¬ (4 : Int32) < 4 ∧ own_chk [(v1, true, (decide (len = (1 : Int32)))), (v2, a2_, c2_), (v3, g2, (decide (len = (3 : Int32))))] 0 128 191 = true)) := by
                  rcases hlen with rfl | rfl | rfl | rfl
                  · first | exact absurd hc7 (by decide) | exact absurd hc8 (by decide) | (exact Or.inl (⟨by decide, fun t => by rw [own_f1 hcl (hl1 rfl).1 (hl1 rfl).2 (by decide)]⟩))
                  · first | exact absurd hc7 (by decide) | exact absurd hc8 (by decide) | (exact Or.inr (Or.inl (⟨by decide, fun t => by rw [own_fn hcl (nd := 1) (by decide) (by decide) (by decide)]⟩)))
                  · first | exact absurd hc7 (by decide) | exact absurd hc8 (by decide) | (exact Or.inr (Or.inr ((⟨by decide, by rw [own_fn hcl (nd := 2) (by decide) (by decide) (by decide)]; rfl⟩))))
                  · first | exact absurd hc7 (by decide) | exact absurd hc8 (by decide) | (exact Or.inr (Or.inr ((⟨by decide, by rw [own_fn hcl (nd := 3) (by decide) (by decide) (by decide)]; rfl⟩))))
                have fx28 : Arv Z h21 o0 kv .int (4 : Int32) [(.int v0), (.int v1), (.int v2), (.int v3)] (.int (0 : Int32)) := (Arv.other (Arv.other fx14 W18 hn02) W21 hn03)
                have fx29 : Arv Z h21 o2 ko .boolean (4 : Int32) [(.int (own_b a0_)), (.int (own_b true)), (.int (own_b a2_)), (.int (own_b g2))] (.int (0 : Int32)) := (Arv.other V18 W21 hn23)
                rw [← hQQ]
                exact ⟨(4 : Int32), true, a2_, g2, (decide (len = (1 : Int32))), c2_, (decide (len = (3 : Int32))), rfl, N21, K21, hrel, fx28, fx29, V21⟩
            by_cases hc30 : len = (3 : Int32)
            ·
              refine own_go (g' := (mkF m 354 #[.val (.ref o0), .val (.int (1 : Int32)), .val (.ref o2), .val (.ref o3), .val (.int v1), .val (.int len), .val (.int lo), .val (.int hi), .val (.int v3), .val (.int (own_b g2))] [(.int (3 : Int32)), (.ref o3)])) (fun _ kgo => XS.icmpNo X18.here hx rfl (hb hby d1_351) rfl (teq hc30).2 kgo) ?_
              refine own_go (g' := (mkF m 355 #[.val (.ref o0), .val (.int (1 : Int32)), .val (.ref o2), .val (.ref o3), .val (.int v1), .val (.int len), .val (.int lo), .val (.int hi), .val (.int v3), .val (.int (own_b g2))] [(.int (1 : Int32)), (.int (3 : Int32)), (.ref o3)])) (fun _ kgo => XS.iconst X18.here hx rfl (hb hby d1_354) kgo) ?_
              refine own_go (g' := (mkF m 359 #[.val (.ref o0), .val (.int (1 : Int32)), .val (.ref o2), .val (.ref o3), .val (.int v1), .val (.int len), .val (.int lo), .val (.int hi), .val (.int v3), .val (.int (own_b g2))] [(.int (1 : Int32)), (.int (3 : Int32)), (.ref o3)])) (fun _ kgo => XS.goto X18.here hx rfl (pc0 := 355) (pc' := 359) rfl (hb hby d1_355) (by decide) (by decide) kgo) ?_
              have hE19 : own_b (decide (len = (3 : Int32))) = (1 : Int32) := by simp only [decide_eq_true hc30]; first | done | rfl
              exact own_cast (by rw [hE19]) J19
            ·
              refine own_go (g' := (mkF m 358 #[.val (.ref o0), .val (.int (1 : Int32)), .val (.ref o2), .val (.ref o3), .val (.int v1), .val (.int len), .val (.int lo), .val (.int hi), .val (.int v3), .val (.int (own_b g2))] [(.int (3 : Int32)), (.ref o3)])) (fun _ kgo => XS.icmpYes X18.here hx rfl (pc0 := 351) (pc' := 358) rfl (hb hby d1_351) rfl (feq hc30).2 (by decide) (by decide) kgo) ?_
              refine own_go (g' := (mkF m 359 #[.val (.ref o0), .val (.int (1 : Int32)), .val (.ref o2), .val (.ref o3), .val (.int v1), .val (.int len), .val (.int lo), .val (.int hi), .val (.int v3), .val (.int (own_b g2))] [(.int (0 : Int32)), (.int (3 : Int32)), (.ref o3)])) (fun _ kgo => XS.iconst X18.here hx rfl (hb hby d1_358) kgo) ?_
              have hE19 : own_b (decide (len = (3 : Int32))) = (0 : Int32) := by simp only [decide_eq_false hc30]; first | done | rfl
              exact own_cast (by rw [hE19]) J19
          by_cases hc31 : v3 < (128 : Int32)
          ·
            refine own_go (g' := (mkF m 334 #[.val (.ref o0), .val (.int (1 : Int32)), .val (.ref o2), .val (.ref o3), .val (.int v1), .val (.int len), .val (.int lo), .val (.int hi), .val (.int v3), .unset] [])) (fun _ kgo => XS.icmpYes X6.here hx rfl (pc0 := 319) (pc' := 334) rfl (hb hby d1_319) rfl (tlt hc31).1 (by decide) (by decide) kgo) ?_
            refine own_go (g' := (mkF m 335 #[.val (.ref o0), .val (.int (1 : Int32)), .val (.ref o2), .val (.ref o3), .val (.int v1), .val (.int len), .val (.int lo), .val (.int hi), .val (.int v3), .unset] [(.int (0 : Int32))])) (fun _ kgo => XS.iconst X6.here hx rfl (hb hby d1_334) kgo) ?_
            have hE16 : own_b ((!decide (v3 < (128 : Int32)) && !decide ((191 : Int32) < v3))) = (0 : Int32) := by simp only [decide_eq_true hc31]; first | done | rfl
            exact own_cast (by rw [hE16]) J16
          ·
            refine own_go (g' := (mkF m 322 #[.val (.ref o0), .val (.int (1 : Int32)), .val (.ref o2), .val (.ref o3), .val (.int v1), .val (.int len), .val (.int lo), .val (.int hi), .val (.int v3), .unset] [])) (fun _ kgo => XS.icmpNo X6.here hx rfl (hb hby d1_319) rfl (flt hc31).1 kgo) ?_
            refine own_go (g' := (mkF m 324 #[.val (.ref o0), .val (.int (1 : Int32)), .val (.ref o2), .val (.ref o3), .val (.int v1), .val (.int len), .val (.int lo), .val (.int hi), .val (.int v3), .unset] [(.int v3)])) (fun _ kgo => XS.iload X6.here hx rfl (hb hby d1_322) rfl kgo) ?_
            refine own_go (g' := (mkF m 327 #[.val (.ref o0), .val (.int (1 : Int32)), .val (.ref o2), .val (.ref o3), .val (.int v1), .val (.int len), .val (.int lo), .val (.int hi), .val (.int v3), .unset] [(.int (191 : Int32)), (.int v3)])) (fun _ kgo => XS.sipush X6.here hx rfl (hb hby d1_324) kgo) ?_
            have J32 : own_Go p e below (own_Post s QQ 0 0) T6 (mkF m 335 #[.val (.ref o0), .val (.int (1 : Int32)), .val (.ref o2), .val (.ref o3), .val (.int v1), .val (.int len), .val (.int lo), .val (.int hi), .val (.int v3), .unset] [(.int (own_b (!decide ((191 : Int32) < v3))))]) := by
              have hE16 : own_b ((!decide (v3 < (128 : Int32)) && !decide ((191 : Int32) < v3))) = (own_b (!decide ((191 : Int32) < v3))) := by simp only [decide_eq_false hc31]; first | done | rfl
              exact own_cast (by rw [hE16]) J16
            by_cases hc33 : (191 : Int32) < v3
            ·
              refine own_go (g' := (mkF m 334 #[.val (.ref o0), .val (.int (1 : Int32)), .val (.ref o2), .val (.ref o3), .val (.int v1), .val (.int len), .val (.int lo), .val (.int hi), .val (.int v3), .unset] [])) (fun _ kgo => XS.icmpYes X6.here hx rfl (pc0 := 327) (pc' := 334) rfl (hb hby d1_327) rfl (tlt hc33).2.2.1 (by decide) (by decide) kgo) ?_
              refine own_go (g' := (mkF m 335 #[.val (.ref o0), .val (.int (1 : Int32)), .val (.ref o2), .val (.ref o3), .val (.int v1), .val (.int len), .val (.int lo), .val (.int hi), .val (.int v3), .unset] [(.int (0 : Int32))])) (fun _ kgo => XS.iconst X6.here hx rfl (hb hby d1_334) kgo) ?_
              have hE32 : own_b (!decide ((191 : Int32) < v3)) = (0 : Int32) := by simp only [decide_eq_true hc33]; first | done | rfl
              exact own_cast (by rw [hE32]) J32
            ·
              refine own_go (g' := (mkF m 330 #[.val (.ref o0), .val (.int (1 : Int32)), .val (.ref o2), .val (.ref o3), .val (.int v1), .val (.int len), .val (.int lo), .val (.int hi), .val (.int v3), .unset] [])) (fun _ kgo => XS.icmpNo X6.here hx rfl (hb hby d1_327) rfl (flt hc33).2.2.1 kgo) ?_
              refine own_go (g' := (mkF m 331 #[.val (.ref o0), .val (.int (1 : Int32)), .val (.ref o2), .val (.ref o3), .val (.int v1), .val (.int len), .val (.int lo), .val (.int hi), .val (.int v3), .unset] [(.int (1 : Int32))])) (fun _ kgo => XS.iconst X6.here hx rfl (hb hby d1_330) kgo) ?_
              refine own_go (g' := (mkF m 335 #[.val (.ref o0), .val (.int (1 : Int32)), .val (.ref o2), .val (.ref o3), .val (.int v1), .val (.int len), .val (.int lo), .val (.int hi), .val (.int v3), .unset] [(.int (1 : Int32))])) (fun _ kgo => XS.goto X6.here hx rfl (pc0 := 331) (pc' := 335) rfl (hb hby d1_331) (by decide) (by decide) kgo) ?_
              have hE32 : own_b (!decide ((191 : Int32) < v3)) = (1 : Int32) := by simp only [decide_eq_false hc33]; first | done | rfl
              exact own_cast (by rw [hE32]) J32
      ·
        refine own_go (g' := (mkF m 229 #[.val (.ref o0), .val (.int (1 : Int32)), .val (.ref o2), .val (.ref o3), .val (.int v1), .val (.int len), .val (.int lo), .val (.int hi), .unset, .unset] [])) (fun _ kgo => XS.icmpNo X6.here hx rfl (hb hby d1_226) rfl (flt hc7).1 kgo) ?_
        refine own_go (g' := (mkF m 230 #[.val (.ref o0), .val (.int (1 : Int32)), .val (.ref o2), .val (.ref o3), .val (.int v1), .val (.int len), .val (.int lo), .val (.int hi), .unset, .unset] [(.int (1 : Int32))])) (fun _ kgo => XS.iloadN X6.here hx rfl (hb hby d1_229) rfl kgo) ?_
        refine own_go (g' := (mkF m 231 #[.val (.ref o0), .val (.int (1 : Int32)), .val (.ref o2), .val (.ref o3), .val (.int v1), .val (.int len), .val (.int lo), .val (.int hi), .unset, .unset] [(.int (1 : Int32)), (.int (1 : Int32))])) (fun _ kgo => XS.iconst X6.here hx rfl (hb hby d1_230) kgo) ?_
        refine own_go (g' := (mkF m 232 #[.val (.ref o0), .val (.int (1 : Int32)), .val (.ref o2), .val (.ref o3), .val (.int v1), .val (.int len), .val (.int lo), .val (.int hi), .unset, .unset] [(.int (2 : Int32))])) (fun _ kgo => XS.iadd X6.here hx rfl (hb hby d1_231) rfl kgo) ?_
        refine own_go (g' := (mkF m 233 #[.val (.ref o0), .val (.int (1 : Int32)), .val (.ref o2), .val (.ref o3), .val (.int v1), .val (.int len), .val (.int lo), .val (.int hi), .unset, .unset] [(.int (4 : Int32)), (.int (2 : Int32))])) (fun _ kgo => XS.iconst X6.here hx rfl (hb hby d1_232) kgo) ?_
        refine own_go (g' := (mkF m 236 #[.val (.ref o0), .val (.int (1 : Int32)), .val (.ref o2), .val (.ref o3), .val (.int v1), .val (.int len), .val (.int lo), .val (.int hi), .unset, .unset] [])) (fun _ kgo => XS.icmpNo X6.here hx rfl (hb hby d1_233) rfl (tlt (by decide)).2.1 kgo) ?_
        refine own_go (g' := (mkF m 237 #[.val (.ref o0), .val (.int (1 : Int32)), .val (.ref o2), .val (.ref o3), .val (.int v1), .val (.int len), .val (.int lo), .val (.int hi), .unset, .unset] [(.ref o0)])) (fun _ kgo => XS.aloadN X6.here hx rfl (hb hby d1_236) rfl rfl kgo) ?_
        refine own_go (g' := (mkF m 238 #[.val (.ref o0), .val (.int (1 : Int32)), .val (.ref o2), .val (.ref o3), .val (.int v1), .val (.int len), .val (.int lo), .val (.int hi), .unset, .unset] [(.int (1 : Int32)), (.ref o0)])) (fun _ kgo => XS.iloadN X6.here hx rfl (hb hby d1_237) rfl kgo) ?_
        refine own_go (g' := (mkF m 239 #[.val (.ref o0), .val (.int (1 : Int32)), .val (.ref o2), .val (.ref o3), .val (.int v1), .val (.int len), .val (.int lo), .val (.int hi), .unset, .unset] [(.int (1 : Int32)), (.int (1 : Int32)), (.ref o0)])) (fun _ kgo => XS.iconst X6.here hx rfl (hb hby d1_238) kgo) ?_
        refine own_go (g' := (mkF m 240 #[.val (.ref o0), .val (.int (1 : Int32)), .val (.ref o2), .val (.ref o3), .val (.int v1), .val (.int len), .val (.int lo), .val (.int hi), .unset, .unset] [(.int (2 : Int32)), (.ref o0)])) (fun _ kgo => XS.iadd X6.here hx rfl (hb hby d1_239) rfl kgo) ?_
        have fx34 : Arv Z h6 o0 kv .int (4 : Int32) [(.int v0), (.int v1), (.int v2), (.int v3)] (.int (0 : Int32)) := (Arv.other (Arv.other P0 W3 hn02) W6 hn03)
        obtain ⟨cl35, Ar35, qk35, sz35, nn35, Hs35, Gs35⟩ := id fx34
        have hin35 : ¬ ((2 : Int32) < 0 ∨ cl35.slots.size ≤ ((2 : Int32)).toNatClampNeg) := inb_of sz35 ⟨by decide, by decide⟩
        have hat35 : cl35.slots[((2 : Int32)).toNatClampNeg]? = some (.int v2) := Has.at Hs35 hin35 rfl
        refine own_go (g' := (mkF m 241 #[.val (.ref o0), .val (.int (1 : Int32)), .val (.ref o2), .val (.ref o3), .val (.int v1), .val (.int len), .val (.int lo), .val (.int hi), .unset, .unset] [(.int v2)])) (X6.iaload hx (j := (2 : Int32)) (v := (.int v2)) (by rw [e6]; exact Ar35.1) (State.isArrayOf_alike hZ.alike Ar35.2.1) Ar35.2.2 hin35 hat35 (g := (mkF m 240 #[.val (.ref o0), .val (.int (1 : Int32)), .val (.ref o2), .val (.ref o3), .val (.int v1), .val (.int len), .val (.int lo), .val (.int hi), .unset, .unset] [(.int (2 : Int32)), (.ref o0)])) rfl rfl (hb hby d1_240)) ?_
        refine own_go (g' := (mkF m 243 #[.val (.ref o0), .val (.int (1 : Int32)), .val (.ref o2), .val (.ref o3), .val (.int v1), .val (.int len), .val (.int lo), .val (.int hi), .val (.int v2), .unset] [])) (fun _ kgo => XS.istore X6.here hx rfl (hb hby d1_241) rfl (l' := #[.val (.ref o0), .val (.int (1 : Int32)), .val (.ref o2), .val (.ref o3), .val (.int v1), .val (.int len), .val (.int lo), .val (.int hi), .val (.int v2), .unset]) rfl kgo) ?_
        refine own_go (g' := (mkF m 245 #[.val (.ref o0), .val (.int (1 : Int32)), .val (.ref o2), .val (.ref o3), .val (.int v1), .val (.int len), .val (.int lo), .val (.int hi), .val (.int v2), .unset] [(.int v2)])) (fun _ kgo => XS.iload X6.here hx rfl (hb hby d1_243) rfl kgo) ?_
        refine own_go (g' := (mkF m 247 #[.val (.ref o0), .val (.int (1 : Int32)), .val (.ref o2), .val (.ref o3), .val (.int v1), .val (.int len), .val (.int lo), .val (.int hi), .val (.int v2), .unset] [(.int lo), (.int v2)])) (fun _ kgo => XS.iload X6.here hx rfl (hb hby d1_245) rfl kgo) ?_
        have J36 : own_Go p e below (own_Post s QQ 0 0) T6 (mkF m 262 #[.val (.ref o0), .val (.int (1 : Int32)), .val (.ref o2), .val (.ref o3), .val (.int v1), .val (.int len), .val (.int lo), .val (.int hi), .val (.int v2), .unset] [(.int (own_b ((!decide (v2 < lo) && !decide (hi < v2)))))]) := by
          suffices JNhg1 : ∀ g1 : Bool, g1 = ((!decide (v2 < lo) && !decide (hi < v2))) → own_Go p e below (own_Post s QQ 0 0) T6 (mkF m 262 #[.val (.ref o0), .val (.int (1 : Int32)), .val (.ref o2), .val (.ref o3), .val (.int v1), .val (.int len), .val (.int lo), .val (.int hi), .val (.int v2), .unset] [(.int (own_b g1))]) from JNhg1 _ (rfl)
          intro g1 hg1
          refine own_go (g' := (mkF m 264 #[.val (.ref o0), .val (.int (1 : Int32)), .val (.ref o2), .val (.ref o3), .val (.int v1), .val (.int len), .val (.int lo), .val (.int hi), .val (.int v2), .val (.int (own_b g1))] [])) (fun _ kgo => XS.istore X6.here hx rfl (hb hby d1_262) rfl (l' := #[.val (.ref o0), .val (.int (1 : Int32)), .val (.ref o2), .val (.ref o3), .val (.int v1), .val (.int len), .val (.int lo), .val (.int hi), .val (.int v2), .val (.int (own_b g1))]) rfl kgo) ?_
          refine own_go (g' := (mkF m 265 #[.val (.ref o0), .val (.int (1 : Int32)), .val (.ref o2), .val (.ref o3), .val (.int v1), .val (.int len), .val (.int lo), .val (.int hi), .val (.int v2), .val (.int (own_b g1))] [(.ref o2)])) (fun _ kgo => XS.aloadN X6.here hx rfl (hb hby d1_264) rfl rfl kgo) ?_
          refine own_go (g' := (mkF m 266 #[.val (.ref o0), .val (.int (1 : Int32)), .val (.ref o2), .val (.ref o3), .val (.int v1), .val (.int len), .val (.int lo), .val (.int hi), .val (.int v2), .val (.int (own_b g1))] [(.int (1 : Int32)), (.ref o2)])) (fun _ kgo => XS.iloadN X6.here hx rfl (hb hby d1_265) rfl kgo) ?_
          refine own_go (g' := (mkF m 267 #[.val (.ref o0), .val (.int (1 : Int32)), .val (.ref o2), .val (.ref o3), .val (.int v1), .val (.int len), .val (.int lo), .val (.int hi), .val (.int v2), .val (.int (own_b g1))] [(.int (1 : Int32)), (.int (1 : Int32)), (.ref o2)])) (fun _ kgo => XS.iconst X6.here hx rfl (hb hby d1_266) kgo) ?_
          refine own_go (g' := (mkF m 268 #[.val (.ref o0), .val (.int (1 : Int32)), .val (.ref o2), .val (.ref o3), .val (.int v1), .val (.int len), .val (.int lo), .val (.int hi), .val (.int v2), .val (.int (own_b g1))] [(.int (2 : Int32)), (.ref o2)])) (fun _ kgo => XS.iadd X6.here hx rfl (hb hby d1_267) rfl kgo) ?_
          refine own_go (g' := (mkF m 270 #[.val (.ref o0), .val (.int (1 : Int32)), .val (.ref o2), .val (.ref o3), .val (.int v1), .val (.int len), .val (.int lo), .val (.int hi), .val (.int v2), .val (.int (own_b g1))] [(.int (own_b g1)), (.int (2 : Int32)), (.ref o2)])) (fun _ kgo => XS.iload X6.here hx rfl (hb hby d1_268) rfl kgo) ?_
          have fx37 : Arv Z h6 o2 ko .boolean (4 : Int32) [(.int (own_b a0_)), (.int (own_b true)), (.int (own_b a2_)), (.int (own_b a3_))] (.int (0 : Int32)) := (Arv.other V3 W6 hn23)
          obtain ⟨cl38, Ar38, qk38, sz38, nn38, Hs38, Gs38⟩ := id fx37
          have hin38 : ¬ ((2 : Int32) < 0 ∨ cl38.slots.size ≤ ((2 : Int32)).toNatClampNeg) := inb_of sz38 ⟨by decide, by decide⟩
          obtain ⟨T38, h38, X38, e38, W38, st38⟩ := stZ X6 hx hZ e6 Ar38 (j := (2 : Int32)) hin38 (g := (mkF m 270 #[.val (.ref o0), .val (.int (1 : Int32)), .val (.ref o2), .val (.ref o3), .val (.int v1), .val (.int len), .val (.int lo), .val (.int hi), .val (.int v2), .val (.int (own_b g1))] [(.int (own_b g1)), (.int (2 : Int32)), (.ref o2)])) rfl rfl (hb hby d1_270)
          have Vn38 : Arv Z h38 o2 ko .boolean (4 : Int32) [(.int (own_b a0_)), (.int (own_b true)), (.int (nar .boolean (own_b g1))), (.int (own_b a3_))] (.int (0 : Int32)) := Arv.set Ar38 qk38 sz38 nn38 Hs38 Gs38 (fits_nar_bool _) W38 2 rfl (Nat.le_of_ble_eq_true rfl)
          have V38 : Arv Z h38 o2 ko .boolean (4 : Int32) [(.int (own_b a0_)), (.int (own_b true)), (.int (own_b g1)), (.int (own_b a3_))] (.int (0 : Int32)) := by rw [own_b_nar] at Vn38; exact Vn38
          have N38 := Fr.snoc X38 N6 g_o2
          have Z38 : n0 ≤ h38.size := by rw [W38.size]; exact Z6
          have K38 : Keep h0 h38 [o2, o3] := K6.wr W38 (Or.inl (List.mem_of_getElem? (i := 0) rfl))
          refine own_go (g' := (mkF m 271 #[.val (.ref o0), .val (.int (1 : Int32)), .val (.ref o2), .val (.ref o3), .val (.int v1), .val (.int len), .val (.int lo), .val (.int hi), .val (.int v2), .val (.int (own_b g1))] [])) (st38) ?_
          refine own_go (g' := (mkF m 272 #[.val (.ref o0), .val (.int (1 : Int32)), .val (.ref o2), .val (.ref o3), .val (.int v1), .val (.int len), .val (.int lo), .val (.int hi), .val (.int v2), .val (.int (own_b g1))] [(.ref o3)])) (fun _ kgo => XS.aloadN X38.here hx rfl (hb hby d1_271) rfl rfl kgo) ?_
          refine own_go (g' := (mkF m 273 #[.val (.ref o0), .val (.int (1 : Int32)), .val (.ref o2), .val (.ref o3), .val (.int v1), .val (.int len), .val (.int lo), .val (.int hi), .val (.int v2), .val (.int (own_b g1))] [(.int (1 : Int32)), (.ref o3)])) (fun _ kgo => XS.iloadN X38.here hx rfl (hb hby d1_272) rfl kgo) ?_
          refine own_go (g' := (mkF m 274 #[.val (.ref o0), .val (.int (1 : Int32)), .val (.ref o2), .val (.ref o3), .val (.int v1), .val (.int len), .val (.int lo), .val (.int hi), .val (.int v2), .val (.int (own_b g1))] [(.int (1 : Int32)), (.int (1 : Int32)), (.ref o3)])) (fun _ kgo => XS.iconst X38.here hx rfl (hb hby d1_273) kgo) ?_
          refine own_go (g' := (mkF m 275 #[.val (.ref o0), .val (.int (1 : Int32)), .val (.ref o2), .val (.ref o3), .val (.int v1), .val (.int len), .val (.int lo), .val (.int hi), .val (.int v2), .val (.int (own_b g1))] [(.int (2 : Int32)), (.ref o3)])) (fun _ kgo => XS.iadd X38.here hx rfl (hb hby d1_274) rfl kgo) ?_
          refine own_go (g' := (mkF m 277 #[.val (.ref o0), .val (.int (1 : Int32)), .val (.ref o2), .val (.ref o3), .val (.int v1), .val (.int len), .val (.int lo), .val (.int hi), .val (.int v2), .val (.int (own_b g1))] [(.int len), (.int (2 : Int32)), (.ref o3)])) (fun _ kgo => XS.iload X38.here hx rfl (hb hby d1_275) rfl kgo) ?_
          refine own_go (g' := (mkF m 278 #[.val (.ref o0), .val (.int (1 : Int32)), .val (.ref o2), .val (.ref o3), .val (.int v1), .val (.int len), .val (.int lo), .val (.int hi), .val (.int v2), .val (.int (own_b g1))] [(.int (2 : Int32)), (.int len), (.int (2 : Int32)), (.ref o3)])) (fun _ kgo => XS.iconst X38.here hx rfl (hb hby d1_277) kgo) ?_
          have J39 : own_Go p e below (own_Post s QQ 0 0) T38 (mkF m 286 #[.val (.ref o0), .val (.int (1 : Int32)), .val (.ref o2), .val (.ref o3), .val (.int v1), .val (.int len), .val (.int lo), .val (.int hi), .val (.int v2), .val (.int (own_b g1))] [(.int (own_b (decide (len = (2 : Int32))))), (.int (2 : Int32)), (.ref o3)]) := by
            have fx40 : Arv Z h38 o3 kc .boolean (4 : Int32) [(.int (own_b c0_)), (.int (own_b (decide (len = (1 : Int32))))), (.int (own_b c2_)), (.int (own_b c3_))] (.int (0 : Int32)) := (Arv.other V6 W38 (Ne.symm hn23))
            obtain ⟨cl41, Ar41, qk41, sz41, nn41, Hs41, Gs41⟩ := id fx40
            have hin41 : ¬ ((2 : Int32) < 0 ∨ cl41.slots.size ≤ ((2 : Int32)).toNatClampNeg) := inb_of sz41 ⟨by decide, by decide⟩
            obtain ⟨T41, h41, X41, e41, W41, st41⟩ := stZ X38 hx hZ e38 Ar41 (j := (2 : Int32)) hin41 (g := (mkF m 286 #[.val (.ref o0), .val (.int (1 : Int32)), .val (.ref o2), .val (.ref o3), .val (.int v1), .val (.int len), .val (.int lo), .val (.int hi), .val (.int v2), .val (.int (own_b g1))] [(.int (own_b (decide (len = (2 : Int32))))), (.int (2 : Int32)), (.ref o3)])) rfl rfl (hb hby d1_286)
            have Vn41 : Arv Z h41 o3 kc .boolean (4 : Int32) [(.int (own_b c0_)), (.int (own_b (decide (len = (1 : Int32))))), (.int (nar .boolean (own_b (decide (len = (2 : Int32)))))), (.int (own_b c3_))] (.int (0 : Int32)) := Arv.set Ar41 qk41 sz41 nn41 Hs41 Gs41 (fits_nar_bool _) W41 2 rfl (Nat.le_of_ble_eq_true rfl)
            have V41 : Arv Z h41 o3 kc .boolean (4 : Int32) [(.int (own_b c0_)), (.int (own_b (decide (len = (1 : Int32))))), (.int (own_b (decide (len = (2 : Int32))))), (.int (own_b c3_))] (.int (0 : Int32)) := by rw [own_b_nar] at Vn41; exact Vn41
            have N41 := Fr.snoc X41 N38 g_o3
            have Z41 : n0 ≤ h41.size := by rw [W41.size]; exact Z38
            have K41 : Keep h0 h41 [o2, o3] := K38.wr W41 (Or.inl (List.mem_of_getElem? (i := 1) rfl))
            refine own_go (g' := (mkF m 287 #[.val (.ref o0), .val (.int (1 : Int32)), .val (.ref o2), .val (.ref o3), .val (.int v1), .val (.int len), .val (.int lo), .val (.int hi), .val (.int v2), .val (.int (own_b g1))] [])) (st41) ?_
            refine own_go (g' := (mkF m 289 #[.val (.ref o0), .val (.int (1 : Int32)), .val (.ref o2), .val (.ref o3), .val (.int v1), .val (.int len), .val (.int lo), .val (.int hi), .val (.int v2), .val (.int (own_b g1))] [(.int (own_b g1))])) (fun _ kgo => XS.iload X41.here hx rfl (hb hby d1_287) rfl kgo) ?_
            by_cases hc42 : g1 = true
            ·
              refine own_go (g' := (mkF m 294 #[.val (.ref o0), .val (.int (1 : Int32)), .val (.ref o2), .val (.ref o3), .val (.int v1), .val (.int len), .val (.int lo), .val (.int hi), .val (.int v2), .val (.int (own_b g1))] [])) (fun _ kgo => XS.ifYes X41.here hx rfl (pc0 := 289) (pc' := 294) rfl (hb hby d1_289) rfl ((if0 _ _).trans (feq (own_b_n hc42)).2) (by decide) (by decide) kgo) ?_
              refine own_go (g' := (mkF m 296 #[.val (.ref o0), .val (.int (1 : Int32)), .val (.ref o2), .val (.ref o3), .val (.int v1), .val (.int len), .val (.int lo), .val (.int hi), .val (.int v2), .val (.int (own_b g1))] [(.int len)])) (fun _ kgo => XS.iload X41.here hx rfl (hb hby d1_294) rfl kgo) ?_
              refine own_go (g' := (mkF m 297 #[.val (.ref o0), .val (.int (1 : Int32)), .val (.ref o2), .val (.ref o3), .val (.int v1), .val (.int len), .val (.int lo), .val (.int hi), .val (.int v2), .val (.int (own_b g1))] [(.int (3 : Int32)), (.int len)])) (fun _ kgo => XS.iconst X41.here hx rfl (hb hby d1_296) kgo) ?_
              by_cases hc43 : len < (3 : Int32)
              ·
                refine own_go (g' := (mkF m 367 #[.val (.ref o0), .val (.int (1 : Int32)), .val (.ref o2), .val (.ref o3), .val (.int v1), .val (.int len), .val (.int lo), .val (.int hi), .val (.int v2), .val (.int (own_b g1))] [])) (fun _ kgo => XS.icmpYes X41.here hx rfl (pc0 := 297) (pc' := 367) rfl (hb hby d1_297) rfl (tlt hc43).1 (by decide) (by decide) kgo) ?_
                refine own_go (g' := (mkF m 369 #[.val (.ref o0), .val (.int (1 : Int32)), .val (.ref o2), .val (.ref o3), .val (.int v1), .val (.int len), .val (.int lo), .val (.int hi), .val (.int v2), .val (.int (own_b g1))] [(.int len)])) (fun _ kgo => XS.iload X41.here hx rfl (hb hby d1_367) rfl kgo) ?_
                refine own_go (g' := (mkF m 370 #[.val (.ref o0), .val (.int (1 : Int32)), .val (.ref o2), .val (.ref o3), .val (.int v1), .val (.int len), .val (.int lo), .val (.int hi), .val (.int v2), .val (.int (own_b g1))] [(.int (4 : Int32)), (.int len)])) (fun _ kgo => XS.iconst X41.here hx rfl (hb hby d1_369) kgo) ?_
                by_cases hc44 : len < (4 : Int32)
                ·
                  refine own_go (g' := (mkF m 430 #[.val (.ref o0), .val (.int (1 : Int32)), .val (.ref o2), .val (.ref o3), .val (.int v1), .val (.int len), .val (.int lo), .val (.int hi), .val (.int v2), .val (.int (own_b g1))] [])) (fun _ kgo => XS.icmpYes X41.here hx rfl (pc0 := 370) (pc' := 430) rfl (hb hby d1_370) rfl (tlt hc44).1 (by decide) (by decide) kgo) ?_
                  refine own_go (g' := (mkF m 431 #[.val (.ref o0), .val (.int (1 : Int32)), .val (.ref o2), .val (.ref o3), .val (.int v1), .val (.int len), .val (.int lo), .val (.int hi), .val (.int v2), .val (.int (own_b g1))] [(.int (1 : Int32))])) (fun _ kgo => XS.iloadN X41.here hx rfl (hb hby d1_430) rfl kgo) ?_
                  refine own_go (g' := (mkF m 433 #[.val (.ref o0), .val (.int (1 : Int32)), .val (.ref o2), .val (.ref o3), .val (.int v1), .val (.int len), .val (.int lo), .val (.int hi), .val (.int v2), .val (.int (own_b g1))] [(.int len), (.int (1 : Int32))])) (fun _ kgo => XS.iload X41.here hx rfl (hb hby d1_431) rfl kgo) ?_
                  refine own_go (g' := (mkF m 434 #[.val (.ref o0), .val (.int (1 : Int32)), .val (.ref o2), .val (.ref o3), .val (.int v1), .val (.int len), .val (.int lo), .val (.int hi), .val (.int v2), .val (.int (own_b g1))] [(.int ((1 : Int32) + len))])) (fun _ kgo => XS.iadd X41.here hx rfl (hb hby d1_433) rfl kgo) ?_
                  refine own_retI X41 hx Bd.returns Bd.notSynchronized (hb hby d1_434) (by decide) (by decide) ?_
                  show QQ _ T41.heap _
                  rw [e41]
                  have hrel : ((((1 : Int32) + len) = 2 ∧ ∀ t, own_chk ((v1, true, (decide (len = (1 : Int32)))) :: t) 0 128 191 = own_chk t 0 128 191) ∨ (((1 : Int32) + len) = 3 ∧ ∀ t, own_chk ((v1, true, (decide (len = (1 : Int32)))) :: (v2, g1, (decide (len = (2 : Int32)))) :: t) 0 128 191 = own_chk t 0 128 191) ∨ (¬ ((1 : Int32) + len) < 4 ∧ own_chk [(v1, true, (decide (len = (1 : Int32)))), (v2, g1, (decide (len = (2 : Int32)))), (v3, a3_, c3_)] 0 128 191 = true)) := by
                    rcases hlen with rfl | rfl | rfl | rfl
                    · first | exact absurd hc7 (by decide) | exact absurd hc43 (by decide) | exact absurd hc44 (by decide) | (exact Or.inl (⟨by decide, fun t => by rw [own_f1 hcl (hl1 rfl).1 (hl1 rfl).2 (by decide)]⟩))
                    · first | exact absurd hc7 (by decide) | exact absurd hc43 (by decide) | exact absurd hc44 (by decide) | (exact Or.inr (Or.inl (⟨by decide, fun t => by rw [own_fn hcl (nd := 1) (by decide) (by decide) (by decide), own_nt (nd' := 0) (by decide) (by decide) hg1 hc42 (by decide)]⟩)))
                    · first | exact absurd hc7 (by decide) | exact absurd hc43 (by decide) | exact absurd hc44 (by decide) | (exact Or.inr (Or.inr ((⟨by decide, by rw [own_fn hcl (nd := 2) (by decide) (by decide) (by decide), own_nt (nd' := 1) (by decide) (by decide) hg1 hc42 (by decide)]; rfl⟩))))
                    · first | exact absurd hc7 (by decide) | exact absurd hc43 (by decide) | exact absurd hc44 (by decide) | (exact Or.inr (Or.inr ((⟨by decide, by rw [own_fn hcl (nd := 3) (by decide) (by decide) (by decide), own_nt (nd' := 2) (by decide) (by decide) hg1 hc42 (by decide)]; rfl⟩))))
                  have fx45 : Arv Z h41 o0 kv .int (4 : Int32) [(.int v0), (.int v1), (.int v2), (.int v3)] (.int (0 : Int32)) := (Arv.other (Arv.other fx34 W38 hn02) W41 hn03)
                  have fx46 : Arv Z h41 o2 ko .boolean (4 : Int32) [(.int (own_b a0_)), (.int (own_b true)), (.int (own_b g1)), (.int (own_b a3_))] (.int (0 : Int32)) := (Arv.other V38 W41 hn23)
                  rw [← hQQ]
                  exact ⟨((1 : Int32) + len), true, g1, a3_, (decide (len = (1 : Int32))), (decide (len = (2 : Int32))), c3_, rfl, N41, K41, hrel, fx45, fx46, V41⟩
                ·
                  refine own_go (g' := (mkF m 373 #[.val (.ref o0), .val (.int (1 : Int32)), .val (.ref o2), .val (.ref o3), .val (.int v1), .val (.int len), .val (.int lo), .val (.int hi), .val (.int v2), .val (.int (own_b g1))] [])) (fun _ kgo => XS.icmpNo X41.here hx rfl (hb hby d1_370) rfl (flt hc44).1 kgo) ?_
                  refine own_go (g' := (mkF m 374 #[.val (.ref o0), .val (.int (1 : Int32)), .val (.ref o2), .val (.ref o3), .val (.int v1), .val (.int len), .val (.int lo), .val (.int hi), .val (.int v2), .val (.int (own_b g1))] [(.int (1 : Int32))])) (fun _ kgo => XS.iloadN X41.here hx rfl (hb hby d1_373) rfl kgo) ?_
                  refine own_go (g' := (mkF m 375 #[.val (.ref o0), .val (.int (1 : Int32)), .val (.ref o2), .val (.ref o3), .val (.int v1), .val (.int len), .val (.int lo), .val (.int hi), .val (.int v2), .val (.int (own_b g1))] [(.int (3 : Int32)), (.int (1 : Int32))])) (fun _ kgo => XS.iconst X41.here hx rfl (hb hby d1_374) kgo) ?_
                  refine own_go (g' := (mkF m 376 #[.val (.ref o0), .val (.int (1 : Int32)), .val (.ref o2), .val (.ref o3), .val (.int v1), .val (.int len), .val (.int lo), .val (.int hi), .val (.int v2), .val (.int (own_b g1))] [(.int (4 : Int32))])) (fun _ kgo => XS.iadd X41.here hx rfl (hb hby d1_375) rfl kgo) ?_
                  refine own_go (g' := (mkF m 377 #[.val (.ref o0), .val (.int (1 : Int32)), .val (.ref o2), .val (.ref o3), .val (.int v1), .val (.int len), .val (.int lo), .val (.int hi), .val (.int v2), .val (.int (own_b g1))] [(.int (4 : Int32)), (.int (4 : Int32))])) (fun _ kgo => XS.iconst X41.here hx rfl (hb hby d1_376) kgo) ?_
                  refine own_go (g' := (mkF m 430 #[.val (.ref o0), .val (.int (1 : Int32)), .val (.ref o2), .val (.ref o3), .val (.int v1), .val (.int len), .val (.int lo), .val (.int hi), .val (.int v2), .val (.int (own_b g1))] [])) (fun _ kgo => XS.icmpYes X41.here hx rfl (pc0 := 377) (pc' := 430) rfl (hb hby d1_377) rfl (flt (by decide)).2.1 (by decide) (by decide) kgo) ?_
                  refine own_go (g' := (mkF m 431 #[.val (.ref o0), .val (.int (1 : Int32)), .val (.ref o2), .val (.ref o3), .val (.int v1), .val (.int len), .val (.int lo), .val (.int hi), .val (.int v2), .val (.int (own_b g1))] [(.int (1 : Int32))])) (fun _ kgo => XS.iloadN X41.here hx rfl (hb hby d1_430) rfl kgo) ?_
                  refine own_go (g' := (mkF m 433 #[.val (.ref o0), .val (.int (1 : Int32)), .val (.ref o2), .val (.ref o3), .val (.int v1), .val (.int len), .val (.int lo), .val (.int hi), .val (.int v2), .val (.int (own_b g1))] [(.int len), (.int (1 : Int32))])) (fun _ kgo => XS.iload X41.here hx rfl (hb hby d1_431) rfl kgo) ?_
                  refine own_go (g' := (mkF m 434 #[.val (.ref o0), .val (.int (1 : Int32)), .val (.ref o2), .val (.ref o3), .val (.int v1), .val (.int len), .val (.int lo), .val (.int hi), .val (.int v2), .val (.int (own_b g1))] [(.int ((1 : Int32) + len))])) (fun _ kgo => XS.iadd X41.here hx rfl (hb hby d1_433) rfl kgo) ?_
                  refine own_retI X41 hx Bd.returns Bd.notSynchronized (hb hby d1_434) (by decide) (by decide) ?_
                  show QQ _ T41.heap _
                  rw [e41]
                  have hrel : ((((1 : Int32) + len) = 2 ∧ ∀ t, own_chk ((v1, true, (decide (len = (1 : Int32)))) :: t) 0 128 191 = own_chk t 0 128 191) ∨ (((1 : Int32) + len) = 3 ∧ ∀ t, own_chk ((v1, true, (decide (len = (1 : Int32)))) :: (v2, g1, (decide (len = (2 : Int32)))) :: t) 0 128 191 = own_chk t 0 128 191) ∨ (¬ ((1 : Int32) + len) < 4 ∧ own_chk [(v1, true, (decide (len = (1 : Int32)))), (v2, g1, (decide (len = (2 : Int32)))), (v3, a3_, c3_)] 0 128 191 = true)) := by
                    rcases hlen with rfl | rfl | rfl | rfl
                    · first | exact absurd hc7 (by decide) | exact absurd hc43 (by decide) | exact absurd hc44 (by decide) | (exact Or.inl (⟨by decide, fun t => by rw [own_f1 hcl (hl1 rfl).1 (hl1 rfl).2 (by decide)]⟩))
                    · first | exact absurd hc7 (by decide) | exact absurd hc43 (by decide) | exact absurd hc44 (by decide) | (exact Or.inr (Or.inl (⟨by decide, fun t => by rw [own_fn hcl (nd := 1) (by decide) (by decide) (by decide), own_nt (nd' := 0) (by decide) (by decide) hg1 hc42 (by decide)]⟩)))
                    · first | exact absurd hc7 (by decide) | exact absurd hc43 (by decide) | exact absurd hc44 (by decide) | (exact Or.inr (Or.inr ((⟨by decide, by rw [own_fn hcl (nd := 2) (by decide) (by decide) (by decide), own_nt (nd' := 1) (by decide) (by decide) hg1 hc42 (by decide)]; rfl⟩))))
                    · first | exact absurd hc7 (by decide) | exact absurd hc43 (by decide) | exact absurd hc44 (by decide) | (exact Or.inr (Or.inr ((⟨by decide, by rw [own_fn hcl (nd := 3) (by decide) (by decide) (by decide), own_nt (nd' := 2) (by decide) (by decide) hg1 hc42 (by decide)]; rfl⟩))))
                  have fx47 : Arv Z h41 o0 kv .int (4 : Int32) [(.int v0), (.int v1), (.int v2), (.int v3)] (.int (0 : Int32)) := (Arv.other (Arv.other fx34 W38 hn02) W41 hn03)
                  have fx48 : Arv Z h41 o2 ko .boolean (4 : Int32) [(.int (own_b a0_)), (.int (own_b true)), (.int (own_b g1)), (.int (own_b a3_))] (.int (0 : Int32)) := (Arv.other V38 W41 hn23)
                  rw [← hQQ]
                  exact ⟨((1 : Int32) + len), true, g1, a3_, (decide (len = (1 : Int32))), (decide (len = (2 : Int32))), c3_, rfl, N41, K41, hrel, fx47, fx48, V41⟩
              ·
                refine own_go (g' := (mkF m 300 #[.val (.ref o0), .val (.int (1 : Int32)), .val (.ref o2), .val (.ref o3), .val (.int v1), .val (.int len), .val (.int lo), .val (.int hi), .val (.int v2), .val (.int (own_b g1))] [])) (fun _ kgo => XS.icmpNo X41.here hx rfl (hb hby d1_297) rfl (flt hc43).1 kgo) ?_
                refine own_go (g' := (mkF m 301 #[.val (.ref o0), .val (.int (1 : Int32)), .val (.ref o2), .val (.ref o3), .val (.int v1), .val (.int len), .val (.int lo), .val (.int hi), .val (.int v2), .val (.int (own_b g1))] [(.int (1 : Int32))])) (fun _ kgo => XS.iloadN X41.here hx rfl (hb hby d1_300) rfl kgo) ?_
                refine own_go (g' := (mkF m 302 #[.val (.ref o0), .val (.int (1 : Int32)), .val (.ref o2), .val (.ref o3), .val (.int v1), .val (.int len), .val (.int lo), .val (.int hi), .val (.int v2), .val (.int (own_b g1))] [(.int (2 : Int32)), (.int (1 : Int32))])) (fun _ kgo => XS.iconst X41.here hx rfl (hb hby d1_301) kgo) ?_
                refine own_go (g' := (mkF m 303 #[.val (.ref o0), .val (.int (1 : Int32)), .val (.ref o2), .val (.ref o3), .val (.int v1), .val (.int len), .val (.int lo), .val (.int hi), .val (.int v2), .val (.int (own_b g1))] [(.int (3 : Int32))])) (fun _ kgo => XS.iadd X41.here hx rfl (hb hby d1_302) rfl kgo) ?_
                refine own_go (g' := (mkF m 304 #[.val (.ref o0), .val (.int (1 : Int32)), .val (.ref o2), .val (.ref o3), .val (.int v1), .val (.int len), .val (.int lo), .val (.int hi), .val (.int v2), .val (.int (own_b g1))] [(.int (4 : Int32)), (.int (3 : Int32))])) (fun _ kgo => XS.iconst X41.here hx rfl (hb hby d1_303) kgo) ?_
                refine own_go (g' := (mkF m 307 #[.val (.ref o0), .val (.int (1 : Int32)), .val (.ref o2), .val (.ref o3), .val (.int v1), .val (.int len), .val (.int lo), .val (.int hi), .val (.int v2), .val (.int (own_b g1))] [])) (fun _ kgo => XS.icmpNo X41.here hx rfl (hb hby d1_304) rfl (tlt (by decide)).2.1 kgo) ?_
                refine own_go (g' := (mkF m 308 #[.val (.ref o0), .val (.int (1 : Int32)), .val (.ref o2), .val (.ref o3), .val (.int v1), .val (.int len), .val (.int lo), .val (.int hi), .val (.int v2), .val (.int (own_b g1))] [(.ref o0)])) (fun _ kgo => XS.aloadN X41.here hx rfl (hb hby d1_307) rfl rfl kgo) ?_
                refine own_go (g' := (mkF m 309 #[.val (.ref o0), .val (.int (1 : Int32)), .val (.ref o2), .val (.ref o3), .val (.int v1), .val (.int len), .val (.int lo), .val (.int hi), .val (.int v2), .val (.int (own_b g1))] [(.int (1 : Int32)), (.ref o0)])) (fun _ kgo => XS.iloadN X41.here hx rfl (hb hby d1_308) rfl kgo) ?_
                refine own_go (g' := (mkF m 310 #[.val (.ref o0), .val (.int (1 : Int32)), .val (.ref o2), .val (.ref o3), .val (.int v1), .val (.int len), .val (.int lo), .val (.int hi), .val (.int v2), .val (.int (own_b g1))] [(.int (2 : Int32)), (.int (1 : Int32)), (.ref o0)])) (fun _ kgo => XS.iconst X41.here hx rfl (hb hby d1_309) kgo) ?_
                refine own_go (g' := (mkF m 311 #[.val (.ref o0), .val (.int (1 : Int32)), .val (.ref o2), .val (.ref o3), .val (.int v1), .val (.int len), .val (.int lo), .val (.int hi), .val (.int v2), .val (.int (own_b g1))] [(.int (3 : Int32)), (.ref o0)])) (fun _ kgo => XS.iadd X41.here hx rfl (hb hby d1_310) rfl kgo) ?_
                have fx49 : Arv Z h41 o0 kv .int (4 : Int32) [(.int v0), (.int v1), (.int v2), (.int v3)] (.int (0 : Int32)) := (Arv.other (Arv.other fx34 W38 hn02) W41 hn03)
                obtain ⟨cl50, Ar50, qk50, sz50, nn50, Hs50, Gs50⟩ := id fx49
                have hin50 : ¬ ((3 : Int32) < 0 ∨ cl50.slots.size ≤ ((3 : Int32)).toNatClampNeg) := inb_of sz50 ⟨by decide, by decide⟩
                have hat50 : cl50.slots[((3 : Int32)).toNatClampNeg]? = some (.int v3) := Has.at Hs50 hin50 rfl
                refine own_go (g' := (mkF m 312 #[.val (.ref o0), .val (.int (1 : Int32)), .val (.ref o2), .val (.ref o3), .val (.int v1), .val (.int len), .val (.int lo), .val (.int hi), .val (.int v2), .val (.int (own_b g1))] [(.int v3)])) (X41.iaload hx (j := (3 : Int32)) (v := (.int v3)) (by rw [e41]; exact Ar50.1) (State.isArrayOf_alike hZ.alike Ar50.2.1) Ar50.2.2 hin50 hat50 (g := (mkF m 311 #[.val (.ref o0), .val (.int (1 : Int32)), .val (.ref o2), .val (.ref o3), .val (.int v1), .val (.int len), .val (.int lo), .val (.int hi), .val (.int v2), .val (.int (own_b g1))] [(.int (3 : Int32)), (.ref o0)])) rfl rfl (hb hby d1_311)) ?_
                refine own_go (g' := (mkF m 314 #[.val (.ref o0), .val (.int (1 : Int32)), .val (.ref o2), .val (.ref o3), .val (.int v1), .val (.int len), .val (.int lo), .val (.int hi), .val (.int v3), .val (.int (own_b g1))] [])) (fun _ kgo => XS.istore X41.here hx rfl (hb hby d1_312) rfl (l' := #[.val (.ref o0), .val (.int (1 : Int32)), .val (.ref o2), .val (.ref o3), .val (.int v1), .val (.int len), .val (.int lo), .val (.int hi), .val (.int v3), .val (.int (own_b g1))]) rfl kgo) ?_
                refine own_go (g' := (mkF m 316 #[.val (.ref o0), .val (.int (1 : Int32)), .val (.ref o2), .val (.ref o3), .val (.int v1), .val (.int len), .val (.int lo), .val (.int hi), .val (.int v3), .val (.int (own_b g1))] [(.int v3)])) (fun _ kgo => XS.iload X41.here hx rfl (hb hby d1_314) rfl kgo) ?_
                refine own_go (g' := (mkF m 319 #[.val (.ref o0), .val (.int (1 : Int32)), .val (.ref o2), .val (.ref o3), .val (.int v1), .val (.int len), .val (.int lo), .val (.int hi), .val (.int v3), .val (.int (own_b g1))] [(.int (128 : Int32)), (.int v3)])) (fun _ kgo => XS.sipush X41.here hx rfl (hb hby d1_316) kgo) ?_
                have J51 : own_Go p e below (own_Post s QQ 0 0) T41 (mkF m 335 #[.val (.ref o0), .val (.int (1 : Int32)), .val (.ref o2), .val (.ref o3), .val (.int v1), .val (.int len), .val (.int lo), .val (.int hi), .val (.int v3), .val (.int (own_b g1))] [(.int (own_b ((!decide (v3 < (128 : Int32)) && !decide ((191 : Int32) < v3)))))]) := by
                  suffices JNhg2 : ∀ g2 : Bool, g2 = ((!decide (v3 < (128 : Int32)) && !decide ((191 : Int32) < v3))) → own_Go p e below (own_Post s QQ 0 0) T41 (mkF m 335 #[.val (.ref o0), .val (.int (1 : Int32)), .val (.ref o2), .val (.ref o3), .val (.int v1), .val (.int len), .val (.int lo), .val (.int hi), .val (.int v3), .val (.int (own_b g1))] [(.int (own_b g2))]) from JNhg2 _ (rfl)
                  intro g2 hg2
                  refine own_go (g' := (mkF m 337 #[.val (.ref o0), .val (.int (1 : Int32)), .val (.ref o2), .val (.ref o3), .val (.int v1), .val (.int len), .val (.int lo), .val (.int hi), .val (.int v3), .val (.int (own_b g2))] [])) (fun _ kgo => XS.istore X41.here hx rfl (hb hby d1_335) rfl (l' := #[.val (.ref o0), .val (.int (1 : Int32)), .val (.ref o2), .val (.ref o3), .val (.int v1), .val (.int len), .val (.int lo), .val (.int hi), .val (.int v3), .val (.int (own_b g2))]) rfl kgo) ?_
                  refine own_go (g' := (mkF m 338 #[.val (.ref o0), .val (.int (1 : Int32)), .val (.ref o2), .val (.ref o3), .val (.int v1), .val (.int len), .val (.int lo), .val (.int hi), .val (.int v3), .val (.int (own_b g2))] [(.ref o2)])) (fun _ kgo => XS.aloadN X41.here hx rfl (hb hby d1_337) rfl rfl kgo) ?_
                  refine own_go (g' := (mkF m 339 #[.val (.ref o0), .val (.int (1 : Int32)), .val (.ref o2), .val (.ref o3), .val (.int v1), .val (.int len), .val (.int lo), .val (.int hi), .val (.int v3), .val (.int (own_b g2))] [(.int (1 : Int32)), (.ref o2)])) (fun _ kgo => XS.iloadN X41.here hx rfl (hb hby d1_338) rfl kgo) ?_
                  refine own_go (g' := (mkF m 340 #[.val (.ref o0), .val (.int (1 : Int32)), .val (.ref o2), .val (.ref o3), .val (.int v1), .val (.int len), .val (.int lo), .val (.int hi), .val (.int v3), .val (.int (own_b g2))] [(.int (2 : Int32)), (.int (1 : Int32)), (.ref o2)])) (fun _ kgo => XS.iconst X41.here hx rfl (hb hby d1_339) kgo) ?_
                  refine own_go (g' := (mkF m 341 #[.val (.ref o0), .val (.int (1 : Int32)), .val (.ref o2), .val (.ref o3), .val (.int v1), .val (.int len), .val (.int lo), .val (.int hi), .val (.int v3), .val (.int (own_b g2))] [(.int (3 : Int32)), (.ref o2)])) (fun _ kgo => XS.iadd X41.here hx rfl (hb hby d1_340) rfl kgo) ?_
                  refine own_go (g' := (mkF m 343 #[.val (.ref o0), .val (.int (1 : Int32)), .val (.ref o2), .val (.ref o3), .val (.int v1), .val (.int len), .val (.int lo), .val (.int hi), .val (.int v3), .val (.int (own_b g2))] [(.int (own_b g2)), (.int (3 : Int32)), (.ref o2)])) (fun _ kgo => XS.iload X41.here hx rfl (hb hby d1_341) rfl kgo) ?_
                  have fx52 : Arv Z h41 o2 ko .boolean (4 : Int32) [(.int (own_b a0_)), (.int (own_b true)), (.int (own_b g1)), (.int (own_b a3_))] (.int (0 : Int32)) := (Arv.other V38 W41 hn23)
                  obtain ⟨cl53, Ar53, qk53, sz53, nn53, Hs53, Gs53⟩ := id fx52
                  have hin53 : ¬ ((3 : Int32) < 0 ∨ cl53.slots.size ≤ ((3 : Int32)).toNatClampNeg) := inb_of sz53 ⟨by decide, by decide⟩
                  obtain ⟨T53, h53, X53, e53, W53, st53⟩ := stZ X41 hx hZ e41 Ar53 (j := (3 : Int32)) hin53 (g := (mkF m 343 #[.val (.ref o0), .val (.int (1 : Int32)), .val (.ref o2), .val (.ref o3), .val (.int v1), .val (.int len), .val (.int lo), .val (.int hi), .val (.int v3), .val (.int (own_b g2))] [(.int (own_b g2)), (.int (3 : Int32)), (.ref o2)])) rfl rfl (hb hby d1_343)
                  have Vn53 : Arv Z h53 o2 ko .boolean (4 : Int32) [(.int (own_b a0_)), (.int (own_b true)), (.int (own_b g1)), (.int (nar .boolean (own_b g2)))] (.int (0 : Int32)) := Arv.set Ar53 qk53 sz53 nn53 Hs53 Gs53 (fits_nar_bool _) W53 3 rfl (Nat.le_of_ble_eq_true rfl)
                  have V53 : Arv Z h53 o2 ko .boolean (4 : Int32) [(.int (own_b a0_)), (.int (own_b true)), (.int (own_b g1)), (.int (own_b g2))] (.int (0 : Int32)) := by rw [own_b_nar] at Vn53; exact Vn53
                  have N53 := Fr.snoc X53 N41 g_o2
                  have Z53 : n0 ≤ h53.size := by rw [W53.size]; exact Z41
                  have K53 : Keep h0 h53 [o2, o3] := K41.wr W53 (Or.inl (List.mem_of_getElem? (i := 0) rfl))
                  refine own_go (g' := (mkF m 344 #[.val (.ref o0), .val (.int (1 : Int32)), .val (.ref o2), .val (.ref o3), .val (.int v1), .val (.int len), .val (.int lo), .val (.int hi), .val (.int v3), .val (.int (own_b g2))] [])) (st53) ?_
                  refine own_go (g' := (mkF m 345 #[.val (.ref o0), .val (.int (1 : Int32)), .val (.ref o2), .val (.ref o3), .val (.int v1), .val (.int len), .val (.int lo), .val (.int hi), .val (.int v3), .val (.int (own_b g2))] [(.ref o3)])) (fun _ kgo => XS.aloadN X53.here hx rfl (hb hby d1_344) rfl rfl kgo) ?_
                  refine own_go (g' := (mkF m 346 #[.val (.ref o0), .val (.int (1 : Int32)), .val (.ref o2), .val (.ref o3), .val (.int v1), .val (.int len), .val (.int lo), .val (.int hi), .val (.int v3), .val (.int (own_b g2))] [(.int (1 : Int32)), (.ref o3)])) (fun _ kgo => XS.iloadN X53.here hx rfl (hb hby d1_345) rfl kgo) ?_
                  refine own_go (g' := (mkF m 347 #[.val (.ref o0), .val (.int (1 : Int32)), .val (.ref o2), .val (.ref o3), .val (.int v1), .val (.int len), .val (.int lo), .val (.int hi), .val (.int v3), .val (.int (own_b g2))] [(.int (2 : Int32)), (.int (1 : Int32)), (.ref o3)])) (fun _ kgo => XS.iconst X53.here hx rfl (hb hby d1_346) kgo) ?_
                  refine own_go (g' := (mkF m 348 #[.val (.ref o0), .val (.int (1 : Int32)), .val (.ref o2), .val (.ref o3), .val (.int v1), .val (.int len), .val (.int lo), .val (.int hi), .val (.int v3), .val (.int (own_b g2))] [(.int (3 : Int32)), (.ref o3)])) (fun _ kgo => XS.iadd X53.here hx rfl (hb hby d1_347) rfl kgo) ?_
                  refine own_go (g' := (mkF m 350 #[.val (.ref o0), .val (.int (1 : Int32)), .val (.ref o2), .val (.ref o3), .val (.int v1), .val (.int len), .val (.int lo), .val (.int hi), .val (.int v3), .val (.int (own_b g2))] [(.int len), (.int (3 : Int32)), (.ref o3)])) (fun _ kgo => XS.iload X53.here hx rfl (hb hby d1_348) rfl kgo) ?_
                  refine own_go (g' := (mkF m 351 #[.val (.ref o0), .val (.int (1 : Int32)), .val (.ref o2), .val (.ref o3), .val (.int v1), .val (.int len), .val (.int lo), .val (.int hi), .val (.int v3), .val (.int (own_b g2))] [(.int (3 : Int32)), (.int len), (.int (3 : Int32)), (.ref o3)])) (fun _ kgo => XS.iconst X53.here hx rfl (hb hby d1_350) kgo) ?_
                  have J54 : own_Go p e below (own_Post s QQ 0 0) T53 (mkF m 359 #[.val (.ref o0), .val (.int (1 : Int32)), .val (.ref o2), .val (.ref o3), .val (.int v1), .val (.int len), .val (.int lo), .val (.int hi), .val (.int v3), .val (.int (own_b g2))] [(.int (own_b (decide (len = (3 : Int32))))), (.int (3 : Int32)), (.ref o3)]) := by
                    have fx55 : Arv Z h53 o3 kc .boolean (4 : Int32) [(.int (own_b c0_)), (.int (own_b (decide (len = (1 : Int32))))), (.int (own_b (decide (len = (2 : Int32))))), (.int (own_b c3_))] (.int (0 : Int32)) := (Arv.other V41 W53 (Ne.symm hn23))
                    obtain ⟨cl56, Ar56, qk56, sz56, nn56, Hs56, Gs56⟩ := id fx55
                    have hin56 : ¬ ((3 : Int32) < 0 ∨ cl56.slots.size ≤ ((3 : Int32)).toNatClampNeg) := inb_of sz56 ⟨by decide, by decide⟩
                    obtain ⟨T56, h56, X56, e56, W56, st56⟩ := stZ X53 hx hZ e53 Ar56 (j := (3 : Int32)) hin56 (g := (mkF m 359 #[.val (.ref o0), .val (.int (1 : Int32)), .val (.ref o2), .val (.ref o3), .val (.int v1), .val (.int len), .val (.int lo), .val (.int hi), .val (.int v3), .val (.int (own_b g2))] [(.int (own_b (decide (len = (3 : Int32))))), (.int (3 : Int32)), (.ref o3)])) rfl rfl (hb hby d1_359)
                    have Vn56 : Arv Z h56 o3 kc .boolean (4 : Int32) [(.int (own_b c0_)), (.int (own_b (decide (len = (1 : Int32))))), (.int (own_b (decide (len = (2 : Int32))))), (.int (nar .boolean (own_b (decide (len = (3 : Int32))))))] (.int (0 : Int32)) := Arv.set Ar56 qk56 sz56 nn56 Hs56 Gs56 (fits_nar_bool _) W56 3 rfl (Nat.le_of_ble_eq_true rfl)
                    have V56 : Arv Z h56 o3 kc .boolean (4 : Int32) [(.int (own_b c0_)), (.int (own_b (decide (len = (1 : Int32))))), (.int (own_b (decide (len = (2 : Int32))))), (.int (own_b (decide (len = (3 : Int32)))))] (.int (0 : Int32)) := by rw [own_b_nar] at Vn56; exact Vn56
                    have N56 := Fr.snoc X56 N53 g_o3
                    have Z56 : n0 ≤ h56.size := by rw [W56.size]; exact Z53
                    have K56 : Keep h0 h56 [o2, o3] := K53.wr W56 (Or.inl (List.mem_of_getElem? (i := 1) rfl))
                    refine own_go (g' := (mkF m 360 #[.val (.ref o0), .val (.int (1 : Int32)), .val (.ref o2), .val (.ref o3), .val (.int v1), .val (.int len), .val (.int lo), .val (.int hi), .val (.int v3), .val (.int (own_b g2))] [])) (st56) ?_
                    refine own_go (g' := (mkF m 362 #[.val (.ref o0), .val (.int (1 : Int32)), .val (.ref o2), .val (.ref o3), .val (.int v1), .val (.int len), .val (.int lo), .val (.int hi), .val (.int v3), .val (.int (own_b g2))] [(.int (own_b g2))])) (fun _ kgo => XS.iload X56.here hx rfl (hb hby d1_360) rfl kgo) ?_
                    by_cases hc57 : g2 = true
                    ·
                      refine own_go (g' := (mkF m 367 #[.val (.ref o0), .val (.int (1 : Int32)), .val (.ref o2), .val (.ref o3), .val (.int v1), .val (.int len), .val (.int lo), .val (.int hi), .val (.int v3), .val (.int (own_b g2))] [])) (fun _ kgo => XS.ifYes X56.here hx rfl (pc0 := 362) (pc' := 367) rfl (hb hby d1_362) rfl ((if0 _ _).trans (feq (own_b_n hc57)).2) (by decide) (by decide) kgo) ?_
                      refine own_go (g' := (mkF m 369 #[.val (.ref o0), .val (.int (1 : Int32)), .val (.ref o2), .val (.ref o3), .val (.int v1), .val (.int len), .val (.int lo), .val (.int hi), .val (.int v3), .val (.int (own_b g2))] [(.int len)])) (fun _ kgo => XS.iload X56.here hx rfl (hb hby d1_367) rfl kgo) ?_
                      refine own_go (g' := (mkF m 370 #[.val (.ref o0), .val (.int (1 : Int32)), .val (.ref o2), .val (.ref o3), .val (.int v1), .val (.int len), .val (.int lo), .val (.int hi), .val (.int v3), .val (.int (own_b g2))] [(.int (4 : Int32)), (.int len)])) (fun _ kgo => XS.iconst X56.here hx rfl (hb hby d1_369) kgo) ?_
                      by_cases hc58 : len < (4 : Int32)
                      ·
                        refine own_go (g' := (mkF m 430 #[.val (.ref o0), .val (.int (1 : Int32)), .val (.ref o2), .val (.ref o3), .val (.int v1), .val (.int len), .val (.int lo), .val (.int hi), .val (.int v3), .val (.int (own_b g2))] [])) (fun _ kgo => XS.icmpYes X56.here hx rfl (pc0 := 370) (pc' := 430) rfl (hb hby d1_370) rfl (tlt hc58).1 (by decide) (by decide) kgo) ?_
                        refine own_go (g' := (mkF m 431 #[.val (.ref o0), .val (.int (1 : Int32)), .val (.ref o2), .val (.ref o3), .val (.int v1), .val (.int len), .val (.int lo), .val (.int hi), .val (.int v3), .val (.int (own_b g2))] [(.int (1 : Int32))])) (fun _ kgo => XS.iloadN X56.here hx rfl (hb hby d1_430) rfl kgo) ?_
                        refine own_go (g' := (mkF m 433 #[.val (.ref o0), .val (.int (1 : Int32)), .val (.ref o2), .val (.ref o3), .val (.int v1), .val (.int len), .val (.int lo), .val (.int hi), .val (.int v3), .val (.int (own_b g2))] [(.int len), (.int (1 : Int32))])) (fun _ kgo => XS.iload X56.here hx rfl (hb hby d1_431) rfl kgo) ?_
                        refine own_go (g' := (mkF m 434 #[.val (.ref o0), .val (.int (1 : Int32)), .val (.ref o2), .val (.ref o3), .val (.int v1), .val (.int len), .val (.int lo), .val (.int hi), .val (.int v3), .val (.int (own_b g2))] [(.int ((1 : Int32) + len))])) (fun _ kgo => XS.iadd X56.here hx rfl (hb hby d1_433) rfl kgo) ?_
                        refine own_retI X56 hx Bd.returns Bd.notSynchronized (hb hby d1_434) (by decide) (by decide) ?_
                        show QQ _ T56.heap _
                        rw [e56]
                        have hrel : ((((1 : Int32) + len) = 2 ∧ ∀ t, own_chk ((v1, true, (decide (len = (1 : Int32)))) :: t) 0 128 191 = own_chk t 0 128 191) ∨ (((1 : Int32) + len) = 3 ∧ ∀ t, own_chk ((v1, true, (decide (len = (1 : Int32)))) :: (v2, g1, (decide (len = (2 : Int32)))) :: t) 0 128 191 = own_chk t 0 128 191) ∨ (¬ ((1 : Int32) + len) < 4 ∧ own_chk [(v1, true, (decide (len = (1 : Int32)))), (v2, g1, (decide (len = (2 : Int32)))), (v3, g2, (decide (len = (3 : Int32))))] 0 128 191 = true)) := by
                          rcases hlen with rfl | rfl | rfl | rfl
                          · first | exact absurd hc7 (by decide) | exact absurd hc43 (by decide) | exact absurd hc58 (by decide) | (exact Or.inl (⟨by decide, fun t => by rw [own_f1 hcl (hl1 rfl).1 (hl1 rfl).2 (by decide)]⟩))
                          · first | exact absurd hc7 (by decide) | exact absurd hc43 (by decide) | exact absurd hc58 (by decide) | (exact Or.inr (Or.inl (⟨by decide, fun t => by rw [own_fn hcl (nd := 1) (by decide) (by decide) (by decide), own_nt (nd' := 0) (by decide) (by decide) hg1 hc42 (by decide)]⟩)))
                          · first | exact absurd hc7 (by decide) | exact absurd hc43 (by decide) | exact absurd hc58 (by decide) | (exact Or.inr (Or.inr ((⟨by decide, by rw [own_fn hcl (nd := 2) (by decide) (by decide) (by decide), own_nt (nd' := 1) (by decide) (by decide) hg1 hc42 (by decide), own_nt (nd' := 0) (by decide) (by decide) hg2 hc57 (by decide)]; rfl⟩))))
                          · first | exact absurd hc7 (by decide) | exact absurd hc43 (by decide) | exact absurd hc58 (by decide) | (exact Or.inr (Or.inr ((⟨by decide, by rw [own_fn hcl (nd := 3) (by decide) (by decide) (by decide), own_nt (nd' := 2) (by decide) (by decide) hg1 hc42 (by decide), own_nt (nd' := 1) (by decide) (by decide) hg2 hc57 (by decide)]; rfl⟩))))
                        have fx59 : Arv Z h56 o0 kv .int (4 : Int32) [(.int v0), (.int v1), (.int v2), (.int v3)] (.int (0 : Int32)) := (Arv.other (Arv.other fx49 W53 hn02) W56 hn03)
                        have fx60 : Arv Z h56 o2 ko .boolean (4 : Int32) [(.int (own_b a0_)), (.int (own_b true)), (.int (own_b g1)), (.int (own_b g2))] (.int (0 : Int32)) := (Arv.other V53 W56 hn23)
                        rw [← hQQ]
                        exact ⟨((1 : Int32) + len), true, g1, g2, (decide (len = (1 : Int32))), (decide (len = (2 : Int32))), (decide (len = (3 : Int32))), rfl, N56, K56, hrel, fx59, fx60, V56⟩
                      ·
                        refine own_go (g' := (mkF m 373 #[.val (.ref o0), .val (.int (1 : Int32)), .val (.ref o2), .val (.ref o3), .val (.int v1), .val (.int len), .val (.int lo), .val (.int hi), .val (.int v3), .val (.int (own_b g2))] [])) (fun _ kgo => XS.icmpNo X56.here hx rfl (hb hby d1_370) rfl (flt hc58).1 kgo) ?_
                        refine own_go (g' := (mkF m 374 #[.val (.ref o0), .val (.int (1 : Int32)), .val (.ref o2), .val (.ref o3), .val (.int v1), .val (.int len), .val (.int lo), .val (.int hi), .val (.int v3), .val (.int (own_b g2))] [(.int (1 : Int32))])) (fun _ kgo => XS.iloadN X56.here hx rfl (hb hby d1_373) rfl kgo) ?_
                        refine own_go (g' := (mkF m 375 #[.val (.ref o0), .val (.int (1 : Int32)), .val (.ref o2), .val (.ref o3), .val (.int v1), .val (.int len), .val (.int lo), .val (.int hi), .val (.int v3), .val (.int (own_b g2))] [(.int (3 : Int32)), (.int (1 : Int32))])) (fun _ kgo => XS.iconst X56.here hx rfl (hb hby d1_374) kgo) ?_
                        refine own_go (g' := (mkF m 376 #[.val (.ref o0), .val (.int (1 : Int32)), .val (.ref o2), .val (.ref o3), .val (.int v1), .val (.int len), .val (.int lo), .val (.int hi), .val (.int v3), .val (.int (own_b g2))] [(.int (4 : Int32))])) (fun _ kgo => XS.iadd X56.here hx rfl (hb hby d1_375) rfl kgo) ?_
                        refine own_go (g' := (mkF m 377 #[.val (.ref o0), .val (.int (1 : Int32)), .val (.ref o2), .val (.ref o3), .val (.int v1), .val (.int len), .val (.int lo), .val (.int hi), .val (.int v3), .val (.int (own_b g2))] [(.int (4 : Int32)), (.int (4 : Int32))])) (fun _ kgo => XS.iconst X56.here hx rfl (hb hby d1_376) kgo) ?_
                        refine own_go (g' := (mkF m 430 #[.val (.ref o0), .val (.int (1 : Int32)), .val (.ref o2), .val (.ref o3), .val (.int v1), .val (.int len), .val (.int lo), .val (.int hi), .val (.int v3), .val (.int (own_b g2))] [])) (fun _ kgo => XS.icmpYes X56.here hx rfl (pc0 := 377) (pc' := 430) rfl (hb hby d1_377) rfl (flt (by decide)).2.1 (by decide) (by decide) kgo) ?_
                        refine own_go (g' := (mkF m 431 #[.val (.ref o0), .val (.int (1 : Int32)), .val (.ref o2), .val (.ref o3), .val (.int v1), .val (.int len), .val (.int lo), .val (.int hi), .val (.int v3), .val (.int (own_b g2))] [(.int (1 : Int32))])) (fun _ kgo => XS.iloadN X56.here hx rfl (hb hby d1_430) rfl kgo) ?_
                        refine own_go (g' := (mkF m 433 #[.val (.ref o0), .val (.int (1 : Int32)), .val (.ref o2), .val (.ref o3), .val (.int v1), .val (.int len), .val (.int lo), .val (.int hi), .val (.int v3), .val (.int (own_b g2))] [(.int len), (.int (1 : Int32))])) (fun _ kgo => XS.iload X56.here hx rfl (hb hby d1_431) rfl kgo) ?_
                        refine own_go (g' := (mkF m 434 #[.val (.ref o0), .val (.int (1 : Int32)), .val (.ref o2), .val (.ref o3), .val (.int v1), .val (.int len), .val (.int lo), .val (.int hi), .val (.int v3), .val (.int (own_b g2))] [(.int ((1 : Int32) + len))])) (fun _ kgo => XS.iadd X56.here hx rfl (hb hby d1_433) rfl kgo) ?_
                        refine own_retI X56 hx Bd.returns Bd.notSynchronized (hb hby d1_434) (by decide) (by decide) ?_
                        show QQ _ T56.heap _
                        rw [e56]
                        have hrel : ((((1 : Int32) + len) = 2 ∧ ∀ t, own_chk ((v1, true, (decide (len = (1 : Int32)))) :: t) 0 128 191 = own_chk t 0 128 191) ∨ (((1 : Int32) + len) = 3 ∧ ∀ t, own_chk ((v1, true, (decide (len = (1 : Int32)))) :: (v2, g1, (decide (len = (2 : Int32)))) :: t) 0 128 191 = own_chk t 0 128 191) ∨ (¬ ((1 : Int32) + len) < 4 ∧ own_chk [(v1, true, (decide (len = (1 : Int32)))), (v2, g1, (decide (len = (2 : Int32)))), (v3, g2, (decide (len = (3 : Int32))))] 0 128 191 = true)) := by
                          rcases hlen with rfl | rfl | rfl | rfl
                          · first | exact absurd hc7 (by decide) | exact absurd hc43 (by decide) | exact absurd hc58 (by decide) | (exact Or.inl (⟨by decide, fun t => by rw [own_f1 hcl (hl1 rfl).1 (hl1 rfl).2 (by decide)]⟩))
                          · first | exact absurd hc7 (by decide) | exact absurd hc43 (by decide) | exact absurd hc58 (by decide) | (exact Or.inr (Or.inl (⟨by decide, fun t => by rw [own_fn hcl (nd := 1) (by decide) (by decide) (by decide), own_nt (nd' := 0) (by decide) (by decide) hg1 hc42 (by decide)]⟩)))
                          · first | exact absurd hc7 (by decide) | exact absurd hc43 (by decide) | exact absurd hc58 (by decide) | (exact Or.inr (Or.inr ((⟨by decide, by rw [own_fn hcl (nd := 2) (by decide) (by decide) (by decide), own_nt (nd' := 1) (by decide) (by decide) hg1 hc42 (by decide), own_nt (nd' := 0) (by decide) (by decide) hg2 hc57 (by decide)]; rfl⟩))))
                          · first | exact absurd hc7 (by decide) | exact absurd hc43 (by decide) | exact absurd hc58 (by decide) | (exact Or.inr (Or.inr ((⟨by decide, by rw [own_fn hcl (nd := 3) (by decide) (by decide) (by decide), own_nt (nd' := 2) (by decide) (by decide) hg1 hc42 (by decide), own_nt (nd' := 1) (by decide) (by decide) hg2 hc57 (by decide)]; rfl⟩))))
                        have fx61 : Arv Z h56 o0 kv .int (4 : Int32) [(.int v0), (.int v1), (.int v2), (.int v3)] (.int (0 : Int32)) := (Arv.other (Arv.other fx49 W53 hn02) W56 hn03)
                        have fx62 : Arv Z h56 o2 ko .boolean (4 : Int32) [(.int (own_b a0_)), (.int (own_b true)), (.int (own_b g1)), (.int (own_b g2))] (.int (0 : Int32)) := (Arv.other V53 W56 hn23)
                        rw [← hQQ]
                        exact ⟨((1 : Int32) + len), true, g1, g2, (decide (len = (1 : Int32))), (decide (len = (2 : Int32))), (decide (len = (3 : Int32))), rfl, N56, K56, hrel, fx61, fx62, V56⟩
                    ·
                      refine own_go (g' := (mkF m 365 #[.val (.ref o0), .val (.int (1 : Int32)), .val (.ref o2), .val (.ref o3), .val (.int v1), .val (.int len), .val (.int lo), .val (.int hi), .val (.int v3), .val (.int (own_b g2))] [])) (fun _ kgo => XS.ifNo X56.here hx rfl (hb hby d1_362) rfl ((if0 _ _).trans (teq (own_b_f hc57)).2) kgo) ?_
                      refine own_go (g' := (mkF m 366 #[.val (.ref o0), .val (.int (1 : Int32)), .val (.ref o2), .val (.ref o3), .val (.int v1), .val (.int len), .val (.int lo), .val (.int hi), .val (.int v3), .val (.int (own_b g2))] [(.int (4 : Int32))])) (fun _ kgo => XS.iconst X56.here hx rfl (hb hby d1_365) kgo) ?_
                      refine own_retI X56 hx Bd.returns Bd.notSynchronized (hb hby d1_366) (by decide) (by decide) ?_
                      show QQ _ T56.heap _
                      rw [e56]
                      have hrel : (((4 : Int32) = 2 ∧ ∀ t, own_chk ((v1, true, (decide (len = (1 : Int32)))) :: t) 0 128 191 = own_chk t 0 128 191) ∨ ((4 : Int32) = 3 ∧ ∀ t, own_chk ((v1, true, (decide (len = (1 : Int32)))) :: (v2, g1, (decide (len = (2 : Int32)))) :: t) 0 128 191 = own_chk t 0 128 191) ∨ (¬ (4 : Int32) < 4 ∧ own_chk [(v1, true, (decide (len = (1 : Int32)))), (v2, g1, (decide (len = (2 : Int32)))), (v3, g2, (decide (len = (3 : Int32))))] 0 128 191 = true)) := by
                        rcases hlen with rfl | rfl | rfl | rfl
                        · first | exact absurd hc7 (by decide) | exact absurd hc43 (by decide) | (exact Or.inl (⟨by decide, fun t => by rw [own_f1 hcl (hl1 rfl).1 (hl1 rfl).2 (by decide)]⟩))
                        · first | exact absurd hc7 (by decide) | exact absurd hc43 (by decide) | (exact Or.inr (Or.inl (⟨by decide, fun t => by rw [own_fn hcl (nd := 1) (by decide) (by decide) (by decide), own_nt (nd' := 0) (by decide) (by decide) hg1 hc42 (by decide)]⟩)))
                        · first | exact absurd hc7 (by decide) | exact absurd hc43 (by decide) | (exact Or.inr (Or.inr ((⟨by decide, by rw [own_fn hcl (nd := 2) (by decide) (by decide) (by decide), own_nt (nd' := 1) (by decide) (by decide) hg1 hc42 (by decide)]; exact own_nf (by decide) hg2 hc57⟩))))
                        · first | exact absurd hc7 (by decide) | exact absurd hc43 (by decide) | (exact Or.inr (Or.inr ((⟨by decide, by rw [own_fn hcl (nd := 3) (by decide) (by decide) (by decide), own_nt (nd' := 2) (by decide) (by decide) hg1 hc42 (by decide)]; exact own_nf (by decide) hg2 hc57⟩))))
                      have fx63 : Arv Z h56 o0 kv .int (4 : Int32) [(.int v0), (.int v1), (.int v2), (.int v3)] (.int (0 : Int32)) := (Arv.other (Arv.other fx49 W53 hn02) W56 hn03)
                      have fx64 : Arv Z h56 o2 ko .boolean (4 : Int32) [(.int (own_b a0_)), (.int (own_b true)), (.int (own_b g1)), (.int (own_b g2))] (.int (0 : Int32)) := (Arv.other V53 W56 hn23)
                      rw [← hQQ]
                      exact ⟨(4 : Int32), true, g1, g2, (decide (len = (1 : Int32))), (decide (len = (2 : Int32))), (decide (len = (3 : Int32))), rfl, N56, K56, hrel, fx63, fx64, V56⟩
                  by_cases hc65 : len = (3 : Int32)
                  ·
                    refine own_go (g' := (mkF m 354 #[.val (.ref o0), .val (.int (1 : Int32)), .val (.ref o2), .val (.ref o3), .val (.int v1), .val (.int len), .val (.int lo), .val (.int hi), .val (.int v3), .val (.int (own_b g2))] [(.int (3 : Int32)), (.ref o3)])) (fun _ kgo => XS.icmpNo X53.here hx rfl (hb hby d1_351) rfl (teq hc65).2 kgo) ?_
                    refine own_go (g' := (mkF m 355 #[.val (.ref o0), .val (.int (1 : Int32)), .val (.ref o2), .val (.ref o3), .val (.int v1), .val (.int len), .val (.int lo), .val (.int hi), .val (.int v3), .val (.int (own_b g2))] [(.int (1 : Int32)), (.int (3 : Int32)), (.ref o3)])) (fun _ kgo => XS.iconst X53.here hx rfl (hb hby d1_354) kgo) ?_
                    refine own_go (g' := (mkF m 359 #[.val (.ref o0), .val (.int (1 : Int32)), .val (.ref o2), .val (.ref o3), .val (.int v1), .val (.int len), .val (.int lo), .val (.int hi), .val (.int v3), .val (.int (own_b g2))] [(.int (1 : Int32)), (.int (3 : Int32)), (.ref o3)])) (fun _ kgo => XS.goto X53.here hx rfl (pc0 := 355) (pc' := 359) rfl (hb hby d1_355) (by decide) (by decide) kgo) ?_
                    have hE54 : own_b (decide (len = (3 : Int32))) = (1 : Int32) := by simp only [decide_eq_true hc65]; first | done | rfl
                    exact own_cast (by rw [hE54]) J54
                  ·
                    refine own_go (g' := (mkF m 358 #[.val (.ref o0), .val (.int (1 : Int32)), .val (.ref o2), .val (.ref o3), .val (.int v1), .val (.int len), .val (.int lo), .val (.int hi), .val (.int v3), .val (.int (own_b g2))] [(.int (3 : Int32)), (.ref o3)])) (fun _ kgo => XS.icmpYes X53.here hx rfl (pc0 := 351) (pc' := 358) rfl (hb hby d1_351) rfl (feq hc65).2 (by decide) (by decide) kgo) ?_
                    refine own_go (g' := (mkF m 359 #[.val (.ref o0), .val (.int (1 : Int32)), .val (.ref o2), .val (.ref o3), .val (.int v1), .val (.int len), .val (.int lo), .val (.int hi), .val (.int v3), .val (.int (own_b g2))] [(.int (0 : Int32)), (.int (3 : Int32)), (.ref o3)])) (fun _ kgo => XS.iconst X53.here hx rfl (hb hby d1_358) kgo) ?_
                    have hE54 : own_b (decide (len = (3 : Int32))) = (0 : Int32) := by simp only [decide_eq_false hc65]; first | done | rfl
                    exact own_cast (by rw [hE54]) J54
                by_cases hc66 : v3 < (128 : Int32)
                ·
                  refine own_go (g' := (mkF m 334 #[.val (.ref o0), .val (.int (1 : Int32)), .val (.ref o2), .val (.ref o3), .val (.int v1), .val (.int len), .val (.int lo), .val (.int hi), .val (.int v3), .val (.int (own_b g1))] [])) (fun _ kgo => XS.icmpYes X41.here hx rfl (pc0 := 319) (pc' := 334) rfl (hb hby d1_319) rfl (tlt hc66).1 (by decide) (by decide) kgo) ?_
                  refine own_go (g' := (mkF m 335 #[.val (.ref o0), .val (.int (1 : Int32)), .val (.ref o2), .val (.ref o3), .val (.int v1), .val (.int len), .val (.int lo), .val (.int hi), .val (.int v3), .val (.int (own_b g1))] [(.int (0 : Int32))])) (fun _ kgo => XS.iconst X41.here hx rfl (hb hby d1_334) kgo) ?_
                  have hE51 : own_b ((!decide (v3 < (128 : Int32)) && !decide ((191 : Int32) < v3))) = (0 : Int32) := by simp only [decide_eq_true hc66]; first | done | rfl
                  exact own_cast (by rw [hE51]) J51
                ·
                  refine own_go (g' := (mkF m 322 #[.val (.ref o0), .val (.int (1 : Int32)), .val (.ref o2), .val (.ref o3), .val (.int v1), .val (.int len), .val (.int lo), .val (.int hi), .val (.int v3), .val (.int (own_b g1))] [])) (fun _ kgo => XS.icmpNo X41.here hx rfl (hb hby d1_319) rfl (flt hc66).1 kgo) ?_
                  refine own_go (g' := (mkF m 324 #[.val (.ref o0), .val (.int (1 : Int32)), .val (.ref o2), .val (.ref o3), .val (.int v1), .val (.int len), .val (.int lo), .val (.int hi), .val (.int v3), .val (.int (own_b g1))] [(.int v3)])) (fun _ kgo => XS.iload X41.here hx rfl (hb hby d1_322) rfl kgo) ?_
                  refine own_go (g' := (mkF m 327 #[.val (.ref o0), .val (.int (1 : Int32)), .val (.ref o2), .val (.ref o3), .val (.int v1), .val (.int len), .val (.int lo), .val (.int hi), .val (.int v3), .val (.int (own_b g1))] [(.int (191 : Int32)), (.int v3)])) (fun _ kgo => XS.sipush X41.here hx rfl (hb hby d1_324) kgo) ?_
                  have J67 : own_Go p e below (own_Post s QQ 0 0) T41 (mkF m 335 #[.val (.ref o0), .val (.int (1 : Int32)), .val (.ref o2), .val (.ref o3), .val (.int v1), .val (.int len), .val (.int lo), .val (.int hi), .val (.int v3), .val (.int (own_b g1))] [(.int (own_b (!decide ((191 : Int32) < v3))))]) := by
                    have hE51 : own_b ((!decide (v3 < (128 : Int32)) && !decide ((191 : Int32) < v3))) = (own_b (!decide ((191 : Int32) < v3))) := by simp only [decide_eq_false hc66]; first | done | rfl
                    exact own_cast (by rw [hE51]) J51
                  by_cases hc68 : (191 : Int32) < v3
                  ·
                    refine own_go (g' := (mkF m 334 #[.val (.ref o0), .val (.int (1 : Int32)), .val (.ref o2), .val (.ref o3), .val (.int v1), .val (.int len), .val (.int lo), .val (.int hi), .val (.int v3), .val (.int (own_b g1))] [])) (fun _ kgo => XS.icmpYes X41.here hx rfl (pc0 := 327) (pc' := 334) rfl (hb hby d1_327) rfl (tlt hc68).2.2.1 (by decide) (by decide) kgo) ?_
                    refine own_go (g' := (mkF m 335 #[.val (.ref o0), .val (.int (1 : Int32)), .val (.ref o2), .val (.ref o3), .val (.int v1), .val (.int len), .val (.int lo), .val (.int hi), .val (.int v3), .val (.int (own_b g1))] [(.int (0 : Int32))])) (fun _ kgo => XS.iconst X41.here hx rfl (hb hby d1_334) kgo) ?_
                    have hE67 : own_b (!decide ((191 : Int32) < v3)) = (0 : Int32) := by simp only [decide_eq_true hc68]; first | done | rfl
                    exact own_cast (by rw [hE67]) J67
                  ·
                    refine own_go (g' := (mkF m 330 #[.val (.ref o0), .val (.int (1 : Int32)), .val (.ref o2), .val (.ref o3), .val (.int v1), .val (.int len), .val (.int lo), .val (.int hi), .val (.int v3), .val (.int (own_b g1))] [])) (fun _ kgo => XS.icmpNo X41.here hx rfl (hb hby d1_327) rfl (flt hc68).2.2.1 kgo) ?_
                    refine own_go (g' := (mkF m 331 #[.val (.ref o0), .val (.int (1 : Int32)), .val (.ref o2), .val (.ref o3), .val (.int v1), .val (.int len), .val (.int lo), .val (.int hi), .val (.int v3), .val (.int (own_b g1))] [(.int (1 : Int32))])) (fun _ kgo => XS.iconst X41.here hx rfl (hb hby d1_330) kgo) ?_
                    refine own_go (g' := (mkF m 335 #[.val (.ref o0), .val (.int (1 : Int32)), .val (.ref o2), .val (.ref o3), .val (.int v1), .val (.int len), .val (.int lo), .val (.int hi), .val (.int v3), .val (.int (own_b g1))] [(.int (1 : Int32))])) (fun _ kgo => XS.goto X41.here hx rfl (pc0 := 331) (pc' := 335) rfl (hb hby d1_331) (by decide) (by decide) kgo) ?_
                    have hE67 : own_b (!decide ((191 : Int32) < v3)) = (1 : Int32) := by simp only [decide_eq_false hc68]; first | done | rfl
                    exact own_cast (by rw [hE67]) J67
            ·
              refine own_go (g' := (mkF m 292 #[.val (.ref o0), .val (.int (1 : Int32)), .val (.ref o2), .val (.ref o3), .val (.int v1), .val (.int len), .val (.int lo), .val (.int hi), .val (.int v2), .val (.int (own_b g1))] [])) (fun _ kgo => XS.ifNo X41.here hx rfl (hb hby d1_289) rfl ((if0 _ _).trans (teq (own_b_f hc42)).2) kgo) ?_
              refine own_go (g' := (mkF m 293 #[.val (.ref o0), .val (.int (1 : Int32)), .val (.ref o2), .val (.ref o3), .val (.int v1), .val (.int len), .val (.int lo), .val (.int hi), .val (.int v2), .val (.int (own_b g1))] [(.int (4 : Int32))])) (fun _ kgo => XS.iconst X41.here hx rfl (hb hby d1_292) kgo) ?_
              refine own_retI X41 hx Bd.returns Bd.notSynchronized (hb hby d1_293) (by decide) (by decide) ?_
              show QQ _ T41.heap _
              rw [e41]
              have hrel : (((4 : Int32) = 2 ∧ ∀ t, own_chk ((v1, true, (decide (len = (1 : Int32)))) :: t) 0 128 191 = own_chk t 0 128 191) ∨ ((4 : Int32) = 3 ∧ ∀ t, own_chk ((v1, true, (decide (len = (1 : Int32)))) :: (v2, g1, (decide (len = (2 : Int32)))) :: t) 0 128 191 = own_chk t 0 128 191) ∨ (¬ (4 : Int32) < 4 ∧ own_chk [(v1, true, (decide (len = (1 : Int32)))), (v2, g1, (decide (len = (2 : Int32)))), (v3, a3_, c3_)] 0 128 191 = true)) := by
                rcases hlen with rfl | rfl | rfl | rfl
                · first | exact absurd hc7 (by decide) | (exact Or.inl (⟨by decide, fun t => by rw [own_f1 hcl (hl1 rfl).1 (hl1 rfl).2 (by decide)]⟩))
                · first | exact absurd hc7 (by decide) | (exact Or.inr (Or.inr ((⟨by decide, by rw [own_fn hcl (nd := 1) (by decide) (by decide) (by decide)]; exact own_nf (by decide) hg1 hc42⟩))))
                · first | exact absurd hc7 (by decide) | (exact Or.inr (Or.inr ((⟨by decide, by rw [own_fn hcl (nd := 2) (by decide) (by decide) (by decide)]; exact own_nf (by decide) hg1 hc42⟩))))
                · first | exact absurd hc7 (by decide) | (exact Or.inr (Or.inr ((⟨by decide, by rw [own_fn hcl (nd := 3) (by decide) (by decide) (by decide)]; exact own_nf (by decide) hg1 hc42⟩))))
              have fx69 : Arv Z h41 o0 kv .int (4 : Int32) [(.int v0), (.int v1), (.int v2), (.int v3)] (.int (0 : Int32)) := (Arv.other (Arv.other fx34 W38 hn02) W41 hn03)
              have fx70 : Arv Z h41 o2 ko .boolean (4 : Int32) [(.int (own_b a0_)), (.int (own_b true)), (.int (own_b g1)), (.int (own_b a3_))] (.int (0 : Int32)) := (Arv.other V38 W41 hn23)
              rw [← hQQ]
              exact ⟨(4 : Int32), true, g1, a3_, (decide (len = (1 : Int32))), (decide (len = (2 : Int32))), c3_, rfl, N41, K41, hrel, fx69, fx70, V41⟩
          by_cases hc71 : len = (2 : Int32)
          ·
            refine own_go (g' := (mkF m 281 #[.val (.ref o0), .val (.int (1 : Int32)), .val (.ref o2), .val (.ref o3), .val (.int v1), .val (.int len), .val (.int lo), .val (.int hi), .val (.int v2), .val (.int (own_b g1))] [(.int (2 : Int32)), (.ref o3)])) (fun _ kgo => XS.icmpNo X38.here hx rfl (hb hby d1_278) rfl (teq hc71).2 kgo) ?_
            refine own_go (g' := (mkF m 282 #[.val (.ref o0), .val (.int (1 : Int32)), .val (.ref o2), .val (.ref o3), .val (.int v1), .val (.int len), .val (.int lo), .val (.int hi), .val (.int v2), .val (.int (own_b g1))] [(.int (1 : Int32)), (.int (2 : Int32)), (.ref o3)])) (fun _ kgo => XS.iconst X38.here hx rfl (hb hby d1_281) kgo) ?_
            refine own_go (g' := (mkF m 286 #[.val (.ref o0), .val (.int (1 : Int32)), .val (.ref o2), .val (.ref o3), .val (.int v1), .val (.int len), .val (.int lo), .val (.int hi), .val (.int v2), .val (.int (own_b g1))] [(.int (1 : Int32)), (.int (2 : Int32)), (.ref o3)])) (fun _ kgo => XS.goto X38.here hx rfl (pc0 := 282) (pc' := 286) rfl (hb hby d1_282) (by decide) (by decide) kgo) ?_
            have hE39 : own_b (decide (len = (2 : Int32))) = (1 : Int32) := by simp only [decide_eq_true hc71]; first | done | rfl
            exact own_cast (by rw [hE39]) J39
          ·
            refine own_go (g' := (mkF m 285 #[.val (.ref o0), .val (.int (1 : Int32)), .val (.ref o2), .val (.ref o3), .val (.int v1), .val (.int len), .val (.int lo), .val (.int hi), .val (.int v2), .val (.int (own_b g1))] [(.int (2 : Int32)), (.ref o3)])) (fun _ kgo => XS.icmpYes X38.here hx rfl (pc0 := 278) (pc' := 285) rfl (hb hby d1_278) rfl (feq hc71).2 (by decide) (by decide) kgo) ?_
            refine own_go (g' := (mkF m 286 #[.val (.ref o0), .val (.int (1 : Int32)), .val (.ref o2), .val (.ref o3), .val (.int v1), .val (.int len), .val (.int lo), .val (.int hi), .val (.int v2), .val (.int (own_b g1))] [(.int (0 : Int32)), (.int (2 : Int32)), (.ref o3)])) (fun _ kgo => XS.iconst X38.here hx rfl (hb hby d1_285) kgo) ?_
            have hE39 : own_b (decide (len = (2 : Int32))) = (0 : Int32) := by simp only [decide_eq_false hc71]; first | done | rfl
            exact own_cast (by rw [hE39]) J39
        by_cases hc72 : v2 < lo
        ·
          refine own_go (g' := (mkF m 261 #[.val (.ref o0), .val (.int (1 : Int32)), .val (.ref o2), .val (.ref o3), .val (.int v1), .val (.int len), .val (.int lo), .val (.int hi), .val (.int v2), .unset] [])) (fun _ kgo => XS.icmpYes X6.here hx rfl (pc0 := 247) (pc' := 261) rfl (hb hby d1_247) rfl (tlt hc72).1 (by decide) (by decide) kgo) ?_
          refine own_go (g' := (mkF m 262 #[.val (.ref o0), .val (.int (1 : Int32)), .val (.ref o2), .val (.ref o3), .val (.int v1), .val (.int len), .val (.int lo), .val (.int hi), .val (.int v2), .unset] [(.int (0 : Int32))])) (fun _ kgo => XS.iconst X6.here hx rfl (hb hby d1_261) kgo) ?_
          have hE36 : own_b ((!decide (v2 < lo) && !decide (hi < v2))) = (0 : Int32) := by simp only [decide_eq_true hc72]; first | done | rfl
          exact own_cast (by rw [hE36]) J36
        ·
          refine own_go (g' := (mkF m 250 #[.val (.ref o0), .val (.int (1 : Int32)), .val (.ref o2), .val (.ref o3), .val (.int v1), .val (.int len), .val (.int lo), .val (.int hi), .val (.int v2), .unset] [])) (fun _ kgo => XS.icmpNo X6.here hx rfl (hb hby d1_247) rfl (flt hc72).1 kgo) ?_
          refine own_go (g' := (mkF m 252 #[.val (.ref o0), .val (.int (1 : Int32)), .val (.ref o2), .val (.ref o3), .val (.int v1), .val (.int len), .val (.int lo), .val (.int hi), .val (.int v2), .unset] [(.int v2)])) (fun _ kgo => XS.iload X6.here hx rfl (hb hby d1_250) rfl kgo) ?_
          refine own_go (g' := (mkF m 254 #[.val (.ref o0), .val (.int (1 : Int32)), .val (.ref o2), .val (.ref o3), .val (.int v1), .val (.int len), .val (.int lo), .val (.int hi), .val (.int v2), .unset] [(.int hi), (.int v2)])) (fun _ kgo => XS.iload X6.here hx rfl (hb hby d1_252) rfl kgo) ?_
          have J73 : own_Go p e below (own_Post s QQ 0 0) T6 (mkF m 262 #[.val (.ref o0), .val (.int (1 : Int32)), .val (.ref o2), .val (.ref o3), .val (.int v1), .val (.int len), .val (.int lo), .val (.int hi), .val (.int v2), .unset] [(.int (own_b (!decide (hi < v2))))]) := by
            have hE36 : own_b ((!decide (v2 < lo) && !decide (hi < v2))) = (own_b (!decide (hi < v2))) := by simp only [decide_eq_false hc72]; first | done | rfl
            exact own_cast (by rw [hE36]) J36
          by_cases hc74 : hi < v2
          ·
            refine own_go (g' := (mkF m 261 #[.val (.ref o0), .val (.int (1 : Int32)), .val (.ref o2), .val (.ref o3), .val (.int v1), .val (.int len), .val (.int lo), .val (.int hi), .val (.int v2), .unset] [])) (fun _ kgo => XS.icmpYes X6.here hx rfl (pc0 := 254) (pc' := 261) rfl (hb hby d1_254) rfl (tlt hc74).2.2.1 (by decide) (by decide) kgo) ?_
            refine own_go (g' := (mkF m 262 #[.val (.ref o0), .val (.int (1 : Int32)), .val (.ref o2), .val (.ref o3), .val (.int v1), .val (.int len), .val (.int lo), .val (.int hi), .val (.int v2), .unset] [(.int (0 : Int32))])) (fun _ kgo => XS.iconst X6.here hx rfl (hb hby d1_261) kgo) ?_
            have hE73 : own_b (!decide (hi < v2)) = (0 : Int32) := by simp only [decide_eq_true hc74]; first | done | rfl
            exact own_cast (by rw [hE73]) J73
          ·
            refine own_go (g' := (mkF m 257 #[.val (.ref o0), .val (.int (1 : Int32)), .val (.ref o2), .val (.ref o3), .val (.int v1), .val (.int len), .val (.int lo), .val (.int hi), .val (.int v2), .unset] [])) (fun _ kgo => XS.icmpNo X6.here hx rfl (hb hby d1_254) rfl (flt hc74).2.2.1 kgo) ?_
            refine own_go (g' := (mkF m 258 #[.val (.ref o0), .val (.int (1 : Int32)), .val (.ref o2), .val (.ref o3), .val (.int v1), .val (.int len), .val (.int lo), .val (.int hi), .val (.int v2), .unset] [(.int (1 : Int32))])) (fun _ kgo => XS.iconst X6.here hx rfl (hb hby d1_257) kgo) ?_
            refine own_go (g' := (mkF m 262 #[.val (.ref o0), .val (.int (1 : Int32)), .val (.ref o2), .val (.ref o3), .val (.int v1), .val (.int len), .val (.int lo), .val (.int hi), .val (.int v2), .unset] [(.int (1 : Int32))])) (fun _ kgo => XS.goto X6.here hx rfl (pc0 := 258) (pc' := 262) rfl (hb hby d1_258) (by decide) (by decide) kgo) ?_
            have hE73 : own_b (!decide (hi < v2)) = (1 : Int32) := by simp only [decide_eq_false hc74]; first | done | rfl
            exact own_cast (by rw [hE73]) J73
    by_cases hc75 : len = (1 : Int32)
    ·
      refine own_go (g' := (mkF m 217 #[.val (.ref o0), .val (.int (1 : Int32)), .val (.ref o2), .val (.ref o3), .val (.int v1), .val (.int len), .val (.int lo), .val (.int hi), .unset, .unset] [(.int (1 : Int32)), (.ref o3)])) (fun _ kgo => XS.icmpNo X3.here hx rfl (hb hby d1_214) rfl (teq hc75).2 kgo) ?_
      refine own_go (g' := (mkF m 218 #[.val (.ref o0), .val (.int (1 : Int32)), .val (.ref o2), .val (.ref o3), .val (.int v1), .val (.int len), .val (.int lo), .val (.int hi), .unset, .unset] [(.int (1 : Int32)), (.int (1 : Int32)), (.ref o3)])) (fun _ kgo => XS.iconst X3.here hx rfl (hb hby d1_217) kgo) ?_
      refine own_go (g' := (mkF m 222 #[.val (.ref o0), .val (.int (1 : Int32)), .val (.ref o2), .val (.ref o3), .val (.int v1), .val (.int len), .val (.int lo), .val (.int hi), .unset, .unset] [(.int (1 : Int32)), (.int (1 : Int32)), (.ref o3)])) (fun _ kgo => XS.goto X3.here hx rfl (pc0 := 218) (pc' := 222) rfl (hb hby d1_218) (by decide) (by decide) kgo) ?_
      have hE4 : own_b (decide (len = (1 : Int32))) = (1 : Int32) := by simp only [decide_eq_true hc75]; first | done | rfl
      exact own_cast (by rw [hE4]) J4
    ·
      refine own_go (g' := (mkF m 221 #[.val (.ref o0), .val (.int (1 : Int32)), .val (.ref o2), .val (.ref o3), .val (.int v1), .val (.int len), .val (.int lo), .val (.int hi), .unset, .unset] [(.int (1 : Int32)), (.ref o3)])) (fun _ kgo => XS.icmpYes X3.here hx rfl (pc0 := 214) (pc' := 221) rfl (hb hby d1_214) rfl (feq hc75).2 (by decide) (by decide) kgo) ?_
      refine own_go (g' := (mkF m 222 #[.val (.ref o0), .val (.int (1 : Int32)), .val (.ref o2), .val (.ref o3), .val (.int v1), .val (.int len), .val (.int lo), .val (.int hi), .unset, .unset] [(.int (0 : Int32)), (.int (1 : Int32)), (.ref o3)])) (fun _ kgo => XS.iconst X3.here hx rfl (hb hby d1_221) kgo) ?_
      have hE4 : own_b (decide (len = (1 : Int32))) = (0 : Int32) := by simp only [decide_eq_false hc75]; first | done | rfl
      exact own_cast (by rw [hE4]) J4
  by_cases hc76 : (127 : Int32) < v1
  ·
    refine own_go (g' := (mkF m 35 #[.val (.ref o0), .val (.int (1 : Int32)), .val (.ref o2), .val (.ref o3), .val (.int v1), .unset, .val (.int (128 : Int32)), .val (.int (191 : Int32)), .unset, .unset] [])) (fun _ kgo => XS.icmpYes X0.here hx rfl (pc0 := 26) (pc' := 35) rfl (hb hby d1_26) rfl (tlt hc76).2.2.1 (by decide) (by decide) kgo) ?_
    refine own_go (g' := (mkF m 37 #[.val (.ref o0), .val (.int (1 : Int32)), .val (.ref o2), .val (.ref o3), .val (.int v1), .unset, .val (.int (128 : Int32)), .val (.int (191 : Int32)), .unset, .unset] [(.int v1)])) (fun _ kgo => XS.iload X0.here hx rfl (hb hby d1_35) rfl kgo) ?_
    refine own_go (g' := (mkF m 40 #[.val (.ref o0), .val (.int (1 : Int32)), .val (.ref o2), .val (.ref o3), .val (.int v1), .unset, .val (.int (128 : Int32)), .val (.int (191 : Int32)), .unset, .unset] [(.int (194 : Int32)), (.int v1)])) (fun _ kgo => XS.sipush X0.here hx rfl (hb hby d1_37) kgo) ?_
    have J77 : (¬ (¬ v1 < (194 : Int32) ∧ ¬ (223 : Int32) < v1)) → own_Go p e below (own_Post s QQ 0 0) s₁ (mkF m 57 #[.val (.ref o0), .val (.int (1 : Int32)), .val (.ref o2), .val (.ref o3), .val (.int v1), .unset, .val (.int (128 : Int32)), .val (.int (191 : Int32)), .unset, .unset] []) := by
      intro h57
      refine own_go (g' := (mkF m 59 #[.val (.ref o0), .val (.int (1 : Int32)), .val (.ref o2), .val (.ref o3), .val (.int v1), .unset, .val (.int (128 : Int32)), .val (.int (191 : Int32)), .unset, .unset] [(.int v1)])) (fun _ kgo => XS.iload X0.here hx rfl (hb hby d1_57) rfl kgo) ?_
      refine own_go (g' := (mkF m 62 #[.val (.ref o0), .val (.int (1 : Int32)), .val (.ref o2), .val (.ref o3), .val (.int v1), .unset, .val (.int (128 : Int32)), .val (.int (191 : Int32)), .unset, .unset] [(.int (224 : Int32)), (.int v1)])) (fun _ kgo => XS.sipush X0.here hx rfl (hb hby d1_59) kgo) ?_
      by_cases hc78 : v1 = (224 : Int32)
      ·
        refine own_go (g' := (mkF m 65 #[.val (.ref o0), .val (.int (1 : Int32)), .val (.ref o2), .val (.ref o3), .val (.int v1), .unset, .val (.int (128 : Int32)), .val (.int (191 : Int32)), .unset, .unset] [])) (fun _ kgo => XS.icmpNo X0.here hx rfl (hb hby d1_62) rfl (teq hc78).2 kgo) ?_
        refine own_go (g' := (mkF m 66 #[.val (.ref o0), .val (.int (1 : Int32)), .val (.ref o2), .val (.ref o3), .val (.int v1), .unset, .val (.int (128 : Int32)), .val (.int (191 : Int32)), .unset, .unset] [(.int (3 : Int32))])) (fun _ kgo => XS.iconst X0.here hx rfl (hb hby d1_65) kgo) ?_
        refine own_go (g' := (mkF m 68 #[.val (.ref o0), .val (.int (1 : Int32)), .val (.ref o2), .val (.ref o3), .val (.int v1), .val (.int (3 : Int32)), .val (.int (128 : Int32)), .val (.int (191 : Int32)), .unset, .unset] [])) (fun _ kgo => XS.istore X0.here hx rfl (hb hby d1_66) rfl (l' := #[.val (.ref o0), .val (.int (1 : Int32)), .val (.ref o2), .val (.ref o3), .val (.int v1), .val (.int (3 : Int32)), .val (.int (128 : Int32)), .val (.int (191 : Int32)), .unset, .unset]) rfl kgo) ?_
        refine own_go (g' := (mkF m 71 #[.val (.ref o0), .val (.int (1 : Int32)), .val (.ref o2), .val (.ref o3), .val (.int v1), .val (.int (3 : Int32)), .val (.int (128 : Int32)), .val (.int (191 : Int32)), .unset, .unset] [(.int (160 : Int32))])) (fun _ kgo => XS.sipush X0.here hx rfl (hb hby d1_68) kgo) ?_
        refine own_go (g' := (mkF m 73 #[.val (.ref o0), .val (.int (1 : Int32)), .val (.ref o2), .val (.ref o3), .val (.int v1), .val (.int (3 : Int32)), .val (.int (160 : Int32)), .val (.int (191 : Int32)), .unset, .unset] [])) (fun _ kgo => XS.istore X0.here hx rfl (hb hby d1_71) rfl (l' := #[.val (.ref o0), .val (.int (1 : Int32)), .val (.ref o2), .val (.ref o3), .val (.int v1), .val (.int (3 : Int32)), .val (.int (160 : Int32)), .val (.int (191 : Int32)), .unset, .unset]) rfl kgo) ?_
        refine own_go (g' := (mkF m 205 #[.val (.ref o0), .val (.int (1 : Int32)), .val (.ref o2), .val (.ref o3), .val (.int v1), .val (.int (3 : Int32)), .val (.int (160 : Int32)), .val (.int (191 : Int32)), .unset, .unset] [])) (fun _ kgo => XS.goto X0.here hx rfl (pc0 := 73) (pc' := 205) rfl (hb hby d1_73) (by decide) (by decide) kgo) ?_
        exact J2 (3 : Int32) (160 : Int32) (191 : Int32) (by rw [hc78]; exact own_clE0) (by decide) (by decide)
      ·
        refine own_go (g' := (mkF m 76 #[.val (.ref o0), .val (.int (1 : Int32)), .val (.ref o2), .val (.ref o3), .val (.int v1), .unset, .val (.int (128 : Int32)), .val (.int (191 : Int32)), .unset, .unset] [])) (fun _ kgo => XS.icmpYes X0.here hx rfl (pc0 := 62) (pc' := 76) rfl (hb hby d1_62) rfl (feq hc78).2 (by decide) (by decide) kgo) ?_
        refine own_go (g' := (mkF m 78 #[.val (.ref o0), .val (.int (1 : Int32)), .val (.ref o2), .val (.ref o3), .val (.int v1), .unset, .val (.int (128 : Int32)), .val (.int (191 : Int32)), .unset, .unset] [(.int v1)])) (fun _ kgo => XS.iload X0.here hx rfl (hb hby d1_76) rfl kgo) ?_
        refine own_go (g' := (mkF m 81 #[.val (.ref o0), .val (.int (1 : Int32)), .val (.ref o2), .val (.ref o3), .val (.int v1), .unset, .val (.int (128 : Int32)), .val (.int (191 : Int32)), .unset, .unset] [(.int (225 : Int32)), (.int v1)])) (fun _ kgo => XS.sipush X0.here hx rfl (hb hby d1_78) kgo) ?_
        have J79 : (¬ (¬ v1 < (225 : Int32) ∧ ¬ (236 : Int32) < v1)) → own_Go p e below (own_Post s QQ 0 0) s₁ (mkF m 98 #[.val (.ref o0), .val (.int (1 : Int32)), .val (.ref o2), .val (.ref o3), .val (.int v1), .unset, .val (.int (128 : Int32)), .val (.int (191 : Int32)), .unset, .unset] []) := by
          intro h98
          refine own_go (g' := (mkF m 100 #[.val (.ref o0), .val (.int (1 : Int32)), .val (.ref o2), .val (.ref o3), .val (.int v1), .unset, .val (.int (128 : Int32)), .val (.int (191 : Int32)), .unset, .unset] [(.int v1)])) (fun _ kgo => XS.iload X0.here hx rfl (hb hby d1_98) rfl kgo) ?_
          refine own_go (g' := (mkF m 103 #[.val (.ref o0), .val (.int (1 : Int32)), .val (.ref o2), .val (.ref o3), .val (.int v1), .unset, .val (.int (128 : Int32)), .val (.int (191 : Int32)), .unset, .unset] [(.int (237 : Int32)), (.int v1)])) (fun _ kgo => XS.sipush X0.here hx rfl (hb hby d1_100) kgo) ?_
          by_cases hc80 : v1 = (237 : Int32)
          ·
            refine own_go (g' := (mkF m 106 #[.val (.ref o0), .val (.int (1 : Int32)), .val (.ref o2), .val (.ref o3), .val (.int v1), .unset, .val (.int (128 : Int32)), .val (.int (191 : Int32)), .unset, .unset] [])) (fun _ kgo => XS.icmpNo X0.here hx rfl (hb hby d1_103) rfl (teq hc80).2 kgo) ?_
            refine own_go (g' := (mkF m 107 #[.val (.ref o0), .val (.int (1 : Int32)), .val (.ref o2), .val (.ref o3), .val (.int v1), .unset, .val (.int (128 : Int32)), .val (.int (191 : Int32)), .unset, .unset] [(.int (3 : Int32))])) (fun _ kgo => XS.iconst X0.here hx rfl (hb hby d1_106) kgo) ?_
            refine own_go (g' := (mkF m 109 #[.val (.ref o0), .val (.int (1 : Int32)), .val (.ref o2), .val (.ref o3), .val (.int v1), .val (.int (3 : Int32)), .val (.int (128 : Int32)), .val (.int (191 : Int32)), .unset, .unset] [])) (fun _ kgo => XS.istore X0.here hx rfl (hb hby d1_107) rfl (l' := #[.val (.ref o0), .val (.int (1 : Int32)), .val (.ref o2), .val (.ref o3), .val (.int v1), .val (.int (3 : Int32)), .val (.int (128 : Int32)), .val (.int (191 : Int32)), .unset, .unset]) rfl kgo) ?_
            refine own_go (g' := (mkF m 112 #[.val (.ref o0), .val (.int (1 : Int32)), .val (.ref o2), .val (.ref o3), .val (.int v1), .val (.int (3 : Int32)), .val (.int (128 : Int32)), .val (.int (191 : Int32)), .unset, .unset] [(.int (159 : Int32))])) (fun _ kgo => XS.sipush X0.here hx rfl (hb hby d1_109) kgo) ?_
            refine own_go (g' := (mkF m 114 #[.val (.ref o0), .val (.int (1 : Int32)), .val (.ref o2), .val (.ref o3), .val (.int v1), .val (.int (3 : Int32)), .val (.int (128 : Int32)), .val (.int (159 : Int32)), .unset, .unset] [])) (fun _ kgo => XS.istore X0.here hx rfl (hb hby d1_112) rfl (l' := #[.val (.ref o0), .val (.int (1 : Int32)), .val (.ref o2), .val (.ref o3), .val (.int v1), .val (.int (3 : Int32)), .val (.int (128 : Int32)), .val (.int (159 : Int32)), .unset, .unset]) rfl kgo) ?_
            refine own_go (g' := (mkF m 205 #[.val (.ref o0), .val (.int (1 : Int32)), .val (.ref o2), .val (.ref o3), .val (.int v1), .val (.int (3 : Int32)), .val (.int (128 : Int32)), .val (.int (159 : Int32)), .unset, .unset] [])) (fun _ kgo => XS.goto X0.here hx rfl (pc0 := 114) (pc' := 205) rfl (hb hby d1_114) (by decide) (by decide) kgo) ?_
            exact J2 (3 : Int32) (128 : Int32) (159 : Int32) (by rw [hc80]; exact own_clED) (by decide) (by decide)
          ·
            refine own_go (g' := (mkF m 117 #[.val (.ref o0), .val (.int (1 : Int32)), .val (.ref o2), .val (.ref o3), .val (.int v1), .unset, .val (.int (128 : Int32)), .val (.int (191 : Int32)), .unset, .unset] [])) (fun _ kgo => XS.icmpYes X0.here hx rfl (pc0 := 103) (pc' := 117) rfl (hb hby d1_103) rfl (feq hc80).2 (by decide) (by decide) kgo) ?_
            refine own_go (g' := (mkF m 119 #[.val (.ref o0), .val (.int (1 : Int32)), .val (.ref o2), .val (.ref o3), .val (.int v1), .unset, .val (.int (128 : Int32)), .val (.int (191 : Int32)), .unset, .unset] [(.int v1)])) (fun _ kgo => XS.iload X0.here hx rfl (hb hby d1_117) rfl kgo) ?_
            refine own_go (g' := (mkF m 122 #[.val (.ref o0), .val (.int (1 : Int32)), .val (.ref o2), .val (.ref o3), .val (.int v1), .unset, .val (.int (128 : Int32)), .val (.int (191 : Int32)), .unset, .unset] [(.int (238 : Int32)), (.int v1)])) (fun _ kgo => XS.sipush X0.here hx rfl (hb hby d1_119) kgo) ?_
            by_cases hc81 : v1 = (238 : Int32)
            ·
              refine own_go (g' := (mkF m 133 #[.val (.ref o0), .val (.int (1 : Int32)), .val (.ref o2), .val (.ref o3), .val (.int v1), .unset, .val (.int (128 : Int32)), .val (.int (191 : Int32)), .unset, .unset] [])) (fun _ kgo => XS.icmpYes X0.here hx rfl (pc0 := 122) (pc' := 133) rfl (hb hby d1_122) rfl (teq hc81).1 (by decide) (by decide) kgo) ?_
              refine own_go (g' := (mkF m 134 #[.val (.ref o0), .val (.int (1 : Int32)), .val (.ref o2), .val (.ref o3), .val (.int v1), .unset, .val (.int (128 : Int32)), .val (.int (191 : Int32)), .unset, .unset] [(.int (3 : Int32))])) (fun _ kgo => XS.iconst X0.here hx rfl (hb hby d1_133) kgo) ?_
              refine own_go (g' := (mkF m 136 #[.val (.ref o0), .val (.int (1 : Int32)), .val (.ref o2), .val (.ref o3), .val (.int v1), .val (.int (3 : Int32)), .val (.int (128 : Int32)), .val (.int (191 : Int32)), .unset, .unset] [])) (fun _ kgo => XS.istore X0.here hx rfl (hb hby d1_134) rfl (l' := #[.val (.ref o0), .val (.int (1 : Int32)), .val (.ref o2), .val (.ref o3), .val (.int v1), .val (.int (3 : Int32)), .val (.int (128 : Int32)), .val (.int (191 : Int32)), .unset, .unset]) rfl kgo) ?_
              refine own_go (g' := (mkF m 205 #[.val (.ref o0), .val (.int (1 : Int32)), .val (.ref o2), .val (.ref o3), .val (.int v1), .val (.int (3 : Int32)), .val (.int (128 : Int32)), .val (.int (191 : Int32)), .unset, .unset] [])) (fun _ kgo => XS.goto X0.here hx rfl (pc0 := 136) (pc' := 205) rfl (hb hby d1_136) (by decide) (by decide) kgo) ?_
              exact J2 (3 : Int32) (128 : Int32) (191 : Int32) (own_cl3 hv (by simp only [← Int32.toInt_inj, Int32.lt_iff_toInt_lt, Int32.reduceToInt] at hc76 h57 hc78 h98 hc80 hc81; omega)) (by decide) (by decide)
            ·
              refine own_go (g' := (mkF m 125 #[.val (.ref o0), .val (.int (1 : Int32)), .val (.ref o2), .val (.ref o3), .val (.int v1), .unset, .val (.int (128 : Int32)), .val (.int (191 : Int32)), .unset, .unset] [])) (fun _ kgo => XS.icmpNo X0.here hx rfl (hb hby d1_122) rfl (feq hc81).1 kgo) ?_
              refine own_go (g' := (mkF m 127 #[.val (.ref o0), .val (.int (1 : Int32)), .val (.ref o2), .val (.ref o3), .val (.int v1), .unset, .val (.int (128 : Int32)), .val (.int (191 : Int32)), .unset, .unset] [(.int v1)])) (fun _ kgo => XS.iload X0.here hx rfl (hb hby d1_125) rfl kgo) ?_
              refine own_go (g' := (mkF m 130 #[.val (.ref o0), .val (.int (1 : Int32)), .val (.ref o2), .val (.ref o3), .val (.int v1), .unset, .val (.int (128 : Int32)), .val (.int (191 : Int32)), .unset, .unset] [(.int (239 : Int32)), (.int v1)])) (fun _ kgo => XS.sipush X0.here hx rfl (hb hby d1_127) kgo) ?_
              by_cases hc82 : v1 = (239 : Int32)
              ·
                refine own_go (g' := (mkF m 133 #[.val (.ref o0), .val (.int (1 : Int32)), .val (.ref o2), .val (.ref o3), .val (.int v1), .unset, .val (.int (128 : Int32)), .val (.int (191 : Int32)), .unset, .unset] [])) (fun _ kgo => XS.icmpNo X0.here hx rfl (hb hby d1_130) rfl (teq hc82).2 kgo) ?_
                refine own_go (g' := (mkF m 134 #[.val (.ref o0), .val (.int (1 : Int32)), .val (.ref o2), .val (.ref o3), .val (.int v1), .unset, .val (.int (128 : Int32)), .val (.int (191 : Int32)), .unset, .unset] [(.int (3 : Int32))])) (fun _ kgo => XS.iconst X0.here hx rfl (hb hby d1_133) kgo) ?_
                refine own_go (g' := (mkF m 136 #[.val (.ref o0), .val (.int (1 : Int32)), .val (.ref o2), .val (.ref o3), .val (.int v1), .val (.int (3 : Int32)), .val (.int (128 : Int32)), .val (.int (191 : Int32)), .unset, .unset] [])) (fun _ kgo => XS.istore X0.here hx rfl (hb hby d1_134) rfl (l' := #[.val (.ref o0), .val (.int (1 : Int32)), .val (.ref o2), .val (.ref o3), .val (.int v1), .val (.int (3 : Int32)), .val (.int (128 : Int32)), .val (.int (191 : Int32)), .unset, .unset]) rfl kgo) ?_
                refine own_go (g' := (mkF m 205 #[.val (.ref o0), .val (.int (1 : Int32)), .val (.ref o2), .val (.ref o3), .val (.int v1), .val (.int (3 : Int32)), .val (.int (128 : Int32)), .val (.int (191 : Int32)), .unset, .unset] [])) (fun _ kgo => XS.goto X0.here hx rfl (pc0 := 136) (pc' := 205) rfl (hb hby d1_136) (by decide) (by decide) kgo) ?_
                exact J2 (3 : Int32) (128 : Int32) (191 : Int32) (own_cl3 hv (by simp only [← Int32.toInt_inj, Int32.lt_iff_toInt_lt, Int32.reduceToInt] at hc76 h57 hc78 h98 hc80 hc81 hc82; omega)) (by decide) (by decide)
              ·
                refine own_go (g' := (mkF m 139 #[.val (.ref o0), .val (.int (1 : Int32)), .val (.ref o2), .val (.ref o3), .val (.int v1), .unset, .val (.int (128 : Int32)), .val (.int (191 : Int32)), .unset, .unset] [])) (fun _ kgo => XS.icmpYes X0.here hx rfl (pc0 := 130) (pc' := 139) rfl (hb hby d1_130) rfl (feq hc82).2 (by decide) (by decide) kgo) ?_
                refine own_go (g' := (mkF m 141 #[.val (.ref o0), .val (.int (1 : Int32)), .val (.ref o2), .val (.ref o3), .val (.int v1), .unset, .val (.int (128 : Int32)), .val (.int (191 : Int32)), .unset, .unset] [(.int v1)])) (fun _ kgo => XS.iload X0.here hx rfl (hb hby d1_139) rfl kgo) ?_
                refine own_go (g' := (mkF m 144 #[.val (.ref o0), .val (.int (1 : Int32)), .val (.ref o2), .val (.ref o3), .val (.int v1), .unset, .val (.int (128 : Int32)), .val (.int (191 : Int32)), .unset, .unset] [(.int (240 : Int32)), (.int v1)])) (fun _ kgo => XS.sipush X0.here hx rfl (hb hby d1_141) kgo) ?_
                by_cases hc83 : v1 = (240 : Int32)
                ·
                  refine own_go (g' := (mkF m 147 #[.val (.ref o0), .val (.int (1 : Int32)), .val (.ref o2), .val (.ref o3), .val (.int v1), .unset, .val (.int (128 : Int32)), .val (.int (191 : Int32)), .unset, .unset] [])) (fun _ kgo => XS.icmpNo X0.here hx rfl (hb hby d1_144) rfl (teq hc83).2 kgo) ?_
                  refine own_go (g' := (mkF m 148 #[.val (.ref o0), .val (.int (1 : Int32)), .val (.ref o2), .val (.ref o3), .val (.int v1), .unset, .val (.int (128 : Int32)), .val (.int (191 : Int32)), .unset, .unset] [(.int (4 : Int32))])) (fun _ kgo => XS.iconst X0.here hx rfl (hb hby d1_147) kgo) ?_
                  refine own_go (g' := (mkF m 150 #[.val (.ref o0), .val (.int (1 : Int32)), .val (.ref o2), .val (.ref o3), .val (.int v1), .val (.int (4 : Int32)), .val (.int (128 : Int32)), .val (.int (191 : Int32)), .unset, .unset] [])) (fun _ kgo => XS.istore X0.here hx rfl (hb hby d1_148) rfl (l' := #[.val (.ref o0), .val (.int (1 : Int32)), .val (.ref o2), .val (.ref o3), .val (.int v1), .val (.int (4 : Int32)), .val (.int (128 : Int32)), .val (.int (191 : Int32)), .unset, .unset]) rfl kgo) ?_
                  refine own_go (g' := (mkF m 153 #[.val (.ref o0), .val (.int (1 : Int32)), .val (.ref o2), .val (.ref o3), .val (.int v1), .val (.int (4 : Int32)), .val (.int (128 : Int32)), .val (.int (191 : Int32)), .unset, .unset] [(.int (144 : Int32))])) (fun _ kgo => XS.sipush X0.here hx rfl (hb hby d1_150) kgo) ?_
                  refine own_go (g' := (mkF m 155 #[.val (.ref o0), .val (.int (1 : Int32)), .val (.ref o2), .val (.ref o3), .val (.int v1), .val (.int (4 : Int32)), .val (.int (144 : Int32)), .val (.int (191 : Int32)), .unset, .unset] [])) (fun _ kgo => XS.istore X0.here hx rfl (hb hby d1_153) rfl (l' := #[.val (.ref o0), .val (.int (1 : Int32)), .val (.ref o2), .val (.ref o3), .val (.int v1), .val (.int (4 : Int32)), .val (.int (144 : Int32)), .val (.int (191 : Int32)), .unset, .unset]) rfl kgo) ?_
                  refine own_go (g' := (mkF m 205 #[.val (.ref o0), .val (.int (1 : Int32)), .val (.ref o2), .val (.ref o3), .val (.int v1), .val (.int (4 : Int32)), .val (.int (144 : Int32)), .val (.int (191 : Int32)), .unset, .unset] [])) (fun _ kgo => XS.goto X0.here hx rfl (pc0 := 155) (pc' := 205) rfl (hb hby d1_155) (by decide) (by decide) kgo) ?_
                  exact J2 (4 : Int32) (144 : Int32) (191 : Int32) (by rw [hc83]; exact own_clF0) (by decide) (by decide)
                ·
                  refine own_go (g' := (mkF m 158 #[.val (.ref o0), .val (.int (1 : Int32)), .val (.ref o2), .val (.ref o3), .val (.int v1), .unset, .val (.int (128 : Int32)), .val (.int (191 : Int32)), .unset, .unset] [])) (fun _ kgo => XS.icmpYes X0.here hx rfl (pc0 := 144) (pc' := 158) rfl (hb hby d1_144) rfl (feq hc83).2 (by decide) (by decide) kgo) ?_
                  refine own_go (g' := (mkF m 160 #[.val (.ref o0), .val (.int (1 : Int32)), .val (.ref o2), .val (.ref o3), .val (.int v1), .unset, .val (.int (128 : Int32)), .val (.int (191 : Int32)), .unset, .unset] [(.int v1)])) (fun _ kgo => XS.iload X0.here hx rfl (hb hby d1_158) rfl kgo) ?_
                  refine own_go (g' := (mkF m 163 #[.val (.ref o0), .val (.int (1 : Int32)), .val (.ref o2), .val (.ref o3), .val (.int v1), .unset, .val (.int (128 : Int32)), .val (.int (191 : Int32)), .unset, .unset] [(.int (241 : Int32)), (.int v1)])) (fun _ kgo => XS.sipush X0.here hx rfl (hb hby d1_160) kgo) ?_
                  have J84 : (¬ (¬ v1 < (241 : Int32) ∧ ¬ (243 : Int32) < v1)) → own_Go p e below (own_Post s QQ 0 0) s₁ (mkF m 180 #[.val (.ref o0), .val (.int (1 : Int32)), .val (.ref o2), .val (.ref o3), .val (.int v1), .unset, .val (.int (128 : Int32)), .val (.int (191 : Int32)), .unset, .unset] []) := by
                    intro h180
                    refine own_go (g' := (mkF m 182 #[.val (.ref o0), .val (.int (1 : Int32)), .val (.ref o2), .val (.ref o3), .val (.int v1), .unset, .val (.int (128 : Int32)), .val (.int (191 : Int32)), .unset, .unset] [(.int v1)])) (fun _ kgo => XS.iload X0.here hx rfl (hb hby d1_180) rfl kgo) ?_
                    refine own_go (g' := (mkF m 185 #[.val (.ref o0), .val (.int (1 : Int32)), .val (.ref o2), .val (.ref o3), .val (.int v1), .unset, .val (.int (128 : Int32)), .val (.int (191 : Int32)), .unset, .unset] [(.int (244 : Int32)), (.int v1)])) (fun _ kgo => XS.sipush X0.here hx rfl (hb hby d1_182) kgo) ?_
                    by_cases hc85 : v1 = (244 : Int32)
                    ·
                      refine own_go (g' := (mkF m 188 #[.val (.ref o0), .val (.int (1 : Int32)), .val (.ref o2), .val (.ref o3), .val (.int v1), .unset, .val (.int (128 : Int32)), .val (.int (191 : Int32)), .unset, .unset] [])) (fun _ kgo => XS.icmpNo X0.here hx rfl (hb hby d1_185) rfl (teq hc85).2 kgo) ?_
                      refine own_go (g' := (mkF m 189 #[.val (.ref o0), .val (.int (1 : Int32)), .val (.ref o2), .val (.ref o3), .val (.int v1), .unset, .val (.int (128 : Int32)), .val (.int (191 : Int32)), .unset, .unset] [(.int (4 : Int32))])) (fun _ kgo => XS.iconst X0.here hx rfl (hb hby d1_188) kgo) ?_
                      refine own_go (g' := (mkF m 191 #[.val (.ref o0), .val (.int (1 : Int32)), .val (.ref o2), .val (.ref o3), .val (.int v1), .val (.int (4 : Int32)), .val (.int (128 : Int32)), .val (.int (191 : Int32)), .unset, .unset] [])) (fun _ kgo => XS.istore X0.here hx rfl (hb hby d1_189) rfl (l' := #[.val (.ref o0), .val (.int (1 : Int32)), .val (.ref o2), .val (.ref o3), .val (.int v1), .val (.int (4 : Int32)), .val (.int (128 : Int32)), .val (.int (191 : Int32)), .unset, .unset]) rfl kgo) ?_
                      refine own_go (g' := (mkF m 194 #[.val (.ref o0), .val (.int (1 : Int32)), .val (.ref o2), .val (.ref o3), .val (.int v1), .val (.int (4 : Int32)), .val (.int (128 : Int32)), .val (.int (191 : Int32)), .unset, .unset] [(.int (143 : Int32))])) (fun _ kgo => XS.sipush X0.here hx rfl (hb hby d1_191) kgo) ?_
                      refine own_go (g' := (mkF m 196 #[.val (.ref o0), .val (.int (1 : Int32)), .val (.ref o2), .val (.ref o3), .val (.int v1), .val (.int (4 : Int32)), .val (.int (128 : Int32)), .val (.int (143 : Int32)), .unset, .unset] [])) (fun _ kgo => XS.istore X0.here hx rfl (hb hby d1_194) rfl (l' := #[.val (.ref o0), .val (.int (1 : Int32)), .val (.ref o2), .val (.ref o3), .val (.int v1), .val (.int (4 : Int32)), .val (.int (128 : Int32)), .val (.int (143 : Int32)), .unset, .unset]) rfl kgo) ?_
                      refine own_go (g' := (mkF m 205 #[.val (.ref o0), .val (.int (1 : Int32)), .val (.ref o2), .val (.ref o3), .val (.int v1), .val (.int (4 : Int32)), .val (.int (128 : Int32)), .val (.int (143 : Int32)), .unset, .unset] [])) (fun _ kgo => XS.goto X0.here hx rfl (pc0 := 196) (pc' := 205) rfl (hb hby d1_196) (by decide) (by decide) kgo) ?_
                      exact J2 (4 : Int32) (128 : Int32) (143 : Int32) (by rw [hc85]; exact own_clF4) (by decide) (by decide)
                    ·
                      refine own_go (g' := (mkF m 199 #[.val (.ref o0), .val (.int (1 : Int32)), .val (.ref o2), .val (.ref o3), .val (.int v1), .unset, .val (.int (128 : Int32)), .val (.int (191 : Int32)), .unset, .unset] [])) (fun _ kgo => XS.icmpYes X0.here hx rfl (pc0 := 185) (pc' := 199) rfl (hb hby d1_185) rfl (feq hc85).2 (by decide) (by decide) kgo) ?_
                      refine own_go (g' := (mkF m 200 #[.val (.ref o0), .val (.int (1 : Int32)), .val (.ref o2), .val (.ref o3), .val (.int v1), .unset, .val (.int (128 : Int32)), .val (.int (191 : Int32)), .unset, .unset] [(.ref o2)])) (fun _ kgo => XS.aloadN X0.here hx rfl (hb hby d1_199) rfl rfl kgo) ?_
                      refine own_go (g' := (mkF m 201 #[.val (.ref o0), .val (.int (1 : Int32)), .val (.ref o2), .val (.ref o3), .val (.int v1), .unset, .val (.int (128 : Int32)), .val (.int (191 : Int32)), .unset, .unset] [(.int (1 : Int32)), (.ref o2)])) (fun _ kgo => XS.iloadN X0.here hx rfl (hb hby d1_200) rfl kgo) ?_
                      refine own_go (g' := (mkF m 202 #[.val (.ref o0), .val (.int (1 : Int32)), .val (.ref o2), .val (.ref o3), .val (.int v1), .unset, .val (.int (128 : Int32)), .val (.int (191 : Int32)), .unset, .unset] [(.int (0 : Int32)), (.int (1 : Int32)), (.ref o2)])) (fun _ kgo => XS.iconst X0.here hx rfl (hb hby d1_201) kgo) ?_
                      obtain ⟨cl86, Ar86, qk86, sz86, nn86, Hs86, Gs86⟩ := id P1
                      have hin86 : ¬ ((1 : Int32) < 0 ∨ cl86.slots.size ≤ ((1 : Int32)).toNatClampNeg) := inb_of sz86 ⟨by decide, by decide⟩
                      obtain ⟨T86, h86, X86, e86, W86, st86⟩ := stZ X0 hx hZ e0 Ar86 (j := (1 : Int32)) hin86 (g := (mkF m 202 #[.val (.ref o0), .val (.int (1 : Int32)), .val (.ref o2), .val (.ref o3), .val (.int v1), .unset, .val (.int (128 : Int32)), .val (.int (191 : Int32)), .unset, .unset] [(.int (0 : Int32)), (.int (1 : Int32)), (.ref o2)])) rfl rfl (hb hby d1_202)
                      have Vn86 : Arv Z h86 o2 ko .boolean (4 : Int32) [(.int (own_b a0_)), (.int (nar .boolean (own_b false))), (.int (own_b a2_)), (.int (own_b a3_))] (.int (0 : Int32)) := Arv.set Ar86 qk86 sz86 nn86 Hs86 Gs86 (fits_nar_bool _) W86 1 rfl (Nat.le_of_ble_eq_true rfl)
                      have V86 : Arv Z h86 o2 ko .boolean (4 : Int32) [(.int (own_b a0_)), (.int (own_b false)), (.int (own_b a2_)), (.int (own_b a3_))] (.int (0 : Int32)) := by rw [own_b_nar] at Vn86; exact Vn86
                      have N86 := Fr.snoc X86 N0 g_o2
                      have Z86 : n0 ≤ h86.size := by rw [W86.size]; exact Z0
                      have K86 : Keep h0 h86 [o2, o3] := K0.wr W86 (Or.inl (List.mem_of_getElem? (i := 0) rfl))
                      refine own_go (g' := (mkF m 203 #[.val (.ref o0), .val (.int (1 : Int32)), .val (.ref o2), .val (.ref o3), .val (.int v1), .unset, .val (.int (128 : Int32)), .val (.int (191 : Int32)), .unset, .unset] [])) (st86) ?_
                      refine own_go (g' := (mkF m 204 #[.val (.ref o0), .val (.int (1 : Int32)), .val (.ref o2), .val (.ref o3), .val (.int v1), .unset, .val (.int (128 : Int32)), .val (.int (191 : Int32)), .unset, .unset] [(.int (4 : Int32))])) (fun _ kgo => XS.iconst X86.here hx rfl (hb hby d1_203) kgo) ?_
                      refine own_retI X86 hx Bd.returns Bd.notSynchronized (hb hby d1_204) (by decide) (by decide) ?_
                      show QQ _ T86.heap _
                      rw [e86]
                      have hok : own_ok 0 128 191 v1 = false := by rw [own_inv hv]; exact decide_eq_false (by simp only [← Int32.toInt_inj, Int32.lt_iff_toInt_lt, Int32.reduceToInt] at hc76 h57 hc78 h98 hc80 hc81 hc82 hc83 h180 hc85; omega)
                      have hrel : (((4 : Int32) = 2 ∧ ∀ t, own_chk ((v1, false, c1_) :: t) 0 128 191 = own_chk t 0 128 191) ∨ ((4 : Int32) = 3 ∧ ∀ t, own_chk ((v1, false, c1_) :: (v2, a2_, c2_) :: t) 0 128 191 = own_chk t 0 128 191) ∨ (¬ (4 : Int32) < 4 ∧ own_chk [(v1, false, c1_), (v2, a2_, c2_), (v3, a3_, c3_)] 0 128 191 = true)) := by
                        exact Or.inr (Or.inr ((⟨by decide, own_no hok⟩)))
                      have fx87 : Arv Z h86 o0 kv .int (4 : Int32) [(.int v0), (.int v1), (.int v2), (.int v3)] (.int (0 : Int32)) := (Arv.other P0 W86 hn02)
                      have fx88 : Arv Z h86 o3 kc .boolean (4 : Int32) [(.int (own_b c0_)), (.int (own_b c1_)), (.int (own_b c2_)), (.int (own_b c3_))] (.int (0 : Int32)) := (Arv.other P2 W86 (Ne.symm hn23))
                      rw [← hQQ]
                      exact ⟨(4 : Int32), false, a2_, a3_, c1_, c2_, c3_, rfl, N86, K86, hrel, fx87, V86, fx88⟩
                  by_cases hc89 : v1 < (241 : Int32)
                  ·
                    refine own_go (g' := (mkF m 180 #[.val (.ref o0), .val (.int (1 : Int32)), .val (.ref o2), .val (.ref o3), .val (.int v1), .unset, .val (.int (128 : Int32)), .val (.int (191 : Int32)), .unset, .unset] [])) (fun _ kgo => XS.icmpYes X0.here hx rfl (pc0 := 163) (pc' := 180) rfl (hb hby d1_163) rfl (tlt hc89).1 (by decide) (by decide) kgo) ?_
                    exact J84 (fun q => q.1 hc89)
                  ·
                    refine own_go (g' := (mkF m 166 #[.val (.ref o0), .val (.int (1 : Int32)), .val (.ref o2), .val (.ref o3), .val (.int v1), .unset, .val (.int (128 : Int32)), .val (.int (191 : Int32)), .unset, .unset] [])) (fun _ kgo => XS.icmpNo X0.here hx rfl (hb hby d1_163) rfl (flt hc89).1 kgo) ?_
                    refine own_go (g' := (mkF m 168 #[.val (.ref o0), .val (.int (1 : Int32)), .val (.ref o2), .val (.ref o3), .val (.int v1), .unset, .val (.int (128 : Int32)), .val (.int (191 : Int32)), .unset, .unset] [(.int v1)])) (fun _ kgo => XS.iload X0.here hx rfl (hb hby d1_166) rfl kgo) ?_
                    refine own_go (g' := (mkF m 171 #[.val (.ref o0), .val (.int (1 : Int32)), .val (.ref o2), .val (.ref o3), .val (.int v1), .unset, .val (.int (128 : Int32)), .val (.int (191 : Int32)), .unset, .unset] [(.int (243 : Int32)), (.int v1)])) (fun _ kgo => XS.sipush X0.here hx rfl (hb hby d1_168) kgo) ?_
                    by_cases hc90 : (243 : Int32) < v1
                    ·
                      refine own_go (g' := (mkF m 180 #[.val (.ref o0), .val (.int (1 : Int32)), .val (.ref o2), .val (.ref o3), .val (.int v1), .unset, .val (.int (128 : Int32)), .val (.int (191 : Int32)), .unset, .unset] [])) (fun _ kgo => XS.icmpYes X0.here hx rfl (pc0 := 171) (pc' := 180) rfl (hb hby d1_171) rfl (tlt hc90).2.2.1 (by decide) (by decide) kgo) ?_
                      exact J84 (fun q => q.2 hc90)
                    ·
                      refine own_go (g' := (mkF m 174 #[.val (.ref o0), .val (.int (1 : Int32)), .val (.ref o2), .val (.ref o3), .val (.int v1), .unset, .val (.int (128 : Int32)), .val (.int (191 : Int32)), .unset, .unset] [])) (fun _ kgo => XS.icmpNo X0.here hx rfl (hb hby d1_171) rfl (flt hc90).2.2.1 kgo) ?_
                      refine own_go (g' := (mkF m 175 #[.val (.ref o0), .val (.int (1 : Int32)), .val (.ref o2), .val (.ref o3), .val (.int v1), .unset, .val (.int (128 : Int32)), .val (.int (191 : Int32)), .unset, .unset] [(.int (4 : Int32))])) (fun _ kgo => XS.iconst X0.here hx rfl (hb hby d1_174) kgo) ?_
                      refine own_go (g' := (mkF m 177 #[.val (.ref o0), .val (.int (1 : Int32)), .val (.ref o2), .val (.ref o3), .val (.int v1), .val (.int (4 : Int32)), .val (.int (128 : Int32)), .val (.int (191 : Int32)), .unset, .unset] [])) (fun _ kgo => XS.istore X0.here hx rfl (hb hby d1_175) rfl (l' := #[.val (.ref o0), .val (.int (1 : Int32)), .val (.ref o2), .val (.ref o3), .val (.int v1), .val (.int (4 : Int32)), .val (.int (128 : Int32)), .val (.int (191 : Int32)), .unset, .unset]) rfl kgo) ?_
                      refine own_go (g' := (mkF m 205 #[.val (.ref o0), .val (.int (1 : Int32)), .val (.ref o2), .val (.ref o3), .val (.int v1), .val (.int (4 : Int32)), .val (.int (128 : Int32)), .val (.int (191 : Int32)), .unset, .unset] [])) (fun _ kgo => XS.goto X0.here hx rfl (pc0 := 177) (pc' := 205) rfl (hb hby d1_177) (by decide) (by decide) kgo) ?_
                      exact J2 (4 : Int32) (128 : Int32) (191 : Int32) (own_cl4 hv (by simp only [← Int32.toInt_inj, Int32.lt_iff_toInt_lt, Int32.reduceToInt] at hc76 h57 hc78 h98 hc80 hc81 hc82 hc83 hc89 hc90; omega)) (by decide) (by decide)
        by_cases hc91 : v1 < (225 : Int32)
        ·
          refine own_go (g' := (mkF m 98 #[.val (.ref o0), .val (.int (1 : Int32)), .val (.ref o2), .val (.ref o3), .val (.int v1), .unset, .val (.int (128 : Int32)), .val (.int (191 : Int32)), .unset, .unset] [])) (fun _ kgo => XS.icmpYes X0.here hx rfl (pc0 := 81) (pc' := 98) rfl (hb hby d1_81) rfl (tlt hc91).1 (by decide) (by decide) kgo) ?_
          exact J79 (fun q => q.1 hc91)
        ·
          refine own_go (g' := (mkF m 84 #[.val (.ref o0), .val (.int (1 : Int32)), .val (.ref o2), .val (.ref o3), .val (.int v1), .unset, .val (.int (128 : Int32)), .val (.int (191 : Int32)), .unset, .unset] [])) (fun _ kgo => XS.icmpNo X0.here hx rfl (hb hby d1_81) rfl (flt hc91).1 kgo) ?_
          refine own_go (g' := (mkF m 86 #[.val (.ref o0), .val (.int (1 : Int32)), .val (.ref o2), .val (.ref o3), .val (.int v1), .unset, .val (.int (128 : Int32)), .val (.int (191 : Int32)), .unset, .unset] [(.int v1)])) (fun _ kgo => XS.iload X0.here hx rfl (hb hby d1_84) rfl kgo) ?_
          refine own_go (g' := (mkF m 89 #[.val (.ref o0), .val (.int (1 : Int32)), .val (.ref o2), .val (.ref o3), .val (.int v1), .unset, .val (.int (128 : Int32)), .val (.int (191 : Int32)), .unset, .unset] [(.int (236 : Int32)), (.int v1)])) (fun _ kgo => XS.sipush X0.here hx rfl (hb hby d1_86) kgo) ?_
          by_cases hc92 : (236 : Int32) < v1
          ·
            refine own_go (g' := (mkF m 98 #[.val (.ref o0), .val (.int (1 : Int32)), .val (.ref o2), .val (.ref o3), .val (.int v1), .unset, .val (.int (128 : Int32)), .val (.int (191 : Int32)), .unset, .unset] [])) (fun _ kgo => XS.icmpYes X0.here hx rfl (pc0 := 89) (pc' := 98) rfl (hb hby d1_89) rfl (tlt hc92).2.2.1 (by decide) (by decide) kgo) ?_
            exact J79 (fun q => q.2 hc92)
          ·
            refine own_go (g' := (mkF m 92 #[.val (.ref o0), .val (.int (1 : Int32)), .val (.ref o2), .val (.ref o3), .val (.int v1), .unset, .val (.int (128 : Int32)), .val (.int (191 : Int32)), .unset, .unset] [])) (fun _ kgo => XS.icmpNo X0.here hx rfl (hb hby d1_89) rfl (flt hc92).2.2.1 kgo) ?_
            refine own_go (g' := (mkF m 93 #[.val (.ref o0), .val (.int (1 : Int32)), .val (.ref o2), .val (.ref o3), .val (.int v1), .unset, .val (.int (128 : Int32)), .val (.int (191 : Int32)), .unset, .unset] [(.int (3 : Int32))])) (fun _ kgo => XS.iconst X0.here hx rfl (hb hby d1_92) kgo) ?_
            refine own_go (g' := (mkF m 95 #[.val (.ref o0), .val (.int (1 : Int32)), .val (.ref o2), .val (.ref o3), .val (.int v1), .val (.int (3 : Int32)), .val (.int (128 : Int32)), .val (.int (191 : Int32)), .unset, .unset] [])) (fun _ kgo => XS.istore X0.here hx rfl (hb hby d1_93) rfl (l' := #[.val (.ref o0), .val (.int (1 : Int32)), .val (.ref o2), .val (.ref o3), .val (.int v1), .val (.int (3 : Int32)), .val (.int (128 : Int32)), .val (.int (191 : Int32)), .unset, .unset]) rfl kgo) ?_
            refine own_go (g' := (mkF m 205 #[.val (.ref o0), .val (.int (1 : Int32)), .val (.ref o2), .val (.ref o3), .val (.int v1), .val (.int (3 : Int32)), .val (.int (128 : Int32)), .val (.int (191 : Int32)), .unset, .unset] [])) (fun _ kgo => XS.goto X0.here hx rfl (pc0 := 95) (pc' := 205) rfl (hb hby d1_95) (by decide) (by decide) kgo) ?_
            exact J2 (3 : Int32) (128 : Int32) (191 : Int32) (own_cl3 hv (by simp only [← Int32.toInt_inj, Int32.lt_iff_toInt_lt, Int32.reduceToInt] at hc76 h57 hc78 hc91 hc92; omega)) (by decide) (by decide)
    by_cases hc93 : v1 < (194 : Int32)
    ·
      refine own_go (g' := (mkF m 57 #[.val (.ref o0), .val (.int (1 : Int32)), .val (.ref o2), .val (.ref o3), .val (.int v1), .unset, .val (.int (128 : Int32)), .val (.int (191 : Int32)), .unset, .unset] [])) (fun _ kgo => XS.icmpYes X0.here hx rfl (pc0 := 40) (pc' := 57) rfl (hb hby d1_40) rfl (tlt hc93).1 (by decide) (by decide) kgo) ?_
      exact J77 (fun q => q.1 hc93)
    ·
      refine own_go (g' := (mkF m 43 #[.val (.ref o0), .val (.int (1 : Int32)), .val (.ref o2), .val (.ref o3), .val (.int v1), .unset, .val (.int (128 : Int32)), .val (.int (191 : Int32)), .unset, .unset] [])) (fun _ kgo => XS.icmpNo X0.here hx rfl (hb hby d1_40) rfl (flt hc93).1 kgo) ?_
      refine own_go (g' := (mkF m 45 #[.val (.ref o0), .val (.int (1 : Int32)), .val (.ref o2), .val (.ref o3), .val (.int v1), .unset, .val (.int (128 : Int32)), .val (.int (191 : Int32)), .unset, .unset] [(.int v1)])) (fun _ kgo => XS.iload X0.here hx rfl (hb hby d1_43) rfl kgo) ?_
      refine own_go (g' := (mkF m 48 #[.val (.ref o0), .val (.int (1 : Int32)), .val (.ref o2), .val (.ref o3), .val (.int v1), .unset, .val (.int (128 : Int32)), .val (.int (191 : Int32)), .unset, .unset] [(.int (223 : Int32)), (.int v1)])) (fun _ kgo => XS.sipush X0.here hx rfl (hb hby d1_45) kgo) ?_
      by_cases hc94 : (223 : Int32) < v1
      ·
        refine own_go (g' := (mkF m 57 #[.val (.ref o0), .val (.int (1 : Int32)), .val (.ref o2), .val (.ref o3), .val (.int v1), .unset, .val (.int (128 : Int32)), .val (.int (191 : Int32)), .unset, .unset] [])) (fun _ kgo => XS.icmpYes X0.here hx rfl (pc0 := 48) (pc' := 57) rfl (hb hby d1_48) rfl (tlt hc94).2.2.1 (by decide) (by decide) kgo) ?_
        exact J77 (fun q => q.2 hc94)
      ·
        refine own_go (g' := (mkF m 51 #[.val (.ref o0), .val (.int (1 : Int32)), .val (.ref o2), .val (.ref o3), .val (.int v1), .unset, .val (.int (128 : Int32)), .val (.int (191 : Int32)), .unset, .unset] [])) (fun _ kgo => XS.icmpNo X0.here hx rfl (hb hby d1_48) rfl (flt hc94).2.2.1 kgo) ?_
        refine own_go (g' := (mkF m 52 #[.val (.ref o0), .val (.int (1 : Int32)), .val (.ref o2), .val (.ref o3), .val (.int v1), .unset, .val (.int (128 : Int32)), .val (.int (191 : Int32)), .unset, .unset] [(.int (2 : Int32))])) (fun _ kgo => XS.iconst X0.here hx rfl (hb hby d1_51) kgo) ?_
        refine own_go (g' := (mkF m 54 #[.val (.ref o0), .val (.int (1 : Int32)), .val (.ref o2), .val (.ref o3), .val (.int v1), .val (.int (2 : Int32)), .val (.int (128 : Int32)), .val (.int (191 : Int32)), .unset, .unset] [])) (fun _ kgo => XS.istore X0.here hx rfl (hb hby d1_52) rfl (l' := #[.val (.ref o0), .val (.int (1 : Int32)), .val (.ref o2), .val (.ref o3), .val (.int v1), .val (.int (2 : Int32)), .val (.int (128 : Int32)), .val (.int (191 : Int32)), .unset, .unset]) rfl kgo) ?_
        refine own_go (g' := (mkF m 205 #[.val (.ref o0), .val (.int (1 : Int32)), .val (.ref o2), .val (.ref o3), .val (.int v1), .val (.int (2 : Int32)), .val (.int (128 : Int32)), .val (.int (191 : Int32)), .unset, .unset] [])) (fun _ kgo => XS.goto X0.here hx rfl (pc0 := 54) (pc' := 205) rfl (hb hby d1_54) (by decide) (by decide) kgo) ?_
        exact J2 (2 : Int32) (128 : Int32) (191 : Int32) (own_cl2 hv (by simp only [← Int32.toInt_inj, Int32.lt_iff_toInt_lt, Int32.reduceToInt] at hc76 hc93 hc94; omega)) (by decide) (by decide)
  ·
    refine own_go (g' := (mkF m 29 #[.val (.ref o0), .val (.int (1 : Int32)), .val (.ref o2), .val (.ref o3), .val (.int v1), .unset, .val (.int (128 : Int32)), .val (.int (191 : Int32)), .unset, .unset] [])) (fun _ kgo => XS.icmpNo X0.here hx rfl (hb hby d1_26) rfl (flt hc76).2.2.1 kgo) ?_
    refine own_go (g' := (mkF m 30 #[.val (.ref o0), .val (.int (1 : Int32)), .val (.ref o2), .val (.ref o3), .val (.int v1), .unset, .val (.int (128 : Int32)), .val (.int (191 : Int32)), .unset, .unset] [(.int (1 : Int32))])) (fun _ kgo => XS.iconst X0.here hx rfl (hb hby d1_29) kgo) ?_
    refine own_go (g' := (mkF m 32 #[.val (.ref o0), .val (.int (1 : Int32)), .val (.ref o2), .val (.ref o3), .val (.int v1), .val (.int (1 : Int32)), .val (.int (128 : Int32)), .val (.int (191 : Int32)), .unset, .unset] [])) (fun _ kgo => XS.istore X0.here hx rfl (hb hby d1_30) rfl (l' := #[.val (.ref o0), .val (.int (1 : Int32)), .val (.ref o2), .val (.ref o3), .val (.int v1), .val (.int (1 : Int32)), .val (.int (128 : Int32)), .val (.int (191 : Int32)), .unset, .unset]) rfl kgo) ?_
    refine own_go (g' := (mkF m 205 #[.val (.ref o0), .val (.int (1 : Int32)), .val (.ref o2), .val (.ref o3), .val (.int v1), .val (.int (1 : Int32)), .val (.int (128 : Int32)), .val (.int (191 : Int32)), .unset, .unset] [])) (fun _ kgo => XS.goto X0.here hx rfl (pc0 := 32) (pc' := 205) rfl (hb hby d1_32) (by decide) (by decide) kgo) ?_
    exact J2 (1 : Int32) (128 : Int32) (191 : Int32) (own_cl1 hv (by simp only [← Int32.toInt_inj, Int32.lt_iff_toInt_lt, Int32.reduceToInt] at hc76; omega)) (by decide) (by decide)
theorem pn_stp2 : plainName "com/example/firm_tread/firmtread/transport/Utf8AcceptPinLaw" = true := by first | (simp [plainName, overriddenIn]; done) | decide +kernel
theorem ef_stp2 (m : MethodId) (o0 : Addr) (o2 : Addr) (o3 : Addr) : entryFrame m #[(.ref o0), (.int (2 : Int32)), (.ref o2), (.ref o3)] 10 = mkF m 0 #[.val (.ref o0), .val (.int (2 : Int32)), .val (.ref o2), .val (.ref o3), .unset, .unset, .unset, .unset, .unset, .unset] [] := by first | (simp [entryFrame, mkF, argsToLocals, Value.category]; done) | rfl
set_option maxRecDepth 65536 in
set_option maxHeartbeats 40000000 in
theorem stp2 (l : Launch) (Z : State) (a0 : Array Value) (hw : ∀ d ∈ tables_1, d.before a0 Z = true) (o0 : Addr) (o2 : Addr) (o3 : Addr) (v0 : Int32) (v1 : Int32) (v2 : Int32) (v3 : Int32) (a0_ : Bool) (a1_ : Bool) (a2_ : Bool) (a3_ : Bool) (c0_ : Bool) (c1_ : Bool) (c2_ : Bool) (c3_ : Bool) (kv : ClassId) (ko : ClassId) (kc : ClassId) (h0 : Heap) (n0 : Nat) (Z0 : n0 ≤ h0.size) (g_o2 : n0 ≤ o2) (g_o3 : n0 ≤ o3) (P0 : Arv Z h0 o0 kv .int (4 : Int32) [(.int v0), (.int v1), (.int v2), (.int v3)] (.int (0 : Int32))) (P1 : Arv Z h0 o2 ko .boolean (4 : Int32) [(.int (own_b a0_)), (.int (own_b a1_)), (.int (own_b a2_)), (.int (own_b a3_))] (.int (0 : Int32))) (P2 : Arv Z h0 o3 kc .boolean (4 : Int32) [(.int (own_b c0_)), (.int (own_b c1_)), (.int (own_b c2_)), (.int (own_b c3_))] (.int (0 : Int32))) (hn02 : o0 ≠ o2) (hn03 : o0 ≠ o3) (hn23 : o2 ≠ o3) (hv : 0 ≤ v2.toInt ∧ v2.toInt ≤ 255) :
    own_Met l Z (⟨"com/example/firm_tread/firmtread/transport/Utf8AcceptPinLaw", "step", "([II[Z[Z)I"⟩ : MethodName) method_2_code 10 (some .int) [] ({ frames := 0, cells := 0, slots := 0, locals := 0 } : Room) #[(.ref o0), (.int (2 : Int32)), (.ref o2), (.ref o3)] h0 0 0 (fun v h L => ∃ (r : Int32), ∃ (a2' : Bool), ∃ (a3' : Bool), ∃ (c2' : Bool), ∃ (c3' : Bool), v = some (.int r) ∧ Fr n0 L ∧ Keep h0 h [o2, o3] ∧ ((r = 3 ∧ ∀ t, own_chk ((v2, a2', c2') :: t) 0 128 191 = own_chk t 0 128 191) ∨ (¬ r < 4 ∧ own_chk [(v2, a2', c2'), (v3, a3', c3')] 0 128 191 = true)) ∧ Arv Z h o0 kv .int (4 : Int32) [(.int v0), (.int v1), (.int v2), (.int v3)] (.int (0 : Int32)) ∧ Arv Z h o2 ko .boolean (4 : Int32) [(.int (own_b a0_)), (.int (own_b a1_)), (.int (own_b a2')), (.int (own_b a3'))] (.int (0 : Int32)) ∧ Arv Z h o3 kc .boolean (4 : Int32) [(.int (own_b c0_)), (.int (own_b c1_)), (.int (own_b c2')), (.int (own_b c3'))] (.int (0 : Int32))) := by
  refine own_met (plainFor_of_name pn_stp2) ?_
  intro p e s m below meth c s₁ Bd hml0 hZ X0 e0
  have hx := Bd.exec
  have hby := Bd.bytes
  have hml : c.maxLocals = 10 := hml0
  have hown : s.vm.findClass "com/example/firm_tread/firmtread/transport/Utf8AcceptPinLaw" = some m.cls := findClass_of_methodNamed Bd.named
  have hnm := (name_of_methodNamed Bd.named Bd.method).1
  refine own_cast (ef_stp2 m o0 o2 o3) ?_
  generalize hQQ : (fun (v : Option Value) (h : Heap) (L : List Loc) => ∃ (r : Int32), ∃ (a2' : Bool), ∃ (a3' : Bool), ∃ (c2' : Bool), ∃ (c3' : Bool), v = some (.int r) ∧ Fr n0 L ∧ Keep h0 h [o2, o3] ∧ ((r = 3 ∧ ∀ t, own_chk ((v2, a2', c2') :: t) 0 128 191 = own_chk t 0 128 191) ∨ (¬ r < 4 ∧ own_chk [(v2, a2', c2'), (v3, a3', c3')] 0 128 191 = true)) ∧ Arv Z h o0 kv .int (4 : Int32) [(.int v0), (.int v1), (.int v2), (.int v3)] (.int (0 : Int32)) ∧ Arv Z h o2 ko .boolean (4 : Int32) [(.int (own_b a0_)), (.int (own_b a1_)), (.int (own_b a2')), (.int (own_b a3'))] (.int (0 : Int32)) ∧ Arv Z h o3 kc .boolean (4 : Int32) [(.int (own_b c0_)), (.int (own_b c1_)), (.int (own_b c2')), (.int (own_b c3'))] (.int (0 : Int32))) = QQ
  have N0 := Fr.nil n0
  have K0 := Keep.refl h0 [o2, o3]
  refine own_go (g' := (mkF m 1 #[.val (.ref o0), .val (.int (2 : Int32)), .val (.ref o2), .val (.ref o3), .unset, .unset, .unset, .unset, .unset, .unset] [(.int (2 : Int32))])) (fun _ kgo => XS.iloadN X0.here hx rfl (hb hby d1_0) rfl kgo) ?_
  refine own_go (g' := (mkF m 2 #[.val (.ref o0), .val (.int (2 : Int32)), .val (.ref o2), .val (.ref o3), .unset, .unset, .unset, .unset, .unset, .unset] [(.int (4 : Int32)), (.int (2 : Int32))])) (fun _ kgo => XS.iconst X0.here hx rfl (hb hby d1_1) kgo) ?_
  refine own_go (g' := (mkF m 7 #[.val (.ref o0), .val (.int (2 : Int32)), .val (.ref o2), .val (.ref o3), .unset, .unset, .unset, .unset, .unset, .unset] [])) (fun _ kgo => XS.icmpYes X0.here hx rfl (pc0 := 2) (pc' := 7) rfl (hb hby d1_2) rfl (tlt (by decide)).1 (by decide) (by decide) kgo) ?_
  refine own_go (g' := (mkF m 8 #[.val (.ref o0), .val (.int (2 : Int32)), .val (.ref o2), .val (.ref o3), .unset, .unset, .unset, .unset, .unset, .unset] [(.ref o0)])) (fun _ kgo => XS.aloadN X0.here hx rfl (hb hby d1_7) rfl rfl kgo) ?_
  refine own_go (g' := (mkF m 9 #[.val (.ref o0), .val (.int (2 : Int32)), .val (.ref o2), .val (.ref o3), .unset, .unset, .unset, .unset, .unset, .unset] [(.int (2 : Int32)), (.ref o0)])) (fun _ kgo => XS.iloadN X0.here hx rfl (hb hby d1_8) rfl kgo) ?_
  obtain ⟨cl1, Ar1, qk1, sz1, nn1, Hs1, Gs1⟩ := id P0
  have hin1 : ¬ ((2 : Int32) < 0 ∨ cl1.slots.size ≤ ((2 : Int32)).toNatClampNeg) := inb_of sz1 ⟨by decide, by decide⟩
  have hat1 : cl1.slots[((2 : Int32)).toNatClampNeg]? = some (.int v2) := Has.at Hs1 hin1 rfl
  refine own_go (g' := (mkF m 10 #[.val (.ref o0), .val (.int (2 : Int32)), .val (.ref o2), .val (.ref o3), .unset, .unset, .unset, .unset, .unset, .unset] [(.int v2)])) (X0.iaload hx (j := (2 : Int32)) (v := (.int v2)) (by rw [e0]; exact Ar1.1) (State.isArrayOf_alike hZ.alike Ar1.2.1) Ar1.2.2 hin1 hat1 (g := (mkF m 9 #[.val (.ref o0), .val (.int (2 : Int32)), .val (.ref o2), .val (.ref o3), .unset, .unset, .unset, .unset, .unset, .unset] [(.int (2 : Int32)), (.ref o0)])) rfl rfl (hb hby d1_9)) ?_
  refine own_go (g' := (mkF m 12 #[.val (.ref o0), .val (.int (2 : Int32)), .val (.ref o2), .val (.ref o3), .val (.int v2), .unset, .unset, .unset, .unset, .unset] [])) (fun _ kgo => XS.istore X0.here hx rfl (hb hby d1_10) rfl (l' := #[.val (.ref o0), .val (.int (2 : Int32)), .val (.ref o2), .val (.ref o3), .val (.int v2), .unset, .unset, .unset, .unset, .unset]) rfl kgo) ?_
  refine own_go (g' := (mkF m 15 #[.val (.ref o0), .val (.int (2 : Int32)), .val (.ref o2), .val (.ref o3), .val (.int v2), .unset, .unset, .unset, .unset, .unset] [(.int (128 : Int32))])) (fun _ kgo => XS.sipush X0.here hx rfl (hb hby d1_12) kgo) ?_
  refine own_go (g' := (mkF m 17 #[.val (.ref o0), .val (.int (2 : Int32)), .val (.ref o2), .val (.ref o3), .val (.int v2), .unset, .val (.int (128 : Int32)), .unset, .unset, .unset] [])) (fun _ kgo => XS.istore X0.here hx rfl (hb hby d1_15) rfl (l' := #[.val (.ref o0), .val (.int (2 : Int32)), .val (.ref o2), .val (.ref o3), .val (.int v2), .unset, .val (.int (128 : Int32)), .unset, .unset, .unset]) rfl kgo) ?_
  refine own_go (g' := (mkF m 20 #[.val (.ref o0), .val (.int (2 : Int32)), .val (.ref o2), .val (.ref o3), .val (.int v2), .unset, .val (.int (128 : Int32)), .unset, .unset, .unset] [(.int (191 : Int32))])) (fun _ kgo => XS.sipush X0.here hx rfl (hb hby d1_17) kgo) ?_
  refine own_go (g' := (mkF m 22 #[.val (.ref o0), .val (.int (2 : Int32)), .val (.ref o2), .val (.ref o3), .val (.int v2), .unset, .val (.int (128 : Int32)), .val (.int (191 : Int32)), .unset, .unset] [])) (fun _ kgo => XS.istore X0.here hx rfl (hb hby d1_20) rfl (l' := #[.val (.ref o0), .val (.int (2 : Int32)), .val (.ref o2), .val (.ref o3), .val (.int v2), .unset, .val (.int (128 : Int32)), .val (.int (191 : Int32)), .unset, .unset]) rfl kgo) ?_
  refine own_go (g' := (mkF m 24 #[.val (.ref o0), .val (.int (2 : Int32)), .val (.ref o2), .val (.ref o3), .val (.int v2), .unset, .val (.int (128 : Int32)), .val (.int (191 : Int32)), .unset, .unset] [(.int v2)])) (fun _ kgo => XS.iload X0.here hx rfl (hb hby d1_22) rfl kgo) ?_
  refine own_go (g' := (mkF m 26 #[.val (.ref o0), .val (.int (2 : Int32)), .val (.ref o2), .val (.ref o3), .val (.int v2), .unset, .val (.int (128 : Int32)), .val (.int (191 : Int32)), .unset, .unset] [(.int (127 : Int32)), (.int v2)])) (fun _ kgo => XS.bipush X0.here hx rfl (hb hby d1_24) kgo) ?_
  have J2 : ∀ (len : Int32), ∀ (lo : Int32), ∀ (hi : Int32), (own_cl v2 len lo hi) → (len = 1 ∨ len = 2 ∨ len = 3 ∨ len = 4) → (len = 1 → lo = 128 ∧ hi = 191) → own_Go p e below (own_Post s QQ 0 0) s₁ (mkF m 205 #[.val (.ref o0), .val (.int (2 : Int32)), .val (.ref o2), .val (.ref o3), .val (.int v2), .val (.int len), .val (.int lo), .val (.int hi), .unset, .unset] []) := by
    intro len lo hi hcl hlen hl1
    refine own_go (g' := (mkF m 206 #[.val (.ref o0), .val (.int (2 : Int32)), .val (.ref o2), .val (.ref o3), .val (.int v2), .val (.int len), .val (.int lo), .val (.int hi), .unset, .unset] [(.ref o2)])) (fun _ kgo => XS.aloadN X0.here hx rfl (hb hby d1_205) rfl rfl kgo) ?_
    refine own_go (g' := (mkF m 207 #[.val (.ref o0), .val (.int (2 : Int32)), .val (.ref o2), .val (.ref o3), .val (.int v2), .val (.int len), .val (.int lo), .val (.int hi), .unset, .unset] [(.int (2 : Int32)), (.ref o2)])) (fun _ kgo => XS.iloadN X0.here hx rfl (hb hby d1_206) rfl kgo) ?_
    refine own_go (g' := (mkF m 208 #[.val (.ref o0), .val (.int (2 : Int32)), .val (.ref o2), .val (.ref o3), .val (.int v2), .val (.int len), .val (.int lo), .val (.int hi), .unset, .unset] [(.int (1 : Int32)), (.int (2 : Int32)), (.ref o2)])) (fun _ kgo => XS.iconst X0.here hx rfl (hb hby d1_207) kgo) ?_
    obtain ⟨cl3, Ar3, qk3, sz3, nn3, Hs3, Gs3⟩ := id P1
    have hin3 : ¬ ((2 : Int32) < 0 ∨ cl3.slots.size ≤ ((2 : Int32)).toNatClampNeg) := inb_of sz3 ⟨by decide, by decide⟩
    obtain ⟨T3, h3, X3, e3, W3, st3⟩ := stZ X0 hx hZ e0 Ar3 (j := (2 : Int32)) hin3 (g := (mkF m 208 #[.val (.ref o0), .val (.int (2 : Int32)), .val (.ref o2), .val (.ref o3), .val (.int v2), .val (.int len), .val (.int lo), .val (.int hi), .unset, .unset] [(.int (1 : Int32)), (.int (2 : Int32)), (.ref o2)])) rfl rfl (hb hby d1_208)
    have Vn3 : Arv Z h3 o2 ko .boolean (4 : Int32) [(.int (own_b a0_)), (.int (own_b a1_)), (.int (nar .boolean (own_b true))), (.int (own_b a3_))] (.int (0 : Int32)) := Arv.set Ar3 qk3 sz3 nn3 Hs3 Gs3 (fits_nar_bool _) W3 2 rfl (Nat.le_of_ble_eq_true rfl)
    have V3 : Arv Z h3 o2 ko .boolean (4 : Int32) [(.int (own_b a0_)), (.int (own_b a1_)), (.int (own_b true)), (.int (own_b a3_))] (.int (0 : Int32)) := by rw [own_b_nar] at Vn3; exact Vn3
    have N3 := Fr.snoc X3 N0 g_o2
    have Z3 : n0 ≤ h3.size := by rw [W3.size]; exact Z0
    have K3 : Keep h0 h3 [o2, o3] := K0.wr W3 (Or.inl (List.mem_of_getElem? (i := 0) rfl))
    refine own_go (g' := (mkF m 209 #[.val (.ref o0), .val (.int (2 : Int32)), .val (.ref o2), .val (.ref o3), .val (.int v2), .val (.int len), .val (.int lo), .val (.int hi), .unset, .unset] [])) (st3) ?_
    refine own_go (g' := (mkF m 210 #[.val (.ref o0), .val (.int (2 : Int32)), .val (.ref o2), .val (.ref o3), .val (.int v2), .val (.int len), .val (.int lo), .val (.int hi), .unset, .unset] [(.ref o3)])) (fun _ kgo => XS.aloadN X3.here hx rfl (hb hby d1_209) rfl rfl kgo) ?_
    refine own_go (g' := (mkF m 211 #[.val (.ref o0), .val (.int (2 : Int32)), .val (.ref o2), .val (.ref o3), .val (.int v2), .val (.int len), .val (.int lo), .val (.int hi), .unset, .unset] [(.int (2 : Int32)), (.ref o3)])) (fun _ kgo => XS.iloadN X3.here hx rfl (hb hby d1_210) rfl kgo) ?_
    refine own_go (g' := (mkF m 213 #[.val (.ref o0), .val (.int (2 : Int32)), .val (.ref o2), .val (.ref o3), .val (.int v2), .val (.int len), .val (.int lo), .val (.int hi), .unset, .unset] [(.int len), (.int (2 : Int32)), (.ref o3)])) (fun _ kgo => XS.iload X3.here hx rfl (hb hby d1_211) rfl kgo) ?_
    refine own_go (g' := (mkF m 214 #[.val (.ref o0), .val (.int (2 : Int32)), .val (.ref o2), .val (.ref o3), .val (.int v2), .val (.int len), .val (.int lo), .val (.int hi), .unset, .unset] [(.int (1 : Int32)), (.int len), (.int (2 : Int32)), (.ref o3)])) (fun _ kgo => XS.iconst X3.here hx rfl (hb hby d1_213) kgo) ?_
    have J4 : own_Go p e below (own_Post s QQ 0 0) T3 (mkF m 222 #[.val (.ref o0), .val (.int (2 : Int32)), .val (.ref o2), .val (.ref o3), .val (.int v2), .val (.int len), .val (.int lo), .val (.int hi), .unset, .unset] [(.int (own_b (decide (len = (1 : Int32))))), (.int (2 : Int32)), (.ref o3)]) := by
      have fx5 : Arv Z h3 o3 kc .boolean (4 : Int32) [(.int (own_b c0_)), (.int (own_b c1_)), (.int (own_b c2_)), (.int (own_b c3_))] (.int (0 : Int32)) := (Arv.other P2 W3 (Ne.symm hn23))
      obtain ⟨cl6, Ar6, qk6, sz6, nn6, Hs6, Gs6⟩ := id fx5
      have hin6 : ¬ ((2 : Int32) < 0 ∨ cl6.slots.size ≤ ((2 : Int32)).toNatClampNeg) := inb_of sz6 ⟨by decide, by decide⟩
      obtain ⟨T6, h6, X6, e6, W6, st6⟩ := stZ X3 hx hZ e3 Ar6 (j := (2 : Int32)) hin6 (g := (mkF m 222 #[.val (.ref o0), .val (.int (2 : Int32)), .val (.ref o2), .val (.ref o3), .val (.int v2), .val (.int len), .val (.int lo), .val (.int hi), .unset, .unset] [(.int (own_b (decide (len = (1 : Int32))))), (.int (2 : Int32)), (.ref o3)])) rfl rfl (hb hby d1_222)
      have Vn6 : Arv Z h6 o3 kc .boolean (4 : Int32) [(.int (own_b c0_)), (.int (own_b c1_)), (.int (nar .boolean (own_b (decide (len = (1 : Int32)))))), (.int (own_b c3_))] (.int (0 : Int32)) := Arv.set Ar6 qk6 sz6 nn6 Hs6 Gs6 (fits_nar_bool _) W6 2 rfl (Nat.le_of_ble_eq_true rfl)
      have V6 : Arv Z h6 o3 kc .boolean (4 : Int32) [(.int (own_b c0_)), (.int (own_b c1_)), (.int (own_b (decide (len = (1 : Int32))))), (.int (own_b c3_))] (.int (0 : Int32)) := by rw [own_b_nar] at Vn6; exact Vn6
      have N6 := Fr.snoc X6 N3 g_o3
      have Z6 : n0 ≤ h6.size := by rw [W6.size]; exact Z3
      have K6 : Keep h0 h6 [o2, o3] := K3.wr W6 (Or.inl (List.mem_of_getElem? (i := 1) rfl))
      refine own_go (g' := (mkF m 223 #[.val (.ref o0), .val (.int (2 : Int32)), .val (.ref o2), .val (.ref o3), .val (.int v2), .val (.int len), .val (.int lo), .val (.int hi), .unset, .unset] [])) (st6) ?_
      refine own_go (g' := (mkF m 225 #[.val (.ref o0), .val (.int (2 : Int32)), .val (.ref o2), .val (.ref o3), .val (.int v2), .val (.int len), .val (.int lo), .val (.int hi), .unset, .unset] [(.int len)])) (fun _ kgo => XS.iload X6.here hx rfl (hb hby d1_223) rfl kgo) ?_
      refine own_go (g' := (mkF m 226 #[.val (.ref o0), .val (.int (2 : Int32)), .val (.ref o2), .val (.ref o3), .val (.int v2), .val (.int len), .val (.int lo), .val (.int hi), .unset, .unset] [(.int (2 : Int32)), (.int len)])) (fun _ kgo => XS.iconst X6.here hx rfl (hb hby d1_225) kgo) ?_
      by_cases hc7 : len < (2 : Int32)
      ·
        refine own_go (g' := (mkF m 294 #[.val (.ref o0), .val (.int (2 : Int32)), .val (.ref o2), .val (.ref o3), .val (.int v2), .val (.int len), .val (.int lo), .val (.int hi), .unset, .unset] [])) (fun _ kgo => XS.icmpYes X6.here hx rfl (pc0 := 226) (pc' := 294) rfl (hb hby d1_226) rfl (tlt hc7).1 (by decide) (by decide) kgo) ?_
        refine own_go (g' := (mkF m 296 #[.val (.ref o0), .val (.int (2 : Int32)), .val (.ref o2), .val (.ref o3), .val (.int v2), .val (.int len), .val (.int lo), .val (.int hi), .unset, .unset] [(.int len)])) (fun _ kgo => XS.iload X6.here hx rfl (hb hby d1_294) rfl kgo) ?_
        refine own_go (g' := (mkF m 297 #[.val (.ref o0), .val (.int (2 : Int32)), .val (.ref o2), .val (.ref o3), .val (.int v2), .val (.int len), .val (.int lo), .val (.int hi), .unset, .unset] [(.int (3 : Int32)), (.int len)])) (fun _ kgo => XS.iconst X6.here hx rfl (hb hby d1_296) kgo) ?_
        by_cases hc8 : len < (3 : Int32)
        ·
          refine own_go (g' := (mkF m 367 #[.val (.ref o0), .val (.int (2 : Int32)), .val (.ref o2), .val (.ref o3), .val (.int v2), .val (.int len), .val (.int lo), .val (.int hi), .unset, .unset] [])) (fun _ kgo => XS.icmpYes X6.here hx rfl (pc0 := 297) (pc' := 367) rfl (hb hby d1_297) rfl (tlt hc8).1 (by decide) (by decide) kgo) ?_
          refine own_go (g' := (mkF m 369 #[.val (.ref o0), .val (.int (2 : Int32)), .val (.ref o2), .val (.ref o3), .val (.int v2), .val (.int len), .val (.int lo), .val (.int hi), .unset, .unset] [(.int len)])) (fun _ kgo => XS.iload X6.here hx rfl (hb hby d1_367) rfl kgo) ?_
          refine own_go (g' := (mkF m 370 #[.val (.ref o0), .val (.int (2 : Int32)), .val (.ref o2), .val (.ref o3), .val (.int v2), .val (.int len), .val (.int lo), .val (.int hi), .unset, .unset] [(.int (4 : Int32)), (.int len)])) (fun _ kgo => XS.iconst X6.here hx rfl (hb hby d1_369) kgo) ?_
          by_cases hc9 : len < (4 : Int32)
          ·
            refine own_go (g' := (mkF m 430 #[.val (.ref o0), .val (.int (2 : Int32)), .val (.ref o2), .val (.ref o3), .val (.int v2), .val (.int len), .val (.int lo), .val (.int hi), .unset, .unset] [])) (fun _ kgo => XS.icmpYes X6.here hx rfl (pc0 := 370) (pc' := 430) rfl (hb hby d1_370) rfl (tlt hc9).1 (by decide) (by decide) kgo) ?_
            refine own_go (g' := (mkF m 431 #[.val (.ref o0), .val (.int (2 : Int32)), .val (.ref o2), .val (.ref o3), .val (.int v2), .val (.int len), .val (.int lo), .val (.int hi), .unset, .unset] [(.int (2 : Int32))])) (fun _ kgo => XS.iloadN X6.here hx rfl (hb hby d1_430) rfl kgo) ?_
            refine own_go (g' := (mkF m 433 #[.val (.ref o0), .val (.int (2 : Int32)), .val (.ref o2), .val (.ref o3), .val (.int v2), .val (.int len), .val (.int lo), .val (.int hi), .unset, .unset] [(.int len), (.int (2 : Int32))])) (fun _ kgo => XS.iload X6.here hx rfl (hb hby d1_431) rfl kgo) ?_
            refine own_go (g' := (mkF m 434 #[.val (.ref o0), .val (.int (2 : Int32)), .val (.ref o2), .val (.ref o3), .val (.int v2), .val (.int len), .val (.int lo), .val (.int hi), .unset, .unset] [(.int ((2 : Int32) + len))])) (fun _ kgo => XS.iadd X6.here hx rfl (hb hby d1_433) rfl kgo) ?_
            refine own_retI X6 hx Bd.returns Bd.notSynchronized (hb hby d1_434) (by decide) (by decide) ?_
            show QQ _ T6.heap _
            rw [e6]
            have hrel : ((((2 : Int32) + len) = 3 ∧ ∀ t, own_chk ((v2, true, (decide (len = (1 : Int32)))) :: t) 0 128 191 = own_chk t 0 128 191) ∨ (¬ ((2 : Int32) + len) < 4 ∧ own_chk [(v2, true, (decide (len = (1 : Int32)))), (v3, a3_, c3_)] 0 128 191 = true)) := by
              rcases hlen with rfl | rfl | rfl | rfl
              · first | exact absurd hc7 (by decide) | exact absurd hc8 (by decide) | exact absurd hc9 (by decide) | (exact Or.inl (⟨by decide, fun t => by rw [own_f1 hcl (hl1 rfl).1 (hl1 rfl).2 (by decide)]⟩))
              · first | exact absurd hc7 (by decide) | exact absurd hc8 (by decide) | exact absurd hc9 (by decide) | (exact Or.inr ((⟨by decide, by rw [own_fn hcl (nd := 1) (by decide) (by decide) (by decide)]; rfl⟩)))
              · first | exact absurd hc7 (by decide) | exact absurd hc8 (by decide) | exact absurd hc9 (by decide) | (exact Or.inr ((⟨by decide, by rw [own_fn hcl (nd := 2) (by decide) (by decide) (by decide)]; rfl⟩)))
              · first | exact absurd hc7 (by decide) | exact absurd hc8 (by decide) | exact absurd hc9 (by decide) | (exact Or.inr ((⟨by decide, by rw [own_fn hcl (nd := 3) (by decide) (by decide) (by decide)]; rfl⟩)))
            have fx10 : Arv Z h6 o0 kv .int (4 : Int32) [(.int v0), (.int v1), (.int v2), (.int v3)] (.int (0 : Int32)) := (Arv.other (Arv.other P0 W3 hn02) W6 hn03)
            have fx11 : Arv Z h6 o2 ko .boolean (4 : Int32) [(.int (own_b a0_)), (.int (own_b a1_)), (.int (own_b true)), (.int (own_b a3_))] (.int (0 : Int32)) := (Arv.other V3 W6 hn23)
            rw [← hQQ]
            exact ⟨((2 : Int32) + len), true, a3_, (decide (len = (1 : Int32))), c3_, rfl, N6, K6, hrel, fx10, fx11, V6⟩
          ·
            refine own_go (g' := (mkF m 373 #[.val (.ref o0), .val (.int (2 : Int32)), .val (.ref o2), .val (.ref o3), .val (.int v2), .val (.int len), .val (.int lo), .val (.int hi), .unset, .unset] [])) (fun _ kgo => XS.icmpNo X6.here hx rfl (hb hby d1_370) rfl (flt hc9).1 kgo) ?_
            refine own_go (g' := (mkF m 374 #[.val (.ref o0), .val (.int (2 : Int32)), .val (.ref o2), .val (.ref o3), .val (.int v2), .val (.int len), .val (.int lo), .val (.int hi), .unset, .unset] [(.int (2 : Int32))])) (fun _ kgo => XS.iloadN X6.here hx rfl (hb hby d1_373) rfl kgo) ?_
            refine own_go (g' := (mkF m 375 #[.val (.ref o0), .val (.int (2 : Int32)), .val (.ref o2), .val (.ref o3), .val (.int v2), .val (.int len), .val (.int lo), .val (.int hi), .unset, .unset] [(.int (3 : Int32)), (.int (2 : Int32))])) (fun _ kgo => XS.iconst X6.here hx rfl (hb hby d1_374) kgo) ?_
            refine own_go (g' := (mkF m 376 #[.val (.ref o0), .val (.int (2 : Int32)), .val (.ref o2), .val (.ref o3), .val (.int v2), .val (.int len), .val (.int lo), .val (.int hi), .unset, .unset] [(.int (5 : Int32))])) (fun _ kgo => XS.iadd X6.here hx rfl (hb hby d1_375) rfl kgo) ?_
            refine own_go (g' := (mkF m 377 #[.val (.ref o0), .val (.int (2 : Int32)), .val (.ref o2), .val (.ref o3), .val (.int v2), .val (.int len), .val (.int lo), .val (.int hi), .unset, .unset] [(.int (4 : Int32)), (.int (5 : Int32))])) (fun _ kgo => XS.iconst X6.here hx rfl (hb hby d1_376) kgo) ?_
            refine own_go (g' := (mkF m 430 #[.val (.ref o0), .val (.int (2 : Int32)), .val (.ref o2), .val (.ref o3), .val (.int v2), .val (.int len), .val (.int lo), .val (.int hi), .unset, .unset] [])) (fun _ kgo => XS.icmpYes X6.here hx rfl (pc0 := 377) (pc' := 430) rfl (hb hby d1_377) rfl (flt (by decide)).2.1 (by decide) (by decide) kgo) ?_
            refine own_go (g' := (mkF m 431 #[.val (.ref o0), .val (.int (2 : Int32)), .val (.ref o2), .val (.ref o3), .val (.int v2), .val (.int len), .val (.int lo), .val (.int hi), .unset, .unset] [(.int (2 : Int32))])) (fun _ kgo => XS.iloadN X6.here hx rfl (hb hby d1_430) rfl kgo) ?_
            refine own_go (g' := (mkF m 433 #[.val (.ref o0), .val (.int (2 : Int32)), .val (.ref o2), .val (.ref o3), .val (.int v2), .val (.int len), .val (.int lo), .val (.int hi), .unset, .unset] [(.int len), (.int (2 : Int32))])) (fun _ kgo => XS.iload X6.here hx rfl (hb hby d1_431) rfl kgo) ?_
            refine own_go (g' := (mkF m 434 #[.val (.ref o0), .val (.int (2 : Int32)), .val (.ref o2), .val (.ref o3), .val (.int v2), .val (.int len), .val (.int lo), .val (.int hi), .unset, .unset] [(.int ((2 : Int32) + len))])) (fun _ kgo => XS.iadd X6.here hx rfl (hb hby d1_433) rfl kgo) ?_
            refine own_retI X6 hx Bd.returns Bd.notSynchronized (hb hby d1_434) (by decide) (by decide) ?_
            show QQ _ T6.heap _
            rw [e6]
            have hrel : ((((2 : Int32) + len) = 3 ∧ ∀ t, own_chk ((v2, true, (decide (len = (1 : Int32)))) :: t) 0 128 191 = own_chk t 0 128 191) ∨ (¬ ((2 : Int32) + len) < 4 ∧ own_chk [(v2, true, (decide (len = (1 : Int32)))), (v3, a3_, c3_)] 0 128 191 = true)) := by
              rcases hlen with rfl | rfl | rfl | rfl
              · first | exact absurd hc7 (by decide) | exact absurd hc8 (by decide) | exact absurd hc9 (by decide) | (exact Or.inl (⟨by decide, fun t => by rw [own_f1 hcl (hl1 rfl).1 (hl1 rfl).2 (by decide)]⟩))
              · first | exact absurd hc7 (by decide) | exact absurd hc8 (by decide) | exact absurd hc9 (by decide) | (exact Or.inr ((⟨by decide, by rw [own_fn hcl (nd := 1) (by decide) (by decide) (by decide)]; rfl⟩)))
              · first | exact absurd hc7 (by decide) | exact absurd hc8 (by decide) | exact absurd hc9 (by decide) | (exact Or.inr ((⟨by decide, by rw [own_fn hcl (nd := 2) (by decide) (by decide) (by decide)]; rfl⟩)))
              · first | exact absurd hc7 (by decide) | exact absurd hc8 (by decide) | exact absurd hc9 (by decide) | (exact Or.inr ((⟨by decide, by rw [own_fn hcl (nd := 3) (by decide) (by decide) (by decide)]; rfl⟩)))
            have fx12 : Arv Z h6 o0 kv .int (4 : Int32) [(.int v0), (.int v1), (.int v2), (.int v3)] (.int (0 : Int32)) := (Arv.other (Arv.other P0 W3 hn02) W6 hn03)
            have fx13 : Arv Z h6 o2 ko .boolean (4 : Int32) [(.int (own_b a0_)), (.int (own_b a1_)), (.int (own_b true)), (.int (own_b a3_))] (.int (0 : Int32)) := (Arv.other V3 W6 hn23)
            rw [← hQQ]
            exact ⟨((2 : Int32) + len), true, a3_, (decide (len = (1 : Int32))), c3_, rfl, N6, K6, hrel, fx12, fx13, V6⟩
        ·
          refine own_go (g' := (mkF m 300 #[.val (.ref o0), .val (.int (2 : Int32)), .val (.ref o2), .val (.ref o3), .val (.int v2), .val (.int len), .val (.int lo), .val (.int hi), .unset, .unset] [])) (fun _ kgo => XS.icmpNo X6.here hx rfl (hb hby d1_297) rfl (flt hc8).1 kgo) ?_
          refine own_go (g' := (mkF m 301 #[.val (.ref o0), .val (.int (2 : Int32)), .val (.ref o2), .val (.ref o3), .val (.int v2), .val (.int len), .val (.int lo), .val (.int hi), .unset, .unset] [(.int (2 : Int32))])) (fun _ kgo => XS.iloadN X6.here hx rfl (hb hby d1_300) rfl kgo) ?_
          refine own_go (g' := (mkF m 302 #[.val (.ref o0), .val (.int (2 : Int32)), .val (.ref o2), .val (.ref o3), .val (.int v2), .val (.int len), .val (.int lo), .val (.int hi), .unset, .unset] [(.int (2 : Int32)), (.int (2 : Int32))])) (fun _ kgo => XS.iconst X6.here hx rfl (hb hby d1_301) kgo) ?_
          refine own_go (g' := (mkF m 303 #[.val (.ref o0), .val (.int (2 : Int32)), .val (.ref o2), .val (.ref o3), .val (.int v2), .val (.int len), .val (.int lo), .val (.int hi), .unset, .unset] [(.int (4 : Int32))])) (fun _ kgo => XS.iadd X6.here hx rfl (hb hby d1_302) rfl kgo) ?_
          refine own_go (g' := (mkF m 304 #[.val (.ref o0), .val (.int (2 : Int32)), .val (.ref o2), .val (.ref o3), .val (.int v2), .val (.int len), .val (.int lo), .val (.int hi), .unset, .unset] [(.int (4 : Int32)), (.int (4 : Int32))])) (fun _ kgo => XS.iconst X6.here hx rfl (hb hby d1_303) kgo) ?_
          refine own_go (g' := (mkF m 367 #[.val (.ref o0), .val (.int (2 : Int32)), .val (.ref o2), .val (.ref o3), .val (.int v2), .val (.int len), .val (.int lo), .val (.int hi), .unset, .unset] [])) (fun _ kgo => XS.icmpYes X6.here hx rfl (pc0 := 304) (pc' := 367) rfl (hb hby d1_304) rfl (flt (by decide)).2.1 (by decide) (by decide) kgo) ?_
          refine own_go (g' := (mkF m 369 #[.val (.ref o0), .val (.int (2 : Int32)), .val (.ref o2), .val (.ref o3), .val (.int v2), .val (.int len), .val (.int lo), .val (.int hi), .unset, .unset] [(.int len)])) (fun _ kgo => XS.iload X6.here hx rfl (hb hby d1_367) rfl kgo) ?_
          refine own_go (g' := (mkF m 370 #[.val (.ref o0), .val (.int (2 : Int32)), .val (.ref o2), .val (.ref o3), .val (.int v2), .val (.int len), .val (.int lo), .val (.int hi), .unset, .unset] [(.int (4 : Int32)), (.int len)])) (fun _ kgo => XS.iconst X6.here hx rfl (hb hby d1_369) kgo) ?_
          by_cases hc14 : len < (4 : Int32)
          ·
            refine own_go (g' := (mkF m 430 #[.val (.ref o0), .val (.int (2 : Int32)), .val (.ref o2), .val (.ref o3), .val (.int v2), .val (.int len), .val (.int lo), .val (.int hi), .unset, .unset] [])) (fun _ kgo => XS.icmpYes X6.here hx rfl (pc0 := 370) (pc' := 430) rfl (hb hby d1_370) rfl (tlt hc14).1 (by decide) (by decide) kgo) ?_
            refine own_go (g' := (mkF m 431 #[.val (.ref o0), .val (.int (2 : Int32)), .val (.ref o2), .val (.ref o3), .val (.int v2), .val (.int len), .val (.int lo), .val (.int hi), .unset, .unset] [(.int (2 : Int32))])) (fun _ kgo => XS.iloadN X6.here hx rfl (hb hby d1_430) rfl kgo) ?_
            refine own_go (g' := (mkF m 433 #[.val (.ref o0), .val (.int (2 : Int32)), .val (.ref o2), .val (.ref o3), .val (.int v2), .val (.int len), .val (.int lo), .val (.int hi), .unset, .unset] [(.int len), (.int (2 : Int32))])) (fun _ kgo => XS.iload X6.here hx rfl (hb hby d1_431) rfl kgo) ?_
            refine own_go (g' := (mkF m 434 #[.val (.ref o0), .val (.int (2 : Int32)), .val (.ref o2), .val (.ref o3), .val (.int v2), .val (.int len), .val (.int lo), .val (.int hi), .unset, .unset] [(.int ((2 : Int32) + len))])) (fun _ kgo => XS.iadd X6.here hx rfl (hb hby d1_433) rfl kgo) ?_
            refine own_retI X6 hx Bd.returns Bd.notSynchronized (hb hby d1_434) (by decide) (by decide) ?_
            show QQ _ T6.heap _
            rw [e6]
            have hrel : ((((2 : Int32) + len) = 3 ∧ ∀ t, own_chk ((v2, true, (decide (len = (1 : Int32)))) :: t) 0 128 191 = own_chk t 0 128 191) ∨ (¬ ((2 : Int32) + len) < 4 ∧ own_chk [(v2, true, (decide (len = (1 : Int32)))), (v3, a3_, c3_)] 0 128 191 = true)) := by
              rcases hlen with rfl | rfl | rfl | rfl
              · first | exact absurd hc7 (by decide) | exact absurd hc8 (by decide) | exact absurd hc14 (by decide) | (exact Or.inl (⟨by decide, fun t => by rw [own_f1 hcl (hl1 rfl).1 (hl1 rfl).2 (by decide)]⟩))
              · first | exact absurd hc7 (by decide) | exact absurd hc8 (by decide) | exact absurd hc14 (by decide) | (exact Or.inr ((⟨by decide, by rw [own_fn hcl (nd := 1) (by decide) (by decide) (by decide)]; rfl⟩)))
              · first | exact absurd hc7 (by decide) | exact absurd hc8 (by decide) | exact absurd hc14 (by decide) | (exact Or.inr ((⟨by decide, by rw [own_fn hcl (nd := 2) (by decide) (by decide) (by decide)]; rfl⟩)))
              · first | exact absurd hc7 (by decide) | exact absurd hc8 (by decide) | exact absurd hc14 (by decide) | (exact Or.inr ((⟨by decide, by rw [own_fn hcl (nd := 3) (by decide) (by decide) (by decide)]; rfl⟩)))
            have fx15 : Arv Z h6 o0 kv .int (4 : Int32) [(.int v0), (.int v1), (.int v2), (.int v3)] (.int (0 : Int32)) := (Arv.other (Arv.other P0 W3 hn02) W6 hn03)
            have fx16 : Arv Z h6 o2 ko .boolean (4 : Int32) [(.int (own_b a0_)), (.int (own_b a1_)), (.int (own_b true)), (.int (own_b a3_))] (.int (0 : Int32)) := (Arv.other V3 W6 hn23)
            rw [← hQQ]
            exact ⟨((2 : Int32) + len), true, a3_, (decide (len = (1 : Int32))), c3_, rfl, N6, K6, hrel, fx15, fx16, V6⟩
          ·
            refine own_go (g' := (mkF m 373 #[.val (.ref o0), .val (.int (2 : Int32)), .val (.ref o2), .val (.ref o3), .val (.int v2), .val (.int len), .val (.int lo), .val (.int hi), .unset, .unset] [])) (fun _ kgo => XS.icmpNo X6.here hx rfl (hb hby d1_370) rfl (flt hc14).1 kgo) ?_
            refine own_go (g' := (mkF m 374 #[.val (.ref o0), .val (.int (2 : Int32)), .val (.ref o2), .val (.ref o3), .val (.int v2), .val (.int len), .val (.int lo), .val (.int hi), .unset, .unset] [(.int (2 : Int32))])) (fun _ kgo => XS.iloadN X6.here hx rfl (hb hby d1_373) rfl kgo) ?_
            refine own_go (g' := (mkF m 375 #[.val (.ref o0), .val (.int (2 : Int32)), .val (.ref o2), .val (.ref o3), .val (.int v2), .val (.int len), .val (.int lo), .val (.int hi), .unset, .unset] [(.int (3 : Int32)), (.int (2 : Int32))])) (fun _ kgo => XS.iconst X6.here hx rfl (hb hby d1_374) kgo) ?_
            refine own_go (g' := (mkF m 376 #[.val (.ref o0), .val (.int (2 : Int32)), .val (.ref o2), .val (.ref o3), .val (.int v2), .val (.int len), .val (.int lo), .val (.int hi), .unset, .unset] [(.int (5 : Int32))])) (fun _ kgo => XS.iadd X6.here hx rfl (hb hby d1_375) rfl kgo) ?_
            refine own_go (g' := (mkF m 377 #[.val (.ref o0), .val (.int (2 : Int32)), .val (.ref o2), .val (.ref o3), .val (.int v2), .val (.int len), .val (.int lo), .val (.int hi), .unset, .unset] [(.int (4 : Int32)), (.int (5 : Int32))])) (fun _ kgo => XS.iconst X6.here hx rfl (hb hby d1_376) kgo) ?_
            refine own_go (g' := (mkF m 430 #[.val (.ref o0), .val (.int (2 : Int32)), .val (.ref o2), .val (.ref o3), .val (.int v2), .val (.int len), .val (.int lo), .val (.int hi), .unset, .unset] [])) (fun _ kgo => XS.icmpYes X6.here hx rfl (pc0 := 377) (pc' := 430) rfl (hb hby d1_377) rfl (flt (by decide)).2.1 (by decide) (by decide) kgo) ?_
            refine own_go (g' := (mkF m 431 #[.val (.ref o0), .val (.int (2 : Int32)), .val (.ref o2), .val (.ref o3), .val (.int v2), .val (.int len), .val (.int lo), .val (.int hi), .unset, .unset] [(.int (2 : Int32))])) (fun _ kgo => XS.iloadN X6.here hx rfl (hb hby d1_430) rfl kgo) ?_
            refine own_go (g' := (mkF m 433 #[.val (.ref o0), .val (.int (2 : Int32)), .val (.ref o2), .val (.ref o3), .val (.int v2), .val (.int len), .val (.int lo), .val (.int hi), .unset, .unset] [(.int len), (.int (2 : Int32))])) (fun _ kgo => XS.iload X6.here hx rfl (hb hby d1_431) rfl kgo) ?_
            refine own_go (g' := (mkF m 434 #[.val (.ref o0), .val (.int (2 : Int32)), .val (.ref o2), .val (.ref o3), .val (.int v2), .val (.int len), .val (.int lo), .val (.int hi), .unset, .unset] [(.int ((2 : Int32) + len))])) (fun _ kgo => XS.iadd X6.here hx rfl (hb hby d1_433) rfl kgo) ?_
            refine own_retI X6 hx Bd.returns Bd.notSynchronized (hb hby d1_434) (by decide) (by decide) ?_
            show QQ _ T6.heap _
            rw [e6]
            have hrel : ((((2 : Int32) + len) = 3 ∧ ∀ t, own_chk ((v2, true, (decide (len = (1 : Int32)))) :: t) 0 128 191 = own_chk t 0 128 191) ∨ (¬ ((2 : Int32) + len) < 4 ∧ own_chk [(v2, true, (decide (len = (1 : Int32)))), (v3, a3_, c3_)] 0 128 191 = true)) := by
              rcases hlen with rfl | rfl | rfl | rfl
              · first | exact absurd hc7 (by decide) | exact absurd hc8 (by decide) | exact absurd hc14 (by decide) | (exact Or.inl (⟨by decide, fun t => by rw [own_f1 hcl (hl1 rfl).1 (hl1 rfl).2 (by decide)]⟩))
              · first | exact absurd hc7 (by decide) | exact absurd hc8 (by decide) | exact absurd hc14 (by decide) | (exact Or.inr ((⟨by decide, by rw [own_fn hcl (nd := 1) (by decide) (by decide) (by decide)]; rfl⟩)))
              · first | exact absurd hc7 (by decide) | exact absurd hc8 (by decide) | exact absurd hc14 (by decide) | (exact Or.inr ((⟨by decide, by rw [own_fn hcl (nd := 2) (by decide) (by decide) (by decide)]; rfl⟩)))
              · first | exact absurd hc7 (by decide) | exact absurd hc8 (by decide) | exact absurd hc14 (by decide) | (exact Or.inr ((⟨by decide, by rw [own_fn hcl (nd := 3) (by decide) (by decide) (by decide)]; rfl⟩)))
            have fx17 : Arv Z h6 o0 kv .int (4 : Int32) [(.int v0), (.int v1), (.int v2), (.int v3)] (.int (0 : Int32)) := (Arv.other (Arv.other P0 W3 hn02) W6 hn03)
            have fx18 : Arv Z h6 o2 ko .boolean (4 : Int32) [(.int (own_b a0_)), (.int (own_b a1_)), (.int (own_b true)), (.int (own_b a3_))] (.int (0 : Int32)) := (Arv.other V3 W6 hn23)
            rw [← hQQ]
            exact ⟨((2 : Int32) + len), true, a3_, (decide (len = (1 : Int32))), c3_, rfl, N6, K6, hrel, fx17, fx18, V6⟩
      ·
        refine own_go (g' := (mkF m 229 #[.val (.ref o0), .val (.int (2 : Int32)), .val (.ref o2), .val (.ref o3), .val (.int v2), .val (.int len), .val (.int lo), .val (.int hi), .unset, .unset] [])) (fun _ kgo => XS.icmpNo X6.here hx rfl (hb hby d1_226) rfl (flt hc7).1 kgo) ?_
        refine own_go (g' := (mkF m 230 #[.val (.ref o0), .val (.int (2 : Int32)), .val (.ref o2), .val (.ref o3), .val (.int v2), .val (.int len), .val (.int lo), .val (.int hi), .unset, .unset] [(.int (2 : Int32))])) (fun _ kgo => XS.iloadN X6.here hx rfl (hb hby d1_229) rfl kgo) ?_
        refine own_go (g' := (mkF m 231 #[.val (.ref o0), .val (.int (2 : Int32)), .val (.ref o2), .val (.ref o3), .val (.int v2), .val (.int len), .val (.int lo), .val (.int hi), .unset, .unset] [(.int (1 : Int32)), (.int (2 : Int32))])) (fun _ kgo => XS.iconst X6.here hx rfl (hb hby d1_230) kgo) ?_
        refine own_go (g' := (mkF m 232 #[.val (.ref o0), .val (.int (2 : Int32)), .val (.ref o2), .val (.ref o3), .val (.int v2), .val (.int len), .val (.int lo), .val (.int hi), .unset, .unset] [(.int (3 : Int32))])) (fun _ kgo => XS.iadd X6.here hx rfl (hb hby d1_231) rfl kgo) ?_
        refine own_go (g' := (mkF m 233 #[.val (.ref o0), .val (.int (2 : Int32)), .val (.ref o2), .val (.ref o3), .val (.int v2), .val (.int len), .val (.int lo), .val (.int hi), .unset, .unset] [(.int (4 : Int32)), (.int (3 : Int32))])) (fun _ kgo => XS.iconst X6.here hx rfl (hb hby d1_232) kgo) ?_
        refine own_go (g' := (mkF m 236 #[.val (.ref o0), .val (.int (2 : Int32)), .val (.ref o2), .val (.ref o3), .val (.int v2), .val (.int len), .val (.int lo), .val (.int hi), .unset, .unset] [])) (fun _ kgo => XS.icmpNo X6.here hx rfl (hb hby d1_233) rfl (tlt (by decide)).2.1 kgo) ?_
        refine own_go (g' := (mkF m 237 #[.val (.ref o0), .val (.int (2 : Int32)), .val (.ref o2), .val (.ref o3), .val (.int v2), .val (.int len), .val (.int lo), .val (.int hi), .unset, .unset] [(.ref o0)])) (fun _ kgo => XS.aloadN X6.here hx rfl (hb hby d1_236) rfl rfl kgo) ?_
        refine own_go (g' := (mkF m 238 #[.val (.ref o0), .val (.int (2 : Int32)), .val (.ref o2), .val (.ref o3), .val (.int v2), .val (.int len), .val (.int lo), .val (.int hi), .unset, .unset] [(.int (2 : Int32)), (.ref o0)])) (fun _ kgo => XS.iloadN X6.here hx rfl (hb hby d1_237) rfl kgo) ?_
        refine own_go (g' := (mkF m 239 #[.val (.ref o0), .val (.int (2 : Int32)), .val (.ref o2), .val (.ref o3), .val (.int v2), .val (.int len), .val (.int lo), .val (.int hi), .unset, .unset] [(.int (1 : Int32)), (.int (2 : Int32)), (.ref o0)])) (fun _ kgo => XS.iconst X6.here hx rfl (hb hby d1_238) kgo) ?_
        refine own_go (g' := (mkF m 240 #[.val (.ref o0), .val (.int (2 : Int32)), .val (.ref o2), .val (.ref o3), .val (.int v2), .val (.int len), .val (.int lo), .val (.int hi), .unset, .unset] [(.int (3 : Int32)), (.ref o0)])) (fun _ kgo => XS.iadd X6.here hx rfl (hb hby d1_239) rfl kgo) ?_
        have fx19 : Arv Z h6 o0 kv .int (4 : Int32) [(.int v0), (.int v1), (.int v2), (.int v3)] (.int (0 : Int32)) := (Arv.other (Arv.other P0 W3 hn02) W6 hn03)
        obtain ⟨cl20, Ar20, qk20, sz20, nn20, Hs20, Gs20⟩ := id fx19
        have hin20 : ¬ ((3 : Int32) < 0 ∨ cl20.slots.size ≤ ((3 : Int32)).toNatClampNeg) := inb_of sz20 ⟨by decide, by decide⟩
        have hat20 : cl20.slots[((3 : Int32)).toNatClampNeg]? = some (.int v3) := Has.at Hs20 hin20 rfl
        refine own_go (g' := (mkF m 241 #[.val (.ref o0), .val (.int (2 : Int32)), .val (.ref o2), .val (.ref o3), .val (.int v2), .val (.int len), .val (.int lo), .val (.int hi), .unset, .unset] [(.int v3)])) (X6.iaload hx (j := (3 : Int32)) (v := (.int v3)) (by rw [e6]; exact Ar20.1) (State.isArrayOf_alike hZ.alike Ar20.2.1) Ar20.2.2 hin20 hat20 (g := (mkF m 240 #[.val (.ref o0), .val (.int (2 : Int32)), .val (.ref o2), .val (.ref o3), .val (.int v2), .val (.int len), .val (.int lo), .val (.int hi), .unset, .unset] [(.int (3 : Int32)), (.ref o0)])) rfl rfl (hb hby d1_240)) ?_
        refine own_go (g' := (mkF m 243 #[.val (.ref o0), .val (.int (2 : Int32)), .val (.ref o2), .val (.ref o3), .val (.int v2), .val (.int len), .val (.int lo), .val (.int hi), .val (.int v3), .unset] [])) (fun _ kgo => XS.istore X6.here hx rfl (hb hby d1_241) rfl (l' := #[.val (.ref o0), .val (.int (2 : Int32)), .val (.ref o2), .val (.ref o3), .val (.int v2), .val (.int len), .val (.int lo), .val (.int hi), .val (.int v3), .unset]) rfl kgo) ?_
        refine own_go (g' := (mkF m 245 #[.val (.ref o0), .val (.int (2 : Int32)), .val (.ref o2), .val (.ref o3), .val (.int v2), .val (.int len), .val (.int lo), .val (.int hi), .val (.int v3), .unset] [(.int v3)])) (fun _ kgo => XS.iload X6.here hx rfl (hb hby d1_243) rfl kgo) ?_
        refine own_go (g' := (mkF m 247 #[.val (.ref o0), .val (.int (2 : Int32)), .val (.ref o2), .val (.ref o3), .val (.int v2), .val (.int len), .val (.int lo), .val (.int hi), .val (.int v3), .unset] [(.int lo), (.int v3)])) (fun _ kgo => XS.iload X6.here hx rfl (hb hby d1_245) rfl kgo) ?_
        have J21 : own_Go p e below (own_Post s QQ 0 0) T6 (mkF m 262 #[.val (.ref o0), .val (.int (2 : Int32)), .val (.ref o2), .val (.ref o3), .val (.int v2), .val (.int len), .val (.int lo), .val (.int hi), .val (.int v3), .unset] [(.int (own_b ((!decide (v3 < lo) && !decide (hi < v3)))))]) := by
          suffices JNhg1 : ∀ g1 : Bool, g1 = ((!decide (v3 < lo) && !decide (hi < v3))) → own_Go p e below (own_Post s QQ 0 0) T6 (mkF m 262 #[.val (.ref o0), .val (.int (2 : Int32)), .val (.ref o2), .val (.ref o3), .val (.int v2), .val (.int len), .val (.int lo), .val (.int hi), .val (.int v3), .unset] [(.int (own_b g1))]) from JNhg1 _ (rfl)
          intro g1 hg1
          refine own_go (g' := (mkF m 264 #[.val (.ref o0), .val (.int (2 : Int32)), .val (.ref o2), .val (.ref o3), .val (.int v2), .val (.int len), .val (.int lo), .val (.int hi), .val (.int v3), .val (.int (own_b g1))] [])) (fun _ kgo => XS.istore X6.here hx rfl (hb hby d1_262) rfl (l' := #[.val (.ref o0), .val (.int (2 : Int32)), .val (.ref o2), .val (.ref o3), .val (.int v2), .val (.int len), .val (.int lo), .val (.int hi), .val (.int v3), .val (.int (own_b g1))]) rfl kgo) ?_
          refine own_go (g' := (mkF m 265 #[.val (.ref o0), .val (.int (2 : Int32)), .val (.ref o2), .val (.ref o3), .val (.int v2), .val (.int len), .val (.int lo), .val (.int hi), .val (.int v3), .val (.int (own_b g1))] [(.ref o2)])) (fun _ kgo => XS.aloadN X6.here hx rfl (hb hby d1_264) rfl rfl kgo) ?_
          refine own_go (g' := (mkF m 266 #[.val (.ref o0), .val (.int (2 : Int32)), .val (.ref o2), .val (.ref o3), .val (.int v2), .val (.int len), .val (.int lo), .val (.int hi), .val (.int v3), .val (.int (own_b g1))] [(.int (2 : Int32)), (.ref o2)])) (fun _ kgo => XS.iloadN X6.here hx rfl (hb hby d1_265) rfl kgo) ?_
          refine own_go (g' := (mkF m 267 #[.val (.ref o0), .val (.int (2 : Int32)), .val (.ref o2), .val (.ref o3), .val (.int v2), .val (.int len), .val (.int lo), .val (.int hi), .val (.int v3), .val (.int (own_b g1))] [(.int (1 : Int32)), (.int (2 : Int32)), (.ref o2)])) (fun _ kgo => XS.iconst X6.here hx rfl (hb hby d1_266) kgo) ?_
          refine own_go (g' := (mkF m 268 #[.val (.ref o0), .val (.int (2 : Int32)), .val (.ref o2), .val (.ref o3), .val (.int v2), .val (.int len), .val (.int lo), .val (.int hi), .val (.int v3), .val (.int (own_b g1))] [(.int (3 : Int32)), (.ref o2)])) (fun _ kgo => XS.iadd X6.here hx rfl (hb hby d1_267) rfl kgo) ?_
          refine own_go (g' := (mkF m 270 #[.val (.ref o0), .val (.int (2 : Int32)), .val (.ref o2), .val (.ref o3), .val (.int v2), .val (.int len), .val (.int lo), .val (.int hi), .val (.int v3), .val (.int (own_b g1))] [(.int (own_b g1)), (.int (3 : Int32)), (.ref o2)])) (fun _ kgo => XS.iload X6.here hx rfl (hb hby d1_268) rfl kgo) ?_
          have fx22 : Arv Z h6 o2 ko .boolean (4 : Int32) [(.int (own_b a0_)), (.int (own_b a1_)), (.int (own_b true)), (.int (own_b a3_))] (.int (0 : Int32)) := (Arv.other V3 W6 hn23)
          obtain ⟨cl23, Ar23, qk23, sz23, nn23, Hs23, Gs23⟩ := id fx22
          have hin23 : ¬ ((3 : Int32) < 0 ∨ cl23.slots.size ≤ ((3 : Int32)).toNatClampNeg) := inb_of sz23 ⟨by decide, by decide⟩
          obtain ⟨T23, h23, X23, e23, W23, st23⟩ := stZ X6 hx hZ e6 Ar23 (j := (3 : Int32)) hin23 (g := (mkF m 270 #[.val (.ref o0), .val (.int (2 : Int32)), .val (.ref o2), .val (.ref o3), .val (.int v2), .val (.int len), .val (.int lo), .val (.int hi), .val (.int v3), .val (.int (own_b g1))] [(.int (own_b g1)), (.int (3 : Int32)), (.ref o2)])) rfl rfl (hb hby d1_270)
          have Vn23 : Arv Z h23 o2 ko .boolean (4 : Int32) [(.int (own_b a0_)), (.int (own_b a1_)), (.int (own_b true)), (.int (nar .boolean (own_b g1)))] (.int (0 : Int32)) := Arv.set Ar23 qk23 sz23 nn23 Hs23 Gs23 (fits_nar_bool _) W23 3 rfl (Nat.le_of_ble_eq_true rfl)
          have V23 : Arv Z h23 o2 ko .boolean (4 : Int32) [(.int (own_b a0_)), (.int (own_b a1_)), (.int (own_b true)), (.int (own_b g1))] (.int (0 : Int32)) := by rw [own_b_nar] at Vn23; exact Vn23
          have N23 := Fr.snoc X23 N6 g_o2
          have Z23 : n0 ≤ h23.size := by rw [W23.size]; exact Z6
          have K23 : Keep h0 h23 [o2, o3] := K6.wr W23 (Or.inl (List.mem_of_getElem? (i := 0) rfl))
          refine own_go (g' := (mkF m 271 #[.val (.ref o0), .val (.int (2 : Int32)), .val (.ref o2), .val (.ref o3), .val (.int v2), .val (.int len), .val (.int lo), .val (.int hi), .val (.int v3), .val (.int (own_b g1))] [])) (st23) ?_
          refine own_go (g' := (mkF m 272 #[.val (.ref o0), .val (.int (2 : Int32)), .val (.ref o2), .val (.ref o3), .val (.int v2), .val (.int len), .val (.int lo), .val (.int hi), .val (.int v3), .val (.int (own_b g1))] [(.ref o3)])) (fun _ kgo => XS.aloadN X23.here hx rfl (hb hby d1_271) rfl rfl kgo) ?_
          refine own_go (g' := (mkF m 273 #[.val (.ref o0), .val (.int (2 : Int32)), .val (.ref o2), .val (.ref o3), .val (.int v2), .val (.int len), .val (.int lo), .val (.int hi), .val (.int v3), .val (.int (own_b g1))] [(.int (2 : Int32)), (.ref o3)])) (fun _ kgo => XS.iloadN X23.here hx rfl (hb hby d1_272) rfl kgo) ?_
          refine own_go (g' := (mkF m 274 #[.val (.ref o0), .val (.int (2 : Int32)), .val (.ref o2), .val (.ref o3), .val (.int v2), .val (.int len), .val (.int lo), .val (.int hi), .val (.int v3), .val (.int (own_b g1))] [(.int (1 : Int32)), (.int (2 : Int32)), (.ref o3)])) (fun _ kgo => XS.iconst X23.here hx rfl (hb hby d1_273) kgo) ?_
          refine own_go (g' := (mkF m 275 #[.val (.ref o0), .val (.int (2 : Int32)), .val (.ref o2), .val (.ref o3), .val (.int v2), .val (.int len), .val (.int lo), .val (.int hi), .val (.int v3), .val (.int (own_b g1))] [(.int (3 : Int32)), (.ref o3)])) (fun _ kgo => XS.iadd X23.here hx rfl (hb hby d1_274) rfl kgo) ?_
          refine own_go (g' := (mkF m 277 #[.val (.ref o0), .val (.int (2 : Int32)), .val (.ref o2), .val (.ref o3), .val (.int v2), .val (.int len), .val (.int lo), .val (.int hi), .val (.int v3), .val (.int (own_b g1))] [(.int len), (.int (3 : Int32)), (.ref o3)])) (fun _ kgo => XS.iload X23.here hx rfl (hb hby d1_275) rfl kgo) ?_
          refine own_go (g' := (mkF m 278 #[.val (.ref o0), .val (.int (2 : Int32)), .val (.ref o2), .val (.ref o3), .val (.int v2), .val (.int len), .val (.int lo), .val (.int hi), .val (.int v3), .val (.int (own_b g1))] [(.int (2 : Int32)), (.int len), (.int (3 : Int32)), (.ref o3)])) (fun _ kgo => XS.iconst X23.here hx rfl (hb hby d1_277) kgo) ?_
          have J24 : own_Go p e below (own_Post s QQ 0 0) T23 (mkF m 286 #[.val (.ref o0), .val (.int (2 : Int32)), .val (.ref o2), .val (.ref o3), .val (.int v2), .val (.int len), .val (.int lo), .val (.int hi), .val (.int v3), .val (.int (own_b g1))] [(.int (own_b (decide (len = (2 : Int32))))), (.int (3 : Int32)), (.ref o3)]) := by
            have fx25 : Arv Z h23 o3 kc .boolean (4 : Int32) [(.int (own_b c0_)), (.int (own_b c1_)), (.int (own_b (decide (len = (1 : Int32))))), (.int (own_b c3_))] (.int (0 : Int32)) := (Arv.other V6 W23 (Ne.symm hn23))
            obtain ⟨cl26, Ar26, qk26, sz26, nn26, Hs26, Gs26⟩ := id fx25
            have hin26 : ¬ ((3 : Int32) < 0 ∨ cl26.slots.size ≤ ((3 : Int32)).toNatClampNeg) := inb_of sz26 ⟨by decide, by decide⟩
            obtain ⟨T26, h26, X26, e26, W26, st26⟩ := stZ X23 hx hZ e23 Ar26 (j := (3 : Int32)) hin26 (g := (mkF m 286 #[.val (.ref o0), .val (.int (2 : Int32)), .val (.ref o2), .val (.ref o3), .val (.int v2), .val (.int len), .val (.int lo), .val (.int hi), .val (.int v3), .val (.int (own_b g1))] [(.int (own_b (decide (len = (2 : Int32))))), (.int (3 : Int32)), (.ref o3)])) rfl rfl (hb hby d1_286)
            have Vn26 : Arv Z h26 o3 kc .boolean (4 : Int32) [(.int (own_b c0_)), (.int (own_b c1_)), (.int (own_b (decide (len = (1 : Int32))))), (.int (nar .boolean (own_b (decide (len = (2 : Int32))))))] (.int (0 : Int32)) := Arv.set Ar26 qk26 sz26 nn26 Hs26 Gs26 (fits_nar_bool _) W26 3 rfl (Nat.le_of_ble_eq_true rfl)
            have V26 : Arv Z h26 o3 kc .boolean (4 : Int32) [(.int (own_b c0_)), (.int (own_b c1_)), (.int (own_b (decide (len = (1 : Int32))))), (.int (own_b (decide (len = (2 : Int32)))))] (.int (0 : Int32)) := by rw [own_b_nar] at Vn26; exact Vn26
            have N26 := Fr.snoc X26 N23 g_o3
            have Z26 : n0 ≤ h26.size := by rw [W26.size]; exact Z23
            have K26 : Keep h0 h26 [o2, o3] := K23.wr W26 (Or.inl (List.mem_of_getElem? (i := 1) rfl))
            refine own_go (g' := (mkF m 287 #[.val (.ref o0), .val (.int (2 : Int32)), .val (.ref o2), .val (.ref o3), .val (.int v2), .val (.int len), .val (.int lo), .val (.int hi), .val (.int v3), .val (.int (own_b g1))] [])) (st26) ?_
            refine own_go (g' := (mkF m 289 #[.val (.ref o0), .val (.int (2 : Int32)), .val (.ref o2), .val (.ref o3), .val (.int v2), .val (.int len), .val (.int lo), .val (.int hi), .val (.int v3), .val (.int (own_b g1))] [(.int (own_b g1))])) (fun _ kgo => XS.iload X26.here hx rfl (hb hby d1_287) rfl kgo) ?_
            by_cases hc27 : g1 = true
            ·
              refine own_go (g' := (mkF m 294 #[.val (.ref o0), .val (.int (2 : Int32)), .val (.ref o2), .val (.ref o3), .val (.int v2), .val (.int len), .val (.int lo), .val (.int hi), .val (.int v3), .val (.int (own_b g1))] [])) (fun _ kgo => XS.ifYes X26.here hx rfl (pc0 := 289) (pc' := 294) rfl (hb hby d1_289) rfl ((if0 _ _).trans (feq (own_b_n hc27)).2) (by decide) (by decide) kgo) ?_
              refine own_go (g' := (mkF m 296 #[.val (.ref o0), .val (.int (2 : Int32)), .val (.ref o2), .val (.ref o3), .val (.int v2), .val (.int len), .val (.int lo), .val (.int hi), .val (.int v3), .val (.int (own_b g1))] [(.int len)])) (fun _ kgo => XS.iload X26.here hx rfl (hb hby d1_294) rfl kgo) ?_
              refine own_go (g' := (mkF m 297 #[.val (.ref o0), .val (.int (2 : Int32)), .val (.ref o2), .val (.ref o3), .val (.int v2), .val (.int len), .val (.int lo), .val (.int hi), .val (.int v3), .val (.int (own_b g1))] [(.int (3 : Int32)), (.int len)])) (fun _ kgo => XS.iconst X26.here hx rfl (hb hby d1_296) kgo) ?_
              by_cases hc28 : len < (3 : Int32)
              ·
                refine own_go (g' := (mkF m 367 #[.val (.ref o0), .val (.int (2 : Int32)), .val (.ref o2), .val (.ref o3), .val (.int v2), .val (.int len), .val (.int lo), .val (.int hi), .val (.int v3), .val (.int (own_b g1))] [])) (fun _ kgo => XS.icmpYes X26.here hx rfl (pc0 := 297) (pc' := 367) rfl (hb hby d1_297) rfl (tlt hc28).1 (by decide) (by decide) kgo) ?_
                refine own_go (g' := (mkF m 369 #[.val (.ref o0), .val (.int (2 : Int32)), .val (.ref o2), .val (.ref o3), .val (.int v2), .val (.int len), .val (.int lo), .val (.int hi), .val (.int v3), .val (.int (own_b g1))] [(.int len)])) (fun _ kgo => XS.iload X26.here hx rfl (hb hby d1_367) rfl kgo) ?_
                refine own_go (g' := (mkF m 370 #[.val (.ref o0), .val (.int (2 : Int32)), .val (.ref o2), .val (.ref o3), .val (.int v2), .val (.int len), .val (.int lo), .val (.int hi), .val (.int v3), .val (.int (own_b g1))] [(.int (4 : Int32)), (.int len)])) (fun _ kgo => XS.iconst X26.here hx rfl (hb hby d1_369) kgo) ?_
                by_cases hc29 : len < (4 : Int32)
                ·
                  refine own_go (g' := (mkF m 430 #[.val (.ref o0), .val (.int (2 : Int32)), .val (.ref o2), .val (.ref o3), .val (.int v2), .val (.int len), .val (.int lo), .val (.int hi), .val (.int v3), .val (.int (own_b g1))] [])) (fun _ kgo => XS.icmpYes X26.here hx rfl (pc0 := 370) (pc' := 430) rfl (hb hby d1_370) rfl (tlt hc29).1 (by decide) (by decide) kgo) ?_
                  refine own_go (g' := (mkF m 431 #[.val (.ref o0), .val (.int (2 : Int32)), .val (.ref o2), .val (.ref o3), .val (.int v2), .val (.int len), .val (.int lo), .val (.int hi), .val (.int v3), .val (.int (own_b g1))] [(.int (2 : Int32))])) (fun _ kgo => XS.iloadN X26.here hx rfl (hb hby d1_430) rfl kgo) ?_
                  refine own_go (g' := (mkF m 433 #[.val (.ref o0), .val (.int (2 : Int32)), .val (.ref o2), .val (.ref o3), .val (.int v2), .val (.int len), .val (.int lo), .val (.int hi), .val (.int v3), .val (.int (own_b g1))] [(.int len), (.int (2 : Int32))])) (fun _ kgo => XS.iload X26.here hx rfl (hb hby d1_431) rfl kgo) ?_
                  refine own_go (g' := (mkF m 434 #[.val (.ref o0), .val (.int (2 : Int32)), .val (.ref o2), .val (.ref o3), .val (.int v2), .val (.int len), .val (.int lo), .val (.int hi), .val (.int v3), .val (.int (own_b g1))] [(.int ((2 : Int32) + len))])) (fun _ kgo => XS.iadd X26.here hx rfl (hb hby d1_433) rfl kgo) ?_
                  refine own_retI X26 hx Bd.returns Bd.notSynchronized (hb hby d1_434) (by decide) (by decide) ?_
                  show QQ _ T26.heap _
                  rw [e26]
                  have hrel : ((((2 : Int32) + len) = 3 ∧ ∀ t, own_chk ((v2, true, (decide (len = (1 : Int32)))) :: t) 0 128 191 = own_chk t 0 128 191) ∨ (¬ ((2 : Int32) + len) < 4 ∧ own_chk [(v2, true, (decide (len = (1 : Int32)))), (v3, g1, (decide (len = (2 : Int32))))] 0 128 191 = true)) := by
                    rcases hlen with rfl | rfl | rfl | rfl
                    · first | exact absurd hc7 (by decide) | exact absurd hc28 (by decide) | exact absurd hc29 (by decide) | (exact Or.inl (⟨by decide, fun t => by rw [own_f1 hcl (hl1 rfl).1 (hl1 rfl).2 (by decide)]⟩))
                    · first | exact absurd hc7 (by decide) | exact absurd hc28 (by decide) | exact absurd hc29 (by decide) | (exact Or.inr ((⟨by decide, by rw [own_fn hcl (nd := 1) (by decide) (by decide) (by decide), own_nt (nd' := 0) (by decide) (by decide) hg1 hc27 (by decide)]; rfl⟩)))
                    · first | exact absurd hc7 (by decide) | exact absurd hc28 (by decide) | exact absurd hc29 (by decide) | (exact Or.inr ((⟨by decide, by rw [own_fn hcl (nd := 2) (by decide) (by decide) (by decide), own_nt (nd' := 1) (by decide) (by decide) hg1 hc27 (by decide)]; rfl⟩)))
                    · first | exact absurd hc7 (by decide) | exact absurd hc28 (by decide) | exact absurd hc29 (by decide) | (exact Or.inr ((⟨by decide, by rw [own_fn hcl (nd := 3) (by decide) (by decide) (by decide), own_nt (nd' := 2) (by decide) (by decide) hg1 hc27 (by decide)]; rfl⟩)))
                  have fx30 : Arv Z h26 o0 kv .int (4 : Int32) [(.int v0), (.int v1), (.int v2), (.int v3)] (.int (0 : Int32)) := (Arv.other (Arv.other fx19 W23 hn02) W26 hn03)
                  have fx31 : Arv Z h26 o2 ko .boolean (4 : Int32) [(.int (own_b a0_)), (.int (own_b a1_)), (.int (own_b true)), (.int (own_b g1))] (.int (0 : Int32)) := (Arv.other V23 W26 hn23)
                  rw [← hQQ]
                  exact ⟨((2 : Int32) + len), true, g1, (decide (len = (1 : Int32))), (decide (len = (2 : Int32))), rfl, N26, K26, hrel, fx30, fx31, V26⟩
                ·
                  refine own_go (g' := (mkF m 373 #[.val (.ref o0), .val (.int (2 : Int32)), .val (.ref o2), .val (.ref o3), .val (.int v2), .val (.int len), .val (.int lo), .val (.int hi), .val (.int v3), .val (.int (own_b g1))] [])) (fun _ kgo => XS.icmpNo X26.here hx rfl (hb hby d1_370) rfl (flt hc29).1 kgo) ?_
                  refine own_go (g' := (mkF m 374 #[.val (.ref o0), .val (.int (2 : Int32)), .val (.ref o2), .val (.ref o3), .val (.int v2), .val (.int len), .val (.int lo), .val (.int hi), .val (.int v3), .val (.int (own_b g1))] [(.int (2 : Int32))])) (fun _ kgo => XS.iloadN X26.here hx rfl (hb hby d1_373) rfl kgo) ?_
                  refine own_go (g' := (mkF m 375 #[.val (.ref o0), .val (.int (2 : Int32)), .val (.ref o2), .val (.ref o3), .val (.int v2), .val (.int len), .val (.int lo), .val (.int hi), .val (.int v3), .val (.int (own_b g1))] [(.int (3 : Int32)), (.int (2 : Int32))])) (fun _ kgo => XS.iconst X26.here hx rfl (hb hby d1_374) kgo) ?_
                  refine own_go (g' := (mkF m 376 #[.val (.ref o0), .val (.int (2 : Int32)), .val (.ref o2), .val (.ref o3), .val (.int v2), .val (.int len), .val (.int lo), .val (.int hi), .val (.int v3), .val (.int (own_b g1))] [(.int (5 : Int32))])) (fun _ kgo => XS.iadd X26.here hx rfl (hb hby d1_375) rfl kgo) ?_
                  refine own_go (g' := (mkF m 377 #[.val (.ref o0), .val (.int (2 : Int32)), .val (.ref o2), .val (.ref o3), .val (.int v2), .val (.int len), .val (.int lo), .val (.int hi), .val (.int v3), .val (.int (own_b g1))] [(.int (4 : Int32)), (.int (5 : Int32))])) (fun _ kgo => XS.iconst X26.here hx rfl (hb hby d1_376) kgo) ?_
                  refine own_go (g' := (mkF m 430 #[.val (.ref o0), .val (.int (2 : Int32)), .val (.ref o2), .val (.ref o3), .val (.int v2), .val (.int len), .val (.int lo), .val (.int hi), .val (.int v3), .val (.int (own_b g1))] [])) (fun _ kgo => XS.icmpYes X26.here hx rfl (pc0 := 377) (pc' := 430) rfl (hb hby d1_377) rfl (flt (by decide)).2.1 (by decide) (by decide) kgo) ?_
                  refine own_go (g' := (mkF m 431 #[.val (.ref o0), .val (.int (2 : Int32)), .val (.ref o2), .val (.ref o3), .val (.int v2), .val (.int len), .val (.int lo), .val (.int hi), .val (.int v3), .val (.int (own_b g1))] [(.int (2 : Int32))])) (fun _ kgo => XS.iloadN X26.here hx rfl (hb hby d1_430) rfl kgo) ?_
                  refine own_go (g' := (mkF m 433 #[.val (.ref o0), .val (.int (2 : Int32)), .val (.ref o2), .val (.ref o3), .val (.int v2), .val (.int len), .val (.int lo), .val (.int hi), .val (.int v3), .val (.int (own_b g1))] [(.int len), (.int (2 : Int32))])) (fun _ kgo => XS.iload X26.here hx rfl (hb hby d1_431) rfl kgo) ?_
                  refine own_go (g' := (mkF m 434 #[.val (.ref o0), .val (.int (2 : Int32)), .val (.ref o2), .val (.ref o3), .val (.int v2), .val (.int len), .val (.int lo), .val (.int hi), .val (.int v3), .val (.int (own_b g1))] [(.int ((2 : Int32) + len))])) (fun _ kgo => XS.iadd X26.here hx rfl (hb hby d1_433) rfl kgo) ?_
                  refine own_retI X26 hx Bd.returns Bd.notSynchronized (hb hby d1_434) (by decide) (by decide) ?_
                  show QQ _ T26.heap _
                  rw [e26]
                  have hrel : ((((2 : Int32) + len) = 3 ∧ ∀ t, own_chk ((v2, true, (decide (len = (1 : Int32)))) :: t) 0 128 191 = own_chk t 0 128 191) ∨ (¬ ((2 : Int32) + len) < 4 ∧ own_chk [(v2, true, (decide (len = (1 : Int32)))), (v3, g1, (decide (len = (2 : Int32))))] 0 128 191 = true)) := by
                    rcases hlen with rfl | rfl | rfl | rfl
                    · first | exact absurd hc7 (by decide) | exact absurd hc28 (by decide) | exact absurd hc29 (by decide) | (exact Or.inl (⟨by decide, fun t => by rw [own_f1 hcl (hl1 rfl).1 (hl1 rfl).2 (by decide)]⟩))
                    · first | exact absurd hc7 (by decide) | exact absurd hc28 (by decide) | exact absurd hc29 (by decide) | (exact Or.inr ((⟨by decide, by rw [own_fn hcl (nd := 1) (by decide) (by decide) (by decide), own_nt (nd' := 0) (by decide) (by decide) hg1 hc27 (by decide)]; rfl⟩)))
                    · first | exact absurd hc7 (by decide) | exact absurd hc28 (by decide) | exact absurd hc29 (by decide) | (exact Or.inr ((⟨by decide, by rw [own_fn hcl (nd := 2) (by decide) (by decide) (by decide), own_nt (nd' := 1) (by decide) (by decide) hg1 hc27 (by decide)]; rfl⟩)))
                    · first | exact absurd hc7 (by decide) | exact absurd hc28 (by decide) | exact absurd hc29 (by decide) | (exact Or.inr ((⟨by decide, by rw [own_fn hcl (nd := 3) (by decide) (by decide) (by decide), own_nt (nd' := 2) (by decide) (by decide) hg1 hc27 (by decide)]; rfl⟩)))
                  have fx32 : Arv Z h26 o0 kv .int (4 : Int32) [(.int v0), (.int v1), (.int v2), (.int v3)] (.int (0 : Int32)) := (Arv.other (Arv.other fx19 W23 hn02) W26 hn03)
                  have fx33 : Arv Z h26 o2 ko .boolean (4 : Int32) [(.int (own_b a0_)), (.int (own_b a1_)), (.int (own_b true)), (.int (own_b g1))] (.int (0 : Int32)) := (Arv.other V23 W26 hn23)
                  rw [← hQQ]
                  exact ⟨((2 : Int32) + len), true, g1, (decide (len = (1 : Int32))), (decide (len = (2 : Int32))), rfl, N26, K26, hrel, fx32, fx33, V26⟩
              ·
                refine own_go (g' := (mkF m 300 #[.val (.ref o0), .val (.int (2 : Int32)), .val (.ref o2), .val (.ref o3), .val (.int v2), .val (.int len), .val (.int lo), .val (.int hi), .val (.int v3), .val (.int (own_b g1))] [])) (fun _ kgo => XS.icmpNo X26.here hx rfl (hb hby d1_297) rfl (flt hc28).1 kgo) ?_
                refine own_go (g' := (mkF m 301 #[.val (.ref o0), .val (.int (2 : Int32)), .val (.ref o2), .val (.ref o3), .val (.int v2), .val (.int len), .val (.int lo), .val (.int hi), .val (.int v3), .val (.int (own_b g1))] [(.int (2 : Int32))])) (fun _ kgo => XS.iloadN X26.here hx rfl (hb hby d1_300) rfl kgo) ?_
                refine own_go (g' := (mkF m 302 #[.val (.ref o0), .val (.int (2 : Int32)), .val (.ref o2), .val (.ref o3), .val (.int v2), .val (.int len), .val (.int lo), .val (.int hi), .val (.int v3), .val (.int (own_b g1))] [(.int (2 : Int32)), (.int (2 : Int32))])) (fun _ kgo => XS.iconst X26.here hx rfl (hb hby d1_301) kgo) ?_
                refine own_go (g' := (mkF m 303 #[.val (.ref o0), .val (.int (2 : Int32)), .val (.ref o2), .val (.ref o3), .val (.int v2), .val (.int len), .val (.int lo), .val (.int hi), .val (.int v3), .val (.int (own_b g1))] [(.int (4 : Int32))])) (fun _ kgo => XS.iadd X26.here hx rfl (hb hby d1_302) rfl kgo) ?_
                refine own_go (g' := (mkF m 304 #[.val (.ref o0), .val (.int (2 : Int32)), .val (.ref o2), .val (.ref o3), .val (.int v2), .val (.int len), .val (.int lo), .val (.int hi), .val (.int v3), .val (.int (own_b g1))] [(.int (4 : Int32)), (.int (4 : Int32))])) (fun _ kgo => XS.iconst X26.here hx rfl (hb hby d1_303) kgo) ?_
                refine own_go (g' := (mkF m 367 #[.val (.ref o0), .val (.int (2 : Int32)), .val (.ref o2), .val (.ref o3), .val (.int v2), .val (.int len), .val (.int lo), .val (.int hi), .val (.int v3), .val (.int (own_b g1))] [])) (fun _ kgo => XS.icmpYes X26.here hx rfl (pc0 := 304) (pc' := 367) rfl (hb hby d1_304) rfl (flt (by decide)).2.1 (by decide) (by decide) kgo) ?_
                refine own_go (g' := (mkF m 369 #[.val (.ref o0), .val (.int (2 : Int32)), .val (.ref o2), .val (.ref o3), .val (.int v2), .val (.int len), .val (.int lo), .val (.int hi), .val (.int v3), .val (.int (own_b g1))] [(.int len)])) (fun _ kgo => XS.iload X26.here hx rfl (hb hby d1_367) rfl kgo) ?_
                refine own_go (g' := (mkF m 370 #[.val (.ref o0), .val (.int (2 : Int32)), .val (.ref o2), .val (.ref o3), .val (.int v2), .val (.int len), .val (.int lo), .val (.int hi), .val (.int v3), .val (.int (own_b g1))] [(.int (4 : Int32)), (.int len)])) (fun _ kgo => XS.iconst X26.here hx rfl (hb hby d1_369) kgo) ?_
                by_cases hc34 : len < (4 : Int32)
                ·
                  refine own_go (g' := (mkF m 430 #[.val (.ref o0), .val (.int (2 : Int32)), .val (.ref o2), .val (.ref o3), .val (.int v2), .val (.int len), .val (.int lo), .val (.int hi), .val (.int v3), .val (.int (own_b g1))] [])) (fun _ kgo => XS.icmpYes X26.here hx rfl (pc0 := 370) (pc' := 430) rfl (hb hby d1_370) rfl (tlt hc34).1 (by decide) (by decide) kgo) ?_
                  refine own_go (g' := (mkF m 431 #[.val (.ref o0), .val (.int (2 : Int32)), .val (.ref o2), .val (.ref o3), .val (.int v2), .val (.int len), .val (.int lo), .val (.int hi), .val (.int v3), .val (.int (own_b g1))] [(.int (2 : Int32))])) (fun _ kgo => XS.iloadN X26.here hx rfl (hb hby d1_430) rfl kgo) ?_
                  refine own_go (g' := (mkF m 433 #[.val (.ref o0), .val (.int (2 : Int32)), .val (.ref o2), .val (.ref o3), .val (.int v2), .val (.int len), .val (.int lo), .val (.int hi), .val (.int v3), .val (.int (own_b g1))] [(.int len), (.int (2 : Int32))])) (fun _ kgo => XS.iload X26.here hx rfl (hb hby d1_431) rfl kgo) ?_
                  refine own_go (g' := (mkF m 434 #[.val (.ref o0), .val (.int (2 : Int32)), .val (.ref o2), .val (.ref o3), .val (.int v2), .val (.int len), .val (.int lo), .val (.int hi), .val (.int v3), .val (.int (own_b g1))] [(.int ((2 : Int32) + len))])) (fun _ kgo => XS.iadd X26.here hx rfl (hb hby d1_433) rfl kgo) ?_
                  refine own_retI X26 hx Bd.returns Bd.notSynchronized (hb hby d1_434) (by decide) (by decide) ?_
                  show QQ _ T26.heap _
                  rw [e26]
                  have hrel : ((((2 : Int32) + len) = 3 ∧ ∀ t, own_chk ((v2, true, (decide (len = (1 : Int32)))) :: t) 0 128 191 = own_chk t 0 128 191) ∨ (¬ ((2 : Int32) + len) < 4 ∧ own_chk [(v2, true, (decide (len = (1 : Int32)))), (v3, g1, (decide (len = (2 : Int32))))] 0 128 191 = true)) := by
                    rcases hlen with rfl | rfl | rfl | rfl
                    · first | exact absurd hc7 (by decide) | exact absurd hc28 (by decide) | exact absurd hc34 (by decide) | (exact Or.inl (⟨by decide, fun t => by rw [own_f1 hcl (hl1 rfl).1 (hl1 rfl).2 (by decide)]⟩))
                    · first | exact absurd hc7 (by decide) | exact absurd hc28 (by decide) | exact absurd hc34 (by decide) | (exact Or.inr ((⟨by decide, by rw [own_fn hcl (nd := 1) (by decide) (by decide) (by decide), own_nt (nd' := 0) (by decide) (by decide) hg1 hc27 (by decide)]; rfl⟩)))
                    · first | exact absurd hc7 (by decide) | exact absurd hc28 (by decide) | exact absurd hc34 (by decide) | (exact Or.inr ((⟨by decide, by rw [own_fn hcl (nd := 2) (by decide) (by decide) (by decide), own_nt (nd' := 1) (by decide) (by decide) hg1 hc27 (by decide)]; rfl⟩)))
                    · first | exact absurd hc7 (by decide) | exact absurd hc28 (by decide) | exact absurd hc34 (by decide) | (exact Or.inr ((⟨by decide, by rw [own_fn hcl (nd := 3) (by decide) (by decide) (by decide), own_nt (nd' := 2) (by decide) (by decide) hg1 hc27 (by decide)]; rfl⟩)))
                  have fx35 : Arv Z h26 o0 kv .int (4 : Int32) [(.int v0), (.int v1), (.int v2), (.int v3)] (.int (0 : Int32)) := (Arv.other (Arv.other fx19 W23 hn02) W26 hn03)
                  have fx36 : Arv Z h26 o2 ko .boolean (4 : Int32) [(.int (own_b a0_)), (.int (own_b a1_)), (.int (own_b true)), (.int (own_b g1))] (.int (0 : Int32)) := (Arv.other V23 W26 hn23)
                  rw [← hQQ]
                  exact ⟨((2 : Int32) + len), true, g1, (decide (len = (1 : Int32))), (decide (len = (2 : Int32))), rfl, N26, K26, hrel, fx35, fx36, V26⟩
                ·
                  refine own_go (g' := (mkF m 373 #[.val (.ref o0), .val (.int (2 : Int32)), .val (.ref o2), .val (.ref o3), .val (.int v2), .val (.int len), .val (.int lo), .val (.int hi), .val (.int v3), .val (.int (own_b g1))] [])) (fun _ kgo => XS.icmpNo X26.here hx rfl (hb hby d1_370) rfl (flt hc34).1 kgo) ?_
                  refine own_go (g' := (mkF m 374 #[.val (.ref o0), .val (.int (2 : Int32)), .val (.ref o2), .val (.ref o3), .val (.int v2), .val (.int len), .val (.int lo), .val (.int hi), .val (.int v3), .val (.int (own_b g1))] [(.int (2 : Int32))])) (fun _ kgo => XS.iloadN X26.here hx rfl (hb hby d1_373) rfl kgo) ?_
                  refine own_go (g' := (mkF m 375 #[.val (.ref o0), .val (.int (2 : Int32)), .val (.ref o2), .val (.ref o3), .val (.int v2), .val (.int len), .val (.int lo), .val (.int hi), .val (.int v3), .val (.int (own_b g1))] [(.int (3 : Int32)), (.int (2 : Int32))])) (fun _ kgo => XS.iconst X26.here hx rfl (hb hby d1_374) kgo) ?_
                  refine own_go (g' := (mkF m 376 #[.val (.ref o0), .val (.int (2 : Int32)), .val (.ref o2), .val (.ref o3), .val (.int v2), .val (.int len), .val (.int lo), .val (.int hi), .val (.int v3), .val (.int (own_b g1))] [(.int (5 : Int32))])) (fun _ kgo => XS.iadd X26.here hx rfl (hb hby d1_375) rfl kgo) ?_
                  refine own_go (g' := (mkF m 377 #[.val (.ref o0), .val (.int (2 : Int32)), .val (.ref o2), .val (.ref o3), .val (.int v2), .val (.int len), .val (.int lo), .val (.int hi), .val (.int v3), .val (.int (own_b g1))] [(.int (4 : Int32)), (.int (5 : Int32))])) (fun _ kgo => XS.iconst X26.here hx rfl (hb hby d1_376) kgo) ?_
                  refine own_go (g' := (mkF m 430 #[.val (.ref o0), .val (.int (2 : Int32)), .val (.ref o2), .val (.ref o3), .val (.int v2), .val (.int len), .val (.int lo), .val (.int hi), .val (.int v3), .val (.int (own_b g1))] [])) (fun _ kgo => XS.icmpYes X26.here hx rfl (pc0 := 377) (pc' := 430) rfl (hb hby d1_377) rfl (flt (by decide)).2.1 (by decide) (by decide) kgo) ?_
                  refine own_go (g' := (mkF m 431 #[.val (.ref o0), .val (.int (2 : Int32)), .val (.ref o2), .val (.ref o3), .val (.int v2), .val (.int len), .val (.int lo), .val (.int hi), .val (.int v3), .val (.int (own_b g1))] [(.int (2 : Int32))])) (fun _ kgo => XS.iloadN X26.here hx rfl (hb hby d1_430) rfl kgo) ?_
                  refine own_go (g' := (mkF m 433 #[.val (.ref o0), .val (.int (2 : Int32)), .val (.ref o2), .val (.ref o3), .val (.int v2), .val (.int len), .val (.int lo), .val (.int hi), .val (.int v3), .val (.int (own_b g1))] [(.int len), (.int (2 : Int32))])) (fun _ kgo => XS.iload X26.here hx rfl (hb hby d1_431) rfl kgo) ?_
                  refine own_go (g' := (mkF m 434 #[.val (.ref o0), .val (.int (2 : Int32)), .val (.ref o2), .val (.ref o3), .val (.int v2), .val (.int len), .val (.int lo), .val (.int hi), .val (.int v3), .val (.int (own_b g1))] [(.int ((2 : Int32) + len))])) (fun _ kgo => XS.iadd X26.here hx rfl (hb hby d1_433) rfl kgo) ?_
                  refine own_retI X26 hx Bd.returns Bd.notSynchronized (hb hby d1_434) (by decide) (by decide) ?_
                  show QQ _ T26.heap _
                  rw [e26]
                  have hrel : ((((2 : Int32) + len) = 3 ∧ ∀ t, own_chk ((v2, true, (decide (len = (1 : Int32)))) :: t) 0 128 191 = own_chk t 0 128 191) ∨ (¬ ((2 : Int32) + len) < 4 ∧ own_chk [(v2, true, (decide (len = (1 : Int32)))), (v3, g1, (decide (len = (2 : Int32))))] 0 128 191 = true)) := by
                    rcases hlen with rfl | rfl | rfl | rfl
                    · first | exact absurd hc7 (by decide) | exact absurd hc28 (by decide) | exact absurd hc34 (by decide) | (exact Or.inl (⟨by decide, fun t => by rw [own_f1 hcl (hl1 rfl).1 (hl1 rfl).2 (by decide)]⟩))
                    · first | exact absurd hc7 (by decide) | exact absurd hc28 (by decide) | exact absurd hc34 (by decide) | (exact Or.inr ((⟨by decide, by rw [own_fn hcl (nd := 1) (by decide) (by decide) (by decide), own_nt (nd' := 0) (by decide) (by decide) hg1 hc27 (by decide)]; rfl⟩)))
                    · first | exact absurd hc7 (by decide) | exact absurd hc28 (by decide) | exact absurd hc34 (by decide) | (exact Or.inr ((⟨by decide, by rw [own_fn hcl (nd := 2) (by decide) (by decide) (by decide), own_nt (nd' := 1) (by decide) (by decide) hg1 hc27 (by decide)]; rfl⟩)))
                    · first | exact absurd hc7 (by decide) | exact absurd hc28 (by decide) | exact absurd hc34 (by decide) | (exact Or.inr ((⟨by decide, by rw [own_fn hcl (nd := 3) (by decide) (by decide) (by decide), own_nt (nd' := 2) (by decide) (by decide) hg1 hc27 (by decide)]; rfl⟩)))
                  have fx37 : Arv Z h26 o0 kv .int (4 : Int32) [(.int v0), (.int v1), (.int v2), (.int v3)] (.int (0 : Int32)) := (Arv.other (Arv.other fx19 W23 hn02) W26 hn03)
                  have fx38 : Arv Z h26 o2 ko .boolean (4 : Int32) [(.int (own_b a0_)), (.int (own_b a1_)), (.int (own_b true)), (.int (own_b g1))] (.int (0 : Int32)) := (Arv.other V23 W26 hn23)
                  rw [← hQQ]
                  exact ⟨((2 : Int32) + len), true, g1, (decide (len = (1 : Int32))), (decide (len = (2 : Int32))), rfl, N26, K26, hrel, fx37, fx38, V26⟩
            ·
              refine own_go (g' := (mkF m 292 #[.val (.ref o0), .val (.int (2 : Int32)), .val (.ref o2), .val (.ref o3), .val (.int v2), .val (.int len), .val (.int lo), .val (.int hi), .val (.int v3), .val (.int (own_b g1))] [])) (fun _ kgo => XS.ifNo X26.here hx rfl (hb hby d1_289) rfl ((if0 _ _).trans (teq (own_b_f hc27)).2) kgo) ?_
              refine own_go (g' := (mkF m 293 #[.val (.ref o0), .val (.int (2 : Int32)), .val (.ref o2), .val (.ref o3), .val (.int v2), .val (.int len), .val (.int lo), .val (.int hi), .val (.int v3), .val (.int (own_b g1))] [(.int (4 : Int32))])) (fun _ kgo => XS.iconst X26.here hx rfl (hb hby d1_292) kgo) ?_
              refine own_retI X26 hx Bd.returns Bd.notSynchronized (hb hby d1_293) (by decide) (by decide) ?_
              show QQ _ T26.heap _
              rw [e26]
              have hrel : (((4 : Int32) = 3 ∧ ∀ t, own_chk ((v2, true, (decide (len = (1 : Int32)))) :: t) 0 128 191 = own_chk t 0 128 191) ∨ (¬ (4 : Int32) < 4 ∧ own_chk [(v2, true, (decide (len = (1 : Int32)))), (v3, g1, (decide (len = (2 : Int32))))] 0 128 191 = true)) := by
                rcases hlen with rfl | rfl | rfl | rfl
                · first | exact absurd hc7 (by decide) | (exact Or.inl (⟨by decide, fun t => by rw [own_f1 hcl (hl1 rfl).1 (hl1 rfl).2 (by decide)]⟩))
                · first | exact absurd hc7 (by decide) | (exact Or.inr ((⟨by decide, by rw [own_fn hcl (nd := 1) (by decide) (by decide) (by decide)]; exact own_nf (by decide) hg1 hc27⟩)))
                · first | exact absurd hc7 (by decide) | (exact Or.inr ((⟨by decide, by rw [own_fn hcl (nd := 2) (by decide) (by decide) (by decide)]; exact own_nf (by decide) hg1 hc27⟩)))
                · first | exact absurd hc7 (by decide) | (exact Or.inr ((⟨by decide, by rw [own_fn hcl (nd := 3) (by decide) (by decide) (by decide)]; exact own_nf (by decide) hg1 hc27⟩)))
              have fx39 : Arv Z h26 o0 kv .int (4 : Int32) [(.int v0), (.int v1), (.int v2), (.int v3)] (.int (0 : Int32)) := (Arv.other (Arv.other fx19 W23 hn02) W26 hn03)
              have fx40 : Arv Z h26 o2 ko .boolean (4 : Int32) [(.int (own_b a0_)), (.int (own_b a1_)), (.int (own_b true)), (.int (own_b g1))] (.int (0 : Int32)) := (Arv.other V23 W26 hn23)
              rw [← hQQ]
              exact ⟨(4 : Int32), true, g1, (decide (len = (1 : Int32))), (decide (len = (2 : Int32))), rfl, N26, K26, hrel, fx39, fx40, V26⟩
          by_cases hc41 : len = (2 : Int32)
          ·
            refine own_go (g' := (mkF m 281 #[.val (.ref o0), .val (.int (2 : Int32)), .val (.ref o2), .val (.ref o3), .val (.int v2), .val (.int len), .val (.int lo), .val (.int hi), .val (.int v3), .val (.int (own_b g1))] [(.int (3 : Int32)), (.ref o3)])) (fun _ kgo => XS.icmpNo X23.here hx rfl (hb hby d1_278) rfl (teq hc41).2 kgo) ?_
            refine own_go (g' := (mkF m 282 #[.val (.ref o0), .val (.int (2 : Int32)), .val (.ref o2), .val (.ref o3), .val (.int v2), .val (.int len), .val (.int lo), .val (.int hi), .val (.int v3), .val (.int (own_b g1))] [(.int (1 : Int32)), (.int (3 : Int32)), (.ref o3)])) (fun _ kgo => XS.iconst X23.here hx rfl (hb hby d1_281) kgo) ?_
            refine own_go (g' := (mkF m 286 #[.val (.ref o0), .val (.int (2 : Int32)), .val (.ref o2), .val (.ref o3), .val (.int v2), .val (.int len), .val (.int lo), .val (.int hi), .val (.int v3), .val (.int (own_b g1))] [(.int (1 : Int32)), (.int (3 : Int32)), (.ref o3)])) (fun _ kgo => XS.goto X23.here hx rfl (pc0 := 282) (pc' := 286) rfl (hb hby d1_282) (by decide) (by decide) kgo) ?_
            have hE24 : own_b (decide (len = (2 : Int32))) = (1 : Int32) := by simp only [decide_eq_true hc41]; first | done | rfl
            exact own_cast (by rw [hE24]) J24
          ·
            refine own_go (g' := (mkF m 285 #[.val (.ref o0), .val (.int (2 : Int32)), .val (.ref o2), .val (.ref o3), .val (.int v2), .val (.int len), .val (.int lo), .val (.int hi), .val (.int v3), .val (.int (own_b g1))] [(.int (3 : Int32)), (.ref o3)])) (fun _ kgo => XS.icmpYes X23.here hx rfl (pc0 := 278) (pc' := 285) rfl (hb hby d1_278) rfl (feq hc41).2 (by decide) (by decide) kgo) ?_
            refine own_go (g' := (mkF m 286 #[.val (.ref o0), .val (.int (2 : Int32)), .val (.ref o2), .val (.ref o3), .val (.int v2), .val (.int len), .val (.int lo), .val (.int hi), .val (.int v3), .val (.int (own_b g1))] [(.int (0 : Int32)), (.int (3 : Int32)), (.ref o3)])) (fun _ kgo => XS.iconst X23.here hx rfl (hb hby d1_285) kgo) ?_
            have hE24 : own_b (decide (len = (2 : Int32))) = (0 : Int32) := by simp only [decide_eq_false hc41]; first | done | rfl
            exact own_cast (by rw [hE24]) J24
        by_cases hc42 : v3 < lo
        ·
          refine own_go (g' := (mkF m 261 #[.val (.ref o0), .val (.int (2 : Int32)), .val (.ref o2), .val (.ref o3), .val (.int v2), .val (.int len), .val (.int lo), .val (.int hi), .val (.int v3), .unset] [])) (fun _ kgo => XS.icmpYes X6.here hx rfl (pc0 := 247) (pc' := 261) rfl (hb hby d1_247) rfl (tlt hc42).1 (by decide) (by decide) kgo) ?_
          refine own_go (g' := (mkF m 262 #[.val (.ref o0), .val (.int (2 : Int32)), .val (.ref o2), .val (.ref o3), .val (.int v2), .val (.int len), .val (.int lo), .val (.int hi), .val (.int v3), .unset] [(.int (0 : Int32))])) (fun _ kgo => XS.iconst X6.here hx rfl (hb hby d1_261) kgo) ?_
          have hE21 : own_b ((!decide (v3 < lo) && !decide (hi < v3))) = (0 : Int32) := by simp only [decide_eq_true hc42]; first | done | rfl
          exact own_cast (by rw [hE21]) J21
        ·
          refine own_go (g' := (mkF m 250 #[.val (.ref o0), .val (.int (2 : Int32)), .val (.ref o2), .val (.ref o3), .val (.int v2), .val (.int len), .val (.int lo), .val (.int hi), .val (.int v3), .unset] [])) (fun _ kgo => XS.icmpNo X6.here hx rfl (hb hby d1_247) rfl (flt hc42).1 kgo) ?_
          refine own_go (g' := (mkF m 252 #[.val (.ref o0), .val (.int (2 : Int32)), .val (.ref o2), .val (.ref o3), .val (.int v2), .val (.int len), .val (.int lo), .val (.int hi), .val (.int v3), .unset] [(.int v3)])) (fun _ kgo => XS.iload X6.here hx rfl (hb hby d1_250) rfl kgo) ?_
          refine own_go (g' := (mkF m 254 #[.val (.ref o0), .val (.int (2 : Int32)), .val (.ref o2), .val (.ref o3), .val (.int v2), .val (.int len), .val (.int lo), .val (.int hi), .val (.int v3), .unset] [(.int hi), (.int v3)])) (fun _ kgo => XS.iload X6.here hx rfl (hb hby d1_252) rfl kgo) ?_
          have J43 : own_Go p e below (own_Post s QQ 0 0) T6 (mkF m 262 #[.val (.ref o0), .val (.int (2 : Int32)), .val (.ref o2), .val (.ref o3), .val (.int v2), .val (.int len), .val (.int lo), .val (.int hi), .val (.int v3), .unset] [(.int (own_b (!decide (hi < v3))))]) := by
            have hE21 : own_b ((!decide (v3 < lo) && !decide (hi < v3))) = (own_b (!decide (hi < v3))) := by simp only [decide_eq_false hc42]; first | done | rfl
            exact own_cast (by rw [hE21]) J21
          by_cases hc44 : hi < v3
          ·
            refine own_go (g' := (mkF m 261 #[.val (.ref o0), .val (.int (2 : Int32)), .val (.ref o2), .val (.ref o3), .val (.int v2), .val (.int len), .val (.int lo), .val (.int hi), .val (.int v3), .unset] [])) (fun _ kgo => XS.icmpYes X6.here hx rfl (pc0 := 254) (pc' := 261) rfl (hb hby d1_254) rfl (tlt hc44).2.2.1 (by decide) (by decide) kgo) ?_
            refine own_go (g' := (mkF m 262 #[.val (.ref o0), .val (.int (2 : Int32)), .val (.ref o2), .val (.ref o3), .val (.int v2), .val (.int len), .val (.int lo), .val (.int hi), .val (.int v3), .unset] [(.int (0 : Int32))])) (fun _ kgo => XS.iconst X6.here hx rfl (hb hby d1_261) kgo) ?_
            have hE43 : own_b (!decide (hi < v3)) = (0 : Int32) := by simp only [decide_eq_true hc44]; first | done | rfl
            exact own_cast (by rw [hE43]) J43
          ·
            refine own_go (g' := (mkF m 257 #[.val (.ref o0), .val (.int (2 : Int32)), .val (.ref o2), .val (.ref o3), .val (.int v2), .val (.int len), .val (.int lo), .val (.int hi), .val (.int v3), .unset] [])) (fun _ kgo => XS.icmpNo X6.here hx rfl (hb hby d1_254) rfl (flt hc44).2.2.1 kgo) ?_
            refine own_go (g' := (mkF m 258 #[.val (.ref o0), .val (.int (2 : Int32)), .val (.ref o2), .val (.ref o3), .val (.int v2), .val (.int len), .val (.int lo), .val (.int hi), .val (.int v3), .unset] [(.int (1 : Int32))])) (fun _ kgo => XS.iconst X6.here hx rfl (hb hby d1_257) kgo) ?_
            refine own_go (g' := (mkF m 262 #[.val (.ref o0), .val (.int (2 : Int32)), .val (.ref o2), .val (.ref o3), .val (.int v2), .val (.int len), .val (.int lo), .val (.int hi), .val (.int v3), .unset] [(.int (1 : Int32))])) (fun _ kgo => XS.goto X6.here hx rfl (pc0 := 258) (pc' := 262) rfl (hb hby d1_258) (by decide) (by decide) kgo) ?_
            have hE43 : own_b (!decide (hi < v3)) = (1 : Int32) := by simp only [decide_eq_false hc44]; first | done | rfl
            exact own_cast (by rw [hE43]) J43
    by_cases hc45 : len = (1 : Int32)
    ·
      refine own_go (g' := (mkF m 217 #[.val (.ref o0), .val (.int (2 : Int32)), .val (.ref o2), .val (.ref o3), .val (.int v2), .val (.int len), .val (.int lo), .val (.int hi), .unset, .unset] [(.int (2 : Int32)), (.ref o3)])) (fun _ kgo => XS.icmpNo X3.here hx rfl (hb hby d1_214) rfl (teq hc45).2 kgo) ?_
      refine own_go (g' := (mkF m 218 #[.val (.ref o0), .val (.int (2 : Int32)), .val (.ref o2), .val (.ref o3), .val (.int v2), .val (.int len), .val (.int lo), .val (.int hi), .unset, .unset] [(.int (1 : Int32)), (.int (2 : Int32)), (.ref o3)])) (fun _ kgo => XS.iconst X3.here hx rfl (hb hby d1_217) kgo) ?_
      refine own_go (g' := (mkF m 222 #[.val (.ref o0), .val (.int (2 : Int32)), .val (.ref o2), .val (.ref o3), .val (.int v2), .val (.int len), .val (.int lo), .val (.int hi), .unset, .unset] [(.int (1 : Int32)), (.int (2 : Int32)), (.ref o3)])) (fun _ kgo => XS.goto X3.here hx rfl (pc0 := 218) (pc' := 222) rfl (hb hby d1_218) (by decide) (by decide) kgo) ?_
      have hE4 : own_b (decide (len = (1 : Int32))) = (1 : Int32) := by simp only [decide_eq_true hc45]; first | done | rfl
      exact own_cast (by rw [hE4]) J4
    ·
      refine own_go (g' := (mkF m 221 #[.val (.ref o0), .val (.int (2 : Int32)), .val (.ref o2), .val (.ref o3), .val (.int v2), .val (.int len), .val (.int lo), .val (.int hi), .unset, .unset] [(.int (2 : Int32)), (.ref o3)])) (fun _ kgo => XS.icmpYes X3.here hx rfl (pc0 := 214) (pc' := 221) rfl (hb hby d1_214) rfl (feq hc45).2 (by decide) (by decide) kgo) ?_
      refine own_go (g' := (mkF m 222 #[.val (.ref o0), .val (.int (2 : Int32)), .val (.ref o2), .val (.ref o3), .val (.int v2), .val (.int len), .val (.int lo), .val (.int hi), .unset, .unset] [(.int (0 : Int32)), (.int (2 : Int32)), (.ref o3)])) (fun _ kgo => XS.iconst X3.here hx rfl (hb hby d1_221) kgo) ?_
      have hE4 : own_b (decide (len = (1 : Int32))) = (0 : Int32) := by simp only [decide_eq_false hc45]; first | done | rfl
      exact own_cast (by rw [hE4]) J4
  by_cases hc46 : (127 : Int32) < v2
  ·
    refine own_go (g' := (mkF m 35 #[.val (.ref o0), .val (.int (2 : Int32)), .val (.ref o2), .val (.ref o3), .val (.int v2), .unset, .val (.int (128 : Int32)), .val (.int (191 : Int32)), .unset, .unset] [])) (fun _ kgo => XS.icmpYes X0.here hx rfl (pc0 := 26) (pc' := 35) rfl (hb hby d1_26) rfl (tlt hc46).2.2.1 (by decide) (by decide) kgo) ?_
    refine own_go (g' := (mkF m 37 #[.val (.ref o0), .val (.int (2 : Int32)), .val (.ref o2), .val (.ref o3), .val (.int v2), .unset, .val (.int (128 : Int32)), .val (.int (191 : Int32)), .unset, .unset] [(.int v2)])) (fun _ kgo => XS.iload X0.here hx rfl (hb hby d1_35) rfl kgo) ?_
    refine own_go (g' := (mkF m 40 #[.val (.ref o0), .val (.int (2 : Int32)), .val (.ref o2), .val (.ref o3), .val (.int v2), .unset, .val (.int (128 : Int32)), .val (.int (191 : Int32)), .unset, .unset] [(.int (194 : Int32)), (.int v2)])) (fun _ kgo => XS.sipush X0.here hx rfl (hb hby d1_37) kgo) ?_
    have J47 : (¬ (¬ v2 < (194 : Int32) ∧ ¬ (223 : Int32) < v2)) → own_Go p e below (own_Post s QQ 0 0) s₁ (mkF m 57 #[.val (.ref o0), .val (.int (2 : Int32)), .val (.ref o2), .val (.ref o3), .val (.int v2), .unset, .val (.int (128 : Int32)), .val (.int (191 : Int32)), .unset, .unset] []) := by
      intro h57
      refine own_go (g' := (mkF m 59 #[.val (.ref o0), .val (.int (2 : Int32)), .val (.ref o2), .val (.ref o3), .val (.int v2), .unset, .val (.int (128 : Int32)), .val (.int (191 : Int32)), .unset, .unset] [(.int v2)])) (fun _ kgo => XS.iload X0.here hx rfl (hb hby d1_57) rfl kgo) ?_
      refine own_go (g' := (mkF m 62 #[.val (.ref o0), .val (.int (2 : Int32)), .val (.ref o2), .val (.ref o3), .val (.int v2), .unset, .val (.int (128 : Int32)), .val (.int (191 : Int32)), .unset, .unset] [(.int (224 : Int32)), (.int v2)])) (fun _ kgo => XS.sipush X0.here hx rfl (hb hby d1_59) kgo) ?_
      by_cases hc48 : v2 = (224 : Int32)
      ·
        refine own_go (g' := (mkF m 65 #[.val (.ref o0), .val (.int (2 : Int32)), .val (.ref o2), .val (.ref o3), .val (.int v2), .unset, .val (.int (128 : Int32)), .val (.int (191 : Int32)), .unset, .unset] [])) (fun _ kgo => XS.icmpNo X0.here hx rfl (hb hby d1_62) rfl (teq hc48).2 kgo) ?_
        refine own_go (g' := (mkF m 66 #[.val (.ref o0), .val (.int (2 : Int32)), .val (.ref o2), .val (.ref o3), .val (.int v2), .unset, .val (.int (128 : Int32)), .val (.int (191 : Int32)), .unset, .unset] [(.int (3 : Int32))])) (fun _ kgo => XS.iconst X0.here hx rfl (hb hby d1_65) kgo) ?_
        refine own_go (g' := (mkF m 68 #[.val (.ref o0), .val (.int (2 : Int32)), .val (.ref o2), .val (.ref o3), .val (.int v2), .val (.int (3 : Int32)), .val (.int (128 : Int32)), .val (.int (191 : Int32)), .unset, .unset] [])) (fun _ kgo => XS.istore X0.here hx rfl (hb hby d1_66) rfl (l' := #[.val (.ref o0), .val (.int (2 : Int32)), .val (.ref o2), .val (.ref o3), .val (.int v2), .val (.int (3 : Int32)), .val (.int (128 : Int32)), .val (.int (191 : Int32)), .unset, .unset]) rfl kgo) ?_
        refine own_go (g' := (mkF m 71 #[.val (.ref o0), .val (.int (2 : Int32)), .val (.ref o2), .val (.ref o3), .val (.int v2), .val (.int (3 : Int32)), .val (.int (128 : Int32)), .val (.int (191 : Int32)), .unset, .unset] [(.int (160 : Int32))])) (fun _ kgo => XS.sipush X0.here hx rfl (hb hby d1_68) kgo) ?_
        refine own_go (g' := (mkF m 73 #[.val (.ref o0), .val (.int (2 : Int32)), .val (.ref o2), .val (.ref o3), .val (.int v2), .val (.int (3 : Int32)), .val (.int (160 : Int32)), .val (.int (191 : Int32)), .unset, .unset] [])) (fun _ kgo => XS.istore X0.here hx rfl (hb hby d1_71) rfl (l' := #[.val (.ref o0), .val (.int (2 : Int32)), .val (.ref o2), .val (.ref o3), .val (.int v2), .val (.int (3 : Int32)), .val (.int (160 : Int32)), .val (.int (191 : Int32)), .unset, .unset]) rfl kgo) ?_
        refine own_go (g' := (mkF m 205 #[.val (.ref o0), .val (.int (2 : Int32)), .val (.ref o2), .val (.ref o3), .val (.int v2), .val (.int (3 : Int32)), .val (.int (160 : Int32)), .val (.int (191 : Int32)), .unset, .unset] [])) (fun _ kgo => XS.goto X0.here hx rfl (pc0 := 73) (pc' := 205) rfl (hb hby d1_73) (by decide) (by decide) kgo) ?_
        exact J2 (3 : Int32) (160 : Int32) (191 : Int32) (by rw [hc48]; exact own_clE0) (by decide) (by decide)
      ·
        refine own_go (g' := (mkF m 76 #[.val (.ref o0), .val (.int (2 : Int32)), .val (.ref o2), .val (.ref o3), .val (.int v2), .unset, .val (.int (128 : Int32)), .val (.int (191 : Int32)), .unset, .unset] [])) (fun _ kgo => XS.icmpYes X0.here hx rfl (pc0 := 62) (pc' := 76) rfl (hb hby d1_62) rfl (feq hc48).2 (by decide) (by decide) kgo) ?_
        refine own_go (g' := (mkF m 78 #[.val (.ref o0), .val (.int (2 : Int32)), .val (.ref o2), .val (.ref o3), .val (.int v2), .unset, .val (.int (128 : Int32)), .val (.int (191 : Int32)), .unset, .unset] [(.int v2)])) (fun _ kgo => XS.iload X0.here hx rfl (hb hby d1_76) rfl kgo) ?_
        refine own_go (g' := (mkF m 81 #[.val (.ref o0), .val (.int (2 : Int32)), .val (.ref o2), .val (.ref o3), .val (.int v2), .unset, .val (.int (128 : Int32)), .val (.int (191 : Int32)), .unset, .unset] [(.int (225 : Int32)), (.int v2)])) (fun _ kgo => XS.sipush X0.here hx rfl (hb hby d1_78) kgo) ?_
        have J49 : (¬ (¬ v2 < (225 : Int32) ∧ ¬ (236 : Int32) < v2)) → own_Go p e below (own_Post s QQ 0 0) s₁ (mkF m 98 #[.val (.ref o0), .val (.int (2 : Int32)), .val (.ref o2), .val (.ref o3), .val (.int v2), .unset, .val (.int (128 : Int32)), .val (.int (191 : Int32)), .unset, .unset] []) := by
          intro h98
          refine own_go (g' := (mkF m 100 #[.val (.ref o0), .val (.int (2 : Int32)), .val (.ref o2), .val (.ref o3), .val (.int v2), .unset, .val (.int (128 : Int32)), .val (.int (191 : Int32)), .unset, .unset] [(.int v2)])) (fun _ kgo => XS.iload X0.here hx rfl (hb hby d1_98) rfl kgo) ?_
          refine own_go (g' := (mkF m 103 #[.val (.ref o0), .val (.int (2 : Int32)), .val (.ref o2), .val (.ref o3), .val (.int v2), .unset, .val (.int (128 : Int32)), .val (.int (191 : Int32)), .unset, .unset] [(.int (237 : Int32)), (.int v2)])) (fun _ kgo => XS.sipush X0.here hx rfl (hb hby d1_100) kgo) ?_
          by_cases hc50 : v2 = (237 : Int32)
          ·
            refine own_go (g' := (mkF m 106 #[.val (.ref o0), .val (.int (2 : Int32)), .val (.ref o2), .val (.ref o3), .val (.int v2), .unset, .val (.int (128 : Int32)), .val (.int (191 : Int32)), .unset, .unset] [])) (fun _ kgo => XS.icmpNo X0.here hx rfl (hb hby d1_103) rfl (teq hc50).2 kgo) ?_
            refine own_go (g' := (mkF m 107 #[.val (.ref o0), .val (.int (2 : Int32)), .val (.ref o2), .val (.ref o3), .val (.int v2), .unset, .val (.int (128 : Int32)), .val (.int (191 : Int32)), .unset, .unset] [(.int (3 : Int32))])) (fun _ kgo => XS.iconst X0.here hx rfl (hb hby d1_106) kgo) ?_
            refine own_go (g' := (mkF m 109 #[.val (.ref o0), .val (.int (2 : Int32)), .val (.ref o2), .val (.ref o3), .val (.int v2), .val (.int (3 : Int32)), .val (.int (128 : Int32)), .val (.int (191 : Int32)), .unset, .unset] [])) (fun _ kgo => XS.istore X0.here hx rfl (hb hby d1_107) rfl (l' := #[.val (.ref o0), .val (.int (2 : Int32)), .val (.ref o2), .val (.ref o3), .val (.int v2), .val (.int (3 : Int32)), .val (.int (128 : Int32)), .val (.int (191 : Int32)), .unset, .unset]) rfl kgo) ?_
            refine own_go (g' := (mkF m 112 #[.val (.ref o0), .val (.int (2 : Int32)), .val (.ref o2), .val (.ref o3), .val (.int v2), .val (.int (3 : Int32)), .val (.int (128 : Int32)), .val (.int (191 : Int32)), .unset, .unset] [(.int (159 : Int32))])) (fun _ kgo => XS.sipush X0.here hx rfl (hb hby d1_109) kgo) ?_
            refine own_go (g' := (mkF m 114 #[.val (.ref o0), .val (.int (2 : Int32)), .val (.ref o2), .val (.ref o3), .val (.int v2), .val (.int (3 : Int32)), .val (.int (128 : Int32)), .val (.int (159 : Int32)), .unset, .unset] [])) (fun _ kgo => XS.istore X0.here hx rfl (hb hby d1_112) rfl (l' := #[.val (.ref o0), .val (.int (2 : Int32)), .val (.ref o2), .val (.ref o3), .val (.int v2), .val (.int (3 : Int32)), .val (.int (128 : Int32)), .val (.int (159 : Int32)), .unset, .unset]) rfl kgo) ?_
            refine own_go (g' := (mkF m 205 #[.val (.ref o0), .val (.int (2 : Int32)), .val (.ref o2), .val (.ref o3), .val (.int v2), .val (.int (3 : Int32)), .val (.int (128 : Int32)), .val (.int (159 : Int32)), .unset, .unset] [])) (fun _ kgo => XS.goto X0.here hx rfl (pc0 := 114) (pc' := 205) rfl (hb hby d1_114) (by decide) (by decide) kgo) ?_
            exact J2 (3 : Int32) (128 : Int32) (159 : Int32) (by rw [hc50]; exact own_clED) (by decide) (by decide)
          ·
            refine own_go (g' := (mkF m 117 #[.val (.ref o0), .val (.int (2 : Int32)), .val (.ref o2), .val (.ref o3), .val (.int v2), .unset, .val (.int (128 : Int32)), .val (.int (191 : Int32)), .unset, .unset] [])) (fun _ kgo => XS.icmpYes X0.here hx rfl (pc0 := 103) (pc' := 117) rfl (hb hby d1_103) rfl (feq hc50).2 (by decide) (by decide) kgo) ?_
            refine own_go (g' := (mkF m 119 #[.val (.ref o0), .val (.int (2 : Int32)), .val (.ref o2), .val (.ref o3), .val (.int v2), .unset, .val (.int (128 : Int32)), .val (.int (191 : Int32)), .unset, .unset] [(.int v2)])) (fun _ kgo => XS.iload X0.here hx rfl (hb hby d1_117) rfl kgo) ?_
            refine own_go (g' := (mkF m 122 #[.val (.ref o0), .val (.int (2 : Int32)), .val (.ref o2), .val (.ref o3), .val (.int v2), .unset, .val (.int (128 : Int32)), .val (.int (191 : Int32)), .unset, .unset] [(.int (238 : Int32)), (.int v2)])) (fun _ kgo => XS.sipush X0.here hx rfl (hb hby d1_119) kgo) ?_
            by_cases hc51 : v2 = (238 : Int32)
            ·
              refine own_go (g' := (mkF m 133 #[.val (.ref o0), .val (.int (2 : Int32)), .val (.ref o2), .val (.ref o3), .val (.int v2), .unset, .val (.int (128 : Int32)), .val (.int (191 : Int32)), .unset, .unset] [])) (fun _ kgo => XS.icmpYes X0.here hx rfl (pc0 := 122) (pc' := 133) rfl (hb hby d1_122) rfl (teq hc51).1 (by decide) (by decide) kgo) ?_
              refine own_go (g' := (mkF m 134 #[.val (.ref o0), .val (.int (2 : Int32)), .val (.ref o2), .val (.ref o3), .val (.int v2), .unset, .val (.int (128 : Int32)), .val (.int (191 : Int32)), .unset, .unset] [(.int (3 : Int32))])) (fun _ kgo => XS.iconst X0.here hx rfl (hb hby d1_133) kgo) ?_
              refine own_go (g' := (mkF m 136 #[.val (.ref o0), .val (.int (2 : Int32)), .val (.ref o2), .val (.ref o3), .val (.int v2), .val (.int (3 : Int32)), .val (.int (128 : Int32)), .val (.int (191 : Int32)), .unset, .unset] [])) (fun _ kgo => XS.istore X0.here hx rfl (hb hby d1_134) rfl (l' := #[.val (.ref o0), .val (.int (2 : Int32)), .val (.ref o2), .val (.ref o3), .val (.int v2), .val (.int (3 : Int32)), .val (.int (128 : Int32)), .val (.int (191 : Int32)), .unset, .unset]) rfl kgo) ?_
              refine own_go (g' := (mkF m 205 #[.val (.ref o0), .val (.int (2 : Int32)), .val (.ref o2), .val (.ref o3), .val (.int v2), .val (.int (3 : Int32)), .val (.int (128 : Int32)), .val (.int (191 : Int32)), .unset, .unset] [])) (fun _ kgo => XS.goto X0.here hx rfl (pc0 := 136) (pc' := 205) rfl (hb hby d1_136) (by decide) (by decide) kgo) ?_
              exact J2 (3 : Int32) (128 : Int32) (191 : Int32) (own_cl3 hv (by simp only [← Int32.toInt_inj, Int32.lt_iff_toInt_lt, Int32.reduceToInt] at hc46 h57 hc48 h98 hc50 hc51; omega)) (by decide) (by decide)
            ·
              refine own_go (g' := (mkF m 125 #[.val (.ref o0), .val (.int (2 : Int32)), .val (.ref o2), .val (.ref o3), .val (.int v2), .unset, .val (.int (128 : Int32)), .val (.int (191 : Int32)), .unset, .unset] [])) (fun _ kgo => XS.icmpNo X0.here hx rfl (hb hby d1_122) rfl (feq hc51).1 kgo) ?_
              refine own_go (g' := (mkF m 127 #[.val (.ref o0), .val (.int (2 : Int32)), .val (.ref o2), .val (.ref o3), .val (.int v2), .unset, .val (.int (128 : Int32)), .val (.int (191 : Int32)), .unset, .unset] [(.int v2)])) (fun _ kgo => XS.iload X0.here hx rfl (hb hby d1_125) rfl kgo) ?_
              refine own_go (g' := (mkF m 130 #[.val (.ref o0), .val (.int (2 : Int32)), .val (.ref o2), .val (.ref o3), .val (.int v2), .unset, .val (.int (128 : Int32)), .val (.int (191 : Int32)), .unset, .unset] [(.int (239 : Int32)), (.int v2)])) (fun _ kgo => XS.sipush X0.here hx rfl (hb hby d1_127) kgo) ?_
              by_cases hc52 : v2 = (239 : Int32)
              ·
                refine own_go (g' := (mkF m 133 #[.val (.ref o0), .val (.int (2 : Int32)), .val (.ref o2), .val (.ref o3), .val (.int v2), .unset, .val (.int (128 : Int32)), .val (.int (191 : Int32)), .unset, .unset] [])) (fun _ kgo => XS.icmpNo X0.here hx rfl (hb hby d1_130) rfl (teq hc52).2 kgo) ?_
                refine own_go (g' := (mkF m 134 #[.val (.ref o0), .val (.int (2 : Int32)), .val (.ref o2), .val (.ref o3), .val (.int v2), .unset, .val (.int (128 : Int32)), .val (.int (191 : Int32)), .unset, .unset] [(.int (3 : Int32))])) (fun _ kgo => XS.iconst X0.here hx rfl (hb hby d1_133) kgo) ?_
                refine own_go (g' := (mkF m 136 #[.val (.ref o0), .val (.int (2 : Int32)), .val (.ref o2), .val (.ref o3), .val (.int v2), .val (.int (3 : Int32)), .val (.int (128 : Int32)), .val (.int (191 : Int32)), .unset, .unset] [])) (fun _ kgo => XS.istore X0.here hx rfl (hb hby d1_134) rfl (l' := #[.val (.ref o0), .val (.int (2 : Int32)), .val (.ref o2), .val (.ref o3), .val (.int v2), .val (.int (3 : Int32)), .val (.int (128 : Int32)), .val (.int (191 : Int32)), .unset, .unset]) rfl kgo) ?_
                refine own_go (g' := (mkF m 205 #[.val (.ref o0), .val (.int (2 : Int32)), .val (.ref o2), .val (.ref o3), .val (.int v2), .val (.int (3 : Int32)), .val (.int (128 : Int32)), .val (.int (191 : Int32)), .unset, .unset] [])) (fun _ kgo => XS.goto X0.here hx rfl (pc0 := 136) (pc' := 205) rfl (hb hby d1_136) (by decide) (by decide) kgo) ?_
                exact J2 (3 : Int32) (128 : Int32) (191 : Int32) (own_cl3 hv (by simp only [← Int32.toInt_inj, Int32.lt_iff_toInt_lt, Int32.reduceToInt] at hc46 h57 hc48 h98 hc50 hc51 hc52; omega)) (by decide) (by decide)
              ·
                refine own_go (g' := (mkF m 139 #[.val (.ref o0), .val (.int (2 : Int32)), .val (.ref o2), .val (.ref o3), .val (.int v2), .unset, .val (.int (128 : Int32)), .val (.int (191 : Int32)), .unset, .unset] [])) (fun _ kgo => XS.icmpYes X0.here hx rfl (pc0 := 130) (pc' := 139) rfl (hb hby d1_130) rfl (feq hc52).2 (by decide) (by decide) kgo) ?_
                refine own_go (g' := (mkF m 141 #[.val (.ref o0), .val (.int (2 : Int32)), .val (.ref o2), .val (.ref o3), .val (.int v2), .unset, .val (.int (128 : Int32)), .val (.int (191 : Int32)), .unset, .unset] [(.int v2)])) (fun _ kgo => XS.iload X0.here hx rfl (hb hby d1_139) rfl kgo) ?_
                refine own_go (g' := (mkF m 144 #[.val (.ref o0), .val (.int (2 : Int32)), .val (.ref o2), .val (.ref o3), .val (.int v2), .unset, .val (.int (128 : Int32)), .val (.int (191 : Int32)), .unset, .unset] [(.int (240 : Int32)), (.int v2)])) (fun _ kgo => XS.sipush X0.here hx rfl (hb hby d1_141) kgo) ?_
                by_cases hc53 : v2 = (240 : Int32)
                ·
                  refine own_go (g' := (mkF m 147 #[.val (.ref o0), .val (.int (2 : Int32)), .val (.ref o2), .val (.ref o3), .val (.int v2), .unset, .val (.int (128 : Int32)), .val (.int (191 : Int32)), .unset, .unset] [])) (fun _ kgo => XS.icmpNo X0.here hx rfl (hb hby d1_144) rfl (teq hc53).2 kgo) ?_
                  refine own_go (g' := (mkF m 148 #[.val (.ref o0), .val (.int (2 : Int32)), .val (.ref o2), .val (.ref o3), .val (.int v2), .unset, .val (.int (128 : Int32)), .val (.int (191 : Int32)), .unset, .unset] [(.int (4 : Int32))])) (fun _ kgo => XS.iconst X0.here hx rfl (hb hby d1_147) kgo) ?_
                  refine own_go (g' := (mkF m 150 #[.val (.ref o0), .val (.int (2 : Int32)), .val (.ref o2), .val (.ref o3), .val (.int v2), .val (.int (4 : Int32)), .val (.int (128 : Int32)), .val (.int (191 : Int32)), .unset, .unset] [])) (fun _ kgo => XS.istore X0.here hx rfl (hb hby d1_148) rfl (l' := #[.val (.ref o0), .val (.int (2 : Int32)), .val (.ref o2), .val (.ref o3), .val (.int v2), .val (.int (4 : Int32)), .val (.int (128 : Int32)), .val (.int (191 : Int32)), .unset, .unset]) rfl kgo) ?_
                  refine own_go (g' := (mkF m 153 #[.val (.ref o0), .val (.int (2 : Int32)), .val (.ref o2), .val (.ref o3), .val (.int v2), .val (.int (4 : Int32)), .val (.int (128 : Int32)), .val (.int (191 : Int32)), .unset, .unset] [(.int (144 : Int32))])) (fun _ kgo => XS.sipush X0.here hx rfl (hb hby d1_150) kgo) ?_
                  refine own_go (g' := (mkF m 155 #[.val (.ref o0), .val (.int (2 : Int32)), .val (.ref o2), .val (.ref o3), .val (.int v2), .val (.int (4 : Int32)), .val (.int (144 : Int32)), .val (.int (191 : Int32)), .unset, .unset] [])) (fun _ kgo => XS.istore X0.here hx rfl (hb hby d1_153) rfl (l' := #[.val (.ref o0), .val (.int (2 : Int32)), .val (.ref o2), .val (.ref o3), .val (.int v2), .val (.int (4 : Int32)), .val (.int (144 : Int32)), .val (.int (191 : Int32)), .unset, .unset]) rfl kgo) ?_
                  refine own_go (g' := (mkF m 205 #[.val (.ref o0), .val (.int (2 : Int32)), .val (.ref o2), .val (.ref o3), .val (.int v2), .val (.int (4 : Int32)), .val (.int (144 : Int32)), .val (.int (191 : Int32)), .unset, .unset] [])) (fun _ kgo => XS.goto X0.here hx rfl (pc0 := 155) (pc' := 205) rfl (hb hby d1_155) (by decide) (by decide) kgo) ?_
                  exact J2 (4 : Int32) (144 : Int32) (191 : Int32) (by rw [hc53]; exact own_clF0) (by decide) (by decide)
                ·
                  refine own_go (g' := (mkF m 158 #[.val (.ref o0), .val (.int (2 : Int32)), .val (.ref o2), .val (.ref o3), .val (.int v2), .unset, .val (.int (128 : Int32)), .val (.int (191 : Int32)), .unset, .unset] [])) (fun _ kgo => XS.icmpYes X0.here hx rfl (pc0 := 144) (pc' := 158) rfl (hb hby d1_144) rfl (feq hc53).2 (by decide) (by decide) kgo) ?_
                  refine own_go (g' := (mkF m 160 #[.val (.ref o0), .val (.int (2 : Int32)), .val (.ref o2), .val (.ref o3), .val (.int v2), .unset, .val (.int (128 : Int32)), .val (.int (191 : Int32)), .unset, .unset] [(.int v2)])) (fun _ kgo => XS.iload X0.here hx rfl (hb hby d1_158) rfl kgo) ?_
                  refine own_go (g' := (mkF m 163 #[.val (.ref o0), .val (.int (2 : Int32)), .val (.ref o2), .val (.ref o3), .val (.int v2), .unset, .val (.int (128 : Int32)), .val (.int (191 : Int32)), .unset, .unset] [(.int (241 : Int32)), (.int v2)])) (fun _ kgo => XS.sipush X0.here hx rfl (hb hby d1_160) kgo) ?_
                  have J54 : (¬ (¬ v2 < (241 : Int32) ∧ ¬ (243 : Int32) < v2)) → own_Go p e below (own_Post s QQ 0 0) s₁ (mkF m 180 #[.val (.ref o0), .val (.int (2 : Int32)), .val (.ref o2), .val (.ref o3), .val (.int v2), .unset, .val (.int (128 : Int32)), .val (.int (191 : Int32)), .unset, .unset] []) := by
                    intro h180
                    refine own_go (g' := (mkF m 182 #[.val (.ref o0), .val (.int (2 : Int32)), .val (.ref o2), .val (.ref o3), .val (.int v2), .unset, .val (.int (128 : Int32)), .val (.int (191 : Int32)), .unset, .unset] [(.int v2)])) (fun _ kgo => XS.iload X0.here hx rfl (hb hby d1_180) rfl kgo) ?_
                    refine own_go (g' := (mkF m 185 #[.val (.ref o0), .val (.int (2 : Int32)), .val (.ref o2), .val (.ref o3), .val (.int v2), .unset, .val (.int (128 : Int32)), .val (.int (191 : Int32)), .unset, .unset] [(.int (244 : Int32)), (.int v2)])) (fun _ kgo => XS.sipush X0.here hx rfl (hb hby d1_182) kgo) ?_
                    by_cases hc55 : v2 = (244 : Int32)
                    ·
                      refine own_go (g' := (mkF m 188 #[.val (.ref o0), .val (.int (2 : Int32)), .val (.ref o2), .val (.ref o3), .val (.int v2), .unset, .val (.int (128 : Int32)), .val (.int (191 : Int32)), .unset, .unset] [])) (fun _ kgo => XS.icmpNo X0.here hx rfl (hb hby d1_185) rfl (teq hc55).2 kgo) ?_
                      refine own_go (g' := (mkF m 189 #[.val (.ref o0), .val (.int (2 : Int32)), .val (.ref o2), .val (.ref o3), .val (.int v2), .unset, .val (.int (128 : Int32)), .val (.int (191 : Int32)), .unset, .unset] [(.int (4 : Int32))])) (fun _ kgo => XS.iconst X0.here hx rfl (hb hby d1_188) kgo) ?_
                      refine own_go (g' := (mkF m 191 #[.val (.ref o0), .val (.int (2 : Int32)), .val (.ref o2), .val (.ref o3), .val (.int v2), .val (.int (4 : Int32)), .val (.int (128 : Int32)), .val (.int (191 : Int32)), .unset, .unset] [])) (fun _ kgo => XS.istore X0.here hx rfl (hb hby d1_189) rfl (l' := #[.val (.ref o0), .val (.int (2 : Int32)), .val (.ref o2), .val (.ref o3), .val (.int v2), .val (.int (4 : Int32)), .val (.int (128 : Int32)), .val (.int (191 : Int32)), .unset, .unset]) rfl kgo) ?_
                      refine own_go (g' := (mkF m 194 #[.val (.ref o0), .val (.int (2 : Int32)), .val (.ref o2), .val (.ref o3), .val (.int v2), .val (.int (4 : Int32)), .val (.int (128 : Int32)), .val (.int (191 : Int32)), .unset, .unset] [(.int (143 : Int32))])) (fun _ kgo => XS.sipush X0.here hx rfl (hb hby d1_191) kgo) ?_
                      refine own_go (g' := (mkF m 196 #[.val (.ref o0), .val (.int (2 : Int32)), .val (.ref o2), .val (.ref o3), .val (.int v2), .val (.int (4 : Int32)), .val (.int (128 : Int32)), .val (.int (143 : Int32)), .unset, .unset] [])) (fun _ kgo => XS.istore X0.here hx rfl (hb hby d1_194) rfl (l' := #[.val (.ref o0), .val (.int (2 : Int32)), .val (.ref o2), .val (.ref o3), .val (.int v2), .val (.int (4 : Int32)), .val (.int (128 : Int32)), .val (.int (143 : Int32)), .unset, .unset]) rfl kgo) ?_
                      refine own_go (g' := (mkF m 205 #[.val (.ref o0), .val (.int (2 : Int32)), .val (.ref o2), .val (.ref o3), .val (.int v2), .val (.int (4 : Int32)), .val (.int (128 : Int32)), .val (.int (143 : Int32)), .unset, .unset] [])) (fun _ kgo => XS.goto X0.here hx rfl (pc0 := 196) (pc' := 205) rfl (hb hby d1_196) (by decide) (by decide) kgo) ?_
                      exact J2 (4 : Int32) (128 : Int32) (143 : Int32) (by rw [hc55]; exact own_clF4) (by decide) (by decide)
                    ·
                      refine own_go (g' := (mkF m 199 #[.val (.ref o0), .val (.int (2 : Int32)), .val (.ref o2), .val (.ref o3), .val (.int v2), .unset, .val (.int (128 : Int32)), .val (.int (191 : Int32)), .unset, .unset] [])) (fun _ kgo => XS.icmpYes X0.here hx rfl (pc0 := 185) (pc' := 199) rfl (hb hby d1_185) rfl (feq hc55).2 (by decide) (by decide) kgo) ?_
                      refine own_go (g' := (mkF m 200 #[.val (.ref o0), .val (.int (2 : Int32)), .val (.ref o2), .val (.ref o3), .val (.int v2), .unset, .val (.int (128 : Int32)), .val (.int (191 : Int32)), .unset, .unset] [(.ref o2)])) (fun _ kgo => XS.aloadN X0.here hx rfl (hb hby d1_199) rfl rfl kgo) ?_
                      refine own_go (g' := (mkF m 201 #[.val (.ref o0), .val (.int (2 : Int32)), .val (.ref o2), .val (.ref o3), .val (.int v2), .unset, .val (.int (128 : Int32)), .val (.int (191 : Int32)), .unset, .unset] [(.int (2 : Int32)), (.ref o2)])) (fun _ kgo => XS.iloadN X0.here hx rfl (hb hby d1_200) rfl kgo) ?_
                      refine own_go (g' := (mkF m 202 #[.val (.ref o0), .val (.int (2 : Int32)), .val (.ref o2), .val (.ref o3), .val (.int v2), .unset, .val (.int (128 : Int32)), .val (.int (191 : Int32)), .unset, .unset] [(.int (0 : Int32)), (.int (2 : Int32)), (.ref o2)])) (fun _ kgo => XS.iconst X0.here hx rfl (hb hby d1_201) kgo) ?_
                      obtain ⟨cl56, Ar56, qk56, sz56, nn56, Hs56, Gs56⟩ := id P1
                      have hin56 : ¬ ((2 : Int32) < 0 ∨ cl56.slots.size ≤ ((2 : Int32)).toNatClampNeg) := inb_of sz56 ⟨by decide, by decide⟩
                      obtain ⟨T56, h56, X56, e56, W56, st56⟩ := stZ X0 hx hZ e0 Ar56 (j := (2 : Int32)) hin56 (g := (mkF m 202 #[.val (.ref o0), .val (.int (2 : Int32)), .val (.ref o2), .val (.ref o3), .val (.int v2), .unset, .val (.int (128 : Int32)), .val (.int (191 : Int32)), .unset, .unset] [(.int (0 : Int32)), (.int (2 : Int32)), (.ref o2)])) rfl rfl (hb hby d1_202)
                      have Vn56 : Arv Z h56 o2 ko .boolean (4 : Int32) [(.int (own_b a0_)), (.int (own_b a1_)), (.int (nar .boolean (own_b false))), (.int (own_b a3_))] (.int (0 : Int32)) := Arv.set Ar56 qk56 sz56 nn56 Hs56 Gs56 (fits_nar_bool _) W56 2 rfl (Nat.le_of_ble_eq_true rfl)
                      have V56 : Arv Z h56 o2 ko .boolean (4 : Int32) [(.int (own_b a0_)), (.int (own_b a1_)), (.int (own_b false)), (.int (own_b a3_))] (.int (0 : Int32)) := by rw [own_b_nar] at Vn56; exact Vn56
                      have N56 := Fr.snoc X56 N0 g_o2
                      have Z56 : n0 ≤ h56.size := by rw [W56.size]; exact Z0
                      have K56 : Keep h0 h56 [o2, o3] := K0.wr W56 (Or.inl (List.mem_of_getElem? (i := 0) rfl))
                      refine own_go (g' := (mkF m 203 #[.val (.ref o0), .val (.int (2 : Int32)), .val (.ref o2), .val (.ref o3), .val (.int v2), .unset, .val (.int (128 : Int32)), .val (.int (191 : Int32)), .unset, .unset] [])) (st56) ?_
                      refine own_go (g' := (mkF m 204 #[.val (.ref o0), .val (.int (2 : Int32)), .val (.ref o2), .val (.ref o3), .val (.int v2), .unset, .val (.int (128 : Int32)), .val (.int (191 : Int32)), .unset, .unset] [(.int (4 : Int32))])) (fun _ kgo => XS.iconst X56.here hx rfl (hb hby d1_203) kgo) ?_
                      refine own_retI X56 hx Bd.returns Bd.notSynchronized (hb hby d1_204) (by decide) (by decide) ?_
                      show QQ _ T56.heap _
                      rw [e56]
                      have hok : own_ok 0 128 191 v2 = false := by rw [own_inv hv]; exact decide_eq_false (by simp only [← Int32.toInt_inj, Int32.lt_iff_toInt_lt, Int32.reduceToInt] at hc46 h57 hc48 h98 hc50 hc51 hc52 hc53 h180 hc55; omega)
                      have hrel : (((4 : Int32) = 3 ∧ ∀ t, own_chk ((v2, false, c2_) :: t) 0 128 191 = own_chk t 0 128 191) ∨ (¬ (4 : Int32) < 4 ∧ own_chk [(v2, false, c2_), (v3, a3_, c3_)] 0 128 191 = true)) := by
                        exact Or.inr ((⟨by decide, own_no hok⟩))
                      have fx57 : Arv Z h56 o0 kv .int (4 : Int32) [(.int v0), (.int v1), (.int v2), (.int v3)] (.int (0 : Int32)) := (Arv.other P0 W56 hn02)
                      have fx58 : Arv Z h56 o3 kc .boolean (4 : Int32) [(.int (own_b c0_)), (.int (own_b c1_)), (.int (own_b c2_)), (.int (own_b c3_))] (.int (0 : Int32)) := (Arv.other P2 W56 (Ne.symm hn23))
                      rw [← hQQ]
                      exact ⟨(4 : Int32), false, a3_, c2_, c3_, rfl, N56, K56, hrel, fx57, V56, fx58⟩
                  by_cases hc59 : v2 < (241 : Int32)
                  ·
                    refine own_go (g' := (mkF m 180 #[.val (.ref o0), .val (.int (2 : Int32)), .val (.ref o2), .val (.ref o3), .val (.int v2), .unset, .val (.int (128 : Int32)), .val (.int (191 : Int32)), .unset, .unset] [])) (fun _ kgo => XS.icmpYes X0.here hx rfl (pc0 := 163) (pc' := 180) rfl (hb hby d1_163) rfl (tlt hc59).1 (by decide) (by decide) kgo) ?_
                    exact J54 (fun q => q.1 hc59)
                  ·
                    refine own_go (g' := (mkF m 166 #[.val (.ref o0), .val (.int (2 : Int32)), .val (.ref o2), .val (.ref o3), .val (.int v2), .unset, .val (.int (128 : Int32)), .val (.int (191 : Int32)), .unset, .unset] [])) (fun _ kgo => XS.icmpNo X0.here hx rfl (hb hby d1_163) rfl (flt hc59).1 kgo) ?_
                    refine own_go (g' := (mkF m 168 #[.val (.ref o0), .val (.int (2 : Int32)), .val (.ref o2), .val (.ref o3), .val (.int v2), .unset, .val (.int (128 : Int32)), .val (.int (191 : Int32)), .unset, .unset] [(.int v2)])) (fun _ kgo => XS.iload X0.here hx rfl (hb hby d1_166) rfl kgo) ?_
                    refine own_go (g' := (mkF m 171 #[.val (.ref o0), .val (.int (2 : Int32)), .val (.ref o2), .val (.ref o3), .val (.int v2), .unset, .val (.int (128 : Int32)), .val (.int (191 : Int32)), .unset, .unset] [(.int (243 : Int32)), (.int v2)])) (fun _ kgo => XS.sipush X0.here hx rfl (hb hby d1_168) kgo) ?_
                    by_cases hc60 : (243 : Int32) < v2
                    ·
                      refine own_go (g' := (mkF m 180 #[.val (.ref o0), .val (.int (2 : Int32)), .val (.ref o2), .val (.ref o3), .val (.int v2), .unset, .val (.int (128 : Int32)), .val (.int (191 : Int32)), .unset, .unset] [])) (fun _ kgo => XS.icmpYes X0.here hx rfl (pc0 := 171) (pc' := 180) rfl (hb hby d1_171) rfl (tlt hc60).2.2.1 (by decide) (by decide) kgo) ?_
                      exact J54 (fun q => q.2 hc60)
                    ·
                      refine own_go (g' := (mkF m 174 #[.val (.ref o0), .val (.int (2 : Int32)), .val (.ref o2), .val (.ref o3), .val (.int v2), .unset, .val (.int (128 : Int32)), .val (.int (191 : Int32)), .unset, .unset] [])) (fun _ kgo => XS.icmpNo X0.here hx rfl (hb hby d1_171) rfl (flt hc60).2.2.1 kgo) ?_
                      refine own_go (g' := (mkF m 175 #[.val (.ref o0), .val (.int (2 : Int32)), .val (.ref o2), .val (.ref o3), .val (.int v2), .unset, .val (.int (128 : Int32)), .val (.int (191 : Int32)), .unset, .unset] [(.int (4 : Int32))])) (fun _ kgo => XS.iconst X0.here hx rfl (hb hby d1_174) kgo) ?_
                      refine own_go (g' := (mkF m 177 #[.val (.ref o0), .val (.int (2 : Int32)), .val (.ref o2), .val (.ref o3), .val (.int v2), .val (.int (4 : Int32)), .val (.int (128 : Int32)), .val (.int (191 : Int32)), .unset, .unset] [])) (fun _ kgo => XS.istore X0.here hx rfl (hb hby d1_175) rfl (l' := #[.val (.ref o0), .val (.int (2 : Int32)), .val (.ref o2), .val (.ref o3), .val (.int v2), .val (.int (4 : Int32)), .val (.int (128 : Int32)), .val (.int (191 : Int32)), .unset, .unset]) rfl kgo) ?_
                      refine own_go (g' := (mkF m 205 #[.val (.ref o0), .val (.int (2 : Int32)), .val (.ref o2), .val (.ref o3), .val (.int v2), .val (.int (4 : Int32)), .val (.int (128 : Int32)), .val (.int (191 : Int32)), .unset, .unset] [])) (fun _ kgo => XS.goto X0.here hx rfl (pc0 := 177) (pc' := 205) rfl (hb hby d1_177) (by decide) (by decide) kgo) ?_
                      exact J2 (4 : Int32) (128 : Int32) (191 : Int32) (own_cl4 hv (by simp only [← Int32.toInt_inj, Int32.lt_iff_toInt_lt, Int32.reduceToInt] at hc46 h57 hc48 h98 hc50 hc51 hc52 hc53 hc59 hc60; omega)) (by decide) (by decide)
        by_cases hc61 : v2 < (225 : Int32)
        ·
          refine own_go (g' := (mkF m 98 #[.val (.ref o0), .val (.int (2 : Int32)), .val (.ref o2), .val (.ref o3), .val (.int v2), .unset, .val (.int (128 : Int32)), .val (.int (191 : Int32)), .unset, .unset] [])) (fun _ kgo => XS.icmpYes X0.here hx rfl (pc0 := 81) (pc' := 98) rfl (hb hby d1_81) rfl (tlt hc61).1 (by decide) (by decide) kgo) ?_
          exact J49 (fun q => q.1 hc61)
        ·
          refine own_go (g' := (mkF m 84 #[.val (.ref o0), .val (.int (2 : Int32)), .val (.ref o2), .val (.ref o3), .val (.int v2), .unset, .val (.int (128 : Int32)), .val (.int (191 : Int32)), .unset, .unset] [])) (fun _ kgo => XS.icmpNo X0.here hx rfl (hb hby d1_81) rfl (flt hc61).1 kgo) ?_
          refine own_go (g' := (mkF m 86 #[.val (.ref o0), .val (.int (2 : Int32)), .val (.ref o2), .val (.ref o3), .val (.int v2), .unset, .val (.int (128 : Int32)), .val (.int (191 : Int32)), .unset, .unset] [(.int v2)])) (fun _ kgo => XS.iload X0.here hx rfl (hb hby d1_84) rfl kgo) ?_
          refine own_go (g' := (mkF m 89 #[.val (.ref o0), .val (.int (2 : Int32)), .val (.ref o2), .val (.ref o3), .val (.int v2), .unset, .val (.int (128 : Int32)), .val (.int (191 : Int32)), .unset, .unset] [(.int (236 : Int32)), (.int v2)])) (fun _ kgo => XS.sipush X0.here hx rfl (hb hby d1_86) kgo) ?_
          by_cases hc62 : (236 : Int32) < v2
          ·
            refine own_go (g' := (mkF m 98 #[.val (.ref o0), .val (.int (2 : Int32)), .val (.ref o2), .val (.ref o3), .val (.int v2), .unset, .val (.int (128 : Int32)), .val (.int (191 : Int32)), .unset, .unset] [])) (fun _ kgo => XS.icmpYes X0.here hx rfl (pc0 := 89) (pc' := 98) rfl (hb hby d1_89) rfl (tlt hc62).2.2.1 (by decide) (by decide) kgo) ?_
            exact J49 (fun q => q.2 hc62)
          ·
            refine own_go (g' := (mkF m 92 #[.val (.ref o0), .val (.int (2 : Int32)), .val (.ref o2), .val (.ref o3), .val (.int v2), .unset, .val (.int (128 : Int32)), .val (.int (191 : Int32)), .unset, .unset] [])) (fun _ kgo => XS.icmpNo X0.here hx rfl (hb hby d1_89) rfl (flt hc62).2.2.1 kgo) ?_
            refine own_go (g' := (mkF m 93 #[.val (.ref o0), .val (.int (2 : Int32)), .val (.ref o2), .val (.ref o3), .val (.int v2), .unset, .val (.int (128 : Int32)), .val (.int (191 : Int32)), .unset, .unset] [(.int (3 : Int32))])) (fun _ kgo => XS.iconst X0.here hx rfl (hb hby d1_92) kgo) ?_
            refine own_go (g' := (mkF m 95 #[.val (.ref o0), .val (.int (2 : Int32)), .val (.ref o2), .val (.ref o3), .val (.int v2), .val (.int (3 : Int32)), .val (.int (128 : Int32)), .val (.int (191 : Int32)), .unset, .unset] [])) (fun _ kgo => XS.istore X0.here hx rfl (hb hby d1_93) rfl (l' := #[.val (.ref o0), .val (.int (2 : Int32)), .val (.ref o2), .val (.ref o3), .val (.int v2), .val (.int (3 : Int32)), .val (.int (128 : Int32)), .val (.int (191 : Int32)), .unset, .unset]) rfl kgo) ?_
            refine own_go (g' := (mkF m 205 #[.val (.ref o0), .val (.int (2 : Int32)), .val (.ref o2), .val (.ref o3), .val (.int v2), .val (.int (3 : Int32)), .val (.int (128 : Int32)), .val (.int (191 : Int32)), .unset, .unset] [])) (fun _ kgo => XS.goto X0.here hx rfl (pc0 := 95) (pc' := 205) rfl (hb hby d1_95) (by decide) (by decide) kgo) ?_
            exact J2 (3 : Int32) (128 : Int32) (191 : Int32) (own_cl3 hv (by simp only [← Int32.toInt_inj, Int32.lt_iff_toInt_lt, Int32.reduceToInt] at hc46 h57 hc48 hc61 hc62; omega)) (by decide) (by decide)
    by_cases hc63 : v2 < (194 : Int32)
    ·
      refine own_go (g' := (mkF m 57 #[.val (.ref o0), .val (.int (2 : Int32)), .val (.ref o2), .val (.ref o3), .val (.int v2), .unset, .val (.int (128 : Int32)), .val (.int (191 : Int32)), .unset, .unset] [])) (fun _ kgo => XS.icmpYes X0.here hx rfl (pc0 := 40) (pc' := 57) rfl (hb hby d1_40) rfl (tlt hc63).1 (by decide) (by decide) kgo) ?_
      exact J47 (fun q => q.1 hc63)
    ·
      refine own_go (g' := (mkF m 43 #[.val (.ref o0), .val (.int (2 : Int32)), .val (.ref o2), .val (.ref o3), .val (.int v2), .unset, .val (.int (128 : Int32)), .val (.int (191 : Int32)), .unset, .unset] [])) (fun _ kgo => XS.icmpNo X0.here hx rfl (hb hby d1_40) rfl (flt hc63).1 kgo) ?_
      refine own_go (g' := (mkF m 45 #[.val (.ref o0), .val (.int (2 : Int32)), .val (.ref o2), .val (.ref o3), .val (.int v2), .unset, .val (.int (128 : Int32)), .val (.int (191 : Int32)), .unset, .unset] [(.int v2)])) (fun _ kgo => XS.iload X0.here hx rfl (hb hby d1_43) rfl kgo) ?_
      refine own_go (g' := (mkF m 48 #[.val (.ref o0), .val (.int (2 : Int32)), .val (.ref o2), .val (.ref o3), .val (.int v2), .unset, .val (.int (128 : Int32)), .val (.int (191 : Int32)), .unset, .unset] [(.int (223 : Int32)), (.int v2)])) (fun _ kgo => XS.sipush X0.here hx rfl (hb hby d1_45) kgo) ?_
      by_cases hc64 : (223 : Int32) < v2
      ·
        refine own_go (g' := (mkF m 57 #[.val (.ref o0), .val (.int (2 : Int32)), .val (.ref o2), .val (.ref o3), .val (.int v2), .unset, .val (.int (128 : Int32)), .val (.int (191 : Int32)), .unset, .unset] [])) (fun _ kgo => XS.icmpYes X0.here hx rfl (pc0 := 48) (pc' := 57) rfl (hb hby d1_48) rfl (tlt hc64).2.2.1 (by decide) (by decide) kgo) ?_
        exact J47 (fun q => q.2 hc64)
      ·
        refine own_go (g' := (mkF m 51 #[.val (.ref o0), .val (.int (2 : Int32)), .val (.ref o2), .val (.ref o3), .val (.int v2), .unset, .val (.int (128 : Int32)), .val (.int (191 : Int32)), .unset, .unset] [])) (fun _ kgo => XS.icmpNo X0.here hx rfl (hb hby d1_48) rfl (flt hc64).2.2.1 kgo) ?_
        refine own_go (g' := (mkF m 52 #[.val (.ref o0), .val (.int (2 : Int32)), .val (.ref o2), .val (.ref o3), .val (.int v2), .unset, .val (.int (128 : Int32)), .val (.int (191 : Int32)), .unset, .unset] [(.int (2 : Int32))])) (fun _ kgo => XS.iconst X0.here hx rfl (hb hby d1_51) kgo) ?_
        refine own_go (g' := (mkF m 54 #[.val (.ref o0), .val (.int (2 : Int32)), .val (.ref o2), .val (.ref o3), .val (.int v2), .val (.int (2 : Int32)), .val (.int (128 : Int32)), .val (.int (191 : Int32)), .unset, .unset] [])) (fun _ kgo => XS.istore X0.here hx rfl (hb hby d1_52) rfl (l' := #[.val (.ref o0), .val (.int (2 : Int32)), .val (.ref o2), .val (.ref o3), .val (.int v2), .val (.int (2 : Int32)), .val (.int (128 : Int32)), .val (.int (191 : Int32)), .unset, .unset]) rfl kgo) ?_
        refine own_go (g' := (mkF m 205 #[.val (.ref o0), .val (.int (2 : Int32)), .val (.ref o2), .val (.ref o3), .val (.int v2), .val (.int (2 : Int32)), .val (.int (128 : Int32)), .val (.int (191 : Int32)), .unset, .unset] [])) (fun _ kgo => XS.goto X0.here hx rfl (pc0 := 54) (pc' := 205) rfl (hb hby d1_54) (by decide) (by decide) kgo) ?_
        exact J2 (2 : Int32) (128 : Int32) (191 : Int32) (own_cl2 hv (by simp only [← Int32.toInt_inj, Int32.lt_iff_toInt_lt, Int32.reduceToInt] at hc46 hc63 hc64; omega)) (by decide) (by decide)
  ·
    refine own_go (g' := (mkF m 29 #[.val (.ref o0), .val (.int (2 : Int32)), .val (.ref o2), .val (.ref o3), .val (.int v2), .unset, .val (.int (128 : Int32)), .val (.int (191 : Int32)), .unset, .unset] [])) (fun _ kgo => XS.icmpNo X0.here hx rfl (hb hby d1_26) rfl (flt hc46).2.2.1 kgo) ?_
    refine own_go (g' := (mkF m 30 #[.val (.ref o0), .val (.int (2 : Int32)), .val (.ref o2), .val (.ref o3), .val (.int v2), .unset, .val (.int (128 : Int32)), .val (.int (191 : Int32)), .unset, .unset] [(.int (1 : Int32))])) (fun _ kgo => XS.iconst X0.here hx rfl (hb hby d1_29) kgo) ?_
    refine own_go (g' := (mkF m 32 #[.val (.ref o0), .val (.int (2 : Int32)), .val (.ref o2), .val (.ref o3), .val (.int v2), .val (.int (1 : Int32)), .val (.int (128 : Int32)), .val (.int (191 : Int32)), .unset, .unset] [])) (fun _ kgo => XS.istore X0.here hx rfl (hb hby d1_30) rfl (l' := #[.val (.ref o0), .val (.int (2 : Int32)), .val (.ref o2), .val (.ref o3), .val (.int v2), .val (.int (1 : Int32)), .val (.int (128 : Int32)), .val (.int (191 : Int32)), .unset, .unset]) rfl kgo) ?_
    refine own_go (g' := (mkF m 205 #[.val (.ref o0), .val (.int (2 : Int32)), .val (.ref o2), .val (.ref o3), .val (.int v2), .val (.int (1 : Int32)), .val (.int (128 : Int32)), .val (.int (191 : Int32)), .unset, .unset] [])) (fun _ kgo => XS.goto X0.here hx rfl (pc0 := 32) (pc' := 205) rfl (hb hby d1_32) (by decide) (by decide) kgo) ?_
    exact J2 (1 : Int32) (128 : Int32) (191 : Int32) (own_cl1 hv (by simp only [← Int32.toInt_inj, Int32.lt_iff_toInt_lt, Int32.reduceToInt] at hc46; omega)) (by decide) (by decide)
theorem pn_stp3 : plainName "com/example/firm_tread/firmtread/transport/Utf8AcceptPinLaw" = true := by first | (simp [plainName, overriddenIn]; done) | decide +kernel
theorem ef_stp3 (m : MethodId) (o0 : Addr) (o2 : Addr) (o3 : Addr) : entryFrame m #[(.ref o0), (.int (3 : Int32)), (.ref o2), (.ref o3)] 10 = mkF m 0 #[.val (.ref o0), .val (.int (3 : Int32)), .val (.ref o2), .val (.ref o3), .unset, .unset, .unset, .unset, .unset, .unset] [] := by first | (simp [entryFrame, mkF, argsToLocals, Value.category]; done) | rfl
set_option maxRecDepth 65536 in
set_option maxHeartbeats 40000000 in
theorem stp3 (l : Launch) (Z : State) (a0 : Array Value) (hw : ∀ d ∈ tables_1, d.before a0 Z = true) (o0 : Addr) (o2 : Addr) (o3 : Addr) (v0 : Int32) (v1 : Int32) (v2 : Int32) (v3 : Int32) (a0_ : Bool) (a1_ : Bool) (a2_ : Bool) (a3_ : Bool) (c0_ : Bool) (c1_ : Bool) (c2_ : Bool) (c3_ : Bool) (kv : ClassId) (ko : ClassId) (kc : ClassId) (h0 : Heap) (n0 : Nat) (Z0 : n0 ≤ h0.size) (g_o2 : n0 ≤ o2) (g_o3 : n0 ≤ o3) (P0 : Arv Z h0 o0 kv .int (4 : Int32) [(.int v0), (.int v1), (.int v2), (.int v3)] (.int (0 : Int32))) (P1 : Arv Z h0 o2 ko .boolean (4 : Int32) [(.int (own_b a0_)), (.int (own_b a1_)), (.int (own_b a2_)), (.int (own_b a3_))] (.int (0 : Int32))) (P2 : Arv Z h0 o3 kc .boolean (4 : Int32) [(.int (own_b c0_)), (.int (own_b c1_)), (.int (own_b c2_)), (.int (own_b c3_))] (.int (0 : Int32))) (hn02 : o0 ≠ o2) (hn03 : o0 ≠ o3) (hn23 : o2 ≠ o3) (hv : 0 ≤ v3.toInt ∧ v3.toInt ≤ 255) :
    own_Met l Z (⟨"com/example/firm_tread/firmtread/transport/Utf8AcceptPinLaw", "step", "([II[Z[Z)I"⟩ : MethodName) method_2_code 10 (some .int) [] ({ frames := 0, cells := 0, slots := 0, locals := 0 } : Room) #[(.ref o0), (.int (3 : Int32)), (.ref o2), (.ref o3)] h0 0 0 (fun v h L => ∃ (r : Int32), ∃ (a3' : Bool), ∃ (c3' : Bool), v = some (.int r) ∧ Fr n0 L ∧ Keep h0 h [o2, o3] ∧ ((¬ r < 4 ∧ own_chk [(v3, a3', c3')] 0 128 191 = true)) ∧ Arv Z h o0 kv .int (4 : Int32) [(.int v0), (.int v1), (.int v2), (.int v3)] (.int (0 : Int32)) ∧ Arv Z h o2 ko .boolean (4 : Int32) [(.int (own_b a0_)), (.int (own_b a1_)), (.int (own_b a2_)), (.int (own_b a3'))] (.int (0 : Int32)) ∧ Arv Z h o3 kc .boolean (4 : Int32) [(.int (own_b c0_)), (.int (own_b c1_)), (.int (own_b c2_)), (.int (own_b c3'))] (.int (0 : Int32))) := by
  refine own_met (plainFor_of_name pn_stp3) ?_
  intro p e s m below meth c s₁ Bd hml0 hZ X0 e0
  have hx := Bd.exec
  have hby := Bd.bytes
  have hml : c.maxLocals = 10 := hml0
  have hown : s.vm.findClass "com/example/firm_tread/firmtread/transport/Utf8AcceptPinLaw" = some m.cls := findClass_of_methodNamed Bd.named
  have hnm := (name_of_methodNamed Bd.named Bd.method).1
  refine own_cast (ef_stp3 m o0 o2 o3) ?_
  generalize hQQ : (fun (v : Option Value) (h : Heap) (L : List Loc) => ∃ (r : Int32), ∃ (a3' : Bool), ∃ (c3' : Bool), v = some (.int r) ∧ Fr n0 L ∧ Keep h0 h [o2, o3] ∧ ((¬ r < 4 ∧ own_chk [(v3, a3', c3')] 0 128 191 = true)) ∧ Arv Z h o0 kv .int (4 : Int32) [(.int v0), (.int v1), (.int v2), (.int v3)] (.int (0 : Int32)) ∧ Arv Z h o2 ko .boolean (4 : Int32) [(.int (own_b a0_)), (.int (own_b a1_)), (.int (own_b a2_)), (.int (own_b a3'))] (.int (0 : Int32)) ∧ Arv Z h o3 kc .boolean (4 : Int32) [(.int (own_b c0_)), (.int (own_b c1_)), (.int (own_b c2_)), (.int (own_b c3'))] (.int (0 : Int32))) = QQ
  have N0 := Fr.nil n0
  have K0 := Keep.refl h0 [o2, o3]
  refine own_go (g' := (mkF m 1 #[.val (.ref o0), .val (.int (3 : Int32)), .val (.ref o2), .val (.ref o3), .unset, .unset, .unset, .unset, .unset, .unset] [(.int (3 : Int32))])) (fun _ kgo => XS.iloadN X0.here hx rfl (hb hby d1_0) rfl kgo) ?_
  refine own_go (g' := (mkF m 2 #[.val (.ref o0), .val (.int (3 : Int32)), .val (.ref o2), .val (.ref o3), .unset, .unset, .unset, .unset, .unset, .unset] [(.int (4 : Int32)), (.int (3 : Int32))])) (fun _ kgo => XS.iconst X0.here hx rfl (hb hby d1_1) kgo) ?_
  refine own_go (g' := (mkF m 7 #[.val (.ref o0), .val (.int (3 : Int32)), .val (.ref o2), .val (.ref o3), .unset, .unset, .unset, .unset, .unset, .unset] [])) (fun _ kgo => XS.icmpYes X0.here hx rfl (pc0 := 2) (pc' := 7) rfl (hb hby d1_2) rfl (tlt (by decide)).1 (by decide) (by decide) kgo) ?_
  refine own_go (g' := (mkF m 8 #[.val (.ref o0), .val (.int (3 : Int32)), .val (.ref o2), .val (.ref o3), .unset, .unset, .unset, .unset, .unset, .unset] [(.ref o0)])) (fun _ kgo => XS.aloadN X0.here hx rfl (hb hby d1_7) rfl rfl kgo) ?_
  refine own_go (g' := (mkF m 9 #[.val (.ref o0), .val (.int (3 : Int32)), .val (.ref o2), .val (.ref o3), .unset, .unset, .unset, .unset, .unset, .unset] [(.int (3 : Int32)), (.ref o0)])) (fun _ kgo => XS.iloadN X0.here hx rfl (hb hby d1_8) rfl kgo) ?_
  obtain ⟨cl1, Ar1, qk1, sz1, nn1, Hs1, Gs1⟩ := id P0
  have hin1 : ¬ ((3 : Int32) < 0 ∨ cl1.slots.size ≤ ((3 : Int32)).toNatClampNeg) := inb_of sz1 ⟨by decide, by decide⟩
  have hat1 : cl1.slots[((3 : Int32)).toNatClampNeg]? = some (.int v3) := Has.at Hs1 hin1 rfl
  refine own_go (g' := (mkF m 10 #[.val (.ref o0), .val (.int (3 : Int32)), .val (.ref o2), .val (.ref o3), .unset, .unset, .unset, .unset, .unset, .unset] [(.int v3)])) (X0.iaload hx (j := (3 : Int32)) (v := (.int v3)) (by rw [e0]; exact Ar1.1) (State.isArrayOf_alike hZ.alike Ar1.2.1) Ar1.2.2 hin1 hat1 (g := (mkF m 9 #[.val (.ref o0), .val (.int (3 : Int32)), .val (.ref o2), .val (.ref o3), .unset, .unset, .unset, .unset, .unset, .unset] [(.int (3 : Int32)), (.ref o0)])) rfl rfl (hb hby d1_9)) ?_
  refine own_go (g' := (mkF m 12 #[.val (.ref o0), .val (.int (3 : Int32)), .val (.ref o2), .val (.ref o3), .val (.int v3), .unset, .unset, .unset, .unset, .unset] [])) (fun _ kgo => XS.istore X0.here hx rfl (hb hby d1_10) rfl (l' := #[.val (.ref o0), .val (.int (3 : Int32)), .val (.ref o2), .val (.ref o3), .val (.int v3), .unset, .unset, .unset, .unset, .unset]) rfl kgo) ?_
  refine own_go (g' := (mkF m 15 #[.val (.ref o0), .val (.int (3 : Int32)), .val (.ref o2), .val (.ref o3), .val (.int v3), .unset, .unset, .unset, .unset, .unset] [(.int (128 : Int32))])) (fun _ kgo => XS.sipush X0.here hx rfl (hb hby d1_12) kgo) ?_
  refine own_go (g' := (mkF m 17 #[.val (.ref o0), .val (.int (3 : Int32)), .val (.ref o2), .val (.ref o3), .val (.int v3), .unset, .val (.int (128 : Int32)), .unset, .unset, .unset] [])) (fun _ kgo => XS.istore X0.here hx rfl (hb hby d1_15) rfl (l' := #[.val (.ref o0), .val (.int (3 : Int32)), .val (.ref o2), .val (.ref o3), .val (.int v3), .unset, .val (.int (128 : Int32)), .unset, .unset, .unset]) rfl kgo) ?_
  refine own_go (g' := (mkF m 20 #[.val (.ref o0), .val (.int (3 : Int32)), .val (.ref o2), .val (.ref o3), .val (.int v3), .unset, .val (.int (128 : Int32)), .unset, .unset, .unset] [(.int (191 : Int32))])) (fun _ kgo => XS.sipush X0.here hx rfl (hb hby d1_17) kgo) ?_
  refine own_go (g' := (mkF m 22 #[.val (.ref o0), .val (.int (3 : Int32)), .val (.ref o2), .val (.ref o3), .val (.int v3), .unset, .val (.int (128 : Int32)), .val (.int (191 : Int32)), .unset, .unset] [])) (fun _ kgo => XS.istore X0.here hx rfl (hb hby d1_20) rfl (l' := #[.val (.ref o0), .val (.int (3 : Int32)), .val (.ref o2), .val (.ref o3), .val (.int v3), .unset, .val (.int (128 : Int32)), .val (.int (191 : Int32)), .unset, .unset]) rfl kgo) ?_
  refine own_go (g' := (mkF m 24 #[.val (.ref o0), .val (.int (3 : Int32)), .val (.ref o2), .val (.ref o3), .val (.int v3), .unset, .val (.int (128 : Int32)), .val (.int (191 : Int32)), .unset, .unset] [(.int v3)])) (fun _ kgo => XS.iload X0.here hx rfl (hb hby d1_22) rfl kgo) ?_
  refine own_go (g' := (mkF m 26 #[.val (.ref o0), .val (.int (3 : Int32)), .val (.ref o2), .val (.ref o3), .val (.int v3), .unset, .val (.int (128 : Int32)), .val (.int (191 : Int32)), .unset, .unset] [(.int (127 : Int32)), (.int v3)])) (fun _ kgo => XS.bipush X0.here hx rfl (hb hby d1_24) kgo) ?_
  have J2 : ∀ (len : Int32), ∀ (lo : Int32), ∀ (hi : Int32), (own_cl v3 len lo hi) → (len = 1 ∨ len = 2 ∨ len = 3 ∨ len = 4) → (len = 1 → lo = 128 ∧ hi = 191) → own_Go p e below (own_Post s QQ 0 0) s₁ (mkF m 205 #[.val (.ref o0), .val (.int (3 : Int32)), .val (.ref o2), .val (.ref o3), .val (.int v3), .val (.int len), .val (.int lo), .val (.int hi), .unset, .unset] []) := by
    intro len lo hi hcl hlen hl1
    refine own_go (g' := (mkF m 206 #[.val (.ref o0), .val (.int (3 : Int32)), .val (.ref o2), .val (.ref o3), .val (.int v3), .val (.int len), .val (.int lo), .val (.int hi), .unset, .unset] [(.ref o2)])) (fun _ kgo => XS.aloadN X0.here hx rfl (hb hby d1_205) rfl rfl kgo) ?_
    refine own_go (g' := (mkF m 207 #[.val (.ref o0), .val (.int (3 : Int32)), .val (.ref o2), .val (.ref o3), .val (.int v3), .val (.int len), .val (.int lo), .val (.int hi), .unset, .unset] [(.int (3 : Int32)), (.ref o2)])) (fun _ kgo => XS.iloadN X0.here hx rfl (hb hby d1_206) rfl kgo) ?_
    refine own_go (g' := (mkF m 208 #[.val (.ref o0), .val (.int (3 : Int32)), .val (.ref o2), .val (.ref o3), .val (.int v3), .val (.int len), .val (.int lo), .val (.int hi), .unset, .unset] [(.int (1 : Int32)), (.int (3 : Int32)), (.ref o2)])) (fun _ kgo => XS.iconst X0.here hx rfl (hb hby d1_207) kgo) ?_
    obtain ⟨cl3, Ar3, qk3, sz3, nn3, Hs3, Gs3⟩ := id P1
    have hin3 : ¬ ((3 : Int32) < 0 ∨ cl3.slots.size ≤ ((3 : Int32)).toNatClampNeg) := inb_of sz3 ⟨by decide, by decide⟩
    obtain ⟨T3, h3, X3, e3, W3, st3⟩ := stZ X0 hx hZ e0 Ar3 (j := (3 : Int32)) hin3 (g := (mkF m 208 #[.val (.ref o0), .val (.int (3 : Int32)), .val (.ref o2), .val (.ref o3), .val (.int v3), .val (.int len), .val (.int lo), .val (.int hi), .unset, .unset] [(.int (1 : Int32)), (.int (3 : Int32)), (.ref o2)])) rfl rfl (hb hby d1_208)
    have Vn3 : Arv Z h3 o2 ko .boolean (4 : Int32) [(.int (own_b a0_)), (.int (own_b a1_)), (.int (own_b a2_)), (.int (nar .boolean (own_b true)))] (.int (0 : Int32)) := Arv.set Ar3 qk3 sz3 nn3 Hs3 Gs3 (fits_nar_bool _) W3 3 rfl (Nat.le_of_ble_eq_true rfl)
    have V3 : Arv Z h3 o2 ko .boolean (4 : Int32) [(.int (own_b a0_)), (.int (own_b a1_)), (.int (own_b a2_)), (.int (own_b true))] (.int (0 : Int32)) := by rw [own_b_nar] at Vn3; exact Vn3
    have N3 := Fr.snoc X3 N0 g_o2
    have Z3 : n0 ≤ h3.size := by rw [W3.size]; exact Z0
    have K3 : Keep h0 h3 [o2, o3] := K0.wr W3 (Or.inl (List.mem_of_getElem? (i := 0) rfl))
    refine own_go (g' := (mkF m 209 #[.val (.ref o0), .val (.int (3 : Int32)), .val (.ref o2), .val (.ref o3), .val (.int v3), .val (.int len), .val (.int lo), .val (.int hi), .unset, .unset] [])) (st3) ?_
    refine own_go (g' := (mkF m 210 #[.val (.ref o0), .val (.int (3 : Int32)), .val (.ref o2), .val (.ref o3), .val (.int v3), .val (.int len), .val (.int lo), .val (.int hi), .unset, .unset] [(.ref o3)])) (fun _ kgo => XS.aloadN X3.here hx rfl (hb hby d1_209) rfl rfl kgo) ?_
    refine own_go (g' := (mkF m 211 #[.val (.ref o0), .val (.int (3 : Int32)), .val (.ref o2), .val (.ref o3), .val (.int v3), .val (.int len), .val (.int lo), .val (.int hi), .unset, .unset] [(.int (3 : Int32)), (.ref o3)])) (fun _ kgo => XS.iloadN X3.here hx rfl (hb hby d1_210) rfl kgo) ?_
    refine own_go (g' := (mkF m 213 #[.val (.ref o0), .val (.int (3 : Int32)), .val (.ref o2), .val (.ref o3), .val (.int v3), .val (.int len), .val (.int lo), .val (.int hi), .unset, .unset] [(.int len), (.int (3 : Int32)), (.ref o3)])) (fun _ kgo => XS.iload X3.here hx rfl (hb hby d1_211) rfl kgo) ?_
    refine own_go (g' := (mkF m 214 #[.val (.ref o0), .val (.int (3 : Int32)), .val (.ref o2), .val (.ref o3), .val (.int v3), .val (.int len), .val (.int lo), .val (.int hi), .unset, .unset] [(.int (1 : Int32)), (.int len), (.int (3 : Int32)), (.ref o3)])) (fun _ kgo => XS.iconst X3.here hx rfl (hb hby d1_213) kgo) ?_
    have J4 : own_Go p e below (own_Post s QQ 0 0) T3 (mkF m 222 #[.val (.ref o0), .val (.int (3 : Int32)), .val (.ref o2), .val (.ref o3), .val (.int v3), .val (.int len), .val (.int lo), .val (.int hi), .unset, .unset] [(.int (own_b (decide (len = (1 : Int32))))), (.int (3 : Int32)), (.ref o3)]) := by
      have fx5 : Arv Z h3 o3 kc .boolean (4 : Int32) [(.int (own_b c0_)), (.int (own_b c1_)), (.int (own_b c2_)), (.int (own_b c3_))] (.int (0 : Int32)) := (Arv.other P2 W3 (Ne.symm hn23))
      obtain ⟨cl6, Ar6, qk6, sz6, nn6, Hs6, Gs6⟩ := id fx5
      have hin6 : ¬ ((3 : Int32) < 0 ∨ cl6.slots.size ≤ ((3 : Int32)).toNatClampNeg) := inb_of sz6 ⟨by decide, by decide⟩
      obtain ⟨T6, h6, X6, e6, W6, st6⟩ := stZ X3 hx hZ e3 Ar6 (j := (3 : Int32)) hin6 (g := (mkF m 222 #[.val (.ref o0), .val (.int (3 : Int32)), .val (.ref o2), .val (.ref o3), .val (.int v3), .val (.int len), .val (.int lo), .val (.int hi), .unset, .unset] [(.int (own_b (decide (len = (1 : Int32))))), (.int (3 : Int32)), (.ref o3)])) rfl rfl (hb hby d1_222)
      have Vn6 : Arv Z h6 o3 kc .boolean (4 : Int32) [(.int (own_b c0_)), (.int (own_b c1_)), (.int (own_b c2_)), (.int (nar .boolean (own_b (decide (len = (1 : Int32))))))] (.int (0 : Int32)) := Arv.set Ar6 qk6 sz6 nn6 Hs6 Gs6 (fits_nar_bool _) W6 3 rfl (Nat.le_of_ble_eq_true rfl)
      have V6 : Arv Z h6 o3 kc .boolean (4 : Int32) [(.int (own_b c0_)), (.int (own_b c1_)), (.int (own_b c2_)), (.int (own_b (decide (len = (1 : Int32)))))] (.int (0 : Int32)) := by rw [own_b_nar] at Vn6; exact Vn6
      have N6 := Fr.snoc X6 N3 g_o3
      have Z6 : n0 ≤ h6.size := by rw [W6.size]; exact Z3
      have K6 : Keep h0 h6 [o2, o3] := K3.wr W6 (Or.inl (List.mem_of_getElem? (i := 1) rfl))
      refine own_go (g' := (mkF m 223 #[.val (.ref o0), .val (.int (3 : Int32)), .val (.ref o2), .val (.ref o3), .val (.int v3), .val (.int len), .val (.int lo), .val (.int hi), .unset, .unset] [])) (st6) ?_
      refine own_go (g' := (mkF m 225 #[.val (.ref o0), .val (.int (3 : Int32)), .val (.ref o2), .val (.ref o3), .val (.int v3), .val (.int len), .val (.int lo), .val (.int hi), .unset, .unset] [(.int len)])) (fun _ kgo => XS.iload X6.here hx rfl (hb hby d1_223) rfl kgo) ?_
      refine own_go (g' := (mkF m 226 #[.val (.ref o0), .val (.int (3 : Int32)), .val (.ref o2), .val (.ref o3), .val (.int v3), .val (.int len), .val (.int lo), .val (.int hi), .unset, .unset] [(.int (2 : Int32)), (.int len)])) (fun _ kgo => XS.iconst X6.here hx rfl (hb hby d1_225) kgo) ?_
      by_cases hc7 : len < (2 : Int32)
      ·
        refine own_go (g' := (mkF m 294 #[.val (.ref o0), .val (.int (3 : Int32)), .val (.ref o2), .val (.ref o3), .val (.int v3), .val (.int len), .val (.int lo), .val (.int hi), .unset, .unset] [])) (fun _ kgo => XS.icmpYes X6.here hx rfl (pc0 := 226) (pc' := 294) rfl (hb hby d1_226) rfl (tlt hc7).1 (by decide) (by decide) kgo) ?_
        refine own_go (g' := (mkF m 296 #[.val (.ref o0), .val (.int (3 : Int32)), .val (.ref o2), .val (.ref o3), .val (.int v3), .val (.int len), .val (.int lo), .val (.int hi), .unset, .unset] [(.int len)])) (fun _ kgo => XS.iload X6.here hx rfl (hb hby d1_294) rfl kgo) ?_
        refine own_go (g' := (mkF m 297 #[.val (.ref o0), .val (.int (3 : Int32)), .val (.ref o2), .val (.ref o3), .val (.int v3), .val (.int len), .val (.int lo), .val (.int hi), .unset, .unset] [(.int (3 : Int32)), (.int len)])) (fun _ kgo => XS.iconst X6.here hx rfl (hb hby d1_296) kgo) ?_
        by_cases hc8 : len < (3 : Int32)
        ·
          refine own_go (g' := (mkF m 367 #[.val (.ref o0), .val (.int (3 : Int32)), .val (.ref o2), .val (.ref o3), .val (.int v3), .val (.int len), .val (.int lo), .val (.int hi), .unset, .unset] [])) (fun _ kgo => XS.icmpYes X6.here hx rfl (pc0 := 297) (pc' := 367) rfl (hb hby d1_297) rfl (tlt hc8).1 (by decide) (by decide) kgo) ?_
          refine own_go (g' := (mkF m 369 #[.val (.ref o0), .val (.int (3 : Int32)), .val (.ref o2), .val (.ref o3), .val (.int v3), .val (.int len), .val (.int lo), .val (.int hi), .unset, .unset] [(.int len)])) (fun _ kgo => XS.iload X6.here hx rfl (hb hby d1_367) rfl kgo) ?_
          refine own_go (g' := (mkF m 370 #[.val (.ref o0), .val (.int (3 : Int32)), .val (.ref o2), .val (.ref o3), .val (.int v3), .val (.int len), .val (.int lo), .val (.int hi), .unset, .unset] [(.int (4 : Int32)), (.int len)])) (fun _ kgo => XS.iconst X6.here hx rfl (hb hby d1_369) kgo) ?_
          by_cases hc9 : len < (4 : Int32)
          ·
            refine own_go (g' := (mkF m 430 #[.val (.ref o0), .val (.int (3 : Int32)), .val (.ref o2), .val (.ref o3), .val (.int v3), .val (.int len), .val (.int lo), .val (.int hi), .unset, .unset] [])) (fun _ kgo => XS.icmpYes X6.here hx rfl (pc0 := 370) (pc' := 430) rfl (hb hby d1_370) rfl (tlt hc9).1 (by decide) (by decide) kgo) ?_
            refine own_go (g' := (mkF m 431 #[.val (.ref o0), .val (.int (3 : Int32)), .val (.ref o2), .val (.ref o3), .val (.int v3), .val (.int len), .val (.int lo), .val (.int hi), .unset, .unset] [(.int (3 : Int32))])) (fun _ kgo => XS.iloadN X6.here hx rfl (hb hby d1_430) rfl kgo) ?_
            refine own_go (g' := (mkF m 433 #[.val (.ref o0), .val (.int (3 : Int32)), .val (.ref o2), .val (.ref o3), .val (.int v3), .val (.int len), .val (.int lo), .val (.int hi), .unset, .unset] [(.int len), (.int (3 : Int32))])) (fun _ kgo => XS.iload X6.here hx rfl (hb hby d1_431) rfl kgo) ?_
            refine own_go (g' := (mkF m 434 #[.val (.ref o0), .val (.int (3 : Int32)), .val (.ref o2), .val (.ref o3), .val (.int v3), .val (.int len), .val (.int lo), .val (.int hi), .unset, .unset] [(.int ((3 : Int32) + len))])) (fun _ kgo => XS.iadd X6.here hx rfl (hb hby d1_433) rfl kgo) ?_
            refine own_retI X6 hx Bd.returns Bd.notSynchronized (hb hby d1_434) (by decide) (by decide) ?_
            show QQ _ T6.heap _
            rw [e6]
            have hrel : ((¬ ((3 : Int32) + len) < 4 ∧ own_chk [(v3, true, (decide (len = (1 : Int32))))] 0 128 191 = true)) := by
              rcases hlen with rfl | rfl | rfl | rfl
              · first | exact absurd hc7 (by decide) | exact absurd hc8 (by decide) | exact absurd hc9 (by decide) | (exact (⟨by decide, by rw [own_f1 hcl (hl1 rfl).1 (hl1 rfl).2 (by decide)]; rfl⟩))
              · first | exact absurd hc7 (by decide) | exact absurd hc8 (by decide) | exact absurd hc9 (by decide) | (exact (⟨by decide, by rw [own_fn hcl (nd := 1) (by decide) (by decide) (by decide)]; rfl⟩))
              · first | exact absurd hc7 (by decide) | exact absurd hc8 (by decide) | exact absurd hc9 (by decide) | (exact (⟨by decide, by rw [own_fn hcl (nd := 2) (by decide) (by decide) (by decide)]; rfl⟩))
              · first | exact absurd hc7 (by decide) | exact absurd hc8 (by decide) | exact absurd hc9 (by decide) | (exact (⟨by decide, by rw [own_fn hcl (nd := 3) (by decide) (by decide) (by decide)]; rfl⟩))
            have fx10 : Arv Z h6 o0 kv .int (4 : Int32) [(.int v0), (.int v1), (.int v2), (.int v3)] (.int (0 : Int32)) := (Arv.other (Arv.other P0 W3 hn02) W6 hn03)
            have fx11 : Arv Z h6 o2 ko .boolean (4 : Int32) [(.int (own_b a0_)), (.int (own_b a1_)), (.int (own_b a2_)), (.int (own_b true))] (.int (0 : Int32)) := (Arv.other V3 W6 hn23)
            rw [← hQQ]
            exact ⟨((3 : Int32) + len), true, (decide (len = (1 : Int32))), rfl, N6, K6, hrel, fx10, fx11, V6⟩
          ·
            refine own_go (g' := (mkF m 373 #[.val (.ref o0), .val (.int (3 : Int32)), .val (.ref o2), .val (.ref o3), .val (.int v3), .val (.int len), .val (.int lo), .val (.int hi), .unset, .unset] [])) (fun _ kgo => XS.icmpNo X6.here hx rfl (hb hby d1_370) rfl (flt hc9).1 kgo) ?_
            refine own_go (g' := (mkF m 374 #[.val (.ref o0), .val (.int (3 : Int32)), .val (.ref o2), .val (.ref o3), .val (.int v3), .val (.int len), .val (.int lo), .val (.int hi), .unset, .unset] [(.int (3 : Int32))])) (fun _ kgo => XS.iloadN X6.here hx rfl (hb hby d1_373) rfl kgo) ?_
            refine own_go (g' := (mkF m 375 #[.val (.ref o0), .val (.int (3 : Int32)), .val (.ref o2), .val (.ref o3), .val (.int v3), .val (.int len), .val (.int lo), .val (.int hi), .unset, .unset] [(.int (3 : Int32)), (.int (3 : Int32))])) (fun _ kgo => XS.iconst X6.here hx rfl (hb hby d1_374) kgo) ?_
            refine own_go (g' := (mkF m 376 #[.val (.ref o0), .val (.int (3 : Int32)), .val (.ref o2), .val (.ref o3), .val (.int v3), .val (.int len), .val (.int lo), .val (.int hi), .unset, .unset] [(.int (6 : Int32))])) (fun _ kgo => XS.iadd X6.here hx rfl (hb hby d1_375) rfl kgo) ?_
            refine own_go (g' := (mkF m 377 #[.val (.ref o0), .val (.int (3 : Int32)), .val (.ref o2), .val (.ref o3), .val (.int v3), .val (.int len), .val (.int lo), .val (.int hi), .unset, .unset] [(.int (4 : Int32)), (.int (6 : Int32))])) (fun _ kgo => XS.iconst X6.here hx rfl (hb hby d1_376) kgo) ?_
            refine own_go (g' := (mkF m 430 #[.val (.ref o0), .val (.int (3 : Int32)), .val (.ref o2), .val (.ref o3), .val (.int v3), .val (.int len), .val (.int lo), .val (.int hi), .unset, .unset] [])) (fun _ kgo => XS.icmpYes X6.here hx rfl (pc0 := 377) (pc' := 430) rfl (hb hby d1_377) rfl (flt (by decide)).2.1 (by decide) (by decide) kgo) ?_
            refine own_go (g' := (mkF m 431 #[.val (.ref o0), .val (.int (3 : Int32)), .val (.ref o2), .val (.ref o3), .val (.int v3), .val (.int len), .val (.int lo), .val (.int hi), .unset, .unset] [(.int (3 : Int32))])) (fun _ kgo => XS.iloadN X6.here hx rfl (hb hby d1_430) rfl kgo) ?_
            refine own_go (g' := (mkF m 433 #[.val (.ref o0), .val (.int (3 : Int32)), .val (.ref o2), .val (.ref o3), .val (.int v3), .val (.int len), .val (.int lo), .val (.int hi), .unset, .unset] [(.int len), (.int (3 : Int32))])) (fun _ kgo => XS.iload X6.here hx rfl (hb hby d1_431) rfl kgo) ?_
            refine own_go (g' := (mkF m 434 #[.val (.ref o0), .val (.int (3 : Int32)), .val (.ref o2), .val (.ref o3), .val (.int v3), .val (.int len), .val (.int lo), .val (.int hi), .unset, .unset] [(.int ((3 : Int32) + len))])) (fun _ kgo => XS.iadd X6.here hx rfl (hb hby d1_433) rfl kgo) ?_
            refine own_retI X6 hx Bd.returns Bd.notSynchronized (hb hby d1_434) (by decide) (by decide) ?_
            show QQ _ T6.heap _
            rw [e6]
            have hrel : ((¬ ((3 : Int32) + len) < 4 ∧ own_chk [(v3, true, (decide (len = (1 : Int32))))] 0 128 191 = true)) := by
              rcases hlen with rfl | rfl | rfl | rfl
              · first | exact absurd hc7 (by decide) | exact absurd hc8 (by decide) | exact absurd hc9 (by decide) | (exact (⟨by decide, by rw [own_f1 hcl (hl1 rfl).1 (hl1 rfl).2 (by decide)]; rfl⟩))
              · first | exact absurd hc7 (by decide) | exact absurd hc8 (by decide) | exact absurd hc9 (by decide) | (exact (⟨by decide, by rw [own_fn hcl (nd := 1) (by decide) (by decide) (by decide)]; rfl⟩))
              · first | exact absurd hc7 (by decide) | exact absurd hc8 (by decide) | exact absurd hc9 (by decide) | (exact (⟨by decide, by rw [own_fn hcl (nd := 2) (by decide) (by decide) (by decide)]; rfl⟩))
              · first | exact absurd hc7 (by decide) | exact absurd hc8 (by decide) | exact absurd hc9 (by decide) | (exact (⟨by decide, by rw [own_fn hcl (nd := 3) (by decide) (by decide) (by decide)]; rfl⟩))
            have fx12 : Arv Z h6 o0 kv .int (4 : Int32) [(.int v0), (.int v1), (.int v2), (.int v3)] (.int (0 : Int32)) := (Arv.other (Arv.other P0 W3 hn02) W6 hn03)
            have fx13 : Arv Z h6 o2 ko .boolean (4 : Int32) [(.int (own_b a0_)), (.int (own_b a1_)), (.int (own_b a2_)), (.int (own_b true))] (.int (0 : Int32)) := (Arv.other V3 W6 hn23)
            rw [← hQQ]
            exact ⟨((3 : Int32) + len), true, (decide (len = (1 : Int32))), rfl, N6, K6, hrel, fx12, fx13, V6⟩
        ·
          refine own_go (g' := (mkF m 300 #[.val (.ref o0), .val (.int (3 : Int32)), .val (.ref o2), .val (.ref o3), .val (.int v3), .val (.int len), .val (.int lo), .val (.int hi), .unset, .unset] [])) (fun _ kgo => XS.icmpNo X6.here hx rfl (hb hby d1_297) rfl (flt hc8).1 kgo) ?_
          refine own_go (g' := (mkF m 301 #[.val (.ref o0), .val (.int (3 : Int32)), .val (.ref o2), .val (.ref o3), .val (.int v3), .val (.int len), .val (.int lo), .val (.int hi), .unset, .unset] [(.int (3 : Int32))])) (fun _ kgo => XS.iloadN X6.here hx rfl (hb hby d1_300) rfl kgo) ?_
          refine own_go (g' := (mkF m 302 #[.val (.ref o0), .val (.int (3 : Int32)), .val (.ref o2), .val (.ref o3), .val (.int v3), .val (.int len), .val (.int lo), .val (.int hi), .unset, .unset] [(.int (2 : Int32)), (.int (3 : Int32))])) (fun _ kgo => XS.iconst X6.here hx rfl (hb hby d1_301) kgo) ?_
          refine own_go (g' := (mkF m 303 #[.val (.ref o0), .val (.int (3 : Int32)), .val (.ref o2), .val (.ref o3), .val (.int v3), .val (.int len), .val (.int lo), .val (.int hi), .unset, .unset] [(.int (5 : Int32))])) (fun _ kgo => XS.iadd X6.here hx rfl (hb hby d1_302) rfl kgo) ?_
          refine own_go (g' := (mkF m 304 #[.val (.ref o0), .val (.int (3 : Int32)), .val (.ref o2), .val (.ref o3), .val (.int v3), .val (.int len), .val (.int lo), .val (.int hi), .unset, .unset] [(.int (4 : Int32)), (.int (5 : Int32))])) (fun _ kgo => XS.iconst X6.here hx rfl (hb hby d1_303) kgo) ?_
          refine own_go (g' := (mkF m 367 #[.val (.ref o0), .val (.int (3 : Int32)), .val (.ref o2), .val (.ref o3), .val (.int v3), .val (.int len), .val (.int lo), .val (.int hi), .unset, .unset] [])) (fun _ kgo => XS.icmpYes X6.here hx rfl (pc0 := 304) (pc' := 367) rfl (hb hby d1_304) rfl (flt (by decide)).2.1 (by decide) (by decide) kgo) ?_
          refine own_go (g' := (mkF m 369 #[.val (.ref o0), .val (.int (3 : Int32)), .val (.ref o2), .val (.ref o3), .val (.int v3), .val (.int len), .val (.int lo), .val (.int hi), .unset, .unset] [(.int len)])) (fun _ kgo => XS.iload X6.here hx rfl (hb hby d1_367) rfl kgo) ?_
          refine own_go (g' := (mkF m 370 #[.val (.ref o0), .val (.int (3 : Int32)), .val (.ref o2), .val (.ref o3), .val (.int v3), .val (.int len), .val (.int lo), .val (.int hi), .unset, .unset] [(.int (4 : Int32)), (.int len)])) (fun _ kgo => XS.iconst X6.here hx rfl (hb hby d1_369) kgo) ?_
          by_cases hc14 : len < (4 : Int32)
          ·
            refine own_go (g' := (mkF m 430 #[.val (.ref o0), .val (.int (3 : Int32)), .val (.ref o2), .val (.ref o3), .val (.int v3), .val (.int len), .val (.int lo), .val (.int hi), .unset, .unset] [])) (fun _ kgo => XS.icmpYes X6.here hx rfl (pc0 := 370) (pc' := 430) rfl (hb hby d1_370) rfl (tlt hc14).1 (by decide) (by decide) kgo) ?_
            refine own_go (g' := (mkF m 431 #[.val (.ref o0), .val (.int (3 : Int32)), .val (.ref o2), .val (.ref o3), .val (.int v3), .val (.int len), .val (.int lo), .val (.int hi), .unset, .unset] [(.int (3 : Int32))])) (fun _ kgo => XS.iloadN X6.here hx rfl (hb hby d1_430) rfl kgo) ?_
            refine own_go (g' := (mkF m 433 #[.val (.ref o0), .val (.int (3 : Int32)), .val (.ref o2), .val (.ref o3), .val (.int v3), .val (.int len), .val (.int lo), .val (.int hi), .unset, .unset] [(.int len), (.int (3 : Int32))])) (fun _ kgo => XS.iload X6.here hx rfl (hb hby d1_431) rfl kgo) ?_
            refine own_go (g' := (mkF m 434 #[.val (.ref o0), .val (.int (3 : Int32)), .val (.ref o2), .val (.ref o3), .val (.int v3), .val (.int len), .val (.int lo), .val (.int hi), .unset, .unset] [(.int ((3 : Int32) + len))])) (fun _ kgo => XS.iadd X6.here hx rfl (hb hby d1_433) rfl kgo) ?_
            refine own_retI X6 hx Bd.returns Bd.notSynchronized (hb hby d1_434) (by decide) (by decide) ?_
            show QQ _ T6.heap _
            rw [e6]
            have hrel : ((¬ ((3 : Int32) + len) < 4 ∧ own_chk [(v3, true, (decide (len = (1 : Int32))))] 0 128 191 = true)) := by
              rcases hlen with rfl | rfl | rfl | rfl
              · first | exact absurd hc7 (by decide) | exact absurd hc8 (by decide) | exact absurd hc14 (by decide) | (exact (⟨by decide, by rw [own_f1 hcl (hl1 rfl).1 (hl1 rfl).2 (by decide)]; rfl⟩))
              · first | exact absurd hc7 (by decide) | exact absurd hc8 (by decide) | exact absurd hc14 (by decide) | (exact (⟨by decide, by rw [own_fn hcl (nd := 1) (by decide) (by decide) (by decide)]; rfl⟩))
              · first | exact absurd hc7 (by decide) | exact absurd hc8 (by decide) | exact absurd hc14 (by decide) | (exact (⟨by decide, by rw [own_fn hcl (nd := 2) (by decide) (by decide) (by decide)]; rfl⟩))
              · first | exact absurd hc7 (by decide) | exact absurd hc8 (by decide) | exact absurd hc14 (by decide) | (exact (⟨by decide, by rw [own_fn hcl (nd := 3) (by decide) (by decide) (by decide)]; rfl⟩))
            have fx15 : Arv Z h6 o0 kv .int (4 : Int32) [(.int v0), (.int v1), (.int v2), (.int v3)] (.int (0 : Int32)) := (Arv.other (Arv.other P0 W3 hn02) W6 hn03)
            have fx16 : Arv Z h6 o2 ko .boolean (4 : Int32) [(.int (own_b a0_)), (.int (own_b a1_)), (.int (own_b a2_)), (.int (own_b true))] (.int (0 : Int32)) := (Arv.other V3 W6 hn23)
            rw [← hQQ]
            exact ⟨((3 : Int32) + len), true, (decide (len = (1 : Int32))), rfl, N6, K6, hrel, fx15, fx16, V6⟩
          ·
            refine own_go (g' := (mkF m 373 #[.val (.ref o0), .val (.int (3 : Int32)), .val (.ref o2), .val (.ref o3), .val (.int v3), .val (.int len), .val (.int lo), .val (.int hi), .unset, .unset] [])) (fun _ kgo => XS.icmpNo X6.here hx rfl (hb hby d1_370) rfl (flt hc14).1 kgo) ?_
            refine own_go (g' := (mkF m 374 #[.val (.ref o0), .val (.int (3 : Int32)), .val (.ref o2), .val (.ref o3), .val (.int v3), .val (.int len), .val (.int lo), .val (.int hi), .unset, .unset] [(.int (3 : Int32))])) (fun _ kgo => XS.iloadN X6.here hx rfl (hb hby d1_373) rfl kgo) ?_
            refine own_go (g' := (mkF m 375 #[.val (.ref o0), .val (.int (3 : Int32)), .val (.ref o2), .val (.ref o3), .val (.int v3), .val (.int len), .val (.int lo), .val (.int hi), .unset, .unset] [(.int (3 : Int32)), (.int (3 : Int32))])) (fun _ kgo => XS.iconst X6.here hx rfl (hb hby d1_374) kgo) ?_
            refine own_go (g' := (mkF m 376 #[.val (.ref o0), .val (.int (3 : Int32)), .val (.ref o2), .val (.ref o3), .val (.int v3), .val (.int len), .val (.int lo), .val (.int hi), .unset, .unset] [(.int (6 : Int32))])) (fun _ kgo => XS.iadd X6.here hx rfl (hb hby d1_375) rfl kgo) ?_
            refine own_go (g' := (mkF m 377 #[.val (.ref o0), .val (.int (3 : Int32)), .val (.ref o2), .val (.ref o3), .val (.int v3), .val (.int len), .val (.int lo), .val (.int hi), .unset, .unset] [(.int (4 : Int32)), (.int (6 : Int32))])) (fun _ kgo => XS.iconst X6.here hx rfl (hb hby d1_376) kgo) ?_
            refine own_go (g' := (mkF m 430 #[.val (.ref o0), .val (.int (3 : Int32)), .val (.ref o2), .val (.ref o3), .val (.int v3), .val (.int len), .val (.int lo), .val (.int hi), .unset, .unset] [])) (fun _ kgo => XS.icmpYes X6.here hx rfl (pc0 := 377) (pc' := 430) rfl (hb hby d1_377) rfl (flt (by decide)).2.1 (by decide) (by decide) kgo) ?_
            refine own_go (g' := (mkF m 431 #[.val (.ref o0), .val (.int (3 : Int32)), .val (.ref o2), .val (.ref o3), .val (.int v3), .val (.int len), .val (.int lo), .val (.int hi), .unset, .unset] [(.int (3 : Int32))])) (fun _ kgo => XS.iloadN X6.here hx rfl (hb hby d1_430) rfl kgo) ?_
            refine own_go (g' := (mkF m 433 #[.val (.ref o0), .val (.int (3 : Int32)), .val (.ref o2), .val (.ref o3), .val (.int v3), .val (.int len), .val (.int lo), .val (.int hi), .unset, .unset] [(.int len), (.int (3 : Int32))])) (fun _ kgo => XS.iload X6.here hx rfl (hb hby d1_431) rfl kgo) ?_
            refine own_go (g' := (mkF m 434 #[.val (.ref o0), .val (.int (3 : Int32)), .val (.ref o2), .val (.ref o3), .val (.int v3), .val (.int len), .val (.int lo), .val (.int hi), .unset, .unset] [(.int ((3 : Int32) + len))])) (fun _ kgo => XS.iadd X6.here hx rfl (hb hby d1_433) rfl kgo) ?_
            refine own_retI X6 hx Bd.returns Bd.notSynchronized (hb hby d1_434) (by decide) (by decide) ?_
            show QQ _ T6.heap _
            rw [e6]
            have hrel : ((¬ ((3 : Int32) + len) < 4 ∧ own_chk [(v3, true, (decide (len = (1 : Int32))))] 0 128 191 = true)) := by
              rcases hlen with rfl | rfl | rfl | rfl
              · first | exact absurd hc7 (by decide) | exact absurd hc8 (by decide) | exact absurd hc14 (by decide) | (exact (⟨by decide, by rw [own_f1 hcl (hl1 rfl).1 (hl1 rfl).2 (by decide)]; rfl⟩))
              · first | exact absurd hc7 (by decide) | exact absurd hc8 (by decide) | exact absurd hc14 (by decide) | (exact (⟨by decide, by rw [own_fn hcl (nd := 1) (by decide) (by decide) (by decide)]; rfl⟩))
              · first | exact absurd hc7 (by decide) | exact absurd hc8 (by decide) | exact absurd hc14 (by decide) | (exact (⟨by decide, by rw [own_fn hcl (nd := 2) (by decide) (by decide) (by decide)]; rfl⟩))
              · first | exact absurd hc7 (by decide) | exact absurd hc8 (by decide) | exact absurd hc14 (by decide) | (exact (⟨by decide, by rw [own_fn hcl (nd := 3) (by decide) (by decide) (by decide)]; rfl⟩))
            have fx17 : Arv Z h6 o0 kv .int (4 : Int32) [(.int v0), (.int v1), (.int v2), (.int v3)] (.int (0 : Int32)) := (Arv.other (Arv.other P0 W3 hn02) W6 hn03)
            have fx18 : Arv Z h6 o2 ko .boolean (4 : Int32) [(.int (own_b a0_)), (.int (own_b a1_)), (.int (own_b a2_)), (.int (own_b true))] (.int (0 : Int32)) := (Arv.other V3 W6 hn23)
            rw [← hQQ]
            exact ⟨((3 : Int32) + len), true, (decide (len = (1 : Int32))), rfl, N6, K6, hrel, fx17, fx18, V6⟩
      ·
        refine own_go (g' := (mkF m 229 #[.val (.ref o0), .val (.int (3 : Int32)), .val (.ref o2), .val (.ref o3), .val (.int v3), .val (.int len), .val (.int lo), .val (.int hi), .unset, .unset] [])) (fun _ kgo => XS.icmpNo X6.here hx rfl (hb hby d1_226) rfl (flt hc7).1 kgo) ?_
        refine own_go (g' := (mkF m 230 #[.val (.ref o0), .val (.int (3 : Int32)), .val (.ref o2), .val (.ref o3), .val (.int v3), .val (.int len), .val (.int lo), .val (.int hi), .unset, .unset] [(.int (3 : Int32))])) (fun _ kgo => XS.iloadN X6.here hx rfl (hb hby d1_229) rfl kgo) ?_
        refine own_go (g' := (mkF m 231 #[.val (.ref o0), .val (.int (3 : Int32)), .val (.ref o2), .val (.ref o3), .val (.int v3), .val (.int len), .val (.int lo), .val (.int hi), .unset, .unset] [(.int (1 : Int32)), (.int (3 : Int32))])) (fun _ kgo => XS.iconst X6.here hx rfl (hb hby d1_230) kgo) ?_
        refine own_go (g' := (mkF m 232 #[.val (.ref o0), .val (.int (3 : Int32)), .val (.ref o2), .val (.ref o3), .val (.int v3), .val (.int len), .val (.int lo), .val (.int hi), .unset, .unset] [(.int (4 : Int32))])) (fun _ kgo => XS.iadd X6.here hx rfl (hb hby d1_231) rfl kgo) ?_
        refine own_go (g' := (mkF m 233 #[.val (.ref o0), .val (.int (3 : Int32)), .val (.ref o2), .val (.ref o3), .val (.int v3), .val (.int len), .val (.int lo), .val (.int hi), .unset, .unset] [(.int (4 : Int32)), (.int (4 : Int32))])) (fun _ kgo => XS.iconst X6.here hx rfl (hb hby d1_232) kgo) ?_
        refine own_go (g' := (mkF m 294 #[.val (.ref o0), .val (.int (3 : Int32)), .val (.ref o2), .val (.ref o3), .val (.int v3), .val (.int len), .val (.int lo), .val (.int hi), .unset, .unset] [])) (fun _ kgo => XS.icmpYes X6.here hx rfl (pc0 := 233) (pc' := 294) rfl (hb hby d1_233) rfl (flt (by decide)).2.1 (by decide) (by decide) kgo) ?_
        refine own_go (g' := (mkF m 296 #[.val (.ref o0), .val (.int (3 : Int32)), .val (.ref o2), .val (.ref o3), .val (.int v3), .val (.int len), .val (.int lo), .val (.int hi), .unset, .unset] [(.int len)])) (fun _ kgo => XS.iload X6.here hx rfl (hb hby d1_294) rfl kgo) ?_
        refine own_go (g' := (mkF m 297 #[.val (.ref o0), .val (.int (3 : Int32)), .val (.ref o2), .val (.ref o3), .val (.int v3), .val (.int len), .val (.int lo), .val (.int hi), .unset, .unset] [(.int (3 : Int32)), (.int len)])) (fun _ kgo => XS.iconst X6.here hx rfl (hb hby d1_296) kgo) ?_
        by_cases hc19 : len < (3 : Int32)
        ·
          refine own_go (g' := (mkF m 367 #[.val (.ref o0), .val (.int (3 : Int32)), .val (.ref o2), .val (.ref o3), .val (.int v3), .val (.int len), .val (.int lo), .val (.int hi), .unset, .unset] [])) (fun _ kgo => XS.icmpYes X6.here hx rfl (pc0 := 297) (pc' := 367) rfl (hb hby d1_297) rfl (tlt hc19).1 (by decide) (by decide) kgo) ?_
          refine own_go (g' := (mkF m 369 #[.val (.ref o0), .val (.int (3 : Int32)), .val (.ref o2), .val (.ref o3), .val (.int v3), .val (.int len), .val (.int lo), .val (.int hi), .unset, .unset] [(.int len)])) (fun _ kgo => XS.iload X6.here hx rfl (hb hby d1_367) rfl kgo) ?_
          refine own_go (g' := (mkF m 370 #[.val (.ref o0), .val (.int (3 : Int32)), .val (.ref o2), .val (.ref o3), .val (.int v3), .val (.int len), .val (.int lo), .val (.int hi), .unset, .unset] [(.int (4 : Int32)), (.int len)])) (fun _ kgo => XS.iconst X6.here hx rfl (hb hby d1_369) kgo) ?_
          by_cases hc20 : len < (4 : Int32)
          ·
            refine own_go (g' := (mkF m 430 #[.val (.ref o0), .val (.int (3 : Int32)), .val (.ref o2), .val (.ref o3), .val (.int v3), .val (.int len), .val (.int lo), .val (.int hi), .unset, .unset] [])) (fun _ kgo => XS.icmpYes X6.here hx rfl (pc0 := 370) (pc' := 430) rfl (hb hby d1_370) rfl (tlt hc20).1 (by decide) (by decide) kgo) ?_
            refine own_go (g' := (mkF m 431 #[.val (.ref o0), .val (.int (3 : Int32)), .val (.ref o2), .val (.ref o3), .val (.int v3), .val (.int len), .val (.int lo), .val (.int hi), .unset, .unset] [(.int (3 : Int32))])) (fun _ kgo => XS.iloadN X6.here hx rfl (hb hby d1_430) rfl kgo) ?_
            refine own_go (g' := (mkF m 433 #[.val (.ref o0), .val (.int (3 : Int32)), .val (.ref o2), .val (.ref o3), .val (.int v3), .val (.int len), .val (.int lo), .val (.int hi), .unset, .unset] [(.int len), (.int (3 : Int32))])) (fun _ kgo => XS.iload X6.here hx rfl (hb hby d1_431) rfl kgo) ?_
            refine own_go (g' := (mkF m 434 #[.val (.ref o0), .val (.int (3 : Int32)), .val (.ref o2), .val (.ref o3), .val (.int v3), .val (.int len), .val (.int lo), .val (.int hi), .unset, .unset] [(.int ((3 : Int32) + len))])) (fun _ kgo => XS.iadd X6.here hx rfl (hb hby d1_433) rfl kgo) ?_
            refine own_retI X6 hx Bd.returns Bd.notSynchronized (hb hby d1_434) (by decide) (by decide) ?_
            show QQ _ T6.heap _
            rw [e6]
            have hrel : ((¬ ((3 : Int32) + len) < 4 ∧ own_chk [(v3, true, (decide (len = (1 : Int32))))] 0 128 191 = true)) := by
              rcases hlen with rfl | rfl | rfl | rfl
              · first | exact absurd hc7 (by decide) | exact absurd hc19 (by decide) | exact absurd hc20 (by decide) | (exact (⟨by decide, by rw [own_f1 hcl (hl1 rfl).1 (hl1 rfl).2 (by decide)]; rfl⟩))
              · first | exact absurd hc7 (by decide) | exact absurd hc19 (by decide) | exact absurd hc20 (by decide) | (exact (⟨by decide, by rw [own_fn hcl (nd := 1) (by decide) (by decide) (by decide)]; rfl⟩))
              · first | exact absurd hc7 (by decide) | exact absurd hc19 (by decide) | exact absurd hc20 (by decide) | (exact (⟨by decide, by rw [own_fn hcl (nd := 2) (by decide) (by decide) (by decide)]; rfl⟩))
              · first | exact absurd hc7 (by decide) | exact absurd hc19 (by decide) | exact absurd hc20 (by decide) | (exact (⟨by decide, by rw [own_fn hcl (nd := 3) (by decide) (by decide) (by decide)]; rfl⟩))
            have fx21 : Arv Z h6 o0 kv .int (4 : Int32) [(.int v0), (.int v1), (.int v2), (.int v3)] (.int (0 : Int32)) := (Arv.other (Arv.other P0 W3 hn02) W6 hn03)
            have fx22 : Arv Z h6 o2 ko .boolean (4 : Int32) [(.int (own_b a0_)), (.int (own_b a1_)), (.int (own_b a2_)), (.int (own_b true))] (.int (0 : Int32)) := (Arv.other V3 W6 hn23)
            rw [← hQQ]
            exact ⟨((3 : Int32) + len), true, (decide (len = (1 : Int32))), rfl, N6, K6, hrel, fx21, fx22, V6⟩
          ·
            refine own_go (g' := (mkF m 373 #[.val (.ref o0), .val (.int (3 : Int32)), .val (.ref o2), .val (.ref o3), .val (.int v3), .val (.int len), .val (.int lo), .val (.int hi), .unset, .unset] [])) (fun _ kgo => XS.icmpNo X6.here hx rfl (hb hby d1_370) rfl (flt hc20).1 kgo) ?_
            refine own_go (g' := (mkF m 374 #[.val (.ref o0), .val (.int (3 : Int32)), .val (.ref o2), .val (.ref o3), .val (.int v3), .val (.int len), .val (.int lo), .val (.int hi), .unset, .unset] [(.int (3 : Int32))])) (fun _ kgo => XS.iloadN X6.here hx rfl (hb hby d1_373) rfl kgo) ?_
            refine own_go (g' := (mkF m 375 #[.val (.ref o0), .val (.int (3 : Int32)), .val (.ref o2), .val (.ref o3), .val (.int v3), .val (.int len), .val (.int lo), .val (.int hi), .unset, .unset] [(.int (3 : Int32)), (.int (3 : Int32))])) (fun _ kgo => XS.iconst X6.here hx rfl (hb hby d1_374) kgo) ?_
            refine own_go (g' := (mkF m 376 #[.val (.ref o0), .val (.int (3 : Int32)), .val (.ref o2), .val (.ref o3), .val (.int v3), .val (.int len), .val (.int lo), .val (.int hi), .unset, .unset] [(.int (6 : Int32))])) (fun _ kgo => XS.iadd X6.here hx rfl (hb hby d1_375) rfl kgo) ?_
            refine own_go (g' := (mkF m 377 #[.val (.ref o0), .val (.int (3 : Int32)), .val (.ref o2), .val (.ref o3), .val (.int v3), .val (.int len), .val (.int lo), .val (.int hi), .unset, .unset] [(.int (4 : Int32)), (.int (6 : Int32))])) (fun _ kgo => XS.iconst X6.here hx rfl (hb hby d1_376) kgo) ?_
            refine own_go (g' := (mkF m 430 #[.val (.ref o0), .val (.int (3 : Int32)), .val (.ref o2), .val (.ref o3), .val (.int v3), .val (.int len), .val (.int lo), .val (.int hi), .unset, .unset] [])) (fun _ kgo => XS.icmpYes X6.here hx rfl (pc0 := 377) (pc' := 430) rfl (hb hby d1_377) rfl (flt (by decide)).2.1 (by decide) (by decide) kgo) ?_
            refine own_go (g' := (mkF m 431 #[.val (.ref o0), .val (.int (3 : Int32)), .val (.ref o2), .val (.ref o3), .val (.int v3), .val (.int len), .val (.int lo), .val (.int hi), .unset, .unset] [(.int (3 : Int32))])) (fun _ kgo => XS.iloadN X6.here hx rfl (hb hby d1_430) rfl kgo) ?_
            refine own_go (g' := (mkF m 433 #[.val (.ref o0), .val (.int (3 : Int32)), .val (.ref o2), .val (.ref o3), .val (.int v3), .val (.int len), .val (.int lo), .val (.int hi), .unset, .unset] [(.int len), (.int (3 : Int32))])) (fun _ kgo => XS.iload X6.here hx rfl (hb hby d1_431) rfl kgo) ?_
            refine own_go (g' := (mkF m 434 #[.val (.ref o0), .val (.int (3 : Int32)), .val (.ref o2), .val (.ref o3), .val (.int v3), .val (.int len), .val (.int lo), .val (.int hi), .unset, .unset] [(.int ((3 : Int32) + len))])) (fun _ kgo => XS.iadd X6.here hx rfl (hb hby d1_433) rfl kgo) ?_
            refine own_retI X6 hx Bd.returns Bd.notSynchronized (hb hby d1_434) (by decide) (by decide) ?_
            show QQ _ T6.heap _
            rw [e6]
            have hrel : ((¬ ((3 : Int32) + len) < 4 ∧ own_chk [(v3, true, (decide (len = (1 : Int32))))] 0 128 191 = true)) := by
              rcases hlen with rfl | rfl | rfl | rfl
              · first | exact absurd hc7 (by decide) | exact absurd hc19 (by decide) | exact absurd hc20 (by decide) | (exact (⟨by decide, by rw [own_f1 hcl (hl1 rfl).1 (hl1 rfl).2 (by decide)]; rfl⟩))
              · first | exact absurd hc7 (by decide) | exact absurd hc19 (by decide) | exact absurd hc20 (by decide) | (exact (⟨by decide, by rw [own_fn hcl (nd := 1) (by decide) (by decide) (by decide)]; rfl⟩))
              · first | exact absurd hc7 (by decide) | exact absurd hc19 (by decide) | exact absurd hc20 (by decide) | (exact (⟨by decide, by rw [own_fn hcl (nd := 2) (by decide) (by decide) (by decide)]; rfl⟩))
              · first | exact absurd hc7 (by decide) | exact absurd hc19 (by decide) | exact absurd hc20 (by decide) | (exact (⟨by decide, by rw [own_fn hcl (nd := 3) (by decide) (by decide) (by decide)]; rfl⟩))
            have fx23 : Arv Z h6 o0 kv .int (4 : Int32) [(.int v0), (.int v1), (.int v2), (.int v3)] (.int (0 : Int32)) := (Arv.other (Arv.other P0 W3 hn02) W6 hn03)
            have fx24 : Arv Z h6 o2 ko .boolean (4 : Int32) [(.int (own_b a0_)), (.int (own_b a1_)), (.int (own_b a2_)), (.int (own_b true))] (.int (0 : Int32)) := (Arv.other V3 W6 hn23)
            rw [← hQQ]
            exact ⟨((3 : Int32) + len), true, (decide (len = (1 : Int32))), rfl, N6, K6, hrel, fx23, fx24, V6⟩
        ·
          refine own_go (g' := (mkF m 300 #[.val (.ref o0), .val (.int (3 : Int32)), .val (.ref o2), .val (.ref o3), .val (.int v3), .val (.int len), .val (.int lo), .val (.int hi), .unset, .unset] [])) (fun _ kgo => XS.icmpNo X6.here hx rfl (hb hby d1_297) rfl (flt hc19).1 kgo) ?_
          refine own_go (g' := (mkF m 301 #[.val (.ref o0), .val (.int (3 : Int32)), .val (.ref o2), .val (.ref o3), .val (.int v3), .val (.int len), .val (.int lo), .val (.int hi), .unset, .unset] [(.int (3 : Int32))])) (fun _ kgo => XS.iloadN X6.here hx rfl (hb hby d1_300) rfl kgo) ?_
          refine own_go (g' := (mkF m 302 #[.val (.ref o0), .val (.int (3 : Int32)), .val (.ref o2), .val (.ref o3), .val (.int v3), .val (.int len), .val (.int lo), .val (.int hi), .unset, .unset] [(.int (2 : Int32)), (.int (3 : Int32))])) (fun _ kgo => XS.iconst X6.here hx rfl (hb hby d1_301) kgo) ?_
          refine own_go (g' := (mkF m 303 #[.val (.ref o0), .val (.int (3 : Int32)), .val (.ref o2), .val (.ref o3), .val (.int v3), .val (.int len), .val (.int lo), .val (.int hi), .unset, .unset] [(.int (5 : Int32))])) (fun _ kgo => XS.iadd X6.here hx rfl (hb hby d1_302) rfl kgo) ?_
          refine own_go (g' := (mkF m 304 #[.val (.ref o0), .val (.int (3 : Int32)), .val (.ref o2), .val (.ref o3), .val (.int v3), .val (.int len), .val (.int lo), .val (.int hi), .unset, .unset] [(.int (4 : Int32)), (.int (5 : Int32))])) (fun _ kgo => XS.iconst X6.here hx rfl (hb hby d1_303) kgo) ?_
          refine own_go (g' := (mkF m 367 #[.val (.ref o0), .val (.int (3 : Int32)), .val (.ref o2), .val (.ref o3), .val (.int v3), .val (.int len), .val (.int lo), .val (.int hi), .unset, .unset] [])) (fun _ kgo => XS.icmpYes X6.here hx rfl (pc0 := 304) (pc' := 367) rfl (hb hby d1_304) rfl (flt (by decide)).2.1 (by decide) (by decide) kgo) ?_
          refine own_go (g' := (mkF m 369 #[.val (.ref o0), .val (.int (3 : Int32)), .val (.ref o2), .val (.ref o3), .val (.int v3), .val (.int len), .val (.int lo), .val (.int hi), .unset, .unset] [(.int len)])) (fun _ kgo => XS.iload X6.here hx rfl (hb hby d1_367) rfl kgo) ?_
          refine own_go (g' := (mkF m 370 #[.val (.ref o0), .val (.int (3 : Int32)), .val (.ref o2), .val (.ref o3), .val (.int v3), .val (.int len), .val (.int lo), .val (.int hi), .unset, .unset] [(.int (4 : Int32)), (.int len)])) (fun _ kgo => XS.iconst X6.here hx rfl (hb hby d1_369) kgo) ?_
          by_cases hc25 : len < (4 : Int32)
          ·
            refine own_go (g' := (mkF m 430 #[.val (.ref o0), .val (.int (3 : Int32)), .val (.ref o2), .val (.ref o3), .val (.int v3), .val (.int len), .val (.int lo), .val (.int hi), .unset, .unset] [])) (fun _ kgo => XS.icmpYes X6.here hx rfl (pc0 := 370) (pc' := 430) rfl (hb hby d1_370) rfl (tlt hc25).1 (by decide) (by decide) kgo) ?_
            refine own_go (g' := (mkF m 431 #[.val (.ref o0), .val (.int (3 : Int32)), .val (.ref o2), .val (.ref o3), .val (.int v3), .val (.int len), .val (.int lo), .val (.int hi), .unset, .unset] [(.int (3 : Int32))])) (fun _ kgo => XS.iloadN X6.here hx rfl (hb hby d1_430) rfl kgo) ?_
            refine own_go (g' := (mkF m 433 #[.val (.ref o0), .val (.int (3 : Int32)), .val (.ref o2), .val (.ref o3), .val (.int v3), .val (.int len), .val (.int lo), .val (.int hi), .unset, .unset] [(.int len), (.int (3 : Int32))])) (fun _ kgo => XS.iload X6.here hx rfl (hb hby d1_431) rfl kgo) ?_
            refine own_go (g' := (mkF m 434 #[.val (.ref o0), .val (.int (3 : Int32)), .val (.ref o2), .val (.ref o3), .val (.int v3), .val (.int len), .val (.int lo), .val (.int hi), .unset, .unset] [(.int ((3 : Int32) + len))])) (fun _ kgo => XS.iadd X6.here hx rfl (hb hby d1_433) rfl kgo) ?_
            refine own_retI X6 hx Bd.returns Bd.notSynchronized (hb hby d1_434) (by decide) (by decide) ?_
            show QQ _ T6.heap _
            rw [e6]
            have hrel : ((¬ ((3 : Int32) + len) < 4 ∧ own_chk [(v3, true, (decide (len = (1 : Int32))))] 0 128 191 = true)) := by
              rcases hlen with rfl | rfl | rfl | rfl
              · first | exact absurd hc7 (by decide) | exact absurd hc19 (by decide) | exact absurd hc25 (by decide) | (exact (⟨by decide, by rw [own_f1 hcl (hl1 rfl).1 (hl1 rfl).2 (by decide)]; rfl⟩))
              · first | exact absurd hc7 (by decide) | exact absurd hc19 (by decide) | exact absurd hc25 (by decide) | (exact (⟨by decide, by rw [own_fn hcl (nd := 1) (by decide) (by decide) (by decide)]; rfl⟩))
              · first | exact absurd hc7 (by decide) | exact absurd hc19 (by decide) | exact absurd hc25 (by decide) | (exact (⟨by decide, by rw [own_fn hcl (nd := 2) (by decide) (by decide) (by decide)]; rfl⟩))
              · first | exact absurd hc7 (by decide) | exact absurd hc19 (by decide) | exact absurd hc25 (by decide) | (exact (⟨by decide, by rw [own_fn hcl (nd := 3) (by decide) (by decide) (by decide)]; rfl⟩))
            have fx26 : Arv Z h6 o0 kv .int (4 : Int32) [(.int v0), (.int v1), (.int v2), (.int v3)] (.int (0 : Int32)) := (Arv.other (Arv.other P0 W3 hn02) W6 hn03)
            have fx27 : Arv Z h6 o2 ko .boolean (4 : Int32) [(.int (own_b a0_)), (.int (own_b a1_)), (.int (own_b a2_)), (.int (own_b true))] (.int (0 : Int32)) := (Arv.other V3 W6 hn23)
            rw [← hQQ]
            exact ⟨((3 : Int32) + len), true, (decide (len = (1 : Int32))), rfl, N6, K6, hrel, fx26, fx27, V6⟩
          ·
            refine own_go (g' := (mkF m 373 #[.val (.ref o0), .val (.int (3 : Int32)), .val (.ref o2), .val (.ref o3), .val (.int v3), .val (.int len), .val (.int lo), .val (.int hi), .unset, .unset] [])) (fun _ kgo => XS.icmpNo X6.here hx rfl (hb hby d1_370) rfl (flt hc25).1 kgo) ?_
            refine own_go (g' := (mkF m 374 #[.val (.ref o0), .val (.int (3 : Int32)), .val (.ref o2), .val (.ref o3), .val (.int v3), .val (.int len), .val (.int lo), .val (.int hi), .unset, .unset] [(.int (3 : Int32))])) (fun _ kgo => XS.iloadN X6.here hx rfl (hb hby d1_373) rfl kgo) ?_
            refine own_go (g' := (mkF m 375 #[.val (.ref o0), .val (.int (3 : Int32)), .val (.ref o2), .val (.ref o3), .val (.int v3), .val (.int len), .val (.int lo), .val (.int hi), .unset, .unset] [(.int (3 : Int32)), (.int (3 : Int32))])) (fun _ kgo => XS.iconst X6.here hx rfl (hb hby d1_374) kgo) ?_
            refine own_go (g' := (mkF m 376 #[.val (.ref o0), .val (.int (3 : Int32)), .val (.ref o2), .val (.ref o3), .val (.int v3), .val (.int len), .val (.int lo), .val (.int hi), .unset, .unset] [(.int (6 : Int32))])) (fun _ kgo => XS.iadd X6.here hx rfl (hb hby d1_375) rfl kgo) ?_
            refine own_go (g' := (mkF m 377 #[.val (.ref o0), .val (.int (3 : Int32)), .val (.ref o2), .val (.ref o3), .val (.int v3), .val (.int len), .val (.int lo), .val (.int hi), .unset, .unset] [(.int (4 : Int32)), (.int (6 : Int32))])) (fun _ kgo => XS.iconst X6.here hx rfl (hb hby d1_376) kgo) ?_
            refine own_go (g' := (mkF m 430 #[.val (.ref o0), .val (.int (3 : Int32)), .val (.ref o2), .val (.ref o3), .val (.int v3), .val (.int len), .val (.int lo), .val (.int hi), .unset, .unset] [])) (fun _ kgo => XS.icmpYes X6.here hx rfl (pc0 := 377) (pc' := 430) rfl (hb hby d1_377) rfl (flt (by decide)).2.1 (by decide) (by decide) kgo) ?_
            refine own_go (g' := (mkF m 431 #[.val (.ref o0), .val (.int (3 : Int32)), .val (.ref o2), .val (.ref o3), .val (.int v3), .val (.int len), .val (.int lo), .val (.int hi), .unset, .unset] [(.int (3 : Int32))])) (fun _ kgo => XS.iloadN X6.here hx rfl (hb hby d1_430) rfl kgo) ?_
            refine own_go (g' := (mkF m 433 #[.val (.ref o0), .val (.int (3 : Int32)), .val (.ref o2), .val (.ref o3), .val (.int v3), .val (.int len), .val (.int lo), .val (.int hi), .unset, .unset] [(.int len), (.int (3 : Int32))])) (fun _ kgo => XS.iload X6.here hx rfl (hb hby d1_431) rfl kgo) ?_
            refine own_go (g' := (mkF m 434 #[.val (.ref o0), .val (.int (3 : Int32)), .val (.ref o2), .val (.ref o3), .val (.int v3), .val (.int len), .val (.int lo), .val (.int hi), .unset, .unset] [(.int ((3 : Int32) + len))])) (fun _ kgo => XS.iadd X6.here hx rfl (hb hby d1_433) rfl kgo) ?_
            refine own_retI X6 hx Bd.returns Bd.notSynchronized (hb hby d1_434) (by decide) (by decide) ?_
            show QQ _ T6.heap _
            rw [e6]
            have hrel : ((¬ ((3 : Int32) + len) < 4 ∧ own_chk [(v3, true, (decide (len = (1 : Int32))))] 0 128 191 = true)) := by
              rcases hlen with rfl | rfl | rfl | rfl
              · first | exact absurd hc7 (by decide) | exact absurd hc19 (by decide) | exact absurd hc25 (by decide) | (exact (⟨by decide, by rw [own_f1 hcl (hl1 rfl).1 (hl1 rfl).2 (by decide)]; rfl⟩))
              · first | exact absurd hc7 (by decide) | exact absurd hc19 (by decide) | exact absurd hc25 (by decide) | (exact (⟨by decide, by rw [own_fn hcl (nd := 1) (by decide) (by decide) (by decide)]; rfl⟩))
              · first | exact absurd hc7 (by decide) | exact absurd hc19 (by decide) | exact absurd hc25 (by decide) | (exact (⟨by decide, by rw [own_fn hcl (nd := 2) (by decide) (by decide) (by decide)]; rfl⟩))
              · first | exact absurd hc7 (by decide) | exact absurd hc19 (by decide) | exact absurd hc25 (by decide) | (exact (⟨by decide, by rw [own_fn hcl (nd := 3) (by decide) (by decide) (by decide)]; rfl⟩))
            have fx28 : Arv Z h6 o0 kv .int (4 : Int32) [(.int v0), (.int v1), (.int v2), (.int v3)] (.int (0 : Int32)) := (Arv.other (Arv.other P0 W3 hn02) W6 hn03)
            have fx29 : Arv Z h6 o2 ko .boolean (4 : Int32) [(.int (own_b a0_)), (.int (own_b a1_)), (.int (own_b a2_)), (.int (own_b true))] (.int (0 : Int32)) := (Arv.other V3 W6 hn23)
            rw [← hQQ]
            exact ⟨((3 : Int32) + len), true, (decide (len = (1 : Int32))), rfl, N6, K6, hrel, fx28, fx29, V6⟩
    by_cases hc30 : len = (1 : Int32)
    ·
      refine own_go (g' := (mkF m 217 #[.val (.ref o0), .val (.int (3 : Int32)), .val (.ref o2), .val (.ref o3), .val (.int v3), .val (.int len), .val (.int lo), .val (.int hi), .unset, .unset] [(.int (3 : Int32)), (.ref o3)])) (fun _ kgo => XS.icmpNo X3.here hx rfl (hb hby d1_214) rfl (teq hc30).2 kgo) ?_
      refine own_go (g' := (mkF m 218 #[.val (.ref o0), .val (.int (3 : Int32)), .val (.ref o2), .val (.ref o3), .val (.int v3), .val (.int len), .val (.int lo), .val (.int hi), .unset, .unset] [(.int (1 : Int32)), (.int (3 : Int32)), (.ref o3)])) (fun _ kgo => XS.iconst X3.here hx rfl (hb hby d1_217) kgo) ?_
      refine own_go (g' := (mkF m 222 #[.val (.ref o0), .val (.int (3 : Int32)), .val (.ref o2), .val (.ref o3), .val (.int v3), .val (.int len), .val (.int lo), .val (.int hi), .unset, .unset] [(.int (1 : Int32)), (.int (3 : Int32)), (.ref o3)])) (fun _ kgo => XS.goto X3.here hx rfl (pc0 := 218) (pc' := 222) rfl (hb hby d1_218) (by decide) (by decide) kgo) ?_
      have hE4 : own_b (decide (len = (1 : Int32))) = (1 : Int32) := by simp only [decide_eq_true hc30]; first | done | rfl
      exact own_cast (by rw [hE4]) J4
    ·
      refine own_go (g' := (mkF m 221 #[.val (.ref o0), .val (.int (3 : Int32)), .val (.ref o2), .val (.ref o3), .val (.int v3), .val (.int len), .val (.int lo), .val (.int hi), .unset, .unset] [(.int (3 : Int32)), (.ref o3)])) (fun _ kgo => XS.icmpYes X3.here hx rfl (pc0 := 214) (pc' := 221) rfl (hb hby d1_214) rfl (feq hc30).2 (by decide) (by decide) kgo) ?_
      refine own_go (g' := (mkF m 222 #[.val (.ref o0), .val (.int (3 : Int32)), .val (.ref o2), .val (.ref o3), .val (.int v3), .val (.int len), .val (.int lo), .val (.int hi), .unset, .unset] [(.int (0 : Int32)), (.int (3 : Int32)), (.ref o3)])) (fun _ kgo => XS.iconst X3.here hx rfl (hb hby d1_221) kgo) ?_
      have hE4 : own_b (decide (len = (1 : Int32))) = (0 : Int32) := by simp only [decide_eq_false hc30]; first | done | rfl
      exact own_cast (by rw [hE4]) J4
  by_cases hc31 : (127 : Int32) < v3
  ·
    refine own_go (g' := (mkF m 35 #[.val (.ref o0), .val (.int (3 : Int32)), .val (.ref o2), .val (.ref o3), .val (.int v3), .unset, .val (.int (128 : Int32)), .val (.int (191 : Int32)), .unset, .unset] [])) (fun _ kgo => XS.icmpYes X0.here hx rfl (pc0 := 26) (pc' := 35) rfl (hb hby d1_26) rfl (tlt hc31).2.2.1 (by decide) (by decide) kgo) ?_
    refine own_go (g' := (mkF m 37 #[.val (.ref o0), .val (.int (3 : Int32)), .val (.ref o2), .val (.ref o3), .val (.int v3), .unset, .val (.int (128 : Int32)), .val (.int (191 : Int32)), .unset, .unset] [(.int v3)])) (fun _ kgo => XS.iload X0.here hx rfl (hb hby d1_35) rfl kgo) ?_
    refine own_go (g' := (mkF m 40 #[.val (.ref o0), .val (.int (3 : Int32)), .val (.ref o2), .val (.ref o3), .val (.int v3), .unset, .val (.int (128 : Int32)), .val (.int (191 : Int32)), .unset, .unset] [(.int (194 : Int32)), (.int v3)])) (fun _ kgo => XS.sipush X0.here hx rfl (hb hby d1_37) kgo) ?_
    have J32 : (¬ (¬ v3 < (194 : Int32) ∧ ¬ (223 : Int32) < v3)) → own_Go p e below (own_Post s QQ 0 0) s₁ (mkF m 57 #[.val (.ref o0), .val (.int (3 : Int32)), .val (.ref o2), .val (.ref o3), .val (.int v3), .unset, .val (.int (128 : Int32)), .val (.int (191 : Int32)), .unset, .unset] []) := by
      intro h57
      refine own_go (g' := (mkF m 59 #[.val (.ref o0), .val (.int (3 : Int32)), .val (.ref o2), .val (.ref o3), .val (.int v3), .unset, .val (.int (128 : Int32)), .val (.int (191 : Int32)), .unset, .unset] [(.int v3)])) (fun _ kgo => XS.iload X0.here hx rfl (hb hby d1_57) rfl kgo) ?_
      refine own_go (g' := (mkF m 62 #[.val (.ref o0), .val (.int (3 : Int32)), .val (.ref o2), .val (.ref o3), .val (.int v3), .unset, .val (.int (128 : Int32)), .val (.int (191 : Int32)), .unset, .unset] [(.int (224 : Int32)), (.int v3)])) (fun _ kgo => XS.sipush X0.here hx rfl (hb hby d1_59) kgo) ?_
      by_cases hc33 : v3 = (224 : Int32)
      ·
        refine own_go (g' := (mkF m 65 #[.val (.ref o0), .val (.int (3 : Int32)), .val (.ref o2), .val (.ref o3), .val (.int v3), .unset, .val (.int (128 : Int32)), .val (.int (191 : Int32)), .unset, .unset] [])) (fun _ kgo => XS.icmpNo X0.here hx rfl (hb hby d1_62) rfl (teq hc33).2 kgo) ?_
        refine own_go (g' := (mkF m 66 #[.val (.ref o0), .val (.int (3 : Int32)), .val (.ref o2), .val (.ref o3), .val (.int v3), .unset, .val (.int (128 : Int32)), .val (.int (191 : Int32)), .unset, .unset] [(.int (3 : Int32))])) (fun _ kgo => XS.iconst X0.here hx rfl (hb hby d1_65) kgo) ?_
        refine own_go (g' := (mkF m 68 #[.val (.ref o0), .val (.int (3 : Int32)), .val (.ref o2), .val (.ref o3), .val (.int v3), .val (.int (3 : Int32)), .val (.int (128 : Int32)), .val (.int (191 : Int32)), .unset, .unset] [])) (fun _ kgo => XS.istore X0.here hx rfl (hb hby d1_66) rfl (l' := #[.val (.ref o0), .val (.int (3 : Int32)), .val (.ref o2), .val (.ref o3), .val (.int v3), .val (.int (3 : Int32)), .val (.int (128 : Int32)), .val (.int (191 : Int32)), .unset, .unset]) rfl kgo) ?_
        refine own_go (g' := (mkF m 71 #[.val (.ref o0), .val (.int (3 : Int32)), .val (.ref o2), .val (.ref o3), .val (.int v3), .val (.int (3 : Int32)), .val (.int (128 : Int32)), .val (.int (191 : Int32)), .unset, .unset] [(.int (160 : Int32))])) (fun _ kgo => XS.sipush X0.here hx rfl (hb hby d1_68) kgo) ?_
        refine own_go (g' := (mkF m 73 #[.val (.ref o0), .val (.int (3 : Int32)), .val (.ref o2), .val (.ref o3), .val (.int v3), .val (.int (3 : Int32)), .val (.int (160 : Int32)), .val (.int (191 : Int32)), .unset, .unset] [])) (fun _ kgo => XS.istore X0.here hx rfl (hb hby d1_71) rfl (l' := #[.val (.ref o0), .val (.int (3 : Int32)), .val (.ref o2), .val (.ref o3), .val (.int v3), .val (.int (3 : Int32)), .val (.int (160 : Int32)), .val (.int (191 : Int32)), .unset, .unset]) rfl kgo) ?_
        refine own_go (g' := (mkF m 205 #[.val (.ref o0), .val (.int (3 : Int32)), .val (.ref o2), .val (.ref o3), .val (.int v3), .val (.int (3 : Int32)), .val (.int (160 : Int32)), .val (.int (191 : Int32)), .unset, .unset] [])) (fun _ kgo => XS.goto X0.here hx rfl (pc0 := 73) (pc' := 205) rfl (hb hby d1_73) (by decide) (by decide) kgo) ?_
        exact J2 (3 : Int32) (160 : Int32) (191 : Int32) (by rw [hc33]; exact own_clE0) (by decide) (by decide)
      ·
        refine own_go (g' := (mkF m 76 #[.val (.ref o0), .val (.int (3 : Int32)), .val (.ref o2), .val (.ref o3), .val (.int v3), .unset, .val (.int (128 : Int32)), .val (.int (191 : Int32)), .unset, .unset] [])) (fun _ kgo => XS.icmpYes X0.here hx rfl (pc0 := 62) (pc' := 76) rfl (hb hby d1_62) rfl (feq hc33).2 (by decide) (by decide) kgo) ?_
        refine own_go (g' := (mkF m 78 #[.val (.ref o0), .val (.int (3 : Int32)), .val (.ref o2), .val (.ref o3), .val (.int v3), .unset, .val (.int (128 : Int32)), .val (.int (191 : Int32)), .unset, .unset] [(.int v3)])) (fun _ kgo => XS.iload X0.here hx rfl (hb hby d1_76) rfl kgo) ?_
        refine own_go (g' := (mkF m 81 #[.val (.ref o0), .val (.int (3 : Int32)), .val (.ref o2), .val (.ref o3), .val (.int v3), .unset, .val (.int (128 : Int32)), .val (.int (191 : Int32)), .unset, .unset] [(.int (225 : Int32)), (.int v3)])) (fun _ kgo => XS.sipush X0.here hx rfl (hb hby d1_78) kgo) ?_
        have J34 : (¬ (¬ v3 < (225 : Int32) ∧ ¬ (236 : Int32) < v3)) → own_Go p e below (own_Post s QQ 0 0) s₁ (mkF m 98 #[.val (.ref o0), .val (.int (3 : Int32)), .val (.ref o2), .val (.ref o3), .val (.int v3), .unset, .val (.int (128 : Int32)), .val (.int (191 : Int32)), .unset, .unset] []) := by
          intro h98
          refine own_go (g' := (mkF m 100 #[.val (.ref o0), .val (.int (3 : Int32)), .val (.ref o2), .val (.ref o3), .val (.int v3), .unset, .val (.int (128 : Int32)), .val (.int (191 : Int32)), .unset, .unset] [(.int v3)])) (fun _ kgo => XS.iload X0.here hx rfl (hb hby d1_98) rfl kgo) ?_
          refine own_go (g' := (mkF m 103 #[.val (.ref o0), .val (.int (3 : Int32)), .val (.ref o2), .val (.ref o3), .val (.int v3), .unset, .val (.int (128 : Int32)), .val (.int (191 : Int32)), .unset, .unset] [(.int (237 : Int32)), (.int v3)])) (fun _ kgo => XS.sipush X0.here hx rfl (hb hby d1_100) kgo) ?_
          by_cases hc35 : v3 = (237 : Int32)
          ·
            refine own_go (g' := (mkF m 106 #[.val (.ref o0), .val (.int (3 : Int32)), .val (.ref o2), .val (.ref o3), .val (.int v3), .unset, .val (.int (128 : Int32)), .val (.int (191 : Int32)), .unset, .unset] [])) (fun _ kgo => XS.icmpNo X0.here hx rfl (hb hby d1_103) rfl (teq hc35).2 kgo) ?_
            refine own_go (g' := (mkF m 107 #[.val (.ref o0), .val (.int (3 : Int32)), .val (.ref o2), .val (.ref o3), .val (.int v3), .unset, .val (.int (128 : Int32)), .val (.int (191 : Int32)), .unset, .unset] [(.int (3 : Int32))])) (fun _ kgo => XS.iconst X0.here hx rfl (hb hby d1_106) kgo) ?_
            refine own_go (g' := (mkF m 109 #[.val (.ref o0), .val (.int (3 : Int32)), .val (.ref o2), .val (.ref o3), .val (.int v3), .val (.int (3 : Int32)), .val (.int (128 : Int32)), .val (.int (191 : Int32)), .unset, .unset] [])) (fun _ kgo => XS.istore X0.here hx rfl (hb hby d1_107) rfl (l' := #[.val (.ref o0), .val (.int (3 : Int32)), .val (.ref o2), .val (.ref o3), .val (.int v3), .val (.int (3 : Int32)), .val (.int (128 : Int32)), .val (.int (191 : Int32)), .unset, .unset]) rfl kgo) ?_
            refine own_go (g' := (mkF m 112 #[.val (.ref o0), .val (.int (3 : Int32)), .val (.ref o2), .val (.ref o3), .val (.int v3), .val (.int (3 : Int32)), .val (.int (128 : Int32)), .val (.int (191 : Int32)), .unset, .unset] [(.int (159 : Int32))])) (fun _ kgo => XS.sipush X0.here hx rfl (hb hby d1_109) kgo) ?_
            refine own_go (g' := (mkF m 114 #[.val (.ref o0), .val (.int (3 : Int32)), .val (.ref o2), .val (.ref o3), .val (.int v3), .val (.int (3 : Int32)), .val (.int (128 : Int32)), .val (.int (159 : Int32)), .unset, .unset] [])) (fun _ kgo => XS.istore X0.here hx rfl (hb hby d1_112) rfl (l' := #[.val (.ref o0), .val (.int (3 : Int32)), .val (.ref o2), .val (.ref o3), .val (.int v3), .val (.int (3 : Int32)), .val (.int (128 : Int32)), .val (.int (159 : Int32)), .unset, .unset]) rfl kgo) ?_
            refine own_go (g' := (mkF m 205 #[.val (.ref o0), .val (.int (3 : Int32)), .val (.ref o2), .val (.ref o3), .val (.int v3), .val (.int (3 : Int32)), .val (.int (128 : Int32)), .val (.int (159 : Int32)), .unset, .unset] [])) (fun _ kgo => XS.goto X0.here hx rfl (pc0 := 114) (pc' := 205) rfl (hb hby d1_114) (by decide) (by decide) kgo) ?_
            exact J2 (3 : Int32) (128 : Int32) (159 : Int32) (by rw [hc35]; exact own_clED) (by decide) (by decide)
          ·
            refine own_go (g' := (mkF m 117 #[.val (.ref o0), .val (.int (3 : Int32)), .val (.ref o2), .val (.ref o3), .val (.int v3), .unset, .val (.int (128 : Int32)), .val (.int (191 : Int32)), .unset, .unset] [])) (fun _ kgo => XS.icmpYes X0.here hx rfl (pc0 := 103) (pc' := 117) rfl (hb hby d1_103) rfl (feq hc35).2 (by decide) (by decide) kgo) ?_
            refine own_go (g' := (mkF m 119 #[.val (.ref o0), .val (.int (3 : Int32)), .val (.ref o2), .val (.ref o3), .val (.int v3), .unset, .val (.int (128 : Int32)), .val (.int (191 : Int32)), .unset, .unset] [(.int v3)])) (fun _ kgo => XS.iload X0.here hx rfl (hb hby d1_117) rfl kgo) ?_
            refine own_go (g' := (mkF m 122 #[.val (.ref o0), .val (.int (3 : Int32)), .val (.ref o2), .val (.ref o3), .val (.int v3), .unset, .val (.int (128 : Int32)), .val (.int (191 : Int32)), .unset, .unset] [(.int (238 : Int32)), (.int v3)])) (fun _ kgo => XS.sipush X0.here hx rfl (hb hby d1_119) kgo) ?_
            by_cases hc36 : v3 = (238 : Int32)
            ·
              refine own_go (g' := (mkF m 133 #[.val (.ref o0), .val (.int (3 : Int32)), .val (.ref o2), .val (.ref o3), .val (.int v3), .unset, .val (.int (128 : Int32)), .val (.int (191 : Int32)), .unset, .unset] [])) (fun _ kgo => XS.icmpYes X0.here hx rfl (pc0 := 122) (pc' := 133) rfl (hb hby d1_122) rfl (teq hc36).1 (by decide) (by decide) kgo) ?_
              refine own_go (g' := (mkF m 134 #[.val (.ref o0), .val (.int (3 : Int32)), .val (.ref o2), .val (.ref o3), .val (.int v3), .unset, .val (.int (128 : Int32)), .val (.int (191 : Int32)), .unset, .unset] [(.int (3 : Int32))])) (fun _ kgo => XS.iconst X0.here hx rfl (hb hby d1_133) kgo) ?_
              refine own_go (g' := (mkF m 136 #[.val (.ref o0), .val (.int (3 : Int32)), .val (.ref o2), .val (.ref o3), .val (.int v3), .val (.int (3 : Int32)), .val (.int (128 : Int32)), .val (.int (191 : Int32)), .unset, .unset] [])) (fun _ kgo => XS.istore X0.here hx rfl (hb hby d1_134) rfl (l' := #[.val (.ref o0), .val (.int (3 : Int32)), .val (.ref o2), .val (.ref o3), .val (.int v3), .val (.int (3 : Int32)), .val (.int (128 : Int32)), .val (.int (191 : Int32)), .unset, .unset]) rfl kgo) ?_
              refine own_go (g' := (mkF m 205 #[.val (.ref o0), .val (.int (3 : Int32)), .val (.ref o2), .val (.ref o3), .val (.int v3), .val (.int (3 : Int32)), .val (.int (128 : Int32)), .val (.int (191 : Int32)), .unset, .unset] [])) (fun _ kgo => XS.goto X0.here hx rfl (pc0 := 136) (pc' := 205) rfl (hb hby d1_136) (by decide) (by decide) kgo) ?_
              exact J2 (3 : Int32) (128 : Int32) (191 : Int32) (own_cl3 hv (by simp only [← Int32.toInt_inj, Int32.lt_iff_toInt_lt, Int32.reduceToInt] at hc31 h57 hc33 h98 hc35 hc36; omega)) (by decide) (by decide)
            ·
              refine own_go (g' := (mkF m 125 #[.val (.ref o0), .val (.int (3 : Int32)), .val (.ref o2), .val (.ref o3), .val (.int v3), .unset, .val (.int (128 : Int32)), .val (.int (191 : Int32)), .unset, .unset] [])) (fun _ kgo => XS.icmpNo X0.here hx rfl (hb hby d1_122) rfl (feq hc36).1 kgo) ?_
              refine own_go (g' := (mkF m 127 #[.val (.ref o0), .val (.int (3 : Int32)), .val (.ref o2), .val (.ref o3), .val (.int v3), .unset, .val (.int (128 : Int32)), .val (.int (191 : Int32)), .unset, .unset] [(.int v3)])) (fun _ kgo => XS.iload X0.here hx rfl (hb hby d1_125) rfl kgo) ?_
              refine own_go (g' := (mkF m 130 #[.val (.ref o0), .val (.int (3 : Int32)), .val (.ref o2), .val (.ref o3), .val (.int v3), .unset, .val (.int (128 : Int32)), .val (.int (191 : Int32)), .unset, .unset] [(.int (239 : Int32)), (.int v3)])) (fun _ kgo => XS.sipush X0.here hx rfl (hb hby d1_127) kgo) ?_
              by_cases hc37 : v3 = (239 : Int32)
              ·
                refine own_go (g' := (mkF m 133 #[.val (.ref o0), .val (.int (3 : Int32)), .val (.ref o2), .val (.ref o3), .val (.int v3), .unset, .val (.int (128 : Int32)), .val (.int (191 : Int32)), .unset, .unset] [])) (fun _ kgo => XS.icmpNo X0.here hx rfl (hb hby d1_130) rfl (teq hc37).2 kgo) ?_
                refine own_go (g' := (mkF m 134 #[.val (.ref o0), .val (.int (3 : Int32)), .val (.ref o2), .val (.ref o3), .val (.int v3), .unset, .val (.int (128 : Int32)), .val (.int (191 : Int32)), .unset, .unset] [(.int (3 : Int32))])) (fun _ kgo => XS.iconst X0.here hx rfl (hb hby d1_133) kgo) ?_
                refine own_go (g' := (mkF m 136 #[.val (.ref o0), .val (.int (3 : Int32)), .val (.ref o2), .val (.ref o3), .val (.int v3), .val (.int (3 : Int32)), .val (.int (128 : Int32)), .val (.int (191 : Int32)), .unset, .unset] [])) (fun _ kgo => XS.istore X0.here hx rfl (hb hby d1_134) rfl (l' := #[.val (.ref o0), .val (.int (3 : Int32)), .val (.ref o2), .val (.ref o3), .val (.int v3), .val (.int (3 : Int32)), .val (.int (128 : Int32)), .val (.int (191 : Int32)), .unset, .unset]) rfl kgo) ?_
                refine own_go (g' := (mkF m 205 #[.val (.ref o0), .val (.int (3 : Int32)), .val (.ref o2), .val (.ref o3), .val (.int v3), .val (.int (3 : Int32)), .val (.int (128 : Int32)), .val (.int (191 : Int32)), .unset, .unset] [])) (fun _ kgo => XS.goto X0.here hx rfl (pc0 := 136) (pc' := 205) rfl (hb hby d1_136) (by decide) (by decide) kgo) ?_
                exact J2 (3 : Int32) (128 : Int32) (191 : Int32) (own_cl3 hv (by simp only [← Int32.toInt_inj, Int32.lt_iff_toInt_lt, Int32.reduceToInt] at hc31 h57 hc33 h98 hc35 hc36 hc37; omega)) (by decide) (by decide)
              ·
                refine own_go (g' := (mkF m 139 #[.val (.ref o0), .val (.int (3 : Int32)), .val (.ref o2), .val (.ref o3), .val (.int v3), .unset, .val (.int (128 : Int32)), .val (.int (191 : Int32)), .unset, .unset] [])) (fun _ kgo => XS.icmpYes X0.here hx rfl (pc0 := 130) (pc' := 139) rfl (hb hby d1_130) rfl (feq hc37).2 (by decide) (by decide) kgo) ?_
                refine own_go (g' := (mkF m 141 #[.val (.ref o0), .val (.int (3 : Int32)), .val (.ref o2), .val (.ref o3), .val (.int v3), .unset, .val (.int (128 : Int32)), .val (.int (191 : Int32)), .unset, .unset] [(.int v3)])) (fun _ kgo => XS.iload X0.here hx rfl (hb hby d1_139) rfl kgo) ?_
                refine own_go (g' := (mkF m 144 #[.val (.ref o0), .val (.int (3 : Int32)), .val (.ref o2), .val (.ref o3), .val (.int v3), .unset, .val (.int (128 : Int32)), .val (.int (191 : Int32)), .unset, .unset] [(.int (240 : Int32)), (.int v3)])) (fun _ kgo => XS.sipush X0.here hx rfl (hb hby d1_141) kgo) ?_
                by_cases hc38 : v3 = (240 : Int32)
                ·
                  refine own_go (g' := (mkF m 147 #[.val (.ref o0), .val (.int (3 : Int32)), .val (.ref o2), .val (.ref o3), .val (.int v3), .unset, .val (.int (128 : Int32)), .val (.int (191 : Int32)), .unset, .unset] [])) (fun _ kgo => XS.icmpNo X0.here hx rfl (hb hby d1_144) rfl (teq hc38).2 kgo) ?_
                  refine own_go (g' := (mkF m 148 #[.val (.ref o0), .val (.int (3 : Int32)), .val (.ref o2), .val (.ref o3), .val (.int v3), .unset, .val (.int (128 : Int32)), .val (.int (191 : Int32)), .unset, .unset] [(.int (4 : Int32))])) (fun _ kgo => XS.iconst X0.here hx rfl (hb hby d1_147) kgo) ?_
                  refine own_go (g' := (mkF m 150 #[.val (.ref o0), .val (.int (3 : Int32)), .val (.ref o2), .val (.ref o3), .val (.int v3), .val (.int (4 : Int32)), .val (.int (128 : Int32)), .val (.int (191 : Int32)), .unset, .unset] [])) (fun _ kgo => XS.istore X0.here hx rfl (hb hby d1_148) rfl (l' := #[.val (.ref o0), .val (.int (3 : Int32)), .val (.ref o2), .val (.ref o3), .val (.int v3), .val (.int (4 : Int32)), .val (.int (128 : Int32)), .val (.int (191 : Int32)), .unset, .unset]) rfl kgo) ?_
                  refine own_go (g' := (mkF m 153 #[.val (.ref o0), .val (.int (3 : Int32)), .val (.ref o2), .val (.ref o3), .val (.int v3), .val (.int (4 : Int32)), .val (.int (128 : Int32)), .val (.int (191 : Int32)), .unset, .unset] [(.int (144 : Int32))])) (fun _ kgo => XS.sipush X0.here hx rfl (hb hby d1_150) kgo) ?_
                  refine own_go (g' := (mkF m 155 #[.val (.ref o0), .val (.int (3 : Int32)), .val (.ref o2), .val (.ref o3), .val (.int v3), .val (.int (4 : Int32)), .val (.int (144 : Int32)), .val (.int (191 : Int32)), .unset, .unset] [])) (fun _ kgo => XS.istore X0.here hx rfl (hb hby d1_153) rfl (l' := #[.val (.ref o0), .val (.int (3 : Int32)), .val (.ref o2), .val (.ref o3), .val (.int v3), .val (.int (4 : Int32)), .val (.int (144 : Int32)), .val (.int (191 : Int32)), .unset, .unset]) rfl kgo) ?_
                  refine own_go (g' := (mkF m 205 #[.val (.ref o0), .val (.int (3 : Int32)), .val (.ref o2), .val (.ref o3), .val (.int v3), .val (.int (4 : Int32)), .val (.int (144 : Int32)), .val (.int (191 : Int32)), .unset, .unset] [])) (fun _ kgo => XS.goto X0.here hx rfl (pc0 := 155) (pc' := 205) rfl (hb hby d1_155) (by decide) (by decide) kgo) ?_
                  exact J2 (4 : Int32) (144 : Int32) (191 : Int32) (by rw [hc38]; exact own_clF0) (by decide) (by decide)
                ·
                  refine own_go (g' := (mkF m 158 #[.val (.ref o0), .val (.int (3 : Int32)), .val (.ref o2), .val (.ref o3), .val (.int v3), .unset, .val (.int (128 : Int32)), .val (.int (191 : Int32)), .unset, .unset] [])) (fun _ kgo => XS.icmpYes X0.here hx rfl (pc0 := 144) (pc' := 158) rfl (hb hby d1_144) rfl (feq hc38).2 (by decide) (by decide) kgo) ?_
                  refine own_go (g' := (mkF m 160 #[.val (.ref o0), .val (.int (3 : Int32)), .val (.ref o2), .val (.ref o3), .val (.int v3), .unset, .val (.int (128 : Int32)), .val (.int (191 : Int32)), .unset, .unset] [(.int v3)])) (fun _ kgo => XS.iload X0.here hx rfl (hb hby d1_158) rfl kgo) ?_
                  refine own_go (g' := (mkF m 163 #[.val (.ref o0), .val (.int (3 : Int32)), .val (.ref o2), .val (.ref o3), .val (.int v3), .unset, .val (.int (128 : Int32)), .val (.int (191 : Int32)), .unset, .unset] [(.int (241 : Int32)), (.int v3)])) (fun _ kgo => XS.sipush X0.here hx rfl (hb hby d1_160) kgo) ?_
                  have J39 : (¬ (¬ v3 < (241 : Int32) ∧ ¬ (243 : Int32) < v3)) → own_Go p e below (own_Post s QQ 0 0) s₁ (mkF m 180 #[.val (.ref o0), .val (.int (3 : Int32)), .val (.ref o2), .val (.ref o3), .val (.int v3), .unset, .val (.int (128 : Int32)), .val (.int (191 : Int32)), .unset, .unset] []) := by
                    intro h180
                    refine own_go (g' := (mkF m 182 #[.val (.ref o0), .val (.int (3 : Int32)), .val (.ref o2), .val (.ref o3), .val (.int v3), .unset, .val (.int (128 : Int32)), .val (.int (191 : Int32)), .unset, .unset] [(.int v3)])) (fun _ kgo => XS.iload X0.here hx rfl (hb hby d1_180) rfl kgo) ?_
                    refine own_go (g' := (mkF m 185 #[.val (.ref o0), .val (.int (3 : Int32)), .val (.ref o2), .val (.ref o3), .val (.int v3), .unset, .val (.int (128 : Int32)), .val (.int (191 : Int32)), .unset, .unset] [(.int (244 : Int32)), (.int v3)])) (fun _ kgo => XS.sipush X0.here hx rfl (hb hby d1_182) kgo) ?_
                    by_cases hc40 : v3 = (244 : Int32)
                    ·
                      refine own_go (g' := (mkF m 188 #[.val (.ref o0), .val (.int (3 : Int32)), .val (.ref o2), .val (.ref o3), .val (.int v3), .unset, .val (.int (128 : Int32)), .val (.int (191 : Int32)), .unset, .unset] [])) (fun _ kgo => XS.icmpNo X0.here hx rfl (hb hby d1_185) rfl (teq hc40).2 kgo) ?_
                      refine own_go (g' := (mkF m 189 #[.val (.ref o0), .val (.int (3 : Int32)), .val (.ref o2), .val (.ref o3), .val (.int v3), .unset, .val (.int (128 : Int32)), .val (.int (191 : Int32)), .unset, .unset] [(.int (4 : Int32))])) (fun _ kgo => XS.iconst X0.here hx rfl (hb hby d1_188) kgo) ?_
                      refine own_go (g' := (mkF m 191 #[.val (.ref o0), .val (.int (3 : Int32)), .val (.ref o2), .val (.ref o3), .val (.int v3), .val (.int (4 : Int32)), .val (.int (128 : Int32)), .val (.int (191 : Int32)), .unset, .unset] [])) (fun _ kgo => XS.istore X0.here hx rfl (hb hby d1_189) rfl (l' := #[.val (.ref o0), .val (.int (3 : Int32)), .val (.ref o2), .val (.ref o3), .val (.int v3), .val (.int (4 : Int32)), .val (.int (128 : Int32)), .val (.int (191 : Int32)), .unset, .unset]) rfl kgo) ?_
                      refine own_go (g' := (mkF m 194 #[.val (.ref o0), .val (.int (3 : Int32)), .val (.ref o2), .val (.ref o3), .val (.int v3), .val (.int (4 : Int32)), .val (.int (128 : Int32)), .val (.int (191 : Int32)), .unset, .unset] [(.int (143 : Int32))])) (fun _ kgo => XS.sipush X0.here hx rfl (hb hby d1_191) kgo) ?_
                      refine own_go (g' := (mkF m 196 #[.val (.ref o0), .val (.int (3 : Int32)), .val (.ref o2), .val (.ref o3), .val (.int v3), .val (.int (4 : Int32)), .val (.int (128 : Int32)), .val (.int (143 : Int32)), .unset, .unset] [])) (fun _ kgo => XS.istore X0.here hx rfl (hb hby d1_194) rfl (l' := #[.val (.ref o0), .val (.int (3 : Int32)), .val (.ref o2), .val (.ref o3), .val (.int v3), .val (.int (4 : Int32)), .val (.int (128 : Int32)), .val (.int (143 : Int32)), .unset, .unset]) rfl kgo) ?_
                      refine own_go (g' := (mkF m 205 #[.val (.ref o0), .val (.int (3 : Int32)), .val (.ref o2), .val (.ref o3), .val (.int v3), .val (.int (4 : Int32)), .val (.int (128 : Int32)), .val (.int (143 : Int32)), .unset, .unset] [])) (fun _ kgo => XS.goto X0.here hx rfl (pc0 := 196) (pc' := 205) rfl (hb hby d1_196) (by decide) (by decide) kgo) ?_
                      exact J2 (4 : Int32) (128 : Int32) (143 : Int32) (by rw [hc40]; exact own_clF4) (by decide) (by decide)
                    ·
                      refine own_go (g' := (mkF m 199 #[.val (.ref o0), .val (.int (3 : Int32)), .val (.ref o2), .val (.ref o3), .val (.int v3), .unset, .val (.int (128 : Int32)), .val (.int (191 : Int32)), .unset, .unset] [])) (fun _ kgo => XS.icmpYes X0.here hx rfl (pc0 := 185) (pc' := 199) rfl (hb hby d1_185) rfl (feq hc40).2 (by decide) (by decide) kgo) ?_
                      refine own_go (g' := (mkF m 200 #[.val (.ref o0), .val (.int (3 : Int32)), .val (.ref o2), .val (.ref o3), .val (.int v3), .unset, .val (.int (128 : Int32)), .val (.int (191 : Int32)), .unset, .unset] [(.ref o2)])) (fun _ kgo => XS.aloadN X0.here hx rfl (hb hby d1_199) rfl rfl kgo) ?_
                      refine own_go (g' := (mkF m 201 #[.val (.ref o0), .val (.int (3 : Int32)), .val (.ref o2), .val (.ref o3), .val (.int v3), .unset, .val (.int (128 : Int32)), .val (.int (191 : Int32)), .unset, .unset] [(.int (3 : Int32)), (.ref o2)])) (fun _ kgo => XS.iloadN X0.here hx rfl (hb hby d1_200) rfl kgo) ?_
                      refine own_go (g' := (mkF m 202 #[.val (.ref o0), .val (.int (3 : Int32)), .val (.ref o2), .val (.ref o3), .val (.int v3), .unset, .val (.int (128 : Int32)), .val (.int (191 : Int32)), .unset, .unset] [(.int (0 : Int32)), (.int (3 : Int32)), (.ref o2)])) (fun _ kgo => XS.iconst X0.here hx rfl (hb hby d1_201) kgo) ?_
                      obtain ⟨cl41, Ar41, qk41, sz41, nn41, Hs41, Gs41⟩ := id P1
                      have hin41 : ¬ ((3 : Int32) < 0 ∨ cl41.slots.size ≤ ((3 : Int32)).toNatClampNeg) := inb_of sz41 ⟨by decide, by decide⟩
                      obtain ⟨T41, h41, X41, e41, W41, st41⟩ := stZ X0 hx hZ e0 Ar41 (j := (3 : Int32)) hin41 (g := (mkF m 202 #[.val (.ref o0), .val (.int (3 : Int32)), .val (.ref o2), .val (.ref o3), .val (.int v3), .unset, .val (.int (128 : Int32)), .val (.int (191 : Int32)), .unset, .unset] [(.int (0 : Int32)), (.int (3 : Int32)), (.ref o2)])) rfl rfl (hb hby d1_202)
                      have Vn41 : Arv Z h41 o2 ko .boolean (4 : Int32) [(.int (own_b a0_)), (.int (own_b a1_)), (.int (own_b a2_)), (.int (nar .boolean (own_b false)))] (.int (0 : Int32)) := Arv.set Ar41 qk41 sz41 nn41 Hs41 Gs41 (fits_nar_bool _) W41 3 rfl (Nat.le_of_ble_eq_true rfl)
                      have V41 : Arv Z h41 o2 ko .boolean (4 : Int32) [(.int (own_b a0_)), (.int (own_b a1_)), (.int (own_b a2_)), (.int (own_b false))] (.int (0 : Int32)) := by rw [own_b_nar] at Vn41; exact Vn41
                      have N41 := Fr.snoc X41 N0 g_o2
                      have Z41 : n0 ≤ h41.size := by rw [W41.size]; exact Z0
                      have K41 : Keep h0 h41 [o2, o3] := K0.wr W41 (Or.inl (List.mem_of_getElem? (i := 0) rfl))
                      refine own_go (g' := (mkF m 203 #[.val (.ref o0), .val (.int (3 : Int32)), .val (.ref o2), .val (.ref o3), .val (.int v3), .unset, .val (.int (128 : Int32)), .val (.int (191 : Int32)), .unset, .unset] [])) (st41) ?_
                      refine own_go (g' := (mkF m 204 #[.val (.ref o0), .val (.int (3 : Int32)), .val (.ref o2), .val (.ref o3), .val (.int v3), .unset, .val (.int (128 : Int32)), .val (.int (191 : Int32)), .unset, .unset] [(.int (4 : Int32))])) (fun _ kgo => XS.iconst X41.here hx rfl (hb hby d1_203) kgo) ?_
                      refine own_retI X41 hx Bd.returns Bd.notSynchronized (hb hby d1_204) (by decide) (by decide) ?_
                      show QQ _ T41.heap _
                      rw [e41]
                      have hok : own_ok 0 128 191 v3 = false := by rw [own_inv hv]; exact decide_eq_false (by simp only [← Int32.toInt_inj, Int32.lt_iff_toInt_lt, Int32.reduceToInt] at hc31 h57 hc33 h98 hc35 hc36 hc37 hc38 h180 hc40; omega)
                      have hrel : ((¬ (4 : Int32) < 4 ∧ own_chk [(v3, false, c3_)] 0 128 191 = true)) := by
                        exact (⟨by decide, own_no hok⟩)
                      have fx42 : Arv Z h41 o0 kv .int (4 : Int32) [(.int v0), (.int v1), (.int v2), (.int v3)] (.int (0 : Int32)) := (Arv.other P0 W41 hn02)
                      have fx43 : Arv Z h41 o3 kc .boolean (4 : Int32) [(.int (own_b c0_)), (.int (own_b c1_)), (.int (own_b c2_)), (.int (own_b c3_))] (.int (0 : Int32)) := (Arv.other P2 W41 (Ne.symm hn23))
                      rw [← hQQ]
                      exact ⟨(4 : Int32), false, c3_, rfl, N41, K41, hrel, fx42, V41, fx43⟩
                  by_cases hc44 : v3 < (241 : Int32)
                  ·
                    refine own_go (g' := (mkF m 180 #[.val (.ref o0), .val (.int (3 : Int32)), .val (.ref o2), .val (.ref o3), .val (.int v3), .unset, .val (.int (128 : Int32)), .val (.int (191 : Int32)), .unset, .unset] [])) (fun _ kgo => XS.icmpYes X0.here hx rfl (pc0 := 163) (pc' := 180) rfl (hb hby d1_163) rfl (tlt hc44).1 (by decide) (by decide) kgo) ?_
                    exact J39 (fun q => q.1 hc44)
                  ·
                    refine own_go (g' := (mkF m 166 #[.val (.ref o0), .val (.int (3 : Int32)), .val (.ref o2), .val (.ref o3), .val (.int v3), .unset, .val (.int (128 : Int32)), .val (.int (191 : Int32)), .unset, .unset] [])) (fun _ kgo => XS.icmpNo X0.here hx rfl (hb hby d1_163) rfl (flt hc44).1 kgo) ?_
                    refine own_go (g' := (mkF m 168 #[.val (.ref o0), .val (.int (3 : Int32)), .val (.ref o2), .val (.ref o3), .val (.int v3), .unset, .val (.int (128 : Int32)), .val (.int (191 : Int32)), .unset, .unset] [(.int v3)])) (fun _ kgo => XS.iload X0.here hx rfl (hb hby d1_166) rfl kgo) ?_
                    refine own_go (g' := (mkF m 171 #[.val (.ref o0), .val (.int (3 : Int32)), .val (.ref o2), .val (.ref o3), .val (.int v3), .unset, .val (.int (128 : Int32)), .val (.int (191 : Int32)), .unset, .unset] [(.int (243 : Int32)), (.int v3)])) (fun _ kgo => XS.sipush X0.here hx rfl (hb hby d1_168) kgo) ?_
                    by_cases hc45 : (243 : Int32) < v3
                    ·
                      refine own_go (g' := (mkF m 180 #[.val (.ref o0), .val (.int (3 : Int32)), .val (.ref o2), .val (.ref o3), .val (.int v3), .unset, .val (.int (128 : Int32)), .val (.int (191 : Int32)), .unset, .unset] [])) (fun _ kgo => XS.icmpYes X0.here hx rfl (pc0 := 171) (pc' := 180) rfl (hb hby d1_171) rfl (tlt hc45).2.2.1 (by decide) (by decide) kgo) ?_
                      exact J39 (fun q => q.2 hc45)
                    ·
                      refine own_go (g' := (mkF m 174 #[.val (.ref o0), .val (.int (3 : Int32)), .val (.ref o2), .val (.ref o3), .val (.int v3), .unset, .val (.int (128 : Int32)), .val (.int (191 : Int32)), .unset, .unset] [])) (fun _ kgo => XS.icmpNo X0.here hx rfl (hb hby d1_171) rfl (flt hc45).2.2.1 kgo) ?_
                      refine own_go (g' := (mkF m 175 #[.val (.ref o0), .val (.int (3 : Int32)), .val (.ref o2), .val (.ref o3), .val (.int v3), .unset, .val (.int (128 : Int32)), .val (.int (191 : Int32)), .unset, .unset] [(.int (4 : Int32))])) (fun _ kgo => XS.iconst X0.here hx rfl (hb hby d1_174) kgo) ?_
                      refine own_go (g' := (mkF m 177 #[.val (.ref o0), .val (.int (3 : Int32)), .val (.ref o2), .val (.ref o3), .val (.int v3), .val (.int (4 : Int32)), .val (.int (128 : Int32)), .val (.int (191 : Int32)), .unset, .unset] [])) (fun _ kgo => XS.istore X0.here hx rfl (hb hby d1_175) rfl (l' := #[.val (.ref o0), .val (.int (3 : Int32)), .val (.ref o2), .val (.ref o3), .val (.int v3), .val (.int (4 : Int32)), .val (.int (128 : Int32)), .val (.int (191 : Int32)), .unset, .unset]) rfl kgo) ?_
                      refine own_go (g' := (mkF m 205 #[.val (.ref o0), .val (.int (3 : Int32)), .val (.ref o2), .val (.ref o3), .val (.int v3), .val (.int (4 : Int32)), .val (.int (128 : Int32)), .val (.int (191 : Int32)), .unset, .unset] [])) (fun _ kgo => XS.goto X0.here hx rfl (pc0 := 177) (pc' := 205) rfl (hb hby d1_177) (by decide) (by decide) kgo) ?_
                      exact J2 (4 : Int32) (128 : Int32) (191 : Int32) (own_cl4 hv (by simp only [← Int32.toInt_inj, Int32.lt_iff_toInt_lt, Int32.reduceToInt] at hc31 h57 hc33 h98 hc35 hc36 hc37 hc38 hc44 hc45; omega)) (by decide) (by decide)
        by_cases hc46 : v3 < (225 : Int32)
        ·
          refine own_go (g' := (mkF m 98 #[.val (.ref o0), .val (.int (3 : Int32)), .val (.ref o2), .val (.ref o3), .val (.int v3), .unset, .val (.int (128 : Int32)), .val (.int (191 : Int32)), .unset, .unset] [])) (fun _ kgo => XS.icmpYes X0.here hx rfl (pc0 := 81) (pc' := 98) rfl (hb hby d1_81) rfl (tlt hc46).1 (by decide) (by decide) kgo) ?_
          exact J34 (fun q => q.1 hc46)
        ·
          refine own_go (g' := (mkF m 84 #[.val (.ref o0), .val (.int (3 : Int32)), .val (.ref o2), .val (.ref o3), .val (.int v3), .unset, .val (.int (128 : Int32)), .val (.int (191 : Int32)), .unset, .unset] [])) (fun _ kgo => XS.icmpNo X0.here hx rfl (hb hby d1_81) rfl (flt hc46).1 kgo) ?_
          refine own_go (g' := (mkF m 86 #[.val (.ref o0), .val (.int (3 : Int32)), .val (.ref o2), .val (.ref o3), .val (.int v3), .unset, .val (.int (128 : Int32)), .val (.int (191 : Int32)), .unset, .unset] [(.int v3)])) (fun _ kgo => XS.iload X0.here hx rfl (hb hby d1_84) rfl kgo) ?_
          refine own_go (g' := (mkF m 89 #[.val (.ref o0), .val (.int (3 : Int32)), .val (.ref o2), .val (.ref o3), .val (.int v3), .unset, .val (.int (128 : Int32)), .val (.int (191 : Int32)), .unset, .unset] [(.int (236 : Int32)), (.int v3)])) (fun _ kgo => XS.sipush X0.here hx rfl (hb hby d1_86) kgo) ?_
          by_cases hc47 : (236 : Int32) < v3
          ·
            refine own_go (g' := (mkF m 98 #[.val (.ref o0), .val (.int (3 : Int32)), .val (.ref o2), .val (.ref o3), .val (.int v3), .unset, .val (.int (128 : Int32)), .val (.int (191 : Int32)), .unset, .unset] [])) (fun _ kgo => XS.icmpYes X0.here hx rfl (pc0 := 89) (pc' := 98) rfl (hb hby d1_89) rfl (tlt hc47).2.2.1 (by decide) (by decide) kgo) ?_
            exact J34 (fun q => q.2 hc47)
          ·
            refine own_go (g' := (mkF m 92 #[.val (.ref o0), .val (.int (3 : Int32)), .val (.ref o2), .val (.ref o3), .val (.int v3), .unset, .val (.int (128 : Int32)), .val (.int (191 : Int32)), .unset, .unset] [])) (fun _ kgo => XS.icmpNo X0.here hx rfl (hb hby d1_89) rfl (flt hc47).2.2.1 kgo) ?_
            refine own_go (g' := (mkF m 93 #[.val (.ref o0), .val (.int (3 : Int32)), .val (.ref o2), .val (.ref o3), .val (.int v3), .unset, .val (.int (128 : Int32)), .val (.int (191 : Int32)), .unset, .unset] [(.int (3 : Int32))])) (fun _ kgo => XS.iconst X0.here hx rfl (hb hby d1_92) kgo) ?_
            refine own_go (g' := (mkF m 95 #[.val (.ref o0), .val (.int (3 : Int32)), .val (.ref o2), .val (.ref o3), .val (.int v3), .val (.int (3 : Int32)), .val (.int (128 : Int32)), .val (.int (191 : Int32)), .unset, .unset] [])) (fun _ kgo => XS.istore X0.here hx rfl (hb hby d1_93) rfl (l' := #[.val (.ref o0), .val (.int (3 : Int32)), .val (.ref o2), .val (.ref o3), .val (.int v3), .val (.int (3 : Int32)), .val (.int (128 : Int32)), .val (.int (191 : Int32)), .unset, .unset]) rfl kgo) ?_
            refine own_go (g' := (mkF m 205 #[.val (.ref o0), .val (.int (3 : Int32)), .val (.ref o2), .val (.ref o3), .val (.int v3), .val (.int (3 : Int32)), .val (.int (128 : Int32)), .val (.int (191 : Int32)), .unset, .unset] [])) (fun _ kgo => XS.goto X0.here hx rfl (pc0 := 95) (pc' := 205) rfl (hb hby d1_95) (by decide) (by decide) kgo) ?_
            exact J2 (3 : Int32) (128 : Int32) (191 : Int32) (own_cl3 hv (by simp only [← Int32.toInt_inj, Int32.lt_iff_toInt_lt, Int32.reduceToInt] at hc31 h57 hc33 hc46 hc47; omega)) (by decide) (by decide)
    by_cases hc48 : v3 < (194 : Int32)
    ·
      refine own_go (g' := (mkF m 57 #[.val (.ref o0), .val (.int (3 : Int32)), .val (.ref o2), .val (.ref o3), .val (.int v3), .unset, .val (.int (128 : Int32)), .val (.int (191 : Int32)), .unset, .unset] [])) (fun _ kgo => XS.icmpYes X0.here hx rfl (pc0 := 40) (pc' := 57) rfl (hb hby d1_40) rfl (tlt hc48).1 (by decide) (by decide) kgo) ?_
      exact J32 (fun q => q.1 hc48)
    ·
      refine own_go (g' := (mkF m 43 #[.val (.ref o0), .val (.int (3 : Int32)), .val (.ref o2), .val (.ref o3), .val (.int v3), .unset, .val (.int (128 : Int32)), .val (.int (191 : Int32)), .unset, .unset] [])) (fun _ kgo => XS.icmpNo X0.here hx rfl (hb hby d1_40) rfl (flt hc48).1 kgo) ?_
      refine own_go (g' := (mkF m 45 #[.val (.ref o0), .val (.int (3 : Int32)), .val (.ref o2), .val (.ref o3), .val (.int v3), .unset, .val (.int (128 : Int32)), .val (.int (191 : Int32)), .unset, .unset] [(.int v3)])) (fun _ kgo => XS.iload X0.here hx rfl (hb hby d1_43) rfl kgo) ?_
      refine own_go (g' := (mkF m 48 #[.val (.ref o0), .val (.int (3 : Int32)), .val (.ref o2), .val (.ref o3), .val (.int v3), .unset, .val (.int (128 : Int32)), .val (.int (191 : Int32)), .unset, .unset] [(.int (223 : Int32)), (.int v3)])) (fun _ kgo => XS.sipush X0.here hx rfl (hb hby d1_45) kgo) ?_
      by_cases hc49 : (223 : Int32) < v3
      ·
        refine own_go (g' := (mkF m 57 #[.val (.ref o0), .val (.int (3 : Int32)), .val (.ref o2), .val (.ref o3), .val (.int v3), .unset, .val (.int (128 : Int32)), .val (.int (191 : Int32)), .unset, .unset] [])) (fun _ kgo => XS.icmpYes X0.here hx rfl (pc0 := 48) (pc' := 57) rfl (hb hby d1_48) rfl (tlt hc49).2.2.1 (by decide) (by decide) kgo) ?_
        exact J32 (fun q => q.2 hc49)
      ·
        refine own_go (g' := (mkF m 51 #[.val (.ref o0), .val (.int (3 : Int32)), .val (.ref o2), .val (.ref o3), .val (.int v3), .unset, .val (.int (128 : Int32)), .val (.int (191 : Int32)), .unset, .unset] [])) (fun _ kgo => XS.icmpNo X0.here hx rfl (hb hby d1_48) rfl (flt hc49).2.2.1 kgo) ?_
        refine own_go (g' := (mkF m 52 #[.val (.ref o0), .val (.int (3 : Int32)), .val (.ref o2), .val (.ref o3), .val (.int v3), .unset, .val (.int (128 : Int32)), .val (.int (191 : Int32)), .unset, .unset] [(.int (2 : Int32))])) (fun _ kgo => XS.iconst X0.here hx rfl (hb hby d1_51) kgo) ?_
        refine own_go (g' := (mkF m 54 #[.val (.ref o0), .val (.int (3 : Int32)), .val (.ref o2), .val (.ref o3), .val (.int v3), .val (.int (2 : Int32)), .val (.int (128 : Int32)), .val (.int (191 : Int32)), .unset, .unset] [])) (fun _ kgo => XS.istore X0.here hx rfl (hb hby d1_52) rfl (l' := #[.val (.ref o0), .val (.int (3 : Int32)), .val (.ref o2), .val (.ref o3), .val (.int v3), .val (.int (2 : Int32)), .val (.int (128 : Int32)), .val (.int (191 : Int32)), .unset, .unset]) rfl kgo) ?_
        refine own_go (g' := (mkF m 205 #[.val (.ref o0), .val (.int (3 : Int32)), .val (.ref o2), .val (.ref o3), .val (.int v3), .val (.int (2 : Int32)), .val (.int (128 : Int32)), .val (.int (191 : Int32)), .unset, .unset] [])) (fun _ kgo => XS.goto X0.here hx rfl (pc0 := 54) (pc' := 205) rfl (hb hby d1_54) (by decide) (by decide) kgo) ?_
        exact J2 (2 : Int32) (128 : Int32) (191 : Int32) (own_cl2 hv (by simp only [← Int32.toInt_inj, Int32.lt_iff_toInt_lt, Int32.reduceToInt] at hc31 hc48 hc49; omega)) (by decide) (by decide)
  ·
    refine own_go (g' := (mkF m 29 #[.val (.ref o0), .val (.int (3 : Int32)), .val (.ref o2), .val (.ref o3), .val (.int v3), .unset, .val (.int (128 : Int32)), .val (.int (191 : Int32)), .unset, .unset] [])) (fun _ kgo => XS.icmpNo X0.here hx rfl (hb hby d1_26) rfl (flt hc31).2.2.1 kgo) ?_
    refine own_go (g' := (mkF m 30 #[.val (.ref o0), .val (.int (3 : Int32)), .val (.ref o2), .val (.ref o3), .val (.int v3), .unset, .val (.int (128 : Int32)), .val (.int (191 : Int32)), .unset, .unset] [(.int (1 : Int32))])) (fun _ kgo => XS.iconst X0.here hx rfl (hb hby d1_29) kgo) ?_
    refine own_go (g' := (mkF m 32 #[.val (.ref o0), .val (.int (3 : Int32)), .val (.ref o2), .val (.ref o3), .val (.int v3), .val (.int (1 : Int32)), .val (.int (128 : Int32)), .val (.int (191 : Int32)), .unset, .unset] [])) (fun _ kgo => XS.istore X0.here hx rfl (hb hby d1_30) rfl (l' := #[.val (.ref o0), .val (.int (3 : Int32)), .val (.ref o2), .val (.ref o3), .val (.int v3), .val (.int (1 : Int32)), .val (.int (128 : Int32)), .val (.int (191 : Int32)), .unset, .unset]) rfl kgo) ?_
    refine own_go (g' := (mkF m 205 #[.val (.ref o0), .val (.int (3 : Int32)), .val (.ref o2), .val (.ref o3), .val (.int v3), .val (.int (1 : Int32)), .val (.int (128 : Int32)), .val (.int (191 : Int32)), .unset, .unset] [])) (fun _ kgo => XS.goto X0.here hx rfl (pc0 := 32) (pc' := 205) rfl (hb hby d1_32) (by decide) (by decide) kgo) ?_
    exact J2 (1 : Int32) (128 : Int32) (191 : Int32) (own_cl1 hv (by simp only [← Int32.toInt_inj, Int32.lt_iff_toInt_lt, Int32.reduceToInt] at hc31; omega)) (by decide) (by decide)
theorem pn_rm0 : plainName "com/example/firm_tread/firmtread/transport/Utf8AcceptPinLaw" = true := by first | (simp [plainName, overriddenIn]; done) | decide +kernel
theorem pd0_0 : parseMethodDescriptor "()V" = some ⟨[], none⟩ := by decide +kernel
theorem pd0_1 : parseMethodDescriptor "(B)Z" = some ⟨[.byte], some .boolean⟩ := by decide +kernel
theorem pd0_2 : parseMethodDescriptor "()Z" = some ⟨[], some .boolean⟩ := by decide +kernel
theorem pd0_3 : parseMethodDescriptor "([II[Z[Z)I" = some ⟨[(.array .int), .int, (.array .boolean), (.array .boolean)], some .int⟩ := by decide +kernel
theorem ef_rm0 (m : MethodId) (p0 : Int32) (p1 : Int32) (p2 : Int32) (p3 : Int32) : entryFrame m #[(.int p0), (.int p1), (.int p2), (.int p3)] maxLocals = mkF m 0 #[.val (.int p0), .val (.int p1), .val (.int p2), .val (.int p3), .unset, .unset, .unset, .unset, .unset, .unset, .unset, .unset, .unset] [] := by first | (simp [entryFrame, mkF, argsToLocals, Value.category, maxLocals]; done) | rfl
set_option maxRecDepth 65536 in
set_option maxHeartbeats 40000000 in
theorem rm0 (l : Launch) (Z : State) (a0 : Array Value) (hw : ∀ d ∈ tables_1, d.before a0 Z = true) (p0 : Int32) (p1 : Int32) (p2 : Int32) (p3 : Int32)  (h0 : Heap) (n0 : Nat) (Z0 : n0 ≤ h0.size) :
    own_Met l Z x code maxLocals ret tables_1 room_1 #[(.int p0), (.int p1), (.int p2), (.int p3)] h0 16 128 (fun v h L => v = some (.int 1) ∧ Fr n0 L) := by
  refine own_met (plainFor_of_name pn_rm0) ?_
  intro p e s m below meth c s₁ Bd hml0 hZ X0 e0
  have hx := Bd.exec
  have hby := Bd.bytes
  have hml : c.maxLocals = 13 := hml0
  have hown : s.vm.findClass "com/example/firm_tread/firmtread/transport/Utf8AcceptPinLaw" = some m.cls := findClass_of_methodNamed Bd.named
  have hnm := (name_of_methodNamed Bd.named Bd.method).1
  refine own_cast (ef_rm0 m p0 p1 p2 p3) ?_
  generalize hQQ : (fun (v : Option Value) (h : Heap) (L : List Loc) => v = some (.int 1) ∧ Fr n0 L) = QQ
  have N0 := Fr.nil n0
  refine own_go (g' := (mkF m 1 #[.val (.int p0), .val (.int p1), .val (.int p2), .val (.int p3), .unset, .unset, .unset, .unset, .unset, .unset, .unset, .unset, .unset] [(.int (4 : Int32))])) (fun _ kgo => XS.iconst X0.here hx rfl (hb hby at_0) kgo) ?_
  obtain ⟨T1, h1, k1, X1, e1, E1, A1, st1⟩ := newP X0 hx hZ (hw _ (List.mem_of_getElem? (i := 0) rfl)) e0 (g := (mkF m 1 #[.val (.int p0), .val (.int p1), .val (.int p2), .val (.int p3), .unset, .unset, .unset, .unset, .unset, .unset, .unset, .unset, .unset] [(.int (4 : Int32))])) rfl (hb hby at_1) rfl (by decide) (cap := 4) (by decide) (by decide) (by decide) (by decide)
  obtain ⟨b1, ad1⟩ : ∃ z, z = h0.size := ⟨_, rfl⟩
  rw [← ad1] at A1 st1
  have ge_b1 : n0 ≤ b1 := by rw [ad1]; exact Z0
  have Z1 : n0 ≤ h1.size := Nat.le_trans Z0 E1.1
  have V1 : Arv Z h1 b1 k1 .int (4 : Int32) [(.int (0 : Int32)), (.int (0 : Int32)), (.int (0 : Int32)), (.int (0 : Int32))] (.int (0 : Int32)) := (Arv.new A1 (by decide)).pad (pad_rep [] (.int (0 : Int32)) 4)
  refine own_go (g' := (mkF m 3 #[.val (.int p0), .val (.int p1), .val (.int p2), .val (.int p3), .unset, .unset, .unset, .unset, .unset, .unset, .unset, .unset, .unset] [(.ref b1)])) (st1) ?_
  refine own_go (g' := (mkF m 5 #[.val (.int p0), .val (.int p1), .val (.int p2), .val (.int p3), .val (.ref b1), .unset, .unset, .unset, .unset, .unset, .unset, .unset, .unset] [])) (fun _ kgo => XS.astore X1.here hx rfl (hb hby at_3) rfl rfl (l' := #[.val (.int p0), .val (.int p1), .val (.int p2), .val (.int p3), .val (.ref b1), .unset, .unset, .unset, .unset, .unset, .unset, .unset, .unset]) rfl kgo) ?_
  refine own_go (g' := (mkF m 7 #[.val (.int p0), .val (.int p1), .val (.int p2), .val (.int p3), .val (.ref b1), .unset, .unset, .unset, .unset, .unset, .unset, .unset, .unset] [(.ref b1)])) (fun _ kgo => XS.aload X1.here hx rfl (hb hby at_5) rfl rfl kgo) ?_
  refine own_go (g' := (mkF m 8 #[.val (.int p0), .val (.int p1), .val (.int p2), .val (.int p3), .val (.ref b1), .unset, .unset, .unset, .unset, .unset, .unset, .unset, .unset] [(.int (0 : Int32)), (.ref b1)])) (fun _ kgo => XS.iconst X1.here hx rfl (hb hby at_7) kgo) ?_
  refine own_go (g' := (mkF m 9 #[.val (.int p0), .val (.int p1), .val (.int p2), .val (.int p3), .val (.ref b1), .unset, .unset, .unset, .unset, .unset, .unset, .unset, .unset] [(.int p0), (.int (0 : Int32)), (.ref b1)])) (fun _ kgo => XS.iloadN X1.here hx rfl (hb hby at_8) rfl kgo) ?_
  refine own_go (g' := (mkF m 12 #[.val (.int p0), .val (.int p1), .val (.int p2), .val (.int p3), .val (.ref b1), .unset, .unset, .unset, .unset, .unset, .unset, .unset, .unset] [(.int (255 : Int32)), (.int p0), (.int (0 : Int32)), (.ref b1)])) (fun _ kgo => XS.sipush X1.here hx rfl (hb hby at_9) kgo) ?_
  refine own_go (g' := (mkF m 13 #[.val (.int p0), .val (.int p1), .val (.int p2), .val (.int p3), .val (.ref b1), .unset, .unset, .unset, .unset, .unset, .unset, .unset, .unset] [(.int (p0 &&& (255 : Int32))), (.int (0 : Int32)), (.ref b1)])) (fun _ kgo => XS.iand X1.here hx rfl (hb hby at_12) rfl kgo) ?_
  have hv0 := own_rg p0
  suffices JNhx0 : ∀ x0 : Int32, x0 = (p0 &&& (255 : Int32)) → own_Go p e below (own_Post s QQ 16 128) T1 (mkF m 13 #[.val (.int p0), .val (.int p1), .val (.int p2), .val (.int p3), .val (.ref b1), .unset, .unset, .unset, .unset, .unset, .unset, .unset, .unset] [(.int x0), (.int (0 : Int32)), (.ref b1)]) from JNhx0 _ (rfl)
  intro x0 hx0
  rw [← hx0] at hv0
  obtain ⟨cl2, Ar2, qk2, sz2, nn2, Hs2, Gs2⟩ := id V1
  have hin2 : ¬ ((0 : Int32) < 0 ∨ cl2.slots.size ≤ ((0 : Int32)).toNatClampNeg) := inb_of sz2 ⟨by decide, by decide⟩
  obtain ⟨T2, h2, X2, e2, W2, st2⟩ := stI X1 hx hZ e1 Ar2 (j := (0 : Int32)) hin2 (g := (mkF m 13 #[.val (.int p0), .val (.int p1), .val (.int p2), .val (.int p3), .val (.ref b1), .unset, .unset, .unset, .unset, .unset, .unset, .unset, .unset] [(.int x0), (.int (0 : Int32)), (.ref b1)])) rfl rfl (hb hby at_13)
  have V2 : Arv Z h2 b1 k1 .int (4 : Int32) [(.int x0), (.int (0 : Int32)), (.int (0 : Int32)), (.int (0 : Int32))] (.int (0 : Int32)) := Arv.set Ar2 qk2 sz2 nn2 Hs2 Gs2 rfl W2 0 rfl (Nat.le_of_ble_eq_true rfl)
  have N2 := Fr.snoc X2 N0 ge_b1
  have Z2 : n0 ≤ h2.size := by rw [W2.size]; exact Z1
  refine own_go (g' := (mkF m 14 #[.val (.int p0), .val (.int p1), .val (.int p2), .val (.int p3), .val (.ref b1), .unset, .unset, .unset, .unset, .unset, .unset, .unset, .unset] [])) (st2) ?_
  refine own_go (g' := (mkF m 16 #[.val (.int p0), .val (.int p1), .val (.int p2), .val (.int p3), .val (.ref b1), .unset, .unset, .unset, .unset, .unset, .unset, .unset, .unset] [(.ref b1)])) (fun _ kgo => XS.aload X2.here hx rfl (hb hby at_14) rfl rfl kgo) ?_
  refine own_go (g' := (mkF m 17 #[.val (.int p0), .val (.int p1), .val (.int p2), .val (.int p3), .val (.ref b1), .unset, .unset, .unset, .unset, .unset, .unset, .unset, .unset] [(.int (1 : Int32)), (.ref b1)])) (fun _ kgo => XS.iconst X2.here hx rfl (hb hby at_16) kgo) ?_
  refine own_go (g' := (mkF m 18 #[.val (.int p0), .val (.int p1), .val (.int p2), .val (.int p3), .val (.ref b1), .unset, .unset, .unset, .unset, .unset, .unset, .unset, .unset] [(.int p1), (.int (1 : Int32)), (.ref b1)])) (fun _ kgo => XS.iloadN X2.here hx rfl (hb hby at_17) rfl kgo) ?_
  refine own_go (g' := (mkF m 21 #[.val (.int p0), .val (.int p1), .val (.int p2), .val (.int p3), .val (.ref b1), .unset, .unset, .unset, .unset, .unset, .unset, .unset, .unset] [(.int (255 : Int32)), (.int p1), (.int (1 : Int32)), (.ref b1)])) (fun _ kgo => XS.sipush X2.here hx rfl (hb hby at_18) kgo) ?_
  refine own_go (g' := (mkF m 22 #[.val (.int p0), .val (.int p1), .val (.int p2), .val (.int p3), .val (.ref b1), .unset, .unset, .unset, .unset, .unset, .unset, .unset, .unset] [(.int (p1 &&& (255 : Int32))), (.int (1 : Int32)), (.ref b1)])) (fun _ kgo => XS.iand X2.here hx rfl (hb hby at_21) rfl kgo) ?_
  have hv1 := own_rg p1
  suffices JNhx1 : ∀ x1 : Int32, x1 = (p1 &&& (255 : Int32)) → own_Go p e below (own_Post s QQ 16 128) T2 (mkF m 22 #[.val (.int p0), .val (.int p1), .val (.int p2), .val (.int p3), .val (.ref b1), .unset, .unset, .unset, .unset, .unset, .unset, .unset, .unset] [(.int x1), (.int (1 : Int32)), (.ref b1)]) from JNhx1 _ (rfl)
  intro x1 hx1
  rw [← hx1] at hv1
  obtain ⟨cl3, Ar3, qk3, sz3, nn3, Hs3, Gs3⟩ := id V2
  have hin3 : ¬ ((1 : Int32) < 0 ∨ cl3.slots.size ≤ ((1 : Int32)).toNatClampNeg) := inb_of sz3 ⟨by decide, by decide⟩
  obtain ⟨T3, h3, X3, e3, W3, st3⟩ := stI X2 hx hZ e2 Ar3 (j := (1 : Int32)) hin3 (g := (mkF m 22 #[.val (.int p0), .val (.int p1), .val (.int p2), .val (.int p3), .val (.ref b1), .unset, .unset, .unset, .unset, .unset, .unset, .unset, .unset] [(.int x1), (.int (1 : Int32)), (.ref b1)])) rfl rfl (hb hby at_22)
  have V3 : Arv Z h3 b1 k1 .int (4 : Int32) [(.int x0), (.int x1), (.int (0 : Int32)), (.int (0 : Int32))] (.int (0 : Int32)) := Arv.set Ar3 qk3 sz3 nn3 Hs3 Gs3 rfl W3 1 rfl (Nat.le_of_ble_eq_true rfl)
  have N3 := Fr.snoc X3 N2 ge_b1
  have Z3 : n0 ≤ h3.size := by rw [W3.size]; exact Z2
  refine own_go (g' := (mkF m 23 #[.val (.int p0), .val (.int p1), .val (.int p2), .val (.int p3), .val (.ref b1), .unset, .unset, .unset, .unset, .unset, .unset, .unset, .unset] [])) (st3) ?_
  refine own_go (g' := (mkF m 25 #[.val (.int p0), .val (.int p1), .val (.int p2), .val (.int p3), .val (.ref b1), .unset, .unset, .unset, .unset, .unset, .unset, .unset, .unset] [(.ref b1)])) (fun _ kgo => XS.aload X3.here hx rfl (hb hby at_23) rfl rfl kgo) ?_
  refine own_go (g' := (mkF m 26 #[.val (.int p0), .val (.int p1), .val (.int p2), .val (.int p3), .val (.ref b1), .unset, .unset, .unset, .unset, .unset, .unset, .unset, .unset] [(.int (2 : Int32)), (.ref b1)])) (fun _ kgo => XS.iconst X3.here hx rfl (hb hby at_25) kgo) ?_
  refine own_go (g' := (mkF m 27 #[.val (.int p0), .val (.int p1), .val (.int p2), .val (.int p3), .val (.ref b1), .unset, .unset, .unset, .unset, .unset, .unset, .unset, .unset] [(.int p2), (.int (2 : Int32)), (.ref b1)])) (fun _ kgo => XS.iloadN X3.here hx rfl (hb hby at_26) rfl kgo) ?_
  refine own_go (g' := (mkF m 30 #[.val (.int p0), .val (.int p1), .val (.int p2), .val (.int p3), .val (.ref b1), .unset, .unset, .unset, .unset, .unset, .unset, .unset, .unset] [(.int (255 : Int32)), (.int p2), (.int (2 : Int32)), (.ref b1)])) (fun _ kgo => XS.sipush X3.here hx rfl (hb hby at_27) kgo) ?_
  refine own_go (g' := (mkF m 31 #[.val (.int p0), .val (.int p1), .val (.int p2), .val (.int p3), .val (.ref b1), .unset, .unset, .unset, .unset, .unset, .unset, .unset, .unset] [(.int (p2 &&& (255 : Int32))), (.int (2 : Int32)), (.ref b1)])) (fun _ kgo => XS.iand X3.here hx rfl (hb hby at_30) rfl kgo) ?_
  have hv2 := own_rg p2
  suffices JNhx2 : ∀ x2 : Int32, x2 = (p2 &&& (255 : Int32)) → own_Go p e below (own_Post s QQ 16 128) T3 (mkF m 31 #[.val (.int p0), .val (.int p1), .val (.int p2), .val (.int p3), .val (.ref b1), .unset, .unset, .unset, .unset, .unset, .unset, .unset, .unset] [(.int x2), (.int (2 : Int32)), (.ref b1)]) from JNhx2 _ (rfl)
  intro x2 hx2
  rw [← hx2] at hv2
  obtain ⟨cl4, Ar4, qk4, sz4, nn4, Hs4, Gs4⟩ := id V3
  have hin4 : ¬ ((2 : Int32) < 0 ∨ cl4.slots.size ≤ ((2 : Int32)).toNatClampNeg) := inb_of sz4 ⟨by decide, by decide⟩
  obtain ⟨T4, h4, X4, e4, W4, st4⟩ := stI X3 hx hZ e3 Ar4 (j := (2 : Int32)) hin4 (g := (mkF m 31 #[.val (.int p0), .val (.int p1), .val (.int p2), .val (.int p3), .val (.ref b1), .unset, .unset, .unset, .unset, .unset, .unset, .unset, .unset] [(.int x2), (.int (2 : Int32)), (.ref b1)])) rfl rfl (hb hby at_31)
  have V4 : Arv Z h4 b1 k1 .int (4 : Int32) [(.int x0), (.int x1), (.int x2), (.int (0 : Int32))] (.int (0 : Int32)) := Arv.set Ar4 qk4 sz4 nn4 Hs4 Gs4 rfl W4 2 rfl (Nat.le_of_ble_eq_true rfl)
  have N4 := Fr.snoc X4 N3 ge_b1
  have Z4 : n0 ≤ h4.size := by rw [W4.size]; exact Z3
  refine own_go (g' := (mkF m 32 #[.val (.int p0), .val (.int p1), .val (.int p2), .val (.int p3), .val (.ref b1), .unset, .unset, .unset, .unset, .unset, .unset, .unset, .unset] [])) (st4) ?_
  refine own_go (g' := (mkF m 34 #[.val (.int p0), .val (.int p1), .val (.int p2), .val (.int p3), .val (.ref b1), .unset, .unset, .unset, .unset, .unset, .unset, .unset, .unset] [(.ref b1)])) (fun _ kgo => XS.aload X4.here hx rfl (hb hby at_32) rfl rfl kgo) ?_
  refine own_go (g' := (mkF m 35 #[.val (.int p0), .val (.int p1), .val (.int p2), .val (.int p3), .val (.ref b1), .unset, .unset, .unset, .unset, .unset, .unset, .unset, .unset] [(.int (3 : Int32)), (.ref b1)])) (fun _ kgo => XS.iconst X4.here hx rfl (hb hby at_34) kgo) ?_
  refine own_go (g' := (mkF m 36 #[.val (.int p0), .val (.int p1), .val (.int p2), .val (.int p3), .val (.ref b1), .unset, .unset, .unset, .unset, .unset, .unset, .unset, .unset] [(.int p3), (.int (3 : Int32)), (.ref b1)])) (fun _ kgo => XS.iloadN X4.here hx rfl (hb hby at_35) rfl kgo) ?_
  refine own_go (g' := (mkF m 39 #[.val (.int p0), .val (.int p1), .val (.int p2), .val (.int p3), .val (.ref b1), .unset, .unset, .unset, .unset, .unset, .unset, .unset, .unset] [(.int (255 : Int32)), (.int p3), (.int (3 : Int32)), (.ref b1)])) (fun _ kgo => XS.sipush X4.here hx rfl (hb hby at_36) kgo) ?_
  refine own_go (g' := (mkF m 40 #[.val (.int p0), .val (.int p1), .val (.int p2), .val (.int p3), .val (.ref b1), .unset, .unset, .unset, .unset, .unset, .unset, .unset, .unset] [(.int (p3 &&& (255 : Int32))), (.int (3 : Int32)), (.ref b1)])) (fun _ kgo => XS.iand X4.here hx rfl (hb hby at_39) rfl kgo) ?_
  have hv3 := own_rg p3
  suffices JNhx3 : ∀ x3 : Int32, x3 = (p3 &&& (255 : Int32)) → own_Go p e below (own_Post s QQ 16 128) T4 (mkF m 40 #[.val (.int p0), .val (.int p1), .val (.int p2), .val (.int p3), .val (.ref b1), .unset, .unset, .unset, .unset, .unset, .unset, .unset, .unset] [(.int x3), (.int (3 : Int32)), (.ref b1)]) from JNhx3 _ (rfl)
  intro x3 hx3
  rw [← hx3] at hv3
  obtain ⟨cl5, Ar5, qk5, sz5, nn5, Hs5, Gs5⟩ := id V4
  have hin5 : ¬ ((3 : Int32) < 0 ∨ cl5.slots.size ≤ ((3 : Int32)).toNatClampNeg) := inb_of sz5 ⟨by decide, by decide⟩
  obtain ⟨T5, h5, X5, e5, W5, st5⟩ := stI X4 hx hZ e4 Ar5 (j := (3 : Int32)) hin5 (g := (mkF m 40 #[.val (.int p0), .val (.int p1), .val (.int p2), .val (.int p3), .val (.ref b1), .unset, .unset, .unset, .unset, .unset, .unset, .unset, .unset] [(.int x3), (.int (3 : Int32)), (.ref b1)])) rfl rfl (hb hby at_40)
  have V5 : Arv Z h5 b1 k1 .int (4 : Int32) [(.int x0), (.int x1), (.int x2), (.int x3)] (.int (0 : Int32)) := Arv.set Ar5 qk5 sz5 nn5 Hs5 Gs5 rfl W5 3 rfl (Nat.le_of_ble_eq_true rfl)
  have N5 := Fr.snoc X5 N4 ge_b1
  have Z5 : n0 ≤ h5.size := by rw [W5.size]; exact Z4
  refine own_go (g' := (mkF m 41 #[.val (.int p0), .val (.int p1), .val (.int p2), .val (.int p3), .val (.ref b1), .unset, .unset, .unset, .unset, .unset, .unset, .unset, .unset] [])) (st5) ?_
  refine own_go (g' := (mkF m 42 #[.val (.int p0), .val (.int p1), .val (.int p2), .val (.int p3), .val (.ref b1), .unset, .unset, .unset, .unset, .unset, .unset, .unset, .unset] [(.int (4 : Int32))])) (fun _ kgo => XS.iconst X5.here hx rfl (hb hby at_41) kgo) ?_
  obtain ⟨T6, h6, k6, X6, e6, E6, A6, st6⟩ := newP X5 hx hZ (hw _ (List.mem_of_getElem? (i := 1) rfl)) e5 (g := (mkF m 42 #[.val (.int p0), .val (.int p1), .val (.int p2), .val (.int p3), .val (.ref b1), .unset, .unset, .unset, .unset, .unset, .unset, .unset, .unset] [(.int (4 : Int32))])) rfl (hb hby at_42) rfl (by decide) (cap := 4) (by decide) (by decide) (by decide) (by decide)
  obtain ⟨b6, ad6⟩ : ∃ z, z = h5.size := ⟨_, rfl⟩
  rw [← ad6] at A6 st6
  have ne_b1_b6 : b1 ≠ b6 := Nat.ne_of_lt (by rw [ad6]; exact V5.lt)
  have ge_b6 : n0 ≤ b6 := by rw [ad6]; exact Z5
  have Z6 : n0 ≤ h6.size := Nat.le_trans Z5 E6.1
  have V6 : Arv Z h6 b6 k6 .boolean (4 : Int32) [(.int (own_b false)), (.int (own_b false)), (.int (own_b false)), (.int (own_b false))] (.int (0 : Int32)) := (Arv.new A6 (by decide)).pad (pad_rep [] (.int (0 : Int32)) 4)
  refine own_go (g' := (mkF m 44 #[.val (.int p0), .val (.int p1), .val (.int p2), .val (.int p3), .val (.ref b1), .unset, .unset, .unset, .unset, .unset, .unset, .unset, .unset] [(.ref b6)])) (st6) ?_
  refine own_go (g' := (mkF m 46 #[.val (.int p0), .val (.int p1), .val (.int p2), .val (.int p3), .val (.ref b1), .val (.ref b6), .unset, .unset, .unset, .unset, .unset, .unset, .unset] [])) (fun _ kgo => XS.astore X6.here hx rfl (hb hby at_44) rfl rfl (l' := #[.val (.int p0), .val (.int p1), .val (.int p2), .val (.int p3), .val (.ref b1), .val (.ref b6), .unset, .unset, .unset, .unset, .unset, .unset, .unset]) rfl kgo) ?_
  refine own_go (g' := (mkF m 47 #[.val (.int p0), .val (.int p1), .val (.int p2), .val (.int p3), .val (.ref b1), .val (.ref b6), .unset, .unset, .unset, .unset, .unset, .unset, .unset] [(.int (4 : Int32))])) (fun _ kgo => XS.iconst X6.here hx rfl (hb hby at_46) kgo) ?_
  obtain ⟨T7, h7, k7, X7, e7, E7, A7, st7⟩ := newP X6 hx hZ (hw _ (List.mem_of_getElem? (i := 1) rfl)) e6 (g := (mkF m 47 #[.val (.int p0), .val (.int p1), .val (.int p2), .val (.int p3), .val (.ref b1), .val (.ref b6), .unset, .unset, .unset, .unset, .unset, .unset, .unset] [(.int (4 : Int32))])) rfl (hb hby at_47) rfl (by decide) (cap := 4) (by decide) (by decide) (by decide) (by decide)
  obtain ⟨b7, ad7⟩ : ∃ z, z = h6.size := ⟨_, rfl⟩
  rw [← ad7] at A7 st7
  have fx8 : Arv Z h6 b1 k1 .int (4 : Int32) [(.int x0), (.int x1), (.int x2), (.int x3)] (.int (0 : Int32)) := (Arv.ext V5 E6)
  have ne_b1_b7 : b1 ≠ b7 := Nat.ne_of_lt (by rw [ad7]; exact fx8.lt)
  have ne_b6_b7 : b6 ≠ b7 := Nat.ne_of_lt (by rw [ad7]; exact V6.lt)
  have ge_b7 : n0 ≤ b7 := by rw [ad7]; exact Z6
  have Z7 : n0 ≤ h7.size := Nat.le_trans Z6 E7.1
  have V7 : Arv Z h7 b7 k7 .boolean (4 : Int32) [(.int (own_b false)), (.int (own_b false)), (.int (own_b false)), (.int (own_b false))] (.int (0 : Int32)) := (Arv.new A7 (by decide)).pad (pad_rep [] (.int (0 : Int32)) 4)
  refine own_go (g' := (mkF m 49 #[.val (.int p0), .val (.int p1), .val (.int p2), .val (.int p3), .val (.ref b1), .val (.ref b6), .unset, .unset, .unset, .unset, .unset, .unset, .unset] [(.ref b7)])) (st7) ?_
  refine own_go (g' := (mkF m 51 #[.val (.int p0), .val (.int p1), .val (.int p2), .val (.int p3), .val (.ref b1), .val (.ref b6), .val (.ref b7), .unset, .unset, .unset, .unset, .unset, .unset] [])) (fun _ kgo => XS.astore X7.here hx rfl (hb hby at_49) rfl rfl (l' := #[.val (.int p0), .val (.int p1), .val (.int p2), .val (.int p3), .val (.ref b1), .val (.ref b6), .val (.ref b7), .unset, .unset, .unset, .unset, .unset, .unset]) rfl kgo) ?_
  have JG : ∀ (T_j : State) (L_j : List Loc) (X_j : Stand p l e room_1 s m #[(.int p0), (.int p1), (.int p2), (.int p3)] below meth c T_j L_j 3 12) (h_j : Heap) (e_j : T_j.heap = h_j) (N_j : Fr n0 L_j) (Z_j : n0 ≤ h_j.size) (pz : Int32) (oo0 : Bool) (oo1 : Bool) (oo2 : Bool) (oo3 : Bool) (cc0 : Bool) (cc1 : Bool) (cc2 : Bool) (cc3 : Bool) (G0_j : Arv Z h_j b1 k1 .int (4 : Int32) [(.int x0), (.int x1), (.int x2), (.int x3)] (.int (0 : Int32))) (G1_j : Arv Z h_j b6 k6 .boolean (4 : Int32) [(.int (own_b oo0)), (.int (own_b oo1)), (.int (own_b oo2)), (.int (own_b oo3))] (.int (0 : Int32))) (G2_j : Arv Z h_j b7 k7 .boolean (4 : Int32) [(.int (own_b cc0)), (.int (own_b cc1)), (.int (own_b cc2)), (.int (own_b cc3))] (.int (0 : Int32))) (hchk : own_chk [(x0, oo0, cc0), (x1, oo1, cc1), (x2, oo2, cc2), (x3, oo3, cc3)] 0 128 191 = true), own_Go p e below (own_Post s QQ 16 128) T_j (mkF m 102 #[.val (.int p0), .val (.int p1), .val (.int p2), .val (.int p3), .val (.ref b1), .val (.ref b6), .val (.ref b7), .val (.int pz), .unset, .unset, .unset, .unset, .unset] []) := by
    intro T_j L_j X_j h_j e_j N_j Z_j pz oo0 oo1 oo2 oo3 cc0 cc1 cc2 cc3 G0_j G1_j G2_j hchk
    obtain ⟨T9, h9, X9, e9, E9, A9, D9, -, st9⟩ := newO X_j hx hZ hown (hw _ (List.mem_of_getElem? (i := 6) rfl)) (hw _ (List.mem_of_getElem? (i := 7) rfl)) (hw _ (List.mem_of_getElem? (i := 8) rfl)) e_j (g := (mkF m 102 #[.val (.int p0), .val (.int p1), .val (.int p2), .val (.int p3), .val (.ref b1), .val (.ref b6), .val (.ref b7), .val (.int pz), .unset, .unset, .unset, .unset, .unset] [])) rfl (hb hby at_102) (by decide) (by decide)
    obtain ⟨b9, ad9⟩ : ∃ z, z = h_j.size := ⟨_, rfl⟩
    rw [← ad9] at A9 D9 st9
    have ne_b1_b9 : b1 ≠ b9 := Nat.ne_of_lt (by rw [ad9]; exact G0_j.lt)
    have ne_b6_b9 : b6 ≠ b9 := Nat.ne_of_lt (by rw [ad9]; exact G1_j.lt)
    have ne_b7_b9 : b7 ≠ b9 := Nat.ne_of_lt (by rw [ad9]; exact G2_j.lt)
    have ge_b9 : n0 ≤ b9 := by rw [ad9]; exact Z_j
    have Z9 : n0 ≤ h9.size := Nat.le_trans Z_j E9.1
    have F9_low : Fld Z h9 b9 "com/example/firm_tread/firmtread/transport/Utf8" "low" "I" (.int (0 : Int32)) := D9 (Or.inl (hw _ (List.mem_of_getElem? (i := 16) rfl))) (ty := .int) (by decide)
    have F9_high : Fld Z h9 b9 "com/example/firm_tread/firmtread/transport/Utf8" "high" "I" (.int (0 : Int32)) := D9 (Or.inl (hw _ (List.mem_of_getElem? (i := 18) rfl))) (ty := .int) (by decide)
    have F9_needed : Fld Z h9 b9 "com/example/firm_tread/firmtread/transport/Utf8" "needed" "I" (.int (0 : Int32)) := D9 (Or.inl (hw _ (List.mem_of_getElem? (i := 25) rfl))) (ty := .int) (by decide)
    refine own_go (g' := (mkF m 105 #[.val (.int p0), .val (.int p1), .val (.int p2), .val (.int p3), .val (.ref b1), .val (.ref b6), .val (.ref b7), .val (.int pz), .unset, .unset, .unset, .unset, .unset] [(.ref b9)])) (st9) ?_
    refine own_go (g' := (mkF m 106 #[.val (.int p0), .val (.int p1), .val (.int p2), .val (.int p3), .val (.ref b1), .val (.ref b6), .val (.ref b7), .val (.int pz), .unset, .unset, .unset, .unset, .unset] [(.ref b9), (.ref b9)])) (fun _ kgo => XS.dup X9.here hx rfl (hb hby at_105) rfl rfl kgo) ?_
    obtain ⟨v10, T10, L10, hQ10, X10, st10⟩ := own_callI X9 hx hZ (y := (⟨"com/example/firm_tread/firmtread/transport/Utf8", "<init>", "()V"⟩ : MethodName)) rfl hown (hw _ (List.mem_of_getElem? (i := 9) rfl)) (hw _ (List.mem_of_getElem? (i := 10) rfl)) (hw _ (List.mem_of_getElem? (i := 8) rfl)) (hw _ (List.mem_of_getElem? (i := 11) rfl)) ⟨by decide, by decide⟩ (a := b9) (argsL := []) (rm2 l Z a0 hw b9 h9 n0 Z9 ge_b9 A9 F9_needed F9_low F9_high) e9 (g := (mkF m 106 #[.val (.int p0), .val (.int p1), .val (.int p2), .val (.int p3), .val (.ref b1), .val (.ref b6), .val (.ref b7), .val (.int pz), .unset, .unset, .unset, .unset, .unset] [(.ref b9), (.ref b9)])) rfl (by rw [hml]; rfl) (rest := [(.ref b9)]) (lenOf pd0_0 rfl) rfl (hb hby at_106) (W := 1) (by show 2 * 0 + _ ≤ _; exact Nat.le_of_eq rfl) (by decide) (by decide) (by decide) (by decide)
    obtain ⟨rfl, Nq10, Kq10, q10_0, q10_1, q10_2, q10_3⟩ := hQ10
    have N10 := Fr.app N_j Nq10
    have Z10 : n0 ≤ T10.heap.size := Nat.le_trans Z9 Kq10.1
    refine own_go (g' := (mkF m 109 #[.val (.int p0), .val (.int p1), .val (.int p2), .val (.int p3), .val (.ref b1), .val (.ref b6), .val (.ref b7), .val (.int pz), .unset, .unset, .unset, .unset, .unset] [(.ref b9)])) (st10) ?_
    refine own_go (g' := (mkF m 111 #[.val (.int p0), .val (.int p1), .val (.int p2), .val (.int p3), .val (.ref b1), .val (.ref b6), .val (.ref b7), .val (.int pz), .val (.ref b9), .unset, .unset, .unset, .unset] [])) (fun _ kgo => XS.astore X10.here hx rfl (hb hby at_109) rfl rfl (l' := #[.val (.int p0), .val (.int p1), .val (.int p2), .val (.int p3), .val (.ref b1), .val (.ref b6), .val (.ref b7), .val (.int pz), .val (.ref b9), .unset, .unset, .unset, .unset]) rfl kgo) ?_
    refine own_go (g' := (mkF m 113 #[.val (.int p0), .val (.int p1), .val (.int p2), .val (.int p3), .val (.ref b1), .val (.ref b6), .val (.ref b7), .val (.int pz), .val (.ref b9), .unset, .unset, .unset, .unset] [(.ref b9)])) (fun _ kgo => XS.aload X10.here hx rfl (hb hby at_111) rfl rfl kgo) ?_
    refine own_go (g' := (mkF m 114 #[.val (.int p0), .val (.int p1), .val (.int p2), .val (.int p3), .val (.ref b1), .val (.ref b6), .val (.ref b7), .val (.int pz), .val (.ref b9), .unset, .unset, .unset, .unset] [(.int p0), (.ref b9)])) (fun _ kgo => XS.iloadN X10.here hx rfl (hb hby at_113) rfl kgo) ?_
    refine own_go (g' := (mkF m 115 #[.val (.int p0), .val (.int p1), .val (.int p2), .val (.int p3), .val (.ref b1), .val (.ref b6), .val (.ref b7), .val (.int pz), .val (.ref b9), .unset, .unset, .unset, .unset] [(.int (p0.toInt8.toInt32)), (.ref b9)])) (fun _ kgo => XS.i2b X10.here hx rfl (hb hby at_114) rfl kgo) ?_
    have hk0 := own_chk_1 (hchk)
    obtain ⟨v11, T11, L11, hQ11, X11, st11⟩ := own_callV X10 hx hZ (y := (⟨"com/example/firm_tread/firmtread/transport/Utf8", "accept", "(B)Z"⟩ : MethodName)) (z := (⟨"com/example/firm_tread/firmtread/transport/Utf8", "accept", "(B)Z"⟩ : MethodName)) hown (hw _ (List.mem_of_getElem? (i := 19) rfl)) (hw _ (List.mem_of_getElem? (i := 20) rfl)) (notFace_of_selects (args := #[]) (mvT hZ (hw _ (List.mem_of_getElem? (i := 22) rfl)))) (hw _ (List.mem_of_getElem? (i := 22) rfl)) (hw _ (List.mem_of_getElem? (i := 21) rfl)) (hw _ (List.mem_of_getElem? (i := 8) rfl)) (hw _ (List.mem_of_getElem? (i := 23) rfl)) ⟨by decide, by decide⟩ (a := b9) (argsL := [(.int (p0.toInt8.toInt32))]) (rm4 l Z a0 hw b9 (p0.toInt8.toInt32) (0 : Int32) (128 : Int32) (191 : Int32) x0 T10.heap n0 Z10 ge_b9 q10_0 q10_1 q10_2 q10_3 ((own_bm _).trans hx0.symm)) rfl q10_0 (g := (mkF m 115 #[.val (.int p0), .val (.int p1), .val (.int p2), .val (.int p3), .val (.ref b1), .val (.ref b6), .val (.ref b7), .val (.int pz), .val (.ref b9), .unset, .unset, .unset, .unset] [(.int (p0.toInt8.toInt32)), (.ref b9)])) rfl (by rw [hml]; rfl) (rest := []) (lenOf pd0_1 rfl) rfl (hb hby at_115) (W := 0) (by show 2 * 0 + _ ≤ _; exact Nat.le_of_eq rfl) (by decide) (by decide) (by decide) (by decide)
    obtain ⟨rfl, Nq11, Kq11, q11_0, q11_1, q11_2, q11_3⟩ := hQ11
    have N11 := Fr.app N10 Nq11
    have Z11 : n0 ≤ T11.heap.size := Nat.le_trans Z10 Kq11.1
    refine own_go (g' := (mkF m 118 #[.val (.int p0), .val (.int p1), .val (.int p2), .val (.int p3), .val (.ref b1), .val (.ref b6), .val (.ref b7), .val (.int pz), .val (.ref b9), .unset, .unset, .unset, .unset] [(.int (own_b (own_ok (0 : Int32) (128 : Int32) (191 : Int32) x0)))])) (st11) ?_
    refine own_go (g' := (mkF m 120 #[.val (.int p0), .val (.int p1), .val (.int p2), .val (.int p3), .val (.ref b1), .val (.ref b6), .val (.ref b7), .val (.int pz), .val (.ref b9), .val (.int (own_b (own_ok (0 : Int32) (128 : Int32) (191 : Int32) x0))), .unset, .unset, .unset] [])) (fun _ kgo => XS.istore X11.here hx rfl (hb hby at_118) rfl (l' := #[.val (.int p0), .val (.int p1), .val (.int p2), .val (.int p3), .val (.ref b1), .val (.ref b6), .val (.ref b7), .val (.int pz), .val (.ref b9), .val (.int (own_b (own_ok (0 : Int32) (128 : Int32) (191 : Int32) x0))), .unset, .unset, .unset]) rfl kgo) ?_
    refine own_go (g' := (mkF m 122 #[.val (.int p0), .val (.int p1), .val (.int p2), .val (.int p3), .val (.ref b1), .val (.ref b6), .val (.ref b7), .val (.int pz), .val (.ref b9), .val (.int (own_b (own_ok (0 : Int32) (128 : Int32) (191 : Int32) x0))), .unset, .unset, .unset] [(.int (own_b (own_ok (0 : Int32) (128 : Int32) (191 : Int32) x0)))])) (fun _ kgo => XS.iload X11.here hx rfl (hb hby at_120) rfl kgo) ?_
    refine own_go (g' := (mkF m 124 #[.val (.int p0), .val (.int p1), .val (.int p2), .val (.int p3), .val (.ref b1), .val (.ref b6), .val (.ref b7), .val (.int pz), .val (.ref b9), .val (.int (own_b (own_ok (0 : Int32) (128 : Int32) (191 : Int32) x0))), .unset, .unset, .unset] [(.ref b6), (.int (own_b (own_ok (0 : Int32) (128 : Int32) (191 : Int32) x0)))])) (fun _ kgo => XS.aload X11.here hx rfl (hb hby at_122) rfl rfl kgo) ?_
    refine own_go (g' := (mkF m 125 #[.val (.int p0), .val (.int p1), .val (.int p2), .val (.int p3), .val (.ref b1), .val (.ref b6), .val (.ref b7), .val (.int pz), .val (.ref b9), .val (.int (own_b (own_ok (0 : Int32) (128 : Int32) (191 : Int32) x0))), .unset, .unset, .unset] [(.int (0 : Int32)), (.ref b6), (.int (own_b (own_ok (0 : Int32) (128 : Int32) (191 : Int32) x0)))])) (fun _ kgo => XS.iconst X11.here hx rfl (hb hby at_124) kgo) ?_
    have fx12 : Arv Z T11.heap b6 k6 .boolean (4 : Int32) [(.int (own_b oo0)), (.int (own_b oo1)), (.int (own_b oo2)), (.int (own_b oo3))] (.int (0 : Int32)) := (Arv.keep (Arv.keep (Arv.ext G1_j E9) Kq10 (ninS ne_b6_b9 nin0)) Kq11 (ninS ne_b6_b9 nin0))
    obtain ⟨cl13, Ar13, qk13, sz13, nn13, Hs13, Gs13⟩ := id fx12
    have hin13 : ¬ ((0 : Int32) < 0 ∨ cl13.slots.size ≤ ((0 : Int32)).toNatClampNeg) := inb_of sz13 ⟨by decide, by decide⟩
    have hat13 : cl13.slots[((0 : Int32)).toNatClampNeg]? = some (.int (own_b oo0)) := Has.at Hs13 hin13 rfl
    refine own_go (g' := (mkF m 126 #[.val (.int p0), .val (.int p1), .val (.int p2), .val (.int p3), .val (.ref b1), .val (.ref b6), .val (.ref b7), .val (.int pz), .val (.ref b9), .val (.int (own_b (own_ok (0 : Int32) (128 : Int32) (191 : Int32) x0))), .unset, .unset, .unset] [(.int (own_b oo0)), (.int (own_b (own_ok (0 : Int32) (128 : Int32) (191 : Int32) x0)))])) (X11.baloadBooleans hx (j := (0 : Int32)) (v := (.int (own_b oo0))) Ar13.1 (State.isArrayOf_alike hZ.alike Ar13.2.1) Ar13.2.2 hin13 hat13 (g := (mkF m 125 #[.val (.int p0), .val (.int p1), .val (.int p2), .val (.int p3), .val (.ref b1), .val (.ref b6), .val (.ref b7), .val (.int pz), .val (.ref b9), .val (.int (own_b (own_ok (0 : Int32) (128 : Int32) (191 : Int32) x0))), .unset, .unset, .unset] [(.int (0 : Int32)), (.ref b6), (.int (own_b (own_ok (0 : Int32) (128 : Int32) (191 : Int32) x0)))])) rfl rfl (hb hby at_125)) ?_
    refine own_go (g' := (mkF m 131 #[.val (.int p0), .val (.int p1), .val (.int p2), .val (.int p3), .val (.ref b1), .val (.ref b6), .val (.ref b7), .val (.int pz), .val (.ref b9), .val (.int (own_b (own_ok (0 : Int32) (128 : Int32) (191 : Int32) x0))), .unset, .unset, .unset] [])) (fun _ kgo => XS.icmpYes X11.here hx rfl (pc0 := 126) (pc' := 131) rfl (hb hby at_126) rfl (teq (congrArg own_b hk0.1)).1 (by decide) (by decide) kgo) ?_
    refine own_go (g' := (mkF m 133 #[.val (.int p0), .val (.int p1), .val (.int p2), .val (.int p3), .val (.ref b1), .val (.ref b6), .val (.ref b7), .val (.int pz), .val (.ref b9), .val (.int (own_b (own_ok (0 : Int32) (128 : Int32) (191 : Int32) x0))), .unset, .unset, .unset] [(.int (own_b (own_ok (0 : Int32) (128 : Int32) (191 : Int32) x0)))])) (fun _ kgo => XS.iload X11.here hx rfl (hb hby at_131) rfl kgo) ?_
    by_cases hc14 : (own_ok (0 : Int32) (128 : Int32) (191 : Int32) x0) = true
    ·
      refine own_go (g' := (mkF m 138 #[.val (.int p0), .val (.int p1), .val (.int p2), .val (.int p3), .val (.ref b1), .val (.ref b6), .val (.ref b7), .val (.int pz), .val (.ref b9), .val (.int (own_b (own_ok (0 : Int32) (128 : Int32) (191 : Int32) x0))), .unset, .unset, .unset] [])) (fun _ kgo => XS.ifYes X11.here hx rfl (pc0 := 133) (pc' := 138) rfl (hb hby at_133) rfl ((if0 _ _).trans (feq (own_b_n hc14)).2) (by decide) (by decide) kgo) ?_
      have hm0 := hk0.2 (hk0.1 ▸ hc14)
      refine own_go (g' := (mkF m 140 #[.val (.int p0), .val (.int p1), .val (.int p2), .val (.int p3), .val (.ref b1), .val (.ref b6), .val (.ref b7), .val (.int pz), .val (.ref b9), .val (.int (own_b (own_ok (0 : Int32) (128 : Int32) (191 : Int32) x0))), .unset, .unset, .unset] [(.ref b9)])) (fun _ kgo => XS.aload X11.here hx rfl (hb hby at_138) rfl rfl kgo) ?_
      obtain ⟨v15, T15, L15, hQ15, X15, st15⟩ := own_callV X11 hx hZ (y := (⟨"com/example/firm_tread/firmtread/transport/Utf8", "isComplete", "()Z"⟩ : MethodName)) (z := (⟨"com/example/firm_tread/firmtread/transport/Utf8", "isComplete", "()Z"⟩ : MethodName)) hown (hw _ (List.mem_of_getElem? (i := 26) rfl)) (hw _ (List.mem_of_getElem? (i := 27) rfl)) (notFace_of_selects (args := #[]) (mvT hZ (hw _ (List.mem_of_getElem? (i := 29) rfl)))) (hw _ (List.mem_of_getElem? (i := 29) rfl)) (hw _ (List.mem_of_getElem? (i := 28) rfl)) (hw _ (List.mem_of_getElem? (i := 8) rfl)) (hw _ (List.mem_of_getElem? (i := 30) rfl)) ⟨by decide, by decide⟩ (a := b9) (argsL := []) (rm5 l Z a0 hw b9 (own_nd (0 : Int32) x0) T11.heap q11_1) rfl q11_0 (g := (mkF m 140 #[.val (.int p0), .val (.int p1), .val (.int p2), .val (.int p3), .val (.ref b1), .val (.ref b6), .val (.ref b7), .val (.int pz), .val (.ref b9), .val (.int (own_b (own_ok (0 : Int32) (128 : Int32) (191 : Int32) x0))), .unset, .unset, .unset] [(.ref b9)])) rfl (by rw [hml]; rfl) (rest := []) (lenOf pd0_2 rfl) rfl (hb hby at_140) (W := 0) (by show 2 * 0 + _ ≤ _; exact Nat.le_of_eq rfl) (by decide) (by decide) (by decide) (by decide)
      obtain ⟨rfl, e15, rfl⟩ := hQ15
      have N15 := Fr.app N11 (Fr.nil n0)
      refine own_go (g' := (mkF m 143 #[.val (.int p0), .val (.int p1), .val (.int p2), .val (.int p3), .val (.ref b1), .val (.ref b6), .val (.ref b7), .val (.int pz), .val (.ref b9), .val (.int (own_b (own_ok (0 : Int32) (128 : Int32) (191 : Int32) x0))), .unset, .unset, .unset] [(.int (own_b (decide ((own_nd (0 : Int32) x0) = 0))))])) (st15) ?_
      refine own_go (g' := (mkF m 145 #[.val (.int p0), .val (.int p1), .val (.int p2), .val (.int p3), .val (.ref b1), .val (.ref b6), .val (.ref b7), .val (.int pz), .val (.ref b9), .val (.int (own_b (own_ok (0 : Int32) (128 : Int32) (191 : Int32) x0))), .unset, .unset, .unset] [(.ref b7), (.int (own_b (decide ((own_nd (0 : Int32) x0) = 0))))])) (fun _ kgo => XS.aload X15.here hx rfl (hb hby at_143) rfl rfl kgo) ?_
      refine own_go (g' := (mkF m 146 #[.val (.int p0), .val (.int p1), .val (.int p2), .val (.int p3), .val (.ref b1), .val (.ref b6), .val (.ref b7), .val (.int pz), .val (.ref b9), .val (.int (own_b (own_ok (0 : Int32) (128 : Int32) (191 : Int32) x0))), .unset, .unset, .unset] [(.int (0 : Int32)), (.ref b7), (.int (own_b (decide ((own_nd (0 : Int32) x0) = 0))))])) (fun _ kgo => XS.iconst X15.here hx rfl (hb hby at_145) kgo) ?_
      have fx16 : Arv Z T11.heap b7 k7 .boolean (4 : Int32) [(.int (own_b cc0)), (.int (own_b cc1)), (.int (own_b cc2)), (.int (own_b cc3))] (.int (0 : Int32)) := (Arv.keep (Arv.keep (Arv.ext G2_j E9) Kq10 (ninS ne_b7_b9 nin0)) Kq11 (ninS ne_b7_b9 nin0))
      obtain ⟨cl17, Ar17, qk17, sz17, nn17, Hs17, Gs17⟩ := id fx16
      have hin17 : ¬ ((0 : Int32) < 0 ∨ cl17.slots.size ≤ ((0 : Int32)).toNatClampNeg) := inb_of sz17 ⟨by decide, by decide⟩
      have hat17 : cl17.slots[((0 : Int32)).toNatClampNeg]? = some (.int (own_b cc0)) := Has.at Hs17 hin17 rfl
      refine own_go (g' := (mkF m 147 #[.val (.int p0), .val (.int p1), .val (.int p2), .val (.int p3), .val (.ref b1), .val (.ref b6), .val (.ref b7), .val (.int pz), .val (.ref b9), .val (.int (own_b (own_ok (0 : Int32) (128 : Int32) (191 : Int32) x0))), .unset, .unset, .unset] [(.int (own_b cc0)), (.int (own_b (decide ((own_nd (0 : Int32) x0) = 0))))])) (X15.baloadBooleans hx (j := (0 : Int32)) (v := (.int (own_b cc0))) (by rw [e15]; exact Ar17.1) (State.isArrayOf_alike hZ.alike Ar17.2.1) Ar17.2.2 hin17 hat17 (g := (mkF m 146 #[.val (.int p0), .val (.int p1), .val (.int p2), .val (.int p3), .val (.ref b1), .val (.ref b6), .val (.ref b7), .val (.int pz), .val (.ref b9), .val (.int (own_b (own_ok (0 : Int32) (128 : Int32) (191 : Int32) x0))), .unset, .unset, .unset] [(.int (0 : Int32)), (.ref b7), (.int (own_b (decide ((own_nd (0 : Int32) x0) = 0))))])) rfl rfl (hb hby at_146)) ?_
      refine own_go (g' := (mkF m 152 #[.val (.int p0), .val (.int p1), .val (.int p2), .val (.int p3), .val (.ref b1), .val (.ref b6), .val (.ref b7), .val (.int pz), .val (.ref b9), .val (.int (own_b (own_ok (0 : Int32) (128 : Int32) (191 : Int32) x0))), .unset, .unset, .unset] [])) (fun _ kgo => XS.icmpYes X15.here hx rfl (pc0 := 147) (pc' := 152) rfl (hb hby at_147) rfl (teq (congrArg own_b hm0.1)).1 (by decide) (by decide) kgo) ?_
      refine own_go (g' := (mkF m 154 #[.val (.int p0), .val (.int p1), .val (.int p2), .val (.int p3), .val (.ref b1), .val (.ref b6), .val (.ref b7), .val (.int pz), .val (.ref b9), .val (.int (own_b (own_ok (0 : Int32) (128 : Int32) (191 : Int32) x0))), .unset, .unset, .unset] [(.ref b9)])) (fun _ kgo => XS.aload X15.here hx rfl (hb hby at_152) rfl rfl kgo) ?_
      refine own_go (g' := (mkF m 155 #[.val (.int p0), .val (.int p1), .val (.int p2), .val (.int p3), .val (.ref b1), .val (.ref b6), .val (.ref b7), .val (.int pz), .val (.ref b9), .val (.int (own_b (own_ok (0 : Int32) (128 : Int32) (191 : Int32) x0))), .unset, .unset, .unset] [(.int p1), (.ref b9)])) (fun _ kgo => XS.iloadN X15.here hx rfl (hb hby at_154) rfl kgo) ?_
      refine own_go (g' := (mkF m 156 #[.val (.int p0), .val (.int p1), .val (.int p2), .val (.int p3), .val (.ref b1), .val (.ref b6), .val (.ref b7), .val (.int pz), .val (.ref b9), .val (.int (own_b (own_ok (0 : Int32) (128 : Int32) (191 : Int32) x0))), .unset, .unset, .unset] [(.int (p1.toInt8.toInt32)), (.ref b9)])) (fun _ kgo => XS.i2b X15.here hx rfl (hb hby at_155) rfl kgo) ?_
      have hk1 := own_chk_1 (hm0.2)
      obtain ⟨v18, T18, L18, hQ18, X18, st18⟩ := own_callV X15 hx hZ (y := (⟨"com/example/firm_tread/firmtread/transport/Utf8", "accept", "(B)Z"⟩ : MethodName)) (z := (⟨"com/example/firm_tread/firmtread/transport/Utf8", "accept", "(B)Z"⟩ : MethodName)) hown (hw _ (List.mem_of_getElem? (i := 19) rfl)) (hw _ (List.mem_of_getElem? (i := 20) rfl)) (notFace_of_selects (args := #[]) (mvT hZ (hw _ (List.mem_of_getElem? (i := 22) rfl)))) (hw _ (List.mem_of_getElem? (i := 22) rfl)) (hw _ (List.mem_of_getElem? (i := 21) rfl)) (hw _ (List.mem_of_getElem? (i := 8) rfl)) (hw _ (List.mem_of_getElem? (i := 23) rfl)) ⟨by decide, by decide⟩ (a := b9) (argsL := [(.int (p1.toInt8.toInt32))]) (rm4 l Z a0 hw b9 (p1.toInt8.toInt32) (own_nd (0 : Int32) x0) (own_lo (0 : Int32) (128 : Int32) x0) (own_hi (0 : Int32) (191 : Int32) x0) x1 T11.heap n0 Z11 ge_b9 q11_0 q11_1 q11_2 q11_3 ((own_bm _).trans hx1.symm)) e15 q11_0 (g := (mkF m 156 #[.val (.int p0), .val (.int p1), .val (.int p2), .val (.int p3), .val (.ref b1), .val (.ref b6), .val (.ref b7), .val (.int pz), .val (.ref b9), .val (.int (own_b (own_ok (0 : Int32) (128 : Int32) (191 : Int32) x0))), .unset, .unset, .unset] [(.int (p1.toInt8.toInt32)), (.ref b9)])) rfl (by rw [hml]; rfl) (rest := []) (lenOf pd0_1 rfl) rfl (hb hby at_156) (W := 0) (by show 2 * 0 + _ ≤ _; exact Nat.le_of_eq rfl) (by decide) (by decide) (by decide) (by decide)
      obtain ⟨rfl, Nq18, Kq18, q18_0, q18_1, q18_2, q18_3⟩ := hQ18
      have N18 := Fr.app N15 Nq18
      have Z18 : n0 ≤ T18.heap.size := Nat.le_trans Z11 Kq18.1
      refine own_go (g' := (mkF m 159 #[.val (.int p0), .val (.int p1), .val (.int p2), .val (.int p3), .val (.ref b1), .val (.ref b6), .val (.ref b7), .val (.int pz), .val (.ref b9), .val (.int (own_b (own_ok (0 : Int32) (128 : Int32) (191 : Int32) x0))), .unset, .unset, .unset] [(.int (own_b (own_ok (own_nd (0 : Int32) x0) (own_lo (0 : Int32) (128 : Int32) x0) (own_hi (0 : Int32) (191 : Int32) x0) x1)))])) (st18) ?_
      refine own_go (g' := (mkF m 161 #[.val (.int p0), .val (.int p1), .val (.int p2), .val (.int p3), .val (.ref b1), .val (.ref b6), .val (.ref b7), .val (.int pz), .val (.ref b9), .val (.int (own_b (own_ok (0 : Int32) (128 : Int32) (191 : Int32) x0))), .val (.int (own_b (own_ok (own_nd (0 : Int32) x0) (own_lo (0 : Int32) (128 : Int32) x0) (own_hi (0 : Int32) (191 : Int32) x0) x1))), .unset, .unset] [])) (fun _ kgo => XS.istore X18.here hx rfl (hb hby at_159) rfl (l' := #[.val (.int p0), .val (.int p1), .val (.int p2), .val (.int p3), .val (.ref b1), .val (.ref b6), .val (.ref b7), .val (.int pz), .val (.ref b9), .val (.int (own_b (own_ok (0 : Int32) (128 : Int32) (191 : Int32) x0))), .val (.int (own_b (own_ok (own_nd (0 : Int32) x0) (own_lo (0 : Int32) (128 : Int32) x0) (own_hi (0 : Int32) (191 : Int32) x0) x1))), .unset, .unset]) rfl kgo) ?_
      refine own_go (g' := (mkF m 163 #[.val (.int p0), .val (.int p1), .val (.int p2), .val (.int p3), .val (.ref b1), .val (.ref b6), .val (.ref b7), .val (.int pz), .val (.ref b9), .val (.int (own_b (own_ok (0 : Int32) (128 : Int32) (191 : Int32) x0))), .val (.int (own_b (own_ok (own_nd (0 : Int32) x0) (own_lo (0 : Int32) (128 : Int32) x0) (own_hi (0 : Int32) (191 : Int32) x0) x1))), .unset, .unset] [(.int (own_b (own_ok (own_nd (0 : Int32) x0) (own_lo (0 : Int32) (128 : Int32) x0) (own_hi (0 : Int32) (191 : Int32) x0) x1)))])) (fun _ kgo => XS.iload X18.here hx rfl (hb hby at_161) rfl kgo) ?_
      refine own_go (g' := (mkF m 165 #[.val (.int p0), .val (.int p1), .val (.int p2), .val (.int p3), .val (.ref b1), .val (.ref b6), .val (.ref b7), .val (.int pz), .val (.ref b9), .val (.int (own_b (own_ok (0 : Int32) (128 : Int32) (191 : Int32) x0))), .val (.int (own_b (own_ok (own_nd (0 : Int32) x0) (own_lo (0 : Int32) (128 : Int32) x0) (own_hi (0 : Int32) (191 : Int32) x0) x1))), .unset, .unset] [(.ref b6), (.int (own_b (own_ok (own_nd (0 : Int32) x0) (own_lo (0 : Int32) (128 : Int32) x0) (own_hi (0 : Int32) (191 : Int32) x0) x1)))])) (fun _ kgo => XS.aload X18.here hx rfl (hb hby at_163) rfl rfl kgo) ?_
      refine own_go (g' := (mkF m 166 #[.val (.int p0), .val (.int p1), .val (.int p2), .val (.int p3), .val (.ref b1), .val (.ref b6), .val (.ref b7), .val (.int pz), .val (.ref b9), .val (.int (own_b (own_ok (0 : Int32) (128 : Int32) (191 : Int32) x0))), .val (.int (own_b (own_ok (own_nd (0 : Int32) x0) (own_lo (0 : Int32) (128 : Int32) x0) (own_hi (0 : Int32) (191 : Int32) x0) x1))), .unset, .unset] [(.int (1 : Int32)), (.ref b6), (.int (own_b (own_ok (own_nd (0 : Int32) x0) (own_lo (0 : Int32) (128 : Int32) x0) (own_hi (0 : Int32) (191 : Int32) x0) x1)))])) (fun _ kgo => XS.iconst X18.here hx rfl (hb hby at_165) kgo) ?_
      have fx19 : Arv Z T18.heap b6 k6 .boolean (4 : Int32) [(.int (own_b oo0)), (.int (own_b oo1)), (.int (own_b oo2)), (.int (own_b oo3))] (.int (0 : Int32)) := (Arv.keep fx12 Kq18 (ninS ne_b6_b9 nin0))
      obtain ⟨cl20, Ar20, qk20, sz20, nn20, Hs20, Gs20⟩ := id fx19
      have hin20 : ¬ ((1 : Int32) < 0 ∨ cl20.slots.size ≤ ((1 : Int32)).toNatClampNeg) := inb_of sz20 ⟨by decide, by decide⟩
      have hat20 : cl20.slots[((1 : Int32)).toNatClampNeg]? = some (.int (own_b oo1)) := Has.at Hs20 hin20 rfl
      refine own_go (g' := (mkF m 167 #[.val (.int p0), .val (.int p1), .val (.int p2), .val (.int p3), .val (.ref b1), .val (.ref b6), .val (.ref b7), .val (.int pz), .val (.ref b9), .val (.int (own_b (own_ok (0 : Int32) (128 : Int32) (191 : Int32) x0))), .val (.int (own_b (own_ok (own_nd (0 : Int32) x0) (own_lo (0 : Int32) (128 : Int32) x0) (own_hi (0 : Int32) (191 : Int32) x0) x1))), .unset, .unset] [(.int (own_b oo1)), (.int (own_b (own_ok (own_nd (0 : Int32) x0) (own_lo (0 : Int32) (128 : Int32) x0) (own_hi (0 : Int32) (191 : Int32) x0) x1)))])) (X18.baloadBooleans hx (j := (1 : Int32)) (v := (.int (own_b oo1))) Ar20.1 (State.isArrayOf_alike hZ.alike Ar20.2.1) Ar20.2.2 hin20 hat20 (g := (mkF m 166 #[.val (.int p0), .val (.int p1), .val (.int p2), .val (.int p3), .val (.ref b1), .val (.ref b6), .val (.ref b7), .val (.int pz), .val (.ref b9), .val (.int (own_b (own_ok (0 : Int32) (128 : Int32) (191 : Int32) x0))), .val (.int (own_b (own_ok (own_nd (0 : Int32) x0) (own_lo (0 : Int32) (128 : Int32) x0) (own_hi (0 : Int32) (191 : Int32) x0) x1))), .unset, .unset] [(.int (1 : Int32)), (.ref b6), (.int (own_b (own_ok (own_nd (0 : Int32) x0) (own_lo (0 : Int32) (128 : Int32) x0) (own_hi (0 : Int32) (191 : Int32) x0) x1)))])) rfl rfl (hb hby at_166)) ?_
      refine own_go (g' := (mkF m 172 #[.val (.int p0), .val (.int p1), .val (.int p2), .val (.int p3), .val (.ref b1), .val (.ref b6), .val (.ref b7), .val (.int pz), .val (.ref b9), .val (.int (own_b (own_ok (0 : Int32) (128 : Int32) (191 : Int32) x0))), .val (.int (own_b (own_ok (own_nd (0 : Int32) x0) (own_lo (0 : Int32) (128 : Int32) x0) (own_hi (0 : Int32) (191 : Int32) x0) x1))), .unset, .unset] [])) (fun _ kgo => XS.icmpYes X18.here hx rfl (pc0 := 167) (pc' := 172) rfl (hb hby at_167) rfl (teq (congrArg own_b hk1.1)).1 (by decide) (by decide) kgo) ?_
      refine own_go (g' := (mkF m 174 #[.val (.int p0), .val (.int p1), .val (.int p2), .val (.int p3), .val (.ref b1), .val (.ref b6), .val (.ref b7), .val (.int pz), .val (.ref b9), .val (.int (own_b (own_ok (0 : Int32) (128 : Int32) (191 : Int32) x0))), .val (.int (own_b (own_ok (own_nd (0 : Int32) x0) (own_lo (0 : Int32) (128 : Int32) x0) (own_hi (0 : Int32) (191 : Int32) x0) x1))), .unset, .unset] [(.int (own_b (own_ok (own_nd (0 : Int32) x0) (own_lo (0 : Int32) (128 : Int32) x0) (own_hi (0 : Int32) (191 : Int32) x0) x1)))])) (fun _ kgo => XS.iload X18.here hx rfl (hb hby at_172) rfl kgo) ?_
      by_cases hc21 : (own_ok (own_nd (0 : Int32) x0) (own_lo (0 : Int32) (128 : Int32) x0) (own_hi (0 : Int32) (191 : Int32) x0) x1) = true
      ·
        refine own_go (g' := (mkF m 179 #[.val (.int p0), .val (.int p1), .val (.int p2), .val (.int p3), .val (.ref b1), .val (.ref b6), .val (.ref b7), .val (.int pz), .val (.ref b9), .val (.int (own_b (own_ok (0 : Int32) (128 : Int32) (191 : Int32) x0))), .val (.int (own_b (own_ok (own_nd (0 : Int32) x0) (own_lo (0 : Int32) (128 : Int32) x0) (own_hi (0 : Int32) (191 : Int32) x0) x1))), .unset, .unset] [])) (fun _ kgo => XS.ifYes X18.here hx rfl (pc0 := 174) (pc' := 179) rfl (hb hby at_174) rfl ((if0 _ _).trans (feq (own_b_n hc21)).2) (by decide) (by decide) kgo) ?_
        have hm1 := hk1.2 (hk1.1 ▸ hc21)
        refine own_go (g' := (mkF m 181 #[.val (.int p0), .val (.int p1), .val (.int p2), .val (.int p3), .val (.ref b1), .val (.ref b6), .val (.ref b7), .val (.int pz), .val (.ref b9), .val (.int (own_b (own_ok (0 : Int32) (128 : Int32) (191 : Int32) x0))), .val (.int (own_b (own_ok (own_nd (0 : Int32) x0) (own_lo (0 : Int32) (128 : Int32) x0) (own_hi (0 : Int32) (191 : Int32) x0) x1))), .unset, .unset] [(.ref b9)])) (fun _ kgo => XS.aload X18.here hx rfl (hb hby at_179) rfl rfl kgo) ?_
        obtain ⟨v22, T22, L22, hQ22, X22, st22⟩ := own_callV X18 hx hZ (y := (⟨"com/example/firm_tread/firmtread/transport/Utf8", "isComplete", "()Z"⟩ : MethodName)) (z := (⟨"com/example/firm_tread/firmtread/transport/Utf8", "isComplete", "()Z"⟩ : MethodName)) hown (hw _ (List.mem_of_getElem? (i := 26) rfl)) (hw _ (List.mem_of_getElem? (i := 27) rfl)) (notFace_of_selects (args := #[]) (mvT hZ (hw _ (List.mem_of_getElem? (i := 29) rfl)))) (hw _ (List.mem_of_getElem? (i := 29) rfl)) (hw _ (List.mem_of_getElem? (i := 28) rfl)) (hw _ (List.mem_of_getElem? (i := 8) rfl)) (hw _ (List.mem_of_getElem? (i := 30) rfl)) ⟨by decide, by decide⟩ (a := b9) (argsL := []) (rm5 l Z a0 hw b9 (own_nd (own_nd (0 : Int32) x0) x1) T18.heap q18_1) rfl q18_0 (g := (mkF m 181 #[.val (.int p0), .val (.int p1), .val (.int p2), .val (.int p3), .val (.ref b1), .val (.ref b6), .val (.ref b7), .val (.int pz), .val (.ref b9), .val (.int (own_b (own_ok (0 : Int32) (128 : Int32) (191 : Int32) x0))), .val (.int (own_b (own_ok (own_nd (0 : Int32) x0) (own_lo (0 : Int32) (128 : Int32) x0) (own_hi (0 : Int32) (191 : Int32) x0) x1))), .unset, .unset] [(.ref b9)])) rfl (by rw [hml]; rfl) (rest := []) (lenOf pd0_2 rfl) rfl (hb hby at_181) (W := 0) (by show 2 * 0 + _ ≤ _; exact Nat.le_of_eq rfl) (by decide) (by decide) (by decide) (by decide)
        obtain ⟨rfl, e22, rfl⟩ := hQ22
        have N22 := Fr.app N18 (Fr.nil n0)
        refine own_go (g' := (mkF m 184 #[.val (.int p0), .val (.int p1), .val (.int p2), .val (.int p3), .val (.ref b1), .val (.ref b6), .val (.ref b7), .val (.int pz), .val (.ref b9), .val (.int (own_b (own_ok (0 : Int32) (128 : Int32) (191 : Int32) x0))), .val (.int (own_b (own_ok (own_nd (0 : Int32) x0) (own_lo (0 : Int32) (128 : Int32) x0) (own_hi (0 : Int32) (191 : Int32) x0) x1))), .unset, .unset] [(.int (own_b (decide ((own_nd (own_nd (0 : Int32) x0) x1) = 0))))])) (st22) ?_
        refine own_go (g' := (mkF m 186 #[.val (.int p0), .val (.int p1), .val (.int p2), .val (.int p3), .val (.ref b1), .val (.ref b6), .val (.ref b7), .val (.int pz), .val (.ref b9), .val (.int (own_b (own_ok (0 : Int32) (128 : Int32) (191 : Int32) x0))), .val (.int (own_b (own_ok (own_nd (0 : Int32) x0) (own_lo (0 : Int32) (128 : Int32) x0) (own_hi (0 : Int32) (191 : Int32) x0) x1))), .unset, .unset] [(.ref b7), (.int (own_b (decide ((own_nd (own_nd (0 : Int32) x0) x1) = 0))))])) (fun _ kgo => XS.aload X22.here hx rfl (hb hby at_184) rfl rfl kgo) ?_
        refine own_go (g' := (mkF m 187 #[.val (.int p0), .val (.int p1), .val (.int p2), .val (.int p3), .val (.ref b1), .val (.ref b6), .val (.ref b7), .val (.int pz), .val (.ref b9), .val (.int (own_b (own_ok (0 : Int32) (128 : Int32) (191 : Int32) x0))), .val (.int (own_b (own_ok (own_nd (0 : Int32) x0) (own_lo (0 : Int32) (128 : Int32) x0) (own_hi (0 : Int32) (191 : Int32) x0) x1))), .unset, .unset] [(.int (1 : Int32)), (.ref b7), (.int (own_b (decide ((own_nd (own_nd (0 : Int32) x0) x1) = 0))))])) (fun _ kgo => XS.iconst X22.here hx rfl (hb hby at_186) kgo) ?_
        have fx23 : Arv Z T18.heap b7 k7 .boolean (4 : Int32) [(.int (own_b cc0)), (.int (own_b cc1)), (.int (own_b cc2)), (.int (own_b cc3))] (.int (0 : Int32)) := (Arv.keep fx16 Kq18 (ninS ne_b7_b9 nin0))
        obtain ⟨cl24, Ar24, qk24, sz24, nn24, Hs24, Gs24⟩ := id fx23
        have hin24 : ¬ ((1 : Int32) < 0 ∨ cl24.slots.size ≤ ((1 : Int32)).toNatClampNeg) := inb_of sz24 ⟨by decide, by decide⟩
        have hat24 : cl24.slots[((1 : Int32)).toNatClampNeg]? = some (.int (own_b cc1)) := Has.at Hs24 hin24 rfl
        refine own_go (g' := (mkF m 188 #[.val (.int p0), .val (.int p1), .val (.int p2), .val (.int p3), .val (.ref b1), .val (.ref b6), .val (.ref b7), .val (.int pz), .val (.ref b9), .val (.int (own_b (own_ok (0 : Int32) (128 : Int32) (191 : Int32) x0))), .val (.int (own_b (own_ok (own_nd (0 : Int32) x0) (own_lo (0 : Int32) (128 : Int32) x0) (own_hi (0 : Int32) (191 : Int32) x0) x1))), .unset, .unset] [(.int (own_b cc1)), (.int (own_b (decide ((own_nd (own_nd (0 : Int32) x0) x1) = 0))))])) (X22.baloadBooleans hx (j := (1 : Int32)) (v := (.int (own_b cc1))) (by rw [e22]; exact Ar24.1) (State.isArrayOf_alike hZ.alike Ar24.2.1) Ar24.2.2 hin24 hat24 (g := (mkF m 187 #[.val (.int p0), .val (.int p1), .val (.int p2), .val (.int p3), .val (.ref b1), .val (.ref b6), .val (.ref b7), .val (.int pz), .val (.ref b9), .val (.int (own_b (own_ok (0 : Int32) (128 : Int32) (191 : Int32) x0))), .val (.int (own_b (own_ok (own_nd (0 : Int32) x0) (own_lo (0 : Int32) (128 : Int32) x0) (own_hi (0 : Int32) (191 : Int32) x0) x1))), .unset, .unset] [(.int (1 : Int32)), (.ref b7), (.int (own_b (decide ((own_nd (own_nd (0 : Int32) x0) x1) = 0))))])) rfl rfl (hb hby at_187)) ?_
        refine own_go (g' := (mkF m 193 #[.val (.int p0), .val (.int p1), .val (.int p2), .val (.int p3), .val (.ref b1), .val (.ref b6), .val (.ref b7), .val (.int pz), .val (.ref b9), .val (.int (own_b (own_ok (0 : Int32) (128 : Int32) (191 : Int32) x0))), .val (.int (own_b (own_ok (own_nd (0 : Int32) x0) (own_lo (0 : Int32) (128 : Int32) x0) (own_hi (0 : Int32) (191 : Int32) x0) x1))), .unset, .unset] [])) (fun _ kgo => XS.icmpYes X22.here hx rfl (pc0 := 188) (pc' := 193) rfl (hb hby at_188) rfl (teq (congrArg own_b hm1.1)).1 (by decide) (by decide) kgo) ?_
        refine own_go (g' := (mkF m 195 #[.val (.int p0), .val (.int p1), .val (.int p2), .val (.int p3), .val (.ref b1), .val (.ref b6), .val (.ref b7), .val (.int pz), .val (.ref b9), .val (.int (own_b (own_ok (0 : Int32) (128 : Int32) (191 : Int32) x0))), .val (.int (own_b (own_ok (own_nd (0 : Int32) x0) (own_lo (0 : Int32) (128 : Int32) x0) (own_hi (0 : Int32) (191 : Int32) x0) x1))), .unset, .unset] [(.ref b9)])) (fun _ kgo => XS.aload X22.here hx rfl (hb hby at_193) rfl rfl kgo) ?_
        refine own_go (g' := (mkF m 196 #[.val (.int p0), .val (.int p1), .val (.int p2), .val (.int p3), .val (.ref b1), .val (.ref b6), .val (.ref b7), .val (.int pz), .val (.ref b9), .val (.int (own_b (own_ok (0 : Int32) (128 : Int32) (191 : Int32) x0))), .val (.int (own_b (own_ok (own_nd (0 : Int32) x0) (own_lo (0 : Int32) (128 : Int32) x0) (own_hi (0 : Int32) (191 : Int32) x0) x1))), .unset, .unset] [(.int p2), (.ref b9)])) (fun _ kgo => XS.iloadN X22.here hx rfl (hb hby at_195) rfl kgo) ?_
        refine own_go (g' := (mkF m 197 #[.val (.int p0), .val (.int p1), .val (.int p2), .val (.int p3), .val (.ref b1), .val (.ref b6), .val (.ref b7), .val (.int pz), .val (.ref b9), .val (.int (own_b (own_ok (0 : Int32) (128 : Int32) (191 : Int32) x0))), .val (.int (own_b (own_ok (own_nd (0 : Int32) x0) (own_lo (0 : Int32) (128 : Int32) x0) (own_hi (0 : Int32) (191 : Int32) x0) x1))), .unset, .unset] [(.int (p2.toInt8.toInt32)), (.ref b9)])) (fun _ kgo => XS.i2b X22.here hx rfl (hb hby at_196) rfl kgo) ?_
        have hk2 := own_chk_1 (hm1.2)
        obtain ⟨v25, T25, L25, hQ25, X25, st25⟩ := own_callV X22 hx hZ (y := (⟨"com/example/firm_tread/firmtread/transport/Utf8", "accept", "(B)Z"⟩ : MethodName)) (z := (⟨"com/example/firm_tread/firmtread/transport/Utf8", "accept", "(B)Z"⟩ : MethodName)) hown (hw _ (List.mem_of_getElem? (i := 19) rfl)) (hw _ (List.mem_of_getElem? (i := 20) rfl)) (notFace_of_selects (args := #[]) (mvT hZ (hw _ (List.mem_of_getElem? (i := 22) rfl)))) (hw _ (List.mem_of_getElem? (i := 22) rfl)) (hw _ (List.mem_of_getElem? (i := 21) rfl)) (hw _ (List.mem_of_getElem? (i := 8) rfl)) (hw _ (List.mem_of_getElem? (i := 23) rfl)) ⟨by decide, by decide⟩ (a := b9) (argsL := [(.int (p2.toInt8.toInt32))]) (rm4 l Z a0 hw b9 (p2.toInt8.toInt32) (own_nd (own_nd (0 : Int32) x0) x1) (own_lo (own_nd (0 : Int32) x0) (own_lo (0 : Int32) (128 : Int32) x0) x1) (own_hi (own_nd (0 : Int32) x0) (own_hi (0 : Int32) (191 : Int32) x0) x1) x2 T18.heap n0 Z18 ge_b9 q18_0 q18_1 q18_2 q18_3 ((own_bm _).trans hx2.symm)) e22 q18_0 (g := (mkF m 197 #[.val (.int p0), .val (.int p1), .val (.int p2), .val (.int p3), .val (.ref b1), .val (.ref b6), .val (.ref b7), .val (.int pz), .val (.ref b9), .val (.int (own_b (own_ok (0 : Int32) (128 : Int32) (191 : Int32) x0))), .val (.int (own_b (own_ok (own_nd (0 : Int32) x0) (own_lo (0 : Int32) (128 : Int32) x0) (own_hi (0 : Int32) (191 : Int32) x0) x1))), .unset, .unset] [(.int (p2.toInt8.toInt32)), (.ref b9)])) rfl (by rw [hml]; rfl) (rest := []) (lenOf pd0_1 rfl) rfl (hb hby at_197) (W := 0) (by show 2 * 0 + _ ≤ _; exact Nat.le_of_eq rfl) (by decide) (by decide) (by decide) (by decide)
        obtain ⟨rfl, Nq25, Kq25, q25_0, q25_1, q25_2, q25_3⟩ := hQ25
        have N25 := Fr.app N22 Nq25
        have Z25 : n0 ≤ T25.heap.size := Nat.le_trans Z18 Kq25.1
        refine own_go (g' := (mkF m 200 #[.val (.int p0), .val (.int p1), .val (.int p2), .val (.int p3), .val (.ref b1), .val (.ref b6), .val (.ref b7), .val (.int pz), .val (.ref b9), .val (.int (own_b (own_ok (0 : Int32) (128 : Int32) (191 : Int32) x0))), .val (.int (own_b (own_ok (own_nd (0 : Int32) x0) (own_lo (0 : Int32) (128 : Int32) x0) (own_hi (0 : Int32) (191 : Int32) x0) x1))), .unset, .unset] [(.int (own_b (own_ok (own_nd (own_nd (0 : Int32) x0) x1) (own_lo (own_nd (0 : Int32) x0) (own_lo (0 : Int32) (128 : Int32) x0) x1) (own_hi (own_nd (0 : Int32) x0) (own_hi (0 : Int32) (191 : Int32) x0) x1) x2)))])) (st25) ?_
        refine own_go (g' := (mkF m 202 #[.val (.int p0), .val (.int p1), .val (.int p2), .val (.int p3), .val (.ref b1), .val (.ref b6), .val (.ref b7), .val (.int pz), .val (.ref b9), .val (.int (own_b (own_ok (0 : Int32) (128 : Int32) (191 : Int32) x0))), .val (.int (own_b (own_ok (own_nd (0 : Int32) x0) (own_lo (0 : Int32) (128 : Int32) x0) (own_hi (0 : Int32) (191 : Int32) x0) x1))), .val (.int (own_b (own_ok (own_nd (own_nd (0 : Int32) x0) x1) (own_lo (own_nd (0 : Int32) x0) (own_lo (0 : Int32) (128 : Int32) x0) x1) (own_hi (own_nd (0 : Int32) x0) (own_hi (0 : Int32) (191 : Int32) x0) x1) x2))), .unset] [])) (fun _ kgo => XS.istore X25.here hx rfl (hb hby at_200) rfl (l' := #[.val (.int p0), .val (.int p1), .val (.int p2), .val (.int p3), .val (.ref b1), .val (.ref b6), .val (.ref b7), .val (.int pz), .val (.ref b9), .val (.int (own_b (own_ok (0 : Int32) (128 : Int32) (191 : Int32) x0))), .val (.int (own_b (own_ok (own_nd (0 : Int32) x0) (own_lo (0 : Int32) (128 : Int32) x0) (own_hi (0 : Int32) (191 : Int32) x0) x1))), .val (.int (own_b (own_ok (own_nd (own_nd (0 : Int32) x0) x1) (own_lo (own_nd (0 : Int32) x0) (own_lo (0 : Int32) (128 : Int32) x0) x1) (own_hi (own_nd (0 : Int32) x0) (own_hi (0 : Int32) (191 : Int32) x0) x1) x2))), .unset]) rfl kgo) ?_
        refine own_go (g' := (mkF m 204 #[.val (.int p0), .val (.int p1), .val (.int p2), .val (.int p3), .val (.ref b1), .val (.ref b6), .val (.ref b7), .val (.int pz), .val (.ref b9), .val (.int (own_b (own_ok (0 : Int32) (128 : Int32) (191 : Int32) x0))), .val (.int (own_b (own_ok (own_nd (0 : Int32) x0) (own_lo (0 : Int32) (128 : Int32) x0) (own_hi (0 : Int32) (191 : Int32) x0) x1))), .val (.int (own_b (own_ok (own_nd (own_nd (0 : Int32) x0) x1) (own_lo (own_nd (0 : Int32) x0) (own_lo (0 : Int32) (128 : Int32) x0) x1) (own_hi (own_nd (0 : Int32) x0) (own_hi (0 : Int32) (191 : Int32) x0) x1) x2))), .unset] [(.int (own_b (own_ok (own_nd (own_nd (0 : Int32) x0) x1) (own_lo (own_nd (0 : Int32) x0) (own_lo (0 : Int32) (128 : Int32) x0) x1) (own_hi (own_nd (0 : Int32) x0) (own_hi (0 : Int32) (191 : Int32) x0) x1) x2)))])) (fun _ kgo => XS.iload X25.here hx rfl (hb hby at_202) rfl kgo) ?_
        refine own_go (g' := (mkF m 206 #[.val (.int p0), .val (.int p1), .val (.int p2), .val (.int p3), .val (.ref b1), .val (.ref b6), .val (.ref b7), .val (.int pz), .val (.ref b9), .val (.int (own_b (own_ok (0 : Int32) (128 : Int32) (191 : Int32) x0))), .val (.int (own_b (own_ok (own_nd (0 : Int32) x0) (own_lo (0 : Int32) (128 : Int32) x0) (own_hi (0 : Int32) (191 : Int32) x0) x1))), .val (.int (own_b (own_ok (own_nd (own_nd (0 : Int32) x0) x1) (own_lo (own_nd (0 : Int32) x0) (own_lo (0 : Int32) (128 : Int32) x0) x1) (own_hi (own_nd (0 : Int32) x0) (own_hi (0 : Int32) (191 : Int32) x0) x1) x2))), .unset] [(.ref b6), (.int (own_b (own_ok (own_nd (own_nd (0 : Int32) x0) x1) (own_lo (own_nd (0 : Int32) x0) (own_lo (0 : Int32) (128 : Int32) x0) x1) (own_hi (own_nd (0 : Int32) x0) (own_hi (0 : Int32) (191 : Int32) x0) x1) x2)))])) (fun _ kgo => XS.aload X25.here hx rfl (hb hby at_204) rfl rfl kgo) ?_
        refine own_go (g' := (mkF m 207 #[.val (.int p0), .val (.int p1), .val (.int p2), .val (.int p3), .val (.ref b1), .val (.ref b6), .val (.ref b7), .val (.int pz), .val (.ref b9), .val (.int (own_b (own_ok (0 : Int32) (128 : Int32) (191 : Int32) x0))), .val (.int (own_b (own_ok (own_nd (0 : Int32) x0) (own_lo (0 : Int32) (128 : Int32) x0) (own_hi (0 : Int32) (191 : Int32) x0) x1))), .val (.int (own_b (own_ok (own_nd (own_nd (0 : Int32) x0) x1) (own_lo (own_nd (0 : Int32) x0) (own_lo (0 : Int32) (128 : Int32) x0) x1) (own_hi (own_nd (0 : Int32) x0) (own_hi (0 : Int32) (191 : Int32) x0) x1) x2))), .unset] [(.int (2 : Int32)), (.ref b6), (.int (own_b (own_ok (own_nd (own_nd (0 : Int32) x0) x1) (own_lo (own_nd (0 : Int32) x0) (own_lo (0 : Int32) (128 : Int32) x0) x1) (own_hi (own_nd (0 : Int32) x0) (own_hi (0 : Int32) (191 : Int32) x0) x1) x2)))])) (fun _ kgo => XS.iconst X25.here hx rfl (hb hby at_206) kgo) ?_
        have fx26 : Arv Z T25.heap b6 k6 .boolean (4 : Int32) [(.int (own_b oo0)), (.int (own_b oo1)), (.int (own_b oo2)), (.int (own_b oo3))] (.int (0 : Int32)) := (Arv.keep fx19 Kq25 (ninS ne_b6_b9 nin0))
        obtain ⟨cl27, Ar27, qk27, sz27, nn27, Hs27, Gs27⟩ := id fx26
        have hin27 : ¬ ((2 : Int32) < 0 ∨ cl27.slots.size ≤ ((2 : Int32)).toNatClampNeg) := inb_of sz27 ⟨by decide, by decide⟩
        have hat27 : cl27.slots[((2 : Int32)).toNatClampNeg]? = some (.int (own_b oo2)) := Has.at Hs27 hin27 rfl
        refine own_go (g' := (mkF m 208 #[.val (.int p0), .val (.int p1), .val (.int p2), .val (.int p3), .val (.ref b1), .val (.ref b6), .val (.ref b7), .val (.int pz), .val (.ref b9), .val (.int (own_b (own_ok (0 : Int32) (128 : Int32) (191 : Int32) x0))), .val (.int (own_b (own_ok (own_nd (0 : Int32) x0) (own_lo (0 : Int32) (128 : Int32) x0) (own_hi (0 : Int32) (191 : Int32) x0) x1))), .val (.int (own_b (own_ok (own_nd (own_nd (0 : Int32) x0) x1) (own_lo (own_nd (0 : Int32) x0) (own_lo (0 : Int32) (128 : Int32) x0) x1) (own_hi (own_nd (0 : Int32) x0) (own_hi (0 : Int32) (191 : Int32) x0) x1) x2))), .unset] [(.int (own_b oo2)), (.int (own_b (own_ok (own_nd (own_nd (0 : Int32) x0) x1) (own_lo (own_nd (0 : Int32) x0) (own_lo (0 : Int32) (128 : Int32) x0) x1) (own_hi (own_nd (0 : Int32) x0) (own_hi (0 : Int32) (191 : Int32) x0) x1) x2)))])) (X25.baloadBooleans hx (j := (2 : Int32)) (v := (.int (own_b oo2))) Ar27.1 (State.isArrayOf_alike hZ.alike Ar27.2.1) Ar27.2.2 hin27 hat27 (g := (mkF m 207 #[.val (.int p0), .val (.int p1), .val (.int p2), .val (.int p3), .val (.ref b1), .val (.ref b6), .val (.ref b7), .val (.int pz), .val (.ref b9), .val (.int (own_b (own_ok (0 : Int32) (128 : Int32) (191 : Int32) x0))), .val (.int (own_b (own_ok (own_nd (0 : Int32) x0) (own_lo (0 : Int32) (128 : Int32) x0) (own_hi (0 : Int32) (191 : Int32) x0) x1))), .val (.int (own_b (own_ok (own_nd (own_nd (0 : Int32) x0) x1) (own_lo (own_nd (0 : Int32) x0) (own_lo (0 : Int32) (128 : Int32) x0) x1) (own_hi (own_nd (0 : Int32) x0) (own_hi (0 : Int32) (191 : Int32) x0) x1) x2))), .unset] [(.int (2 : Int32)), (.ref b6), (.int (own_b (own_ok (own_nd (own_nd (0 : Int32) x0) x1) (own_lo (own_nd (0 : Int32) x0) (own_lo (0 : Int32) (128 : Int32) x0) x1) (own_hi (own_nd (0 : Int32) x0) (own_hi (0 : Int32) (191 : Int32) x0) x1) x2)))])) rfl rfl (hb hby at_207)) ?_
        refine own_go (g' := (mkF m 213 #[.val (.int p0), .val (.int p1), .val (.int p2), .val (.int p3), .val (.ref b1), .val (.ref b6), .val (.ref b7), .val (.int pz), .val (.ref b9), .val (.int (own_b (own_ok (0 : Int32) (128 : Int32) (191 : Int32) x0))), .val (.int (own_b (own_ok (own_nd (0 : Int32) x0) (own_lo (0 : Int32) (128 : Int32) x0) (own_hi (0 : Int32) (191 : Int32) x0) x1))), .val (.int (own_b (own_ok (own_nd (own_nd (0 : Int32) x0) x1) (own_lo (own_nd (0 : Int32) x0) (own_lo (0 : Int32) (128 : Int32) x0) x1) (own_hi (own_nd (0 : Int32) x0) (own_hi (0 : Int32) (191 : Int32) x0) x1) x2))), .unset] [])) (fun _ kgo => XS.icmpYes X25.here hx rfl (pc0 := 208) (pc' := 213) rfl (hb hby at_208) rfl (teq (congrArg own_b hk2.1)).1 (by decide) (by decide) kgo) ?_
        refine own_go (g' := (mkF m 215 #[.val (.int p0), .val (.int p1), .val (.int p2), .val (.int p3), .val (.ref b1), .val (.ref b6), .val (.ref b7), .val (.int pz), .val (.ref b9), .val (.int (own_b (own_ok (0 : Int32) (128 : Int32) (191 : Int32) x0))), .val (.int (own_b (own_ok (own_nd (0 : Int32) x0) (own_lo (0 : Int32) (128 : Int32) x0) (own_hi (0 : Int32) (191 : Int32) x0) x1))), .val (.int (own_b (own_ok (own_nd (own_nd (0 : Int32) x0) x1) (own_lo (own_nd (0 : Int32) x0) (own_lo (0 : Int32) (128 : Int32) x0) x1) (own_hi (own_nd (0 : Int32) x0) (own_hi (0 : Int32) (191 : Int32) x0) x1) x2))), .unset] [(.int (own_b (own_ok (own_nd (own_nd (0 : Int32) x0) x1) (own_lo (own_nd (0 : Int32) x0) (own_lo (0 : Int32) (128 : Int32) x0) x1) (own_hi (own_nd (0 : Int32) x0) (own_hi (0 : Int32) (191 : Int32) x0) x1) x2)))])) (fun _ kgo => XS.iload X25.here hx rfl (hb hby at_213) rfl kgo) ?_
        by_cases hc28 : (own_ok (own_nd (own_nd (0 : Int32) x0) x1) (own_lo (own_nd (0 : Int32) x0) (own_lo (0 : Int32) (128 : Int32) x0) x1) (own_hi (own_nd (0 : Int32) x0) (own_hi (0 : Int32) (191 : Int32) x0) x1) x2) = true
        ·
          refine own_go (g' := (mkF m 220 #[.val (.int p0), .val (.int p1), .val (.int p2), .val (.int p3), .val (.ref b1), .val (.ref b6), .val (.ref b7), .val (.int pz), .val (.ref b9), .val (.int (own_b (own_ok (0 : Int32) (128 : Int32) (191 : Int32) x0))), .val (.int (own_b (own_ok (own_nd (0 : Int32) x0) (own_lo (0 : Int32) (128 : Int32) x0) (own_hi (0 : Int32) (191 : Int32) x0) x1))), .val (.int (own_b (own_ok (own_nd (own_nd (0 : Int32) x0) x1) (own_lo (own_nd (0 : Int32) x0) (own_lo (0 : Int32) (128 : Int32) x0) x1) (own_hi (own_nd (0 : Int32) x0) (own_hi (0 : Int32) (191 : Int32) x0) x1) x2))), .unset] [])) (fun _ kgo => XS.ifYes X25.here hx rfl (pc0 := 215) (pc' := 220) rfl (hb hby at_215) rfl ((if0 _ _).trans (feq (own_b_n hc28)).2) (by decide) (by decide) kgo) ?_
          have hm2 := hk2.2 (hk2.1 ▸ hc28)
          refine own_go (g' := (mkF m 222 #[.val (.int p0), .val (.int p1), .val (.int p2), .val (.int p3), .val (.ref b1), .val (.ref b6), .val (.ref b7), .val (.int pz), .val (.ref b9), .val (.int (own_b (own_ok (0 : Int32) (128 : Int32) (191 : Int32) x0))), .val (.int (own_b (own_ok (own_nd (0 : Int32) x0) (own_lo (0 : Int32) (128 : Int32) x0) (own_hi (0 : Int32) (191 : Int32) x0) x1))), .val (.int (own_b (own_ok (own_nd (own_nd (0 : Int32) x0) x1) (own_lo (own_nd (0 : Int32) x0) (own_lo (0 : Int32) (128 : Int32) x0) x1) (own_hi (own_nd (0 : Int32) x0) (own_hi (0 : Int32) (191 : Int32) x0) x1) x2))), .unset] [(.ref b9)])) (fun _ kgo => XS.aload X25.here hx rfl (hb hby at_220) rfl rfl kgo) ?_
          obtain ⟨v29, T29, L29, hQ29, X29, st29⟩ := own_callV X25 hx hZ (y := (⟨"com/example/firm_tread/firmtread/transport/Utf8", "isComplete", "()Z"⟩ : MethodName)) (z := (⟨"com/example/firm_tread/firmtread/transport/Utf8", "isComplete", "()Z"⟩ : MethodName)) hown (hw _ (List.mem_of_getElem? (i := 26) rfl)) (hw _ (List.mem_of_getElem? (i := 27) rfl)) (notFace_of_selects (args := #[]) (mvT hZ (hw _ (List.mem_of_getElem? (i := 29) rfl)))) (hw _ (List.mem_of_getElem? (i := 29) rfl)) (hw _ (List.mem_of_getElem? (i := 28) rfl)) (hw _ (List.mem_of_getElem? (i := 8) rfl)) (hw _ (List.mem_of_getElem? (i := 30) rfl)) ⟨by decide, by decide⟩ (a := b9) (argsL := []) (rm5 l Z a0 hw b9 (own_nd (own_nd (own_nd (0 : Int32) x0) x1) x2) T25.heap q25_1) rfl q25_0 (g := (mkF m 222 #[.val (.int p0), .val (.int p1), .val (.int p2), .val (.int p3), .val (.ref b1), .val (.ref b6), .val (.ref b7), .val (.int pz), .val (.ref b9), .val (.int (own_b (own_ok (0 : Int32) (128 : Int32) (191 : Int32) x0))), .val (.int (own_b (own_ok (own_nd (0 : Int32) x0) (own_lo (0 : Int32) (128 : Int32) x0) (own_hi (0 : Int32) (191 : Int32) x0) x1))), .val (.int (own_b (own_ok (own_nd (own_nd (0 : Int32) x0) x1) (own_lo (own_nd (0 : Int32) x0) (own_lo (0 : Int32) (128 : Int32) x0) x1) (own_hi (own_nd (0 : Int32) x0) (own_hi (0 : Int32) (191 : Int32) x0) x1) x2))), .unset] [(.ref b9)])) rfl (by rw [hml]; rfl) (rest := []) (lenOf pd0_2 rfl) rfl (hb hby at_222) (W := 0) (by show 2 * 0 + _ ≤ _; exact Nat.le_of_eq rfl) (by decide) (by decide) (by decide) (by decide)
          obtain ⟨rfl, e29, rfl⟩ := hQ29
          have N29 := Fr.app N25 (Fr.nil n0)
          refine own_go (g' := (mkF m 225 #[.val (.int p0), .val (.int p1), .val (.int p2), .val (.int p3), .val (.ref b1), .val (.ref b6), .val (.ref b7), .val (.int pz), .val (.ref b9), .val (.int (own_b (own_ok (0 : Int32) (128 : Int32) (191 : Int32) x0))), .val (.int (own_b (own_ok (own_nd (0 : Int32) x0) (own_lo (0 : Int32) (128 : Int32) x0) (own_hi (0 : Int32) (191 : Int32) x0) x1))), .val (.int (own_b (own_ok (own_nd (own_nd (0 : Int32) x0) x1) (own_lo (own_nd (0 : Int32) x0) (own_lo (0 : Int32) (128 : Int32) x0) x1) (own_hi (own_nd (0 : Int32) x0) (own_hi (0 : Int32) (191 : Int32) x0) x1) x2))), .unset] [(.int (own_b (decide ((own_nd (own_nd (own_nd (0 : Int32) x0) x1) x2) = 0))))])) (st29) ?_
          refine own_go (g' := (mkF m 227 #[.val (.int p0), .val (.int p1), .val (.int p2), .val (.int p3), .val (.ref b1), .val (.ref b6), .val (.ref b7), .val (.int pz), .val (.ref b9), .val (.int (own_b (own_ok (0 : Int32) (128 : Int32) (191 : Int32) x0))), .val (.int (own_b (own_ok (own_nd (0 : Int32) x0) (own_lo (0 : Int32) (128 : Int32) x0) (own_hi (0 : Int32) (191 : Int32) x0) x1))), .val (.int (own_b (own_ok (own_nd (own_nd (0 : Int32) x0) x1) (own_lo (own_nd (0 : Int32) x0) (own_lo (0 : Int32) (128 : Int32) x0) x1) (own_hi (own_nd (0 : Int32) x0) (own_hi (0 : Int32) (191 : Int32) x0) x1) x2))), .unset] [(.ref b7), (.int (own_b (decide ((own_nd (own_nd (own_nd (0 : Int32) x0) x1) x2) = 0))))])) (fun _ kgo => XS.aload X29.here hx rfl (hb hby at_225) rfl rfl kgo) ?_
          refine own_go (g' := (mkF m 228 #[.val (.int p0), .val (.int p1), .val (.int p2), .val (.int p3), .val (.ref b1), .val (.ref b6), .val (.ref b7), .val (.int pz), .val (.ref b9), .val (.int (own_b (own_ok (0 : Int32) (128 : Int32) (191 : Int32) x0))), .val (.int (own_b (own_ok (own_nd (0 : Int32) x0) (own_lo (0 : Int32) (128 : Int32) x0) (own_hi (0 : Int32) (191 : Int32) x0) x1))), .val (.int (own_b (own_ok (own_nd (own_nd (0 : Int32) x0) x1) (own_lo (own_nd (0 : Int32) x0) (own_lo (0 : Int32) (128 : Int32) x0) x1) (own_hi (own_nd (0 : Int32) x0) (own_hi (0 : Int32) (191 : Int32) x0) x1) x2))), .unset] [(.int (2 : Int32)), (.ref b7), (.int (own_b (decide ((own_nd (own_nd (own_nd (0 : Int32) x0) x1) x2) = 0))))])) (fun _ kgo => XS.iconst X29.here hx rfl (hb hby at_227) kgo) ?_
          have fx30 : Arv Z T25.heap b7 k7 .boolean (4 : Int32) [(.int (own_b cc0)), (.int (own_b cc1)), (.int (own_b cc2)), (.int (own_b cc3))] (.int (0 : Int32)) := (Arv.keep fx23 Kq25 (ninS ne_b7_b9 nin0))
          obtain ⟨cl31, Ar31, qk31, sz31, nn31, Hs31, Gs31⟩ := id fx30
          have hin31 : ¬ ((2 : Int32) < 0 ∨ cl31.slots.size ≤ ((2 : Int32)).toNatClampNeg) := inb_of sz31 ⟨by decide, by decide⟩
          have hat31 : cl31.slots[((2 : Int32)).toNatClampNeg]? = some (.int (own_b cc2)) := Has.at Hs31 hin31 rfl
          refine own_go (g' := (mkF m 229 #[.val (.int p0), .val (.int p1), .val (.int p2), .val (.int p3), .val (.ref b1), .val (.ref b6), .val (.ref b7), .val (.int pz), .val (.ref b9), .val (.int (own_b (own_ok (0 : Int32) (128 : Int32) (191 : Int32) x0))), .val (.int (own_b (own_ok (own_nd (0 : Int32) x0) (own_lo (0 : Int32) (128 : Int32) x0) (own_hi (0 : Int32) (191 : Int32) x0) x1))), .val (.int (own_b (own_ok (own_nd (own_nd (0 : Int32) x0) x1) (own_lo (own_nd (0 : Int32) x0) (own_lo (0 : Int32) (128 : Int32) x0) x1) (own_hi (own_nd (0 : Int32) x0) (own_hi (0 : Int32) (191 : Int32) x0) x1) x2))), .unset] [(.int (own_b cc2)), (.int (own_b (decide ((own_nd (own_nd (own_nd (0 : Int32) x0) x1) x2) = 0))))])) (X29.baloadBooleans hx (j := (2 : Int32)) (v := (.int (own_b cc2))) (by rw [e29]; exact Ar31.1) (State.isArrayOf_alike hZ.alike Ar31.2.1) Ar31.2.2 hin31 hat31 (g := (mkF m 228 #[.val (.int p0), .val (.int p1), .val (.int p2), .val (.int p3), .val (.ref b1), .val (.ref b6), .val (.ref b7), .val (.int pz), .val (.ref b9), .val (.int (own_b (own_ok (0 : Int32) (128 : Int32) (191 : Int32) x0))), .val (.int (own_b (own_ok (own_nd (0 : Int32) x0) (own_lo (0 : Int32) (128 : Int32) x0) (own_hi (0 : Int32) (191 : Int32) x0) x1))), .val (.int (own_b (own_ok (own_nd (own_nd (0 : Int32) x0) x1) (own_lo (own_nd (0 : Int32) x0) (own_lo (0 : Int32) (128 : Int32) x0) x1) (own_hi (own_nd (0 : Int32) x0) (own_hi (0 : Int32) (191 : Int32) x0) x1) x2))), .unset] [(.int (2 : Int32)), (.ref b7), (.int (own_b (decide ((own_nd (own_nd (own_nd (0 : Int32) x0) x1) x2) = 0))))])) rfl rfl (hb hby at_228)) ?_
          refine own_go (g' := (mkF m 234 #[.val (.int p0), .val (.int p1), .val (.int p2), .val (.int p3), .val (.ref b1), .val (.ref b6), .val (.ref b7), .val (.int pz), .val (.ref b9), .val (.int (own_b (own_ok (0 : Int32) (128 : Int32) (191 : Int32) x0))), .val (.int (own_b (own_ok (own_nd (0 : Int32) x0) (own_lo (0 : Int32) (128 : Int32) x0) (own_hi (0 : Int32) (191 : Int32) x0) x1))), .val (.int (own_b (own_ok (own_nd (own_nd (0 : Int32) x0) x1) (own_lo (own_nd (0 : Int32) x0) (own_lo (0 : Int32) (128 : Int32) x0) x1) (own_hi (own_nd (0 : Int32) x0) (own_hi (0 : Int32) (191 : Int32) x0) x1) x2))), .unset] [])) (fun _ kgo => XS.icmpYes X29.here hx rfl (pc0 := 229) (pc' := 234) rfl (hb hby at_229) rfl (teq (congrArg own_b hm2.1)).1 (by decide) (by decide) kgo) ?_
          refine own_go (g' := (mkF m 236 #[.val (.int p0), .val (.int p1), .val (.int p2), .val (.int p3), .val (.ref b1), .val (.ref b6), .val (.ref b7), .val (.int pz), .val (.ref b9), .val (.int (own_b (own_ok (0 : Int32) (128 : Int32) (191 : Int32) x0))), .val (.int (own_b (own_ok (own_nd (0 : Int32) x0) (own_lo (0 : Int32) (128 : Int32) x0) (own_hi (0 : Int32) (191 : Int32) x0) x1))), .val (.int (own_b (own_ok (own_nd (own_nd (0 : Int32) x0) x1) (own_lo (own_nd (0 : Int32) x0) (own_lo (0 : Int32) (128 : Int32) x0) x1) (own_hi (own_nd (0 : Int32) x0) (own_hi (0 : Int32) (191 : Int32) x0) x1) x2))), .unset] [(.ref b9)])) (fun _ kgo => XS.aload X29.here hx rfl (hb hby at_234) rfl rfl kgo) ?_
          refine own_go (g' := (mkF m 237 #[.val (.int p0), .val (.int p1), .val (.int p2), .val (.int p3), .val (.ref b1), .val (.ref b6), .val (.ref b7), .val (.int pz), .val (.ref b9), .val (.int (own_b (own_ok (0 : Int32) (128 : Int32) (191 : Int32) x0))), .val (.int (own_b (own_ok (own_nd (0 : Int32) x0) (own_lo (0 : Int32) (128 : Int32) x0) (own_hi (0 : Int32) (191 : Int32) x0) x1))), .val (.int (own_b (own_ok (own_nd (own_nd (0 : Int32) x0) x1) (own_lo (own_nd (0 : Int32) x0) (own_lo (0 : Int32) (128 : Int32) x0) x1) (own_hi (own_nd (0 : Int32) x0) (own_hi (0 : Int32) (191 : Int32) x0) x1) x2))), .unset] [(.int p3), (.ref b9)])) (fun _ kgo => XS.iloadN X29.here hx rfl (hb hby at_236) rfl kgo) ?_
          refine own_go (g' := (mkF m 238 #[.val (.int p0), .val (.int p1), .val (.int p2), .val (.int p3), .val (.ref b1), .val (.ref b6), .val (.ref b7), .val (.int pz), .val (.ref b9), .val (.int (own_b (own_ok (0 : Int32) (128 : Int32) (191 : Int32) x0))), .val (.int (own_b (own_ok (own_nd (0 : Int32) x0) (own_lo (0 : Int32) (128 : Int32) x0) (own_hi (0 : Int32) (191 : Int32) x0) x1))), .val (.int (own_b (own_ok (own_nd (own_nd (0 : Int32) x0) x1) (own_lo (own_nd (0 : Int32) x0) (own_lo (0 : Int32) (128 : Int32) x0) x1) (own_hi (own_nd (0 : Int32) x0) (own_hi (0 : Int32) (191 : Int32) x0) x1) x2))), .unset] [(.int (p3.toInt8.toInt32)), (.ref b9)])) (fun _ kgo => XS.i2b X29.here hx rfl (hb hby at_237) rfl kgo) ?_
          have hk3 := own_chk_1 (hm2.2)
          obtain ⟨v32, T32, L32, hQ32, X32, st32⟩ := own_callV X29 hx hZ (y := (⟨"com/example/firm_tread/firmtread/transport/Utf8", "accept", "(B)Z"⟩ : MethodName)) (z := (⟨"com/example/firm_tread/firmtread/transport/Utf8", "accept", "(B)Z"⟩ : MethodName)) hown (hw _ (List.mem_of_getElem? (i := 19) rfl)) (hw _ (List.mem_of_getElem? (i := 20) rfl)) (notFace_of_selects (args := #[]) (mvT hZ (hw _ (List.mem_of_getElem? (i := 22) rfl)))) (hw _ (List.mem_of_getElem? (i := 22) rfl)) (hw _ (List.mem_of_getElem? (i := 21) rfl)) (hw _ (List.mem_of_getElem? (i := 8) rfl)) (hw _ (List.mem_of_getElem? (i := 23) rfl)) ⟨by decide, by decide⟩ (a := b9) (argsL := [(.int (p3.toInt8.toInt32))]) (rm4 l Z a0 hw b9 (p3.toInt8.toInt32) (own_nd (own_nd (own_nd (0 : Int32) x0) x1) x2) (own_lo (own_nd (own_nd (0 : Int32) x0) x1) (own_lo (own_nd (0 : Int32) x0) (own_lo (0 : Int32) (128 : Int32) x0) x1) x2) (own_hi (own_nd (own_nd (0 : Int32) x0) x1) (own_hi (own_nd (0 : Int32) x0) (own_hi (0 : Int32) (191 : Int32) x0) x1) x2) x3 T25.heap n0 Z25 ge_b9 q25_0 q25_1 q25_2 q25_3 ((own_bm _).trans hx3.symm)) e29 q25_0 (g := (mkF m 238 #[.val (.int p0), .val (.int p1), .val (.int p2), .val (.int p3), .val (.ref b1), .val (.ref b6), .val (.ref b7), .val (.int pz), .val (.ref b9), .val (.int (own_b (own_ok (0 : Int32) (128 : Int32) (191 : Int32) x0))), .val (.int (own_b (own_ok (own_nd (0 : Int32) x0) (own_lo (0 : Int32) (128 : Int32) x0) (own_hi (0 : Int32) (191 : Int32) x0) x1))), .val (.int (own_b (own_ok (own_nd (own_nd (0 : Int32) x0) x1) (own_lo (own_nd (0 : Int32) x0) (own_lo (0 : Int32) (128 : Int32) x0) x1) (own_hi (own_nd (0 : Int32) x0) (own_hi (0 : Int32) (191 : Int32) x0) x1) x2))), .unset] [(.int (p3.toInt8.toInt32)), (.ref b9)])) rfl (by rw [hml]; rfl) (rest := []) (lenOf pd0_1 rfl) rfl (hb hby at_238) (W := 0) (by show 2 * 0 + _ ≤ _; exact Nat.le_of_eq rfl) (by decide) (by decide) (by decide) (by decide)
          obtain ⟨rfl, Nq32, Kq32, q32_0, q32_1, q32_2, q32_3⟩ := hQ32
          have N32 := Fr.app N29 Nq32
          have Z32 : n0 ≤ T32.heap.size := Nat.le_trans Z25 Kq32.1
          refine own_go (g' := (mkF m 241 #[.val (.int p0), .val (.int p1), .val (.int p2), .val (.int p3), .val (.ref b1), .val (.ref b6), .val (.ref b7), .val (.int pz), .val (.ref b9), .val (.int (own_b (own_ok (0 : Int32) (128 : Int32) (191 : Int32) x0))), .val (.int (own_b (own_ok (own_nd (0 : Int32) x0) (own_lo (0 : Int32) (128 : Int32) x0) (own_hi (0 : Int32) (191 : Int32) x0) x1))), .val (.int (own_b (own_ok (own_nd (own_nd (0 : Int32) x0) x1) (own_lo (own_nd (0 : Int32) x0) (own_lo (0 : Int32) (128 : Int32) x0) x1) (own_hi (own_nd (0 : Int32) x0) (own_hi (0 : Int32) (191 : Int32) x0) x1) x2))), .unset] [(.int (own_b (own_ok (own_nd (own_nd (own_nd (0 : Int32) x0) x1) x2) (own_lo (own_nd (own_nd (0 : Int32) x0) x1) (own_lo (own_nd (0 : Int32) x0) (own_lo (0 : Int32) (128 : Int32) x0) x1) x2) (own_hi (own_nd (own_nd (0 : Int32) x0) x1) (own_hi (own_nd (0 : Int32) x0) (own_hi (0 : Int32) (191 : Int32) x0) x1) x2) x3)))])) (st32) ?_
          refine own_go (g' := (mkF m 243 #[.val (.int p0), .val (.int p1), .val (.int p2), .val (.int p3), .val (.ref b1), .val (.ref b6), .val (.ref b7), .val (.int pz), .val (.ref b9), .val (.int (own_b (own_ok (0 : Int32) (128 : Int32) (191 : Int32) x0))), .val (.int (own_b (own_ok (own_nd (0 : Int32) x0) (own_lo (0 : Int32) (128 : Int32) x0) (own_hi (0 : Int32) (191 : Int32) x0) x1))), .val (.int (own_b (own_ok (own_nd (own_nd (0 : Int32) x0) x1) (own_lo (own_nd (0 : Int32) x0) (own_lo (0 : Int32) (128 : Int32) x0) x1) (own_hi (own_nd (0 : Int32) x0) (own_hi (0 : Int32) (191 : Int32) x0) x1) x2))), .val (.int (own_b (own_ok (own_nd (own_nd (own_nd (0 : Int32) x0) x1) x2) (own_lo (own_nd (own_nd (0 : Int32) x0) x1) (own_lo (own_nd (0 : Int32) x0) (own_lo (0 : Int32) (128 : Int32) x0) x1) x2) (own_hi (own_nd (own_nd (0 : Int32) x0) x1) (own_hi (own_nd (0 : Int32) x0) (own_hi (0 : Int32) (191 : Int32) x0) x1) x2) x3)))] [])) (fun _ kgo => XS.istore X32.here hx rfl (hb hby at_241) rfl (l' := #[.val (.int p0), .val (.int p1), .val (.int p2), .val (.int p3), .val (.ref b1), .val (.ref b6), .val (.ref b7), .val (.int pz), .val (.ref b9), .val (.int (own_b (own_ok (0 : Int32) (128 : Int32) (191 : Int32) x0))), .val (.int (own_b (own_ok (own_nd (0 : Int32) x0) (own_lo (0 : Int32) (128 : Int32) x0) (own_hi (0 : Int32) (191 : Int32) x0) x1))), .val (.int (own_b (own_ok (own_nd (own_nd (0 : Int32) x0) x1) (own_lo (own_nd (0 : Int32) x0) (own_lo (0 : Int32) (128 : Int32) x0) x1) (own_hi (own_nd (0 : Int32) x0) (own_hi (0 : Int32) (191 : Int32) x0) x1) x2))), .val (.int (own_b (own_ok (own_nd (own_nd (own_nd (0 : Int32) x0) x1) x2) (own_lo (own_nd (own_nd (0 : Int32) x0) x1) (own_lo (own_nd (0 : Int32) x0) (own_lo (0 : Int32) (128 : Int32) x0) x1) x2) (own_hi (own_nd (own_nd (0 : Int32) x0) x1) (own_hi (own_nd (0 : Int32) x0) (own_hi (0 : Int32) (191 : Int32) x0) x1) x2) x3)))]) rfl kgo) ?_
          refine own_go (g' := (mkF m 245 #[.val (.int p0), .val (.int p1), .val (.int p2), .val (.int p3), .val (.ref b1), .val (.ref b6), .val (.ref b7), .val (.int pz), .val (.ref b9), .val (.int (own_b (own_ok (0 : Int32) (128 : Int32) (191 : Int32) x0))), .val (.int (own_b (own_ok (own_nd (0 : Int32) x0) (own_lo (0 : Int32) (128 : Int32) x0) (own_hi (0 : Int32) (191 : Int32) x0) x1))), .val (.int (own_b (own_ok (own_nd (own_nd (0 : Int32) x0) x1) (own_lo (own_nd (0 : Int32) x0) (own_lo (0 : Int32) (128 : Int32) x0) x1) (own_hi (own_nd (0 : Int32) x0) (own_hi (0 : Int32) (191 : Int32) x0) x1) x2))), .val (.int (own_b (own_ok (own_nd (own_nd (own_nd (0 : Int32) x0) x1) x2) (own_lo (own_nd (own_nd (0 : Int32) x0) x1) (own_lo (own_nd (0 : Int32) x0) (own_lo (0 : Int32) (128 : Int32) x0) x1) x2) (own_hi (own_nd (own_nd (0 : Int32) x0) x1) (own_hi (own_nd (0 : Int32) x0) (own_hi (0 : Int32) (191 : Int32) x0) x1) x2) x3)))] [(.int (own_b (own_ok (own_nd (own_nd (own_nd (0 : Int32) x0) x1) x2) (own_lo (own_nd (own_nd (0 : Int32) x0) x1) (own_lo (own_nd (0 : Int32) x0) (own_lo (0 : Int32) (128 : Int32) x0) x1) x2) (own_hi (own_nd (own_nd (0 : Int32) x0) x1) (own_hi (own_nd (0 : Int32) x0) (own_hi (0 : Int32) (191 : Int32) x0) x1) x2) x3)))])) (fun _ kgo => XS.iload X32.here hx rfl (hb hby at_243) rfl kgo) ?_
          refine own_go (g' := (mkF m 247 #[.val (.int p0), .val (.int p1), .val (.int p2), .val (.int p3), .val (.ref b1), .val (.ref b6), .val (.ref b7), .val (.int pz), .val (.ref b9), .val (.int (own_b (own_ok (0 : Int32) (128 : Int32) (191 : Int32) x0))), .val (.int (own_b (own_ok (own_nd (0 : Int32) x0) (own_lo (0 : Int32) (128 : Int32) x0) (own_hi (0 : Int32) (191 : Int32) x0) x1))), .val (.int (own_b (own_ok (own_nd (own_nd (0 : Int32) x0) x1) (own_lo (own_nd (0 : Int32) x0) (own_lo (0 : Int32) (128 : Int32) x0) x1) (own_hi (own_nd (0 : Int32) x0) (own_hi (0 : Int32) (191 : Int32) x0) x1) x2))), .val (.int (own_b (own_ok (own_nd (own_nd (own_nd (0 : Int32) x0) x1) x2) (own_lo (own_nd (own_nd (0 : Int32) x0) x1) (own_lo (own_nd (0 : Int32) x0) (own_lo (0 : Int32) (128 : Int32) x0) x1) x2) (own_hi (own_nd (own_nd (0 : Int32) x0) x1) (own_hi (own_nd (0 : Int32) x0) (own_hi (0 : Int32) (191 : Int32) x0) x1) x2) x3)))] [(.ref b6), (.int (own_b (own_ok (own_nd (own_nd (own_nd (0 : Int32) x0) x1) x2) (own_lo (own_nd (own_nd (0 : Int32) x0) x1) (own_lo (own_nd (0 : Int32) x0) (own_lo (0 : Int32) (128 : Int32) x0) x1) x2) (own_hi (own_nd (own_nd (0 : Int32) x0) x1) (own_hi (own_nd (0 : Int32) x0) (own_hi (0 : Int32) (191 : Int32) x0) x1) x2) x3)))])) (fun _ kgo => XS.aload X32.here hx rfl (hb hby at_245) rfl rfl kgo) ?_
          refine own_go (g' := (mkF m 248 #[.val (.int p0), .val (.int p1), .val (.int p2), .val (.int p3), .val (.ref b1), .val (.ref b6), .val (.ref b7), .val (.int pz), .val (.ref b9), .val (.int (own_b (own_ok (0 : Int32) (128 : Int32) (191 : Int32) x0))), .val (.int (own_b (own_ok (own_nd (0 : Int32) x0) (own_lo (0 : Int32) (128 : Int32) x0) (own_hi (0 : Int32) (191 : Int32) x0) x1))), .val (.int (own_b (own_ok (own_nd (own_nd (0 : Int32) x0) x1) (own_lo (own_nd (0 : Int32) x0) (own_lo (0 : Int32) (128 : Int32) x0) x1) (own_hi (own_nd (0 : Int32) x0) (own_hi (0 : Int32) (191 : Int32) x0) x1) x2))), .val (.int (own_b (own_ok (own_nd (own_nd (own_nd (0 : Int32) x0) x1) x2) (own_lo (own_nd (own_nd (0 : Int32) x0) x1) (own_lo (own_nd (0 : Int32) x0) (own_lo (0 : Int32) (128 : Int32) x0) x1) x2) (own_hi (own_nd (own_nd (0 : Int32) x0) x1) (own_hi (own_nd (0 : Int32) x0) (own_hi (0 : Int32) (191 : Int32) x0) x1) x2) x3)))] [(.int (3 : Int32)), (.ref b6), (.int (own_b (own_ok (own_nd (own_nd (own_nd (0 : Int32) x0) x1) x2) (own_lo (own_nd (own_nd (0 : Int32) x0) x1) (own_lo (own_nd (0 : Int32) x0) (own_lo (0 : Int32) (128 : Int32) x0) x1) x2) (own_hi (own_nd (own_nd (0 : Int32) x0) x1) (own_hi (own_nd (0 : Int32) x0) (own_hi (0 : Int32) (191 : Int32) x0) x1) x2) x3)))])) (fun _ kgo => XS.iconst X32.here hx rfl (hb hby at_247) kgo) ?_
          have fx33 : Arv Z T32.heap b6 k6 .boolean (4 : Int32) [(.int (own_b oo0)), (.int (own_b oo1)), (.int (own_b oo2)), (.int (own_b oo3))] (.int (0 : Int32)) := (Arv.keep fx26 Kq32 (ninS ne_b6_b9 nin0))
          obtain ⟨cl34, Ar34, qk34, sz34, nn34, Hs34, Gs34⟩ := id fx33
          have hin34 : ¬ ((3 : Int32) < 0 ∨ cl34.slots.size ≤ ((3 : Int32)).toNatClampNeg) := inb_of sz34 ⟨by decide, by decide⟩
          have hat34 : cl34.slots[((3 : Int32)).toNatClampNeg]? = some (.int (own_b oo3)) := Has.at Hs34 hin34 rfl
          refine own_go (g' := (mkF m 249 #[.val (.int p0), .val (.int p1), .val (.int p2), .val (.int p3), .val (.ref b1), .val (.ref b6), .val (.ref b7), .val (.int pz), .val (.ref b9), .val (.int (own_b (own_ok (0 : Int32) (128 : Int32) (191 : Int32) x0))), .val (.int (own_b (own_ok (own_nd (0 : Int32) x0) (own_lo (0 : Int32) (128 : Int32) x0) (own_hi (0 : Int32) (191 : Int32) x0) x1))), .val (.int (own_b (own_ok (own_nd (own_nd (0 : Int32) x0) x1) (own_lo (own_nd (0 : Int32) x0) (own_lo (0 : Int32) (128 : Int32) x0) x1) (own_hi (own_nd (0 : Int32) x0) (own_hi (0 : Int32) (191 : Int32) x0) x1) x2))), .val (.int (own_b (own_ok (own_nd (own_nd (own_nd (0 : Int32) x0) x1) x2) (own_lo (own_nd (own_nd (0 : Int32) x0) x1) (own_lo (own_nd (0 : Int32) x0) (own_lo (0 : Int32) (128 : Int32) x0) x1) x2) (own_hi (own_nd (own_nd (0 : Int32) x0) x1) (own_hi (own_nd (0 : Int32) x0) (own_hi (0 : Int32) (191 : Int32) x0) x1) x2) x3)))] [(.int (own_b oo3)), (.int (own_b (own_ok (own_nd (own_nd (own_nd (0 : Int32) x0) x1) x2) (own_lo (own_nd (own_nd (0 : Int32) x0) x1) (own_lo (own_nd (0 : Int32) x0) (own_lo (0 : Int32) (128 : Int32) x0) x1) x2) (own_hi (own_nd (own_nd (0 : Int32) x0) x1) (own_hi (own_nd (0 : Int32) x0) (own_hi (0 : Int32) (191 : Int32) x0) x1) x2) x3)))])) (X32.baloadBooleans hx (j := (3 : Int32)) (v := (.int (own_b oo3))) Ar34.1 (State.isArrayOf_alike hZ.alike Ar34.2.1) Ar34.2.2 hin34 hat34 (g := (mkF m 248 #[.val (.int p0), .val (.int p1), .val (.int p2), .val (.int p3), .val (.ref b1), .val (.ref b6), .val (.ref b7), .val (.int pz), .val (.ref b9), .val (.int (own_b (own_ok (0 : Int32) (128 : Int32) (191 : Int32) x0))), .val (.int (own_b (own_ok (own_nd (0 : Int32) x0) (own_lo (0 : Int32) (128 : Int32) x0) (own_hi (0 : Int32) (191 : Int32) x0) x1))), .val (.int (own_b (own_ok (own_nd (own_nd (0 : Int32) x0) x1) (own_lo (own_nd (0 : Int32) x0) (own_lo (0 : Int32) (128 : Int32) x0) x1) (own_hi (own_nd (0 : Int32) x0) (own_hi (0 : Int32) (191 : Int32) x0) x1) x2))), .val (.int (own_b (own_ok (own_nd (own_nd (own_nd (0 : Int32) x0) x1) x2) (own_lo (own_nd (own_nd (0 : Int32) x0) x1) (own_lo (own_nd (0 : Int32) x0) (own_lo (0 : Int32) (128 : Int32) x0) x1) x2) (own_hi (own_nd (own_nd (0 : Int32) x0) x1) (own_hi (own_nd (0 : Int32) x0) (own_hi (0 : Int32) (191 : Int32) x0) x1) x2) x3)))] [(.int (3 : Int32)), (.ref b6), (.int (own_b (own_ok (own_nd (own_nd (own_nd (0 : Int32) x0) x1) x2) (own_lo (own_nd (own_nd (0 : Int32) x0) x1) (own_lo (own_nd (0 : Int32) x0) (own_lo (0 : Int32) (128 : Int32) x0) x1) x2) (own_hi (own_nd (own_nd (0 : Int32) x0) x1) (own_hi (own_nd (0 : Int32) x0) (own_hi (0 : Int32) (191 : Int32) x0) x1) x2) x3)))])) rfl rfl (hb hby at_248)) ?_
          refine own_go (g' := (mkF m 254 #[.val (.int p0), .val (.int p1), .val (.int p2), .val (.int p3), .val (.ref b1), .val (.ref b6), .val (.ref b7), .val (.int pz), .val (.ref b9), .val (.int (own_b (own_ok (0 : Int32) (128 : Int32) (191 : Int32) x0))), .val (.int (own_b (own_ok (own_nd (0 : Int32) x0) (own_lo (0 : Int32) (128 : Int32) x0) (own_hi (0 : Int32) (191 : Int32) x0) x1))), .val (.int (own_b (own_ok (own_nd (own_nd (0 : Int32) x0) x1) (own_lo (own_nd (0 : Int32) x0) (own_lo (0 : Int32) (128 : Int32) x0) x1) (own_hi (own_nd (0 : Int32) x0) (own_hi (0 : Int32) (191 : Int32) x0) x1) x2))), .val (.int (own_b (own_ok (own_nd (own_nd (own_nd (0 : Int32) x0) x1) x2) (own_lo (own_nd (own_nd (0 : Int32) x0) x1) (own_lo (own_nd (0 : Int32) x0) (own_lo (0 : Int32) (128 : Int32) x0) x1) x2) (own_hi (own_nd (own_nd (0 : Int32) x0) x1) (own_hi (own_nd (0 : Int32) x0) (own_hi (0 : Int32) (191 : Int32) x0) x1) x2) x3)))] [])) (fun _ kgo => XS.icmpYes X32.here hx rfl (pc0 := 249) (pc' := 254) rfl (hb hby at_249) rfl (teq (congrArg own_b hk3.1)).1 (by decide) (by decide) kgo) ?_
          refine own_go (g' := (mkF m 256 #[.val (.int p0), .val (.int p1), .val (.int p2), .val (.int p3), .val (.ref b1), .val (.ref b6), .val (.ref b7), .val (.int pz), .val (.ref b9), .val (.int (own_b (own_ok (0 : Int32) (128 : Int32) (191 : Int32) x0))), .val (.int (own_b (own_ok (own_nd (0 : Int32) x0) (own_lo (0 : Int32) (128 : Int32) x0) (own_hi (0 : Int32) (191 : Int32) x0) x1))), .val (.int (own_b (own_ok (own_nd (own_nd (0 : Int32) x0) x1) (own_lo (own_nd (0 : Int32) x0) (own_lo (0 : Int32) (128 : Int32) x0) x1) (own_hi (own_nd (0 : Int32) x0) (own_hi (0 : Int32) (191 : Int32) x0) x1) x2))), .val (.int (own_b (own_ok (own_nd (own_nd (own_nd (0 : Int32) x0) x1) x2) (own_lo (own_nd (own_nd (0 : Int32) x0) x1) (own_lo (own_nd (0 : Int32) x0) (own_lo (0 : Int32) (128 : Int32) x0) x1) x2) (own_hi (own_nd (own_nd (0 : Int32) x0) x1) (own_hi (own_nd (0 : Int32) x0) (own_hi (0 : Int32) (191 : Int32) x0) x1) x2) x3)))] [(.int (own_b (own_ok (own_nd (own_nd (own_nd (0 : Int32) x0) x1) x2) (own_lo (own_nd (own_nd (0 : Int32) x0) x1) (own_lo (own_nd (0 : Int32) x0) (own_lo (0 : Int32) (128 : Int32) x0) x1) x2) (own_hi (own_nd (own_nd (0 : Int32) x0) x1) (own_hi (own_nd (0 : Int32) x0) (own_hi (0 : Int32) (191 : Int32) x0) x1) x2) x3)))])) (fun _ kgo => XS.iload X32.here hx rfl (hb hby at_254) rfl kgo) ?_
          by_cases hc35 : (own_ok (own_nd (own_nd (own_nd (0 : Int32) x0) x1) x2) (own_lo (own_nd (own_nd (0 : Int32) x0) x1) (own_lo (own_nd (0 : Int32) x0) (own_lo (0 : Int32) (128 : Int32) x0) x1) x2) (own_hi (own_nd (own_nd (0 : Int32) x0) x1) (own_hi (own_nd (0 : Int32) x0) (own_hi (0 : Int32) (191 : Int32) x0) x1) x2) x3) = true
          ·
            refine own_go (g' := (mkF m 261 #[.val (.int p0), .val (.int p1), .val (.int p2), .val (.int p3), .val (.ref b1), .val (.ref b6), .val (.ref b7), .val (.int pz), .val (.ref b9), .val (.int (own_b (own_ok (0 : Int32) (128 : Int32) (191 : Int32) x0))), .val (.int (own_b (own_ok (own_nd (0 : Int32) x0) (own_lo (0 : Int32) (128 : Int32) x0) (own_hi (0 : Int32) (191 : Int32) x0) x1))), .val (.int (own_b (own_ok (own_nd (own_nd (0 : Int32) x0) x1) (own_lo (own_nd (0 : Int32) x0) (own_lo (0 : Int32) (128 : Int32) x0) x1) (own_hi (own_nd (0 : Int32) x0) (own_hi (0 : Int32) (191 : Int32) x0) x1) x2))), .val (.int (own_b (own_ok (own_nd (own_nd (own_nd (0 : Int32) x0) x1) x2) (own_lo (own_nd (own_nd (0 : Int32) x0) x1) (own_lo (own_nd (0 : Int32) x0) (own_lo (0 : Int32) (128 : Int32) x0) x1) x2) (own_hi (own_nd (own_nd (0 : Int32) x0) x1) (own_hi (own_nd (0 : Int32) x0) (own_hi (0 : Int32) (191 : Int32) x0) x1) x2) x3)))] [])) (fun _ kgo => XS.ifYes X32.here hx rfl (pc0 := 256) (pc' := 261) rfl (hb hby at_256) rfl ((if0 _ _).trans (feq (own_b_n hc35)).2) (by decide) (by decide) kgo) ?_
            have hm3 := hk3.2 (hk3.1 ▸ hc35)
            refine own_go (g' := (mkF m 263 #[.val (.int p0), .val (.int p1), .val (.int p2), .val (.int p3), .val (.ref b1), .val (.ref b6), .val (.ref b7), .val (.int pz), .val (.ref b9), .val (.int (own_b (own_ok (0 : Int32) (128 : Int32) (191 : Int32) x0))), .val (.int (own_b (own_ok (own_nd (0 : Int32) x0) (own_lo (0 : Int32) (128 : Int32) x0) (own_hi (0 : Int32) (191 : Int32) x0) x1))), .val (.int (own_b (own_ok (own_nd (own_nd (0 : Int32) x0) x1) (own_lo (own_nd (0 : Int32) x0) (own_lo (0 : Int32) (128 : Int32) x0) x1) (own_hi (own_nd (0 : Int32) x0) (own_hi (0 : Int32) (191 : Int32) x0) x1) x2))), .val (.int (own_b (own_ok (own_nd (own_nd (own_nd (0 : Int32) x0) x1) x2) (own_lo (own_nd (own_nd (0 : Int32) x0) x1) (own_lo (own_nd (0 : Int32) x0) (own_lo (0 : Int32) (128 : Int32) x0) x1) x2) (own_hi (own_nd (own_nd (0 : Int32) x0) x1) (own_hi (own_nd (0 : Int32) x0) (own_hi (0 : Int32) (191 : Int32) x0) x1) x2) x3)))] [(.ref b9)])) (fun _ kgo => XS.aload X32.here hx rfl (hb hby at_261) rfl rfl kgo) ?_
            obtain ⟨v36, T36, L36, hQ36, X36, st36⟩ := own_callV X32 hx hZ (y := (⟨"com/example/firm_tread/firmtread/transport/Utf8", "isComplete", "()Z"⟩ : MethodName)) (z := (⟨"com/example/firm_tread/firmtread/transport/Utf8", "isComplete", "()Z"⟩ : MethodName)) hown (hw _ (List.mem_of_getElem? (i := 26) rfl)) (hw _ (List.mem_of_getElem? (i := 27) rfl)) (notFace_of_selects (args := #[]) (mvT hZ (hw _ (List.mem_of_getElem? (i := 29) rfl)))) (hw _ (List.mem_of_getElem? (i := 29) rfl)) (hw _ (List.mem_of_getElem? (i := 28) rfl)) (hw _ (List.mem_of_getElem? (i := 8) rfl)) (hw _ (List.mem_of_getElem? (i := 30) rfl)) ⟨by decide, by decide⟩ (a := b9) (argsL := []) (rm5 l Z a0 hw b9 (own_nd (own_nd (own_nd (own_nd (0 : Int32) x0) x1) x2) x3) T32.heap q32_1) rfl q32_0 (g := (mkF m 263 #[.val (.int p0), .val (.int p1), .val (.int p2), .val (.int p3), .val (.ref b1), .val (.ref b6), .val (.ref b7), .val (.int pz), .val (.ref b9), .val (.int (own_b (own_ok (0 : Int32) (128 : Int32) (191 : Int32) x0))), .val (.int (own_b (own_ok (own_nd (0 : Int32) x0) (own_lo (0 : Int32) (128 : Int32) x0) (own_hi (0 : Int32) (191 : Int32) x0) x1))), .val (.int (own_b (own_ok (own_nd (own_nd (0 : Int32) x0) x1) (own_lo (own_nd (0 : Int32) x0) (own_lo (0 : Int32) (128 : Int32) x0) x1) (own_hi (own_nd (0 : Int32) x0) (own_hi (0 : Int32) (191 : Int32) x0) x1) x2))), .val (.int (own_b (own_ok (own_nd (own_nd (own_nd (0 : Int32) x0) x1) x2) (own_lo (own_nd (own_nd (0 : Int32) x0) x1) (own_lo (own_nd (0 : Int32) x0) (own_lo (0 : Int32) (128 : Int32) x0) x1) x2) (own_hi (own_nd (own_nd (0 : Int32) x0) x1) (own_hi (own_nd (0 : Int32) x0) (own_hi (0 : Int32) (191 : Int32) x0) x1) x2) x3)))] [(.ref b9)])) rfl (by rw [hml]; rfl) (rest := []) (lenOf pd0_2 rfl) rfl (hb hby at_263) (W := 0) (by show 2 * 0 + _ ≤ _; exact Nat.le_of_eq rfl) (by decide) (by decide) (by decide) (by decide)
            obtain ⟨rfl, e36, rfl⟩ := hQ36
            have N36 := Fr.app N32 (Fr.nil n0)
            refine own_go (g' := (mkF m 266 #[.val (.int p0), .val (.int p1), .val (.int p2), .val (.int p3), .val (.ref b1), .val (.ref b6), .val (.ref b7), .val (.int pz), .val (.ref b9), .val (.int (own_b (own_ok (0 : Int32) (128 : Int32) (191 : Int32) x0))), .val (.int (own_b (own_ok (own_nd (0 : Int32) x0) (own_lo (0 : Int32) (128 : Int32) x0) (own_hi (0 : Int32) (191 : Int32) x0) x1))), .val (.int (own_b (own_ok (own_nd (own_nd (0 : Int32) x0) x1) (own_lo (own_nd (0 : Int32) x0) (own_lo (0 : Int32) (128 : Int32) x0) x1) (own_hi (own_nd (0 : Int32) x0) (own_hi (0 : Int32) (191 : Int32) x0) x1) x2))), .val (.int (own_b (own_ok (own_nd (own_nd (own_nd (0 : Int32) x0) x1) x2) (own_lo (own_nd (own_nd (0 : Int32) x0) x1) (own_lo (own_nd (0 : Int32) x0) (own_lo (0 : Int32) (128 : Int32) x0) x1) x2) (own_hi (own_nd (own_nd (0 : Int32) x0) x1) (own_hi (own_nd (0 : Int32) x0) (own_hi (0 : Int32) (191 : Int32) x0) x1) x2) x3)))] [(.int (own_b (decide ((own_nd (own_nd (own_nd (own_nd (0 : Int32) x0) x1) x2) x3) = 0))))])) (st36) ?_
            refine own_go (g' := (mkF m 268 #[.val (.int p0), .val (.int p1), .val (.int p2), .val (.int p3), .val (.ref b1), .val (.ref b6), .val (.ref b7), .val (.int pz), .val (.ref b9), .val (.int (own_b (own_ok (0 : Int32) (128 : Int32) (191 : Int32) x0))), .val (.int (own_b (own_ok (own_nd (0 : Int32) x0) (own_lo (0 : Int32) (128 : Int32) x0) (own_hi (0 : Int32) (191 : Int32) x0) x1))), .val (.int (own_b (own_ok (own_nd (own_nd (0 : Int32) x0) x1) (own_lo (own_nd (0 : Int32) x0) (own_lo (0 : Int32) (128 : Int32) x0) x1) (own_hi (own_nd (0 : Int32) x0) (own_hi (0 : Int32) (191 : Int32) x0) x1) x2))), .val (.int (own_b (own_ok (own_nd (own_nd (own_nd (0 : Int32) x0) x1) x2) (own_lo (own_nd (own_nd (0 : Int32) x0) x1) (own_lo (own_nd (0 : Int32) x0) (own_lo (0 : Int32) (128 : Int32) x0) x1) x2) (own_hi (own_nd (own_nd (0 : Int32) x0) x1) (own_hi (own_nd (0 : Int32) x0) (own_hi (0 : Int32) (191 : Int32) x0) x1) x2) x3)))] [(.ref b7), (.int (own_b (decide ((own_nd (own_nd (own_nd (own_nd (0 : Int32) x0) x1) x2) x3) = 0))))])) (fun _ kgo => XS.aload X36.here hx rfl (hb hby at_266) rfl rfl kgo) ?_
            refine own_go (g' := (mkF m 269 #[.val (.int p0), .val (.int p1), .val (.int p2), .val (.int p3), .val (.ref b1), .val (.ref b6), .val (.ref b7), .val (.int pz), .val (.ref b9), .val (.int (own_b (own_ok (0 : Int32) (128 : Int32) (191 : Int32) x0))), .val (.int (own_b (own_ok (own_nd (0 : Int32) x0) (own_lo (0 : Int32) (128 : Int32) x0) (own_hi (0 : Int32) (191 : Int32) x0) x1))), .val (.int (own_b (own_ok (own_nd (own_nd (0 : Int32) x0) x1) (own_lo (own_nd (0 : Int32) x0) (own_lo (0 : Int32) (128 : Int32) x0) x1) (own_hi (own_nd (0 : Int32) x0) (own_hi (0 : Int32) (191 : Int32) x0) x1) x2))), .val (.int (own_b (own_ok (own_nd (own_nd (own_nd (0 : Int32) x0) x1) x2) (own_lo (own_nd (own_nd (0 : Int32) x0) x1) (own_lo (own_nd (0 : Int32) x0) (own_lo (0 : Int32) (128 : Int32) x0) x1) x2) (own_hi (own_nd (own_nd (0 : Int32) x0) x1) (own_hi (own_nd (0 : Int32) x0) (own_hi (0 : Int32) (191 : Int32) x0) x1) x2) x3)))] [(.int (3 : Int32)), (.ref b7), (.int (own_b (decide ((own_nd (own_nd (own_nd (own_nd (0 : Int32) x0) x1) x2) x3) = 0))))])) (fun _ kgo => XS.iconst X36.here hx rfl (hb hby at_268) kgo) ?_
            have fx37 : Arv Z T32.heap b7 k7 .boolean (4 : Int32) [(.int (own_b cc0)), (.int (own_b cc1)), (.int (own_b cc2)), (.int (own_b cc3))] (.int (0 : Int32)) := (Arv.keep fx30 Kq32 (ninS ne_b7_b9 nin0))
            obtain ⟨cl38, Ar38, qk38, sz38, nn38, Hs38, Gs38⟩ := id fx37
            have hin38 : ¬ ((3 : Int32) < 0 ∨ cl38.slots.size ≤ ((3 : Int32)).toNatClampNeg) := inb_of sz38 ⟨by decide, by decide⟩
            have hat38 : cl38.slots[((3 : Int32)).toNatClampNeg]? = some (.int (own_b cc3)) := Has.at Hs38 hin38 rfl
            refine own_go (g' := (mkF m 270 #[.val (.int p0), .val (.int p1), .val (.int p2), .val (.int p3), .val (.ref b1), .val (.ref b6), .val (.ref b7), .val (.int pz), .val (.ref b9), .val (.int (own_b (own_ok (0 : Int32) (128 : Int32) (191 : Int32) x0))), .val (.int (own_b (own_ok (own_nd (0 : Int32) x0) (own_lo (0 : Int32) (128 : Int32) x0) (own_hi (0 : Int32) (191 : Int32) x0) x1))), .val (.int (own_b (own_ok (own_nd (own_nd (0 : Int32) x0) x1) (own_lo (own_nd (0 : Int32) x0) (own_lo (0 : Int32) (128 : Int32) x0) x1) (own_hi (own_nd (0 : Int32) x0) (own_hi (0 : Int32) (191 : Int32) x0) x1) x2))), .val (.int (own_b (own_ok (own_nd (own_nd (own_nd (0 : Int32) x0) x1) x2) (own_lo (own_nd (own_nd (0 : Int32) x0) x1) (own_lo (own_nd (0 : Int32) x0) (own_lo (0 : Int32) (128 : Int32) x0) x1) x2) (own_hi (own_nd (own_nd (0 : Int32) x0) x1) (own_hi (own_nd (0 : Int32) x0) (own_hi (0 : Int32) (191 : Int32) x0) x1) x2) x3)))] [(.int (own_b cc3)), (.int (own_b (decide ((own_nd (own_nd (own_nd (own_nd (0 : Int32) x0) x1) x2) x3) = 0))))])) (X36.baloadBooleans hx (j := (3 : Int32)) (v := (.int (own_b cc3))) (by rw [e36]; exact Ar38.1) (State.isArrayOf_alike hZ.alike Ar38.2.1) Ar38.2.2 hin38 hat38 (g := (mkF m 269 #[.val (.int p0), .val (.int p1), .val (.int p2), .val (.int p3), .val (.ref b1), .val (.ref b6), .val (.ref b7), .val (.int pz), .val (.ref b9), .val (.int (own_b (own_ok (0 : Int32) (128 : Int32) (191 : Int32) x0))), .val (.int (own_b (own_ok (own_nd (0 : Int32) x0) (own_lo (0 : Int32) (128 : Int32) x0) (own_hi (0 : Int32) (191 : Int32) x0) x1))), .val (.int (own_b (own_ok (own_nd (own_nd (0 : Int32) x0) x1) (own_lo (own_nd (0 : Int32) x0) (own_lo (0 : Int32) (128 : Int32) x0) x1) (own_hi (own_nd (0 : Int32) x0) (own_hi (0 : Int32) (191 : Int32) x0) x1) x2))), .val (.int (own_b (own_ok (own_nd (own_nd (own_nd (0 : Int32) x0) x1) x2) (own_lo (own_nd (own_nd (0 : Int32) x0) x1) (own_lo (own_nd (0 : Int32) x0) (own_lo (0 : Int32) (128 : Int32) x0) x1) x2) (own_hi (own_nd (own_nd (0 : Int32) x0) x1) (own_hi (own_nd (0 : Int32) x0) (own_hi (0 : Int32) (191 : Int32) x0) x1) x2) x3)))] [(.int (3 : Int32)), (.ref b7), (.int (own_b (decide ((own_nd (own_nd (own_nd (own_nd (0 : Int32) x0) x1) x2) x3) = 0))))])) rfl rfl (hb hby at_269)) ?_
            refine own_go (g' := (mkF m 273 #[.val (.int p0), .val (.int p1), .val (.int p2), .val (.int p3), .val (.ref b1), .val (.ref b6), .val (.ref b7), .val (.int pz), .val (.ref b9), .val (.int (own_b (own_ok (0 : Int32) (128 : Int32) (191 : Int32) x0))), .val (.int (own_b (own_ok (own_nd (0 : Int32) x0) (own_lo (0 : Int32) (128 : Int32) x0) (own_hi (0 : Int32) (191 : Int32) x0) x1))), .val (.int (own_b (own_ok (own_nd (own_nd (0 : Int32) x0) x1) (own_lo (own_nd (0 : Int32) x0) (own_lo (0 : Int32) (128 : Int32) x0) x1) (own_hi (own_nd (0 : Int32) x0) (own_hi (0 : Int32) (191 : Int32) x0) x1) x2))), .val (.int (own_b (own_ok (own_nd (own_nd (own_nd (0 : Int32) x0) x1) x2) (own_lo (own_nd (own_nd (0 : Int32) x0) x1) (own_lo (own_nd (0 : Int32) x0) (own_lo (0 : Int32) (128 : Int32) x0) x1) x2) (own_hi (own_nd (own_nd (0 : Int32) x0) x1) (own_hi (own_nd (0 : Int32) x0) (own_hi (0 : Int32) (191 : Int32) x0) x1) x2) x3)))] [])) (fun _ kgo => XS.icmpNo X36.here hx rfl (hb hby at_270) rfl (teq (congrArg own_b hm3.1)).2 kgo) ?_
            refine own_go (g' := (mkF m 274 #[.val (.int p0), .val (.int p1), .val (.int p2), .val (.int p3), .val (.ref b1), .val (.ref b6), .val (.ref b7), .val (.int pz), .val (.ref b9), .val (.int (own_b (own_ok (0 : Int32) (128 : Int32) (191 : Int32) x0))), .val (.int (own_b (own_ok (own_nd (0 : Int32) x0) (own_lo (0 : Int32) (128 : Int32) x0) (own_hi (0 : Int32) (191 : Int32) x0) x1))), .val (.int (own_b (own_ok (own_nd (own_nd (0 : Int32) x0) x1) (own_lo (own_nd (0 : Int32) x0) (own_lo (0 : Int32) (128 : Int32) x0) x1) (own_hi (own_nd (0 : Int32) x0) (own_hi (0 : Int32) (191 : Int32) x0) x1) x2))), .val (.int (own_b (own_ok (own_nd (own_nd (own_nd (0 : Int32) x0) x1) x2) (own_lo (own_nd (own_nd (0 : Int32) x0) x1) (own_lo (own_nd (0 : Int32) x0) (own_lo (0 : Int32) (128 : Int32) x0) x1) x2) (own_hi (own_nd (own_nd (0 : Int32) x0) x1) (own_hi (own_nd (0 : Int32) x0) (own_hi (0 : Int32) (191 : Int32) x0) x1) x2) x3)))] [(.int (1 : Int32))])) (fun _ kgo => XS.iconst X36.here hx rfl (hb hby at_273) kgo) ?_
            refine own_go (g' := (mkF m 278 #[.val (.int p0), .val (.int p1), .val (.int p2), .val (.int p3), .val (.ref b1), .val (.ref b6), .val (.ref b7), .val (.int pz), .val (.ref b9), .val (.int (own_b (own_ok (0 : Int32) (128 : Int32) (191 : Int32) x0))), .val (.int (own_b (own_ok (own_nd (0 : Int32) x0) (own_lo (0 : Int32) (128 : Int32) x0) (own_hi (0 : Int32) (191 : Int32) x0) x1))), .val (.int (own_b (own_ok (own_nd (own_nd (0 : Int32) x0) x1) (own_lo (own_nd (0 : Int32) x0) (own_lo (0 : Int32) (128 : Int32) x0) x1) (own_hi (own_nd (0 : Int32) x0) (own_hi (0 : Int32) (191 : Int32) x0) x1) x2))), .val (.int (own_b (own_ok (own_nd (own_nd (own_nd (0 : Int32) x0) x1) x2) (own_lo (own_nd (own_nd (0 : Int32) x0) x1) (own_lo (own_nd (0 : Int32) x0) (own_lo (0 : Int32) (128 : Int32) x0) x1) x2) (own_hi (own_nd (own_nd (0 : Int32) x0) x1) (own_hi (own_nd (0 : Int32) x0) (own_hi (0 : Int32) (191 : Int32) x0) x1) x2) x3)))] [(.int (1 : Int32))])) (fun _ kgo => XS.goto X36.here hx rfl (pc0 := 274) (pc' := 278) rfl (hb hby at_274) (by decide) (by decide) kgo) ?_
            refine own_retN X36 hx .boolean Bd.returns Bd.notSynchronized (by simp) (hb hby at_278) (by decide) (by decide) ?_
            show QQ _ T36.heap _
            rw [e36]
            rw [← hQQ]
            exact ⟨rfl, N36⟩
          ·
            refine own_go (g' := (mkF m 259 #[.val (.int p0), .val (.int p1), .val (.int p2), .val (.int p3), .val (.ref b1), .val (.ref b6), .val (.ref b7), .val (.int pz), .val (.ref b9), .val (.int (own_b (own_ok (0 : Int32) (128 : Int32) (191 : Int32) x0))), .val (.int (own_b (own_ok (own_nd (0 : Int32) x0) (own_lo (0 : Int32) (128 : Int32) x0) (own_hi (0 : Int32) (191 : Int32) x0) x1))), .val (.int (own_b (own_ok (own_nd (own_nd (0 : Int32) x0) x1) (own_lo (own_nd (0 : Int32) x0) (own_lo (0 : Int32) (128 : Int32) x0) x1) (own_hi (own_nd (0 : Int32) x0) (own_hi (0 : Int32) (191 : Int32) x0) x1) x2))), .val (.int (own_b (own_ok (own_nd (own_nd (own_nd (0 : Int32) x0) x1) x2) (own_lo (own_nd (own_nd (0 : Int32) x0) x1) (own_lo (own_nd (0 : Int32) x0) (own_lo (0 : Int32) (128 : Int32) x0) x1) x2) (own_hi (own_nd (own_nd (0 : Int32) x0) x1) (own_hi (own_nd (0 : Int32) x0) (own_hi (0 : Int32) (191 : Int32) x0) x1) x2) x3)))] [])) (fun _ kgo => XS.ifNo X32.here hx rfl (hb hby at_256) rfl ((if0 _ _).trans (teq (own_b_f hc35)).2) kgo) ?_
            refine own_go (g' := (mkF m 260 #[.val (.int p0), .val (.int p1), .val (.int p2), .val (.int p3), .val (.ref b1), .val (.ref b6), .val (.ref b7), .val (.int pz), .val (.ref b9), .val (.int (own_b (own_ok (0 : Int32) (128 : Int32) (191 : Int32) x0))), .val (.int (own_b (own_ok (own_nd (0 : Int32) x0) (own_lo (0 : Int32) (128 : Int32) x0) (own_hi (0 : Int32) (191 : Int32) x0) x1))), .val (.int (own_b (own_ok (own_nd (own_nd (0 : Int32) x0) x1) (own_lo (own_nd (0 : Int32) x0) (own_lo (0 : Int32) (128 : Int32) x0) x1) (own_hi (own_nd (0 : Int32) x0) (own_hi (0 : Int32) (191 : Int32) x0) x1) x2))), .val (.int (own_b (own_ok (own_nd (own_nd (own_nd (0 : Int32) x0) x1) x2) (own_lo (own_nd (own_nd (0 : Int32) x0) x1) (own_lo (own_nd (0 : Int32) x0) (own_lo (0 : Int32) (128 : Int32) x0) x1) x2) (own_hi (own_nd (own_nd (0 : Int32) x0) x1) (own_hi (own_nd (0 : Int32) x0) (own_hi (0 : Int32) (191 : Int32) x0) x1) x2) x3)))] [(.int (1 : Int32))])) (fun _ kgo => XS.iconst X32.here hx rfl (hb hby at_259) kgo) ?_
            refine own_retN X32 hx .boolean Bd.returns Bd.notSynchronized (by simp) (hb hby at_260) (by decide) (by decide) ?_
            show QQ _ T32.heap _
            rw [← hQQ]
            exact ⟨rfl, N32⟩
        ·
          refine own_go (g' := (mkF m 218 #[.val (.int p0), .val (.int p1), .val (.int p2), .val (.int p3), .val (.ref b1), .val (.ref b6), .val (.ref b7), .val (.int pz), .val (.ref b9), .val (.int (own_b (own_ok (0 : Int32) (128 : Int32) (191 : Int32) x0))), .val (.int (own_b (own_ok (own_nd (0 : Int32) x0) (own_lo (0 : Int32) (128 : Int32) x0) (own_hi (0 : Int32) (191 : Int32) x0) x1))), .val (.int (own_b (own_ok (own_nd (own_nd (0 : Int32) x0) x1) (own_lo (own_nd (0 : Int32) x0) (own_lo (0 : Int32) (128 : Int32) x0) x1) (own_hi (own_nd (0 : Int32) x0) (own_hi (0 : Int32) (191 : Int32) x0) x1) x2))), .unset] [])) (fun _ kgo => XS.ifNo X25.here hx rfl (hb hby at_215) rfl ((if0 _ _).trans (teq (own_b_f hc28)).2) kgo) ?_
          refine own_go (g' := (mkF m 219 #[.val (.int p0), .val (.int p1), .val (.int p2), .val (.int p3), .val (.ref b1), .val (.ref b6), .val (.ref b7), .val (.int pz), .val (.ref b9), .val (.int (own_b (own_ok (0 : Int32) (128 : Int32) (191 : Int32) x0))), .val (.int (own_b (own_ok (own_nd (0 : Int32) x0) (own_lo (0 : Int32) (128 : Int32) x0) (own_hi (0 : Int32) (191 : Int32) x0) x1))), .val (.int (own_b (own_ok (own_nd (own_nd (0 : Int32) x0) x1) (own_lo (own_nd (0 : Int32) x0) (own_lo (0 : Int32) (128 : Int32) x0) x1) (own_hi (own_nd (0 : Int32) x0) (own_hi (0 : Int32) (191 : Int32) x0) x1) x2))), .unset] [(.int (1 : Int32))])) (fun _ kgo => XS.iconst X25.here hx rfl (hb hby at_218) kgo) ?_
          refine own_retN X25 hx .boolean Bd.returns Bd.notSynchronized (by simp) (hb hby at_219) (by decide) (by decide) ?_
          show QQ _ T25.heap _
          rw [← hQQ]
          exact ⟨rfl, N25⟩
      ·
        refine own_go (g' := (mkF m 177 #[.val (.int p0), .val (.int p1), .val (.int p2), .val (.int p3), .val (.ref b1), .val (.ref b6), .val (.ref b7), .val (.int pz), .val (.ref b9), .val (.int (own_b (own_ok (0 : Int32) (128 : Int32) (191 : Int32) x0))), .val (.int (own_b (own_ok (own_nd (0 : Int32) x0) (own_lo (0 : Int32) (128 : Int32) x0) (own_hi (0 : Int32) (191 : Int32) x0) x1))), .unset, .unset] [])) (fun _ kgo => XS.ifNo X18.here hx rfl (hb hby at_174) rfl ((if0 _ _).trans (teq (own_b_f hc21)).2) kgo) ?_
        refine own_go (g' := (mkF m 178 #[.val (.int p0), .val (.int p1), .val (.int p2), .val (.int p3), .val (.ref b1), .val (.ref b6), .val (.ref b7), .val (.int pz), .val (.ref b9), .val (.int (own_b (own_ok (0 : Int32) (128 : Int32) (191 : Int32) x0))), .val (.int (own_b (own_ok (own_nd (0 : Int32) x0) (own_lo (0 : Int32) (128 : Int32) x0) (own_hi (0 : Int32) (191 : Int32) x0) x1))), .unset, .unset] [(.int (1 : Int32))])) (fun _ kgo => XS.iconst X18.here hx rfl (hb hby at_177) kgo) ?_
        refine own_retN X18 hx .boolean Bd.returns Bd.notSynchronized (by simp) (hb hby at_178) (by decide) (by decide) ?_
        show QQ _ T18.heap _
        rw [← hQQ]
        exact ⟨rfl, N18⟩
    ·
      refine own_go (g' := (mkF m 136 #[.val (.int p0), .val (.int p1), .val (.int p2), .val (.int p3), .val (.ref b1), .val (.ref b6), .val (.ref b7), .val (.int pz), .val (.ref b9), .val (.int (own_b (own_ok (0 : Int32) (128 : Int32) (191 : Int32) x0))), .unset, .unset, .unset] [])) (fun _ kgo => XS.ifNo X11.here hx rfl (hb hby at_133) rfl ((if0 _ _).trans (teq (own_b_f hc14)).2) kgo) ?_
      refine own_go (g' := (mkF m 137 #[.val (.int p0), .val (.int p1), .val (.int p2), .val (.int p3), .val (.ref b1), .val (.ref b6), .val (.ref b7), .val (.int pz), .val (.ref b9), .val (.int (own_b (own_ok (0 : Int32) (128 : Int32) (191 : Int32) x0))), .unset, .unset, .unset] [(.int (1 : Int32))])) (fun _ kgo => XS.iconst X11.here hx rfl (hb hby at_136) kgo) ?_
      refine own_retN X11 hx .boolean Bd.returns Bd.notSynchronized (by simp) (hb hby at_137) (by decide) (by decide) ?_
      show QQ _ T11.heap _
      rw [← hQQ]
      exact ⟨rfl, N11⟩
  refine own_go (g' := (mkF m 53 #[.val (.int p0), .val (.int p1), .val (.int p2), .val (.int p3), .val (.ref b1), .val (.ref b6), .val (.ref b7), .unset, .unset, .unset, .unset, .unset, .unset] [(.ref b1)])) (fun _ kgo => XS.aload X7.here hx rfl (hb hby at_51) rfl rfl kgo) ?_
  refine own_go (g' := (mkF m 54 #[.val (.int p0), .val (.int p1), .val (.int p2), .val (.int p3), .val (.ref b1), .val (.ref b6), .val (.ref b7), .unset, .unset, .unset, .unset, .unset, .unset] [(.int (0 : Int32)), (.ref b1)])) (fun _ kgo => XS.iconst X7.here hx rfl (hb hby at_53) kgo) ?_
  refine own_go (g' := (mkF m 56 #[.val (.int p0), .val (.int p1), .val (.int p2), .val (.int p3), .val (.ref b1), .val (.ref b6), .val (.ref b7), .unset, .unset, .unset, .unset, .unset, .unset] [(.ref b6), (.int (0 : Int32)), (.ref b1)])) (fun _ kgo => XS.aload X7.here hx rfl (hb hby at_54) rfl rfl kgo) ?_
  refine own_go (g' := (mkF m 58 #[.val (.int p0), .val (.int p1), .val (.int p2), .val (.int p3), .val (.ref b1), .val (.ref b6), .val (.ref b7), .unset, .unset, .unset, .unset, .unset, .unset] [(.ref b7), (.ref b6), (.int (0 : Int32)), (.ref b1)])) (fun _ kgo => XS.aload X7.here hx rfl (hb hby at_56) rfl rfl kgo) ?_
  have fx40 : Arv Z h7 b1 k1 .int (4 : Int32) [(.int x0), (.int x1), (.int x2), (.int x3)] (.int (0 : Int32)) := (Arv.ext fx8 E7)
  have fx41 : Arv Z h7 b6 k6 .boolean (4 : Int32) [(.int (own_b false)), (.int (own_b false)), (.int (own_b false)), (.int (own_b false))] (.int (0 : Int32)) := (Arv.ext V6 E7)
  obtain ⟨v39, T39, L39, hQ39, X39, st39⟩ := own_callS X7 hx hZ (y := (⟨"com/example/firm_tread/firmtread/transport/Utf8AcceptPinLaw", "step", "([II[Z[Z)I"⟩ : MethodName)) hown (hw _ (List.mem_of_getElem? (i := 2) rfl)) (hw _ (List.mem_of_getElem? (i := 3) rfl)) (hw _ (List.mem_of_getElem? (i := 4) rfl)) (hw _ (List.mem_of_getElem? (i := 5) rfl)) ⟨by decide, by decide⟩ (argsL := [(.ref b1), (.int (0 : Int32)), (.ref b6), (.ref b7)]) (stp0 l Z a0 hw b1 b6 b7 x0 x1 x2 x3 false false false false false false false false k1 k6 k7 h7 n0 Z7 ge_b6 ge_b7 fx40 fx41 V7 ne_b1_b6 ne_b1_b7 ne_b6_b7 hv0) e7 (g := (mkF m 58 #[.val (.int p0), .val (.int p1), .val (.int p2), .val (.int p3), .val (.ref b1), .val (.ref b6), .val (.ref b7), .unset, .unset, .unset, .unset, .unset, .unset] [(.ref b7), (.ref b6), (.int (0 : Int32)), (.ref b1)])) rfl (by rw [hml]; rfl) (rest := []) (lenOf pd0_3 rfl) rfl (hb hby at_58) (W := 0) (by show 2 * 0 + _ ≤ _; exact Nat.le_of_eq rfl) (by decide) (by decide) (by decide) (by decide)
  obtain ⟨r39, a0'39, a1'39, a2'39, a3'39, c0'39, c1'39, c2'39, c3'39, rfl, Nq39, Kq39, pr39_0, q39_0, q39_1, q39_2⟩ := hQ39
  have N39 := Fr.app N5 Nq39
  have Z39 : n0 ≤ T39.heap.size := Nat.le_trans Z7 Kq39.1
  refine own_go (g' := (mkF m 61 #[.val (.int p0), .val (.int p1), .val (.int p2), .val (.int p3), .val (.ref b1), .val (.ref b6), .val (.ref b7), .unset, .unset, .unset, .unset, .unset, .unset] [(.int r39)])) (st39) ?_
  rcases pr39_0 with ⟨rfl, hr0⟩ | ⟨rfl, hr0⟩ | ⟨rfl, hr0⟩ | ⟨h4_0, hr0⟩
  ·
    refine own_go (g' := (mkF m 63 #[.val (.int p0), .val (.int p1), .val (.int p2), .val (.int p3), .val (.ref b1), .val (.ref b6), .val (.ref b7), .val (.int (1 : Int32)), .unset, .unset, .unset, .unset, .unset] [])) (fun _ kgo => XS.istore X39.here hx rfl (hb hby at_61) rfl (l' := #[.val (.int p0), .val (.int p1), .val (.int p2), .val (.int p3), .val (.ref b1), .val (.ref b6), .val (.ref b7), .val (.int (1 : Int32)), .unset, .unset, .unset, .unset, .unset]) rfl kgo) ?_
    refine own_go (g' := (mkF m 65 #[.val (.int p0), .val (.int p1), .val (.int p2), .val (.int p3), .val (.ref b1), .val (.ref b6), .val (.ref b7), .val (.int (1 : Int32)), .unset, .unset, .unset, .unset, .unset] [(.ref b1)])) (fun _ kgo => XS.aload X39.here hx rfl (hb hby at_63) rfl rfl kgo) ?_
    refine own_go (g' := (mkF m 67 #[.val (.int p0), .val (.int p1), .val (.int p2), .val (.int p3), .val (.ref b1), .val (.ref b6), .val (.ref b7), .val (.int (1 : Int32)), .unset, .unset, .unset, .unset, .unset] [(.int (1 : Int32)), (.ref b1)])) (fun _ kgo => XS.iload X39.here hx rfl (hb hby at_65) rfl kgo) ?_
    refine own_go (g' := (mkF m 69 #[.val (.int p0), .val (.int p1), .val (.int p2), .val (.int p3), .val (.ref b1), .val (.ref b6), .val (.ref b7), .val (.int (1 : Int32)), .unset, .unset, .unset, .unset, .unset] [(.ref b6), (.int (1 : Int32)), (.ref b1)])) (fun _ kgo => XS.aload X39.here hx rfl (hb hby at_67) rfl rfl kgo) ?_
    refine own_go (g' := (mkF m 71 #[.val (.int p0), .val (.int p1), .val (.int p2), .val (.int p3), .val (.ref b1), .val (.ref b6), .val (.ref b7), .val (.int (1 : Int32)), .unset, .unset, .unset, .unset, .unset] [(.ref b7), (.ref b6), (.int (1 : Int32)), (.ref b1)])) (fun _ kgo => XS.aload X39.here hx rfl (hb hby at_69) rfl rfl kgo) ?_
    obtain ⟨v42, T42, L42, hQ42, X42, st42⟩ := own_callS X39 hx hZ (y := (⟨"com/example/firm_tread/firmtread/transport/Utf8AcceptPinLaw", "step", "([II[Z[Z)I"⟩ : MethodName)) hown (hw _ (List.mem_of_getElem? (i := 2) rfl)) (hw _ (List.mem_of_getElem? (i := 3) rfl)) (hw _ (List.mem_of_getElem? (i := 4) rfl)) (hw _ (List.mem_of_getElem? (i := 5) rfl)) ⟨by decide, by decide⟩ (argsL := [(.ref b1), (.int (1 : Int32)), (.ref b6), (.ref b7)]) (stp1 l Z a0 hw b1 b6 b7 x0 x1 x2 x3 a0'39 a1'39 a2'39 a3'39 c0'39 c1'39 c2'39 c3'39 k1 k6 k7 T39.heap n0 Z39 ge_b6 ge_b7 q39_0 q39_1 q39_2 ne_b1_b6 ne_b1_b7 ne_b6_b7 hv1) rfl (g := (mkF m 71 #[.val (.int p0), .val (.int p1), .val (.int p2), .val (.int p3), .val (.ref b1), .val (.ref b6), .val (.ref b7), .val (.int (1 : Int32)), .unset, .unset, .unset, .unset, .unset] [(.ref b7), (.ref b6), (.int (1 : Int32)), (.ref b1)])) rfl (by rw [hml]; rfl) (rest := []) (lenOf pd0_3 rfl) rfl (hb hby at_71) (W := 0) (by show 2 * 0 + _ ≤ _; exact Nat.le_of_eq rfl) (by decide) (by decide) (by decide) (by decide)
    obtain ⟨r42, a1'42, a2'42, a3'42, c1'42, c2'42, c3'42, rfl, Nq42, Kq42, pr42_0, q42_0, q42_1, q42_2⟩ := hQ42
    have N42 := Fr.app N39 Nq42
    have Z42 : n0 ≤ T42.heap.size := Nat.le_trans Z39 Kq42.1
    refine own_go (g' := (mkF m 74 #[.val (.int p0), .val (.int p1), .val (.int p2), .val (.int p3), .val (.ref b1), .val (.ref b6), .val (.ref b7), .val (.int (1 : Int32)), .unset, .unset, .unset, .unset, .unset] [(.int r42)])) (st42) ?_
    rcases pr42_0 with ⟨rfl, hr1⟩ | ⟨rfl, hr1⟩ | ⟨h4_1, hr1⟩
    ·
      refine own_go (g' := (mkF m 76 #[.val (.int p0), .val (.int p1), .val (.int p2), .val (.int p3), .val (.ref b1), .val (.ref b6), .val (.ref b7), .val (.int (2 : Int32)), .unset, .unset, .unset, .unset, .unset] [])) (fun _ kgo => XS.istore X42.here hx rfl (hb hby at_74) rfl (l' := #[.val (.int p0), .val (.int p1), .val (.int p2), .val (.int p3), .val (.ref b1), .val (.ref b6), .val (.ref b7), .val (.int (2 : Int32)), .unset, .unset, .unset, .unset, .unset]) rfl kgo) ?_
      refine own_go (g' := (mkF m 78 #[.val (.int p0), .val (.int p1), .val (.int p2), .val (.int p3), .val (.ref b1), .val (.ref b6), .val (.ref b7), .val (.int (2 : Int32)), .unset, .unset, .unset, .unset, .unset] [(.ref b1)])) (fun _ kgo => XS.aload X42.here hx rfl (hb hby at_76) rfl rfl kgo) ?_
      refine own_go (g' := (mkF m 80 #[.val (.int p0), .val (.int p1), .val (.int p2), .val (.int p3), .val (.ref b1), .val (.ref b6), .val (.ref b7), .val (.int (2 : Int32)), .unset, .unset, .unset, .unset, .unset] [(.int (2 : Int32)), (.ref b1)])) (fun _ kgo => XS.iload X42.here hx rfl (hb hby at_78) rfl kgo) ?_
      refine own_go (g' := (mkF m 82 #[.val (.int p0), .val (.int p1), .val (.int p2), .val (.int p3), .val (.ref b1), .val (.ref b6), .val (.ref b7), .val (.int (2 : Int32)), .unset, .unset, .unset, .unset, .unset] [(.ref b6), (.int (2 : Int32)), (.ref b1)])) (fun _ kgo => XS.aload X42.here hx rfl (hb hby at_80) rfl rfl kgo) ?_
      refine own_go (g' := (mkF m 84 #[.val (.int p0), .val (.int p1), .val (.int p2), .val (.int p3), .val (.ref b1), .val (.ref b6), .val (.ref b7), .val (.int (2 : Int32)), .unset, .unset, .unset, .unset, .unset] [(.ref b7), (.ref b6), (.int (2 : Int32)), (.ref b1)])) (fun _ kgo => XS.aload X42.here hx rfl (hb hby at_82) rfl rfl kgo) ?_
      obtain ⟨v43, T43, L43, hQ43, X43, st43⟩ := own_callS X42 hx hZ (y := (⟨"com/example/firm_tread/firmtread/transport/Utf8AcceptPinLaw", "step", "([II[Z[Z)I"⟩ : MethodName)) hown (hw _ (List.mem_of_getElem? (i := 2) rfl)) (hw _ (List.mem_of_getElem? (i := 3) rfl)) (hw _ (List.mem_of_getElem? (i := 4) rfl)) (hw _ (List.mem_of_getElem? (i := 5) rfl)) ⟨by decide, by decide⟩ (argsL := [(.ref b1), (.int (2 : Int32)), (.ref b6), (.ref b7)]) (stp2 l Z a0 hw b1 b6 b7 x0 x1 x2 x3 a0'39 a1'42 a2'42 a3'42 c0'39 c1'42 c2'42 c3'42 k1 k6 k7 T42.heap n0 Z42 ge_b6 ge_b7 q42_0 q42_1 q42_2 ne_b1_b6 ne_b1_b7 ne_b6_b7 hv2) rfl (g := (mkF m 84 #[.val (.int p0), .val (.int p1), .val (.int p2), .val (.int p3), .val (.ref b1), .val (.ref b6), .val (.ref b7), .val (.int (2 : Int32)), .unset, .unset, .unset, .unset, .unset] [(.ref b7), (.ref b6), (.int (2 : Int32)), (.ref b1)])) rfl (by rw [hml]; rfl) (rest := []) (lenOf pd0_3 rfl) rfl (hb hby at_84) (W := 0) (by show 2 * 0 + _ ≤ _; exact Nat.le_of_eq rfl) (by decide) (by decide) (by decide) (by decide)
      obtain ⟨r43, a2'43, a3'43, c2'43, c3'43, rfl, Nq43, Kq43, pr43_0, q43_0, q43_1, q43_2⟩ := hQ43
      have N43 := Fr.app N42 Nq43
      have Z43 : n0 ≤ T43.heap.size := Nat.le_trans Z42 Kq43.1
      refine own_go (g' := (mkF m 87 #[.val (.int p0), .val (.int p1), .val (.int p2), .val (.int p3), .val (.ref b1), .val (.ref b6), .val (.ref b7), .val (.int (2 : Int32)), .unset, .unset, .unset, .unset, .unset] [(.int r43)])) (st43) ?_
      rcases pr43_0 with ⟨rfl, hr2⟩ | ⟨h4_2, hr2⟩
      ·
        refine own_go (g' := (mkF m 89 #[.val (.int p0), .val (.int p1), .val (.int p2), .val (.int p3), .val (.ref b1), .val (.ref b6), .val (.ref b7), .val (.int (3 : Int32)), .unset, .unset, .unset, .unset, .unset] [])) (fun _ kgo => XS.istore X43.here hx rfl (hb hby at_87) rfl (l' := #[.val (.int p0), .val (.int p1), .val (.int p2), .val (.int p3), .val (.ref b1), .val (.ref b6), .val (.ref b7), .val (.int (3 : Int32)), .unset, .unset, .unset, .unset, .unset]) rfl kgo) ?_
        refine own_go (g' := (mkF m 91 #[.val (.int p0), .val (.int p1), .val (.int p2), .val (.int p3), .val (.ref b1), .val (.ref b6), .val (.ref b7), .val (.int (3 : Int32)), .unset, .unset, .unset, .unset, .unset] [(.ref b1)])) (fun _ kgo => XS.aload X43.here hx rfl (hb hby at_89) rfl rfl kgo) ?_
        refine own_go (g' := (mkF m 93 #[.val (.int p0), .val (.int p1), .val (.int p2), .val (.int p3), .val (.ref b1), .val (.ref b6), .val (.ref b7), .val (.int (3 : Int32)), .unset, .unset, .unset, .unset, .unset] [(.int (3 : Int32)), (.ref b1)])) (fun _ kgo => XS.iload X43.here hx rfl (hb hby at_91) rfl kgo) ?_
        refine own_go (g' := (mkF m 95 #[.val (.int p0), .val (.int p1), .val (.int p2), .val (.int p3), .val (.ref b1), .val (.ref b6), .val (.ref b7), .val (.int (3 : Int32)), .unset, .unset, .unset, .unset, .unset] [(.ref b6), (.int (3 : Int32)), (.ref b1)])) (fun _ kgo => XS.aload X43.here hx rfl (hb hby at_93) rfl rfl kgo) ?_
        refine own_go (g' := (mkF m 97 #[.val (.int p0), .val (.int p1), .val (.int p2), .val (.int p3), .val (.ref b1), .val (.ref b6), .val (.ref b7), .val (.int (3 : Int32)), .unset, .unset, .unset, .unset, .unset] [(.ref b7), (.ref b6), (.int (3 : Int32)), (.ref b1)])) (fun _ kgo => XS.aload X43.here hx rfl (hb hby at_95) rfl rfl kgo) ?_
        obtain ⟨v44, T44, L44, hQ44, X44, st44⟩ := own_callS X43 hx hZ (y := (⟨"com/example/firm_tread/firmtread/transport/Utf8AcceptPinLaw", "step", "([II[Z[Z)I"⟩ : MethodName)) hown (hw _ (List.mem_of_getElem? (i := 2) rfl)) (hw _ (List.mem_of_getElem? (i := 3) rfl)) (hw _ (List.mem_of_getElem? (i := 4) rfl)) (hw _ (List.mem_of_getElem? (i := 5) rfl)) ⟨by decide, by decide⟩ (argsL := [(.ref b1), (.int (3 : Int32)), (.ref b6), (.ref b7)]) (stp3 l Z a0 hw b1 b6 b7 x0 x1 x2 x3 a0'39 a1'42 a2'43 a3'43 c0'39 c1'42 c2'43 c3'43 k1 k6 k7 T43.heap n0 Z43 ge_b6 ge_b7 q43_0 q43_1 q43_2 ne_b1_b6 ne_b1_b7 ne_b6_b7 hv3) rfl (g := (mkF m 97 #[.val (.int p0), .val (.int p1), .val (.int p2), .val (.int p3), .val (.ref b1), .val (.ref b6), .val (.ref b7), .val (.int (3 : Int32)), .unset, .unset, .unset, .unset, .unset] [(.ref b7), (.ref b6), (.int (3 : Int32)), (.ref b1)])) rfl (by rw [hml]; rfl) (rest := []) (lenOf pd0_3 rfl) rfl (hb hby at_97) (W := 0) (by show 2 * 0 + _ ≤ _; exact Nat.le_of_eq rfl) (by decide) (by decide) (by decide) (by decide)
        obtain ⟨r44, a3'44, c3'44, rfl, Nq44, Kq44, pr44_0, q44_0, q44_1, q44_2⟩ := hQ44
        have N44 := Fr.app N43 Nq44
        have Z44 : n0 ≤ T44.heap.size := Nat.le_trans Z43 Kq44.1
        refine own_go (g' := (mkF m 100 #[.val (.int p0), .val (.int p1), .val (.int p2), .val (.int p3), .val (.ref b1), .val (.ref b6), .val (.ref b7), .val (.int (3 : Int32)), .unset, .unset, .unset, .unset, .unset] [(.int r44)])) (st44) ?_
        rcases pr44_0 with ⟨h4_3, hr3⟩
        ·
          refine own_go (g' := (mkF m 102 #[.val (.int p0), .val (.int p1), .val (.int p2), .val (.int p3), .val (.ref b1), .val (.ref b6), .val (.ref b7), .val (.int r44), .unset, .unset, .unset, .unset, .unset] [])) (fun _ kgo => XS.istore X44.here hx rfl (hb hby at_100) rfl (l' := #[.val (.int p0), .val (.int p1), .val (.int p2), .val (.int p3), .val (.ref b1), .val (.ref b6), .val (.ref b7), .val (.int r44), .unset, .unset, .unset, .unset, .unset]) rfl kgo) ?_
          have hfin : own_chk [(x0, a0'39, c0'39), (x1, a1'42, c1'42), (x2, a2'43, c2'43), (x3, a3'44, c3'44)] 0 128 191 = true := by
            rw [hr0, hr1, hr2]; exact hr3
          exact JG _ _ X44 _ rfl N44 Z44 r44 a0'39 a1'42 a2'43 a3'44 c0'39 c1'42 c2'43 c3'44 q44_0 q44_1 q44_2 hfin
      ·
        refine own_go (g' := (mkF m 89 #[.val (.int p0), .val (.int p1), .val (.int p2), .val (.int p3), .val (.ref b1), .val (.ref b6), .val (.ref b7), .val (.int r43), .unset, .unset, .unset, .unset, .unset] [])) (fun _ kgo => XS.istore X43.here hx rfl (hb hby at_87) rfl (l' := #[.val (.int p0), .val (.int p1), .val (.int p2), .val (.int p3), .val (.ref b1), .val (.ref b6), .val (.ref b7), .val (.int r43), .unset, .unset, .unset, .unset, .unset]) rfl kgo) ?_
        refine own_go (g' := (mkF m 91 #[.val (.int p0), .val (.int p1), .val (.int p2), .val (.int p3), .val (.ref b1), .val (.ref b6), .val (.ref b7), .val (.int r43), .unset, .unset, .unset, .unset, .unset] [(.ref b1)])) (fun _ kgo => XS.aload X43.here hx rfl (hb hby at_89) rfl rfl kgo) ?_
        refine own_go (g' := (mkF m 93 #[.val (.int p0), .val (.int p1), .val (.int p2), .val (.int p3), .val (.ref b1), .val (.ref b6), .val (.ref b7), .val (.int r43), .unset, .unset, .unset, .unset, .unset] [(.int r43), (.ref b1)])) (fun _ kgo => XS.iload X43.here hx rfl (hb hby at_91) rfl kgo) ?_
        refine own_go (g' := (mkF m 95 #[.val (.int p0), .val (.int p1), .val (.int p2), .val (.int p3), .val (.ref b1), .val (.ref b6), .val (.ref b7), .val (.int r43), .unset, .unset, .unset, .unset, .unset] [(.ref b6), (.int r43), (.ref b1)])) (fun _ kgo => XS.aload X43.here hx rfl (hb hby at_93) rfl rfl kgo) ?_
        refine own_go (g' := (mkF m 97 #[.val (.int p0), .val (.int p1), .val (.int p2), .val (.int p3), .val (.ref b1), .val (.ref b6), .val (.ref b7), .val (.int r43), .unset, .unset, .unset, .unset, .unset] [(.ref b7), (.ref b6), (.int r43), (.ref b1)])) (fun _ kgo => XS.aload X43.here hx rfl (hb hby at_95) rfl rfl kgo) ?_
        obtain ⟨v45, T45, L45, hQ45, X45, st45⟩ := own_callS X43 hx hZ (y := (⟨"com/example/firm_tread/firmtread/transport/Utf8AcceptPinLaw", "step", "([II[Z[Z)I"⟩ : MethodName)) hown (hw _ (List.mem_of_getElem? (i := 2) rfl)) (hw _ (List.mem_of_getElem? (i := 3) rfl)) (hw _ (List.mem_of_getElem? (i := 4) rfl)) (hw _ (List.mem_of_getElem? (i := 5) rfl)) ⟨by decide, by decide⟩ (argsL := [(.ref b1), (.int r43), (.ref b6), (.ref b7)]) (stq4 l Z a0 hw b1 r43 b6 b7 T43.heap h4_2) rfl (g := (mkF m 97 #[.val (.int p0), .val (.int p1), .val (.int p2), .val (.int p3), .val (.ref b1), .val (.ref b6), .val (.ref b7), .val (.int r43), .unset, .unset, .unset, .unset, .unset] [(.ref b7), (.ref b6), (.int r43), (.ref b1)])) rfl (by rw [hml]; rfl) (rest := []) (lenOf pd0_3 rfl) rfl (hb hby at_97) (W := 0) (by show 2 * 0 + _ ≤ _; exact Nat.le_of_eq rfl) (by decide) (by decide) (by decide) (by decide)
        obtain ⟨rfl, e45, rfl⟩ := hQ45
        have N45 := Fr.app N43 (Fr.nil n0)
        refine own_go (g' := (mkF m 100 #[.val (.int p0), .val (.int p1), .val (.int p2), .val (.int p3), .val (.ref b1), .val (.ref b6), .val (.ref b7), .val (.int r43), .unset, .unset, .unset, .unset, .unset] [(.int (4 : Int32))])) (st45) ?_
        refine own_go (g' := (mkF m 102 #[.val (.int p0), .val (.int p1), .val (.int p2), .val (.int p3), .val (.ref b1), .val (.ref b6), .val (.ref b7), .val (.int (4 : Int32)), .unset, .unset, .unset, .unset, .unset] [])) (fun _ kgo => XS.istore X45.here hx rfl (hb hby at_100) rfl (l' := #[.val (.int p0), .val (.int p1), .val (.int p2), .val (.int p3), .val (.ref b1), .val (.ref b6), .val (.ref b7), .val (.int (4 : Int32)), .unset, .unset, .unset, .unset, .unset]) rfl kgo) ?_
        have hfin : own_chk [(x0, a0'39, c0'39), (x1, a1'42, c1'42), (x2, a2'43, c2'43), (x3, a3'43, c3'43)] 0 128 191 = true := by
          rw [hr0, hr1]; exact hr2
        exact JG _ _ X45 _ e45 N45 Z43 (4 : Int32) a0'39 a1'42 a2'43 a3'43 c0'39 c1'42 c2'43 c3'43 q43_0 q43_1 q43_2 hfin
    ·
      refine own_go (g' := (mkF m 76 #[.val (.int p0), .val (.int p1), .val (.int p2), .val (.int p3), .val (.ref b1), .val (.ref b6), .val (.ref b7), .val (.int (3 : Int32)), .unset, .unset, .unset, .unset, .unset] [])) (fun _ kgo => XS.istore X42.here hx rfl (hb hby at_74) rfl (l' := #[.val (.int p0), .val (.int p1), .val (.int p2), .val (.int p3), .val (.ref b1), .val (.ref b6), .val (.ref b7), .val (.int (3 : Int32)), .unset, .unset, .unset, .unset, .unset]) rfl kgo) ?_
      refine own_go (g' := (mkF m 78 #[.val (.int p0), .val (.int p1), .val (.int p2), .val (.int p3), .val (.ref b1), .val (.ref b6), .val (.ref b7), .val (.int (3 : Int32)), .unset, .unset, .unset, .unset, .unset] [(.ref b1)])) (fun _ kgo => XS.aload X42.here hx rfl (hb hby at_76) rfl rfl kgo) ?_
      refine own_go (g' := (mkF m 80 #[.val (.int p0), .val (.int p1), .val (.int p2), .val (.int p3), .val (.ref b1), .val (.ref b6), .val (.ref b7), .val (.int (3 : Int32)), .unset, .unset, .unset, .unset, .unset] [(.int (3 : Int32)), (.ref b1)])) (fun _ kgo => XS.iload X42.here hx rfl (hb hby at_78) rfl kgo) ?_
      refine own_go (g' := (mkF m 82 #[.val (.int p0), .val (.int p1), .val (.int p2), .val (.int p3), .val (.ref b1), .val (.ref b6), .val (.ref b7), .val (.int (3 : Int32)), .unset, .unset, .unset, .unset, .unset] [(.ref b6), (.int (3 : Int32)), (.ref b1)])) (fun _ kgo => XS.aload X42.here hx rfl (hb hby at_80) rfl rfl kgo) ?_
      refine own_go (g' := (mkF m 84 #[.val (.int p0), .val (.int p1), .val (.int p2), .val (.int p3), .val (.ref b1), .val (.ref b6), .val (.ref b7), .val (.int (3 : Int32)), .unset, .unset, .unset, .unset, .unset] [(.ref b7), (.ref b6), (.int (3 : Int32)), (.ref b1)])) (fun _ kgo => XS.aload X42.here hx rfl (hb hby at_82) rfl rfl kgo) ?_
      obtain ⟨v46, T46, L46, hQ46, X46, st46⟩ := own_callS X42 hx hZ (y := (⟨"com/example/firm_tread/firmtread/transport/Utf8AcceptPinLaw", "step", "([II[Z[Z)I"⟩ : MethodName)) hown (hw _ (List.mem_of_getElem? (i := 2) rfl)) (hw _ (List.mem_of_getElem? (i := 3) rfl)) (hw _ (List.mem_of_getElem? (i := 4) rfl)) (hw _ (List.mem_of_getElem? (i := 5) rfl)) ⟨by decide, by decide⟩ (argsL := [(.ref b1), (.int (3 : Int32)), (.ref b6), (.ref b7)]) (stp3 l Z a0 hw b1 b6 b7 x0 x1 x2 x3 a0'39 a1'42 a2'42 a3'42 c0'39 c1'42 c2'42 c3'42 k1 k6 k7 T42.heap n0 Z42 ge_b6 ge_b7 q42_0 q42_1 q42_2 ne_b1_b6 ne_b1_b7 ne_b6_b7 hv3) rfl (g := (mkF m 84 #[.val (.int p0), .val (.int p1), .val (.int p2), .val (.int p3), .val (.ref b1), .val (.ref b6), .val (.ref b7), .val (.int (3 : Int32)), .unset, .unset, .unset, .unset, .unset] [(.ref b7), (.ref b6), (.int (3 : Int32)), (.ref b1)])) rfl (by rw [hml]; rfl) (rest := []) (lenOf pd0_3 rfl) rfl (hb hby at_84) (W := 0) (by show 2 * 0 + _ ≤ _; exact Nat.le_of_eq rfl) (by decide) (by decide) (by decide) (by decide)
      obtain ⟨r46, a3'46, c3'46, rfl, Nq46, Kq46, pr46_0, q46_0, q46_1, q46_2⟩ := hQ46
      have N46 := Fr.app N42 Nq46
      have Z46 : n0 ≤ T46.heap.size := Nat.le_trans Z42 Kq46.1
      refine own_go (g' := (mkF m 87 #[.val (.int p0), .val (.int p1), .val (.int p2), .val (.int p3), .val (.ref b1), .val (.ref b6), .val (.ref b7), .val (.int (3 : Int32)), .unset, .unset, .unset, .unset, .unset] [(.int r46)])) (st46) ?_
      rcases pr46_0 with ⟨h4_3, hr3⟩
      ·
        refine own_go (g' := (mkF m 89 #[.val (.int p0), .val (.int p1), .val (.int p2), .val (.int p3), .val (.ref b1), .val (.ref b6), .val (.ref b7), .val (.int r46), .unset, .unset, .unset, .unset, .unset] [])) (fun _ kgo => XS.istore X46.here hx rfl (hb hby at_87) rfl (l' := #[.val (.int p0), .val (.int p1), .val (.int p2), .val (.int p3), .val (.ref b1), .val (.ref b6), .val (.ref b7), .val (.int r46), .unset, .unset, .unset, .unset, .unset]) rfl kgo) ?_
        refine own_go (g' := (mkF m 91 #[.val (.int p0), .val (.int p1), .val (.int p2), .val (.int p3), .val (.ref b1), .val (.ref b6), .val (.ref b7), .val (.int r46), .unset, .unset, .unset, .unset, .unset] [(.ref b1)])) (fun _ kgo => XS.aload X46.here hx rfl (hb hby at_89) rfl rfl kgo) ?_
        refine own_go (g' := (mkF m 93 #[.val (.int p0), .val (.int p1), .val (.int p2), .val (.int p3), .val (.ref b1), .val (.ref b6), .val (.ref b7), .val (.int r46), .unset, .unset, .unset, .unset, .unset] [(.int r46), (.ref b1)])) (fun _ kgo => XS.iload X46.here hx rfl (hb hby at_91) rfl kgo) ?_
        refine own_go (g' := (mkF m 95 #[.val (.int p0), .val (.int p1), .val (.int p2), .val (.int p3), .val (.ref b1), .val (.ref b6), .val (.ref b7), .val (.int r46), .unset, .unset, .unset, .unset, .unset] [(.ref b6), (.int r46), (.ref b1)])) (fun _ kgo => XS.aload X46.here hx rfl (hb hby at_93) rfl rfl kgo) ?_
        refine own_go (g' := (mkF m 97 #[.val (.int p0), .val (.int p1), .val (.int p2), .val (.int p3), .val (.ref b1), .val (.ref b6), .val (.ref b7), .val (.int r46), .unset, .unset, .unset, .unset, .unset] [(.ref b7), (.ref b6), (.int r46), (.ref b1)])) (fun _ kgo => XS.aload X46.here hx rfl (hb hby at_95) rfl rfl kgo) ?_
        obtain ⟨v47, T47, L47, hQ47, X47, st47⟩ := own_callS X46 hx hZ (y := (⟨"com/example/firm_tread/firmtread/transport/Utf8AcceptPinLaw", "step", "([II[Z[Z)I"⟩ : MethodName)) hown (hw _ (List.mem_of_getElem? (i := 2) rfl)) (hw _ (List.mem_of_getElem? (i := 3) rfl)) (hw _ (List.mem_of_getElem? (i := 4) rfl)) (hw _ (List.mem_of_getElem? (i := 5) rfl)) ⟨by decide, by decide⟩ (argsL := [(.ref b1), (.int r46), (.ref b6), (.ref b7)]) (stq4 l Z a0 hw b1 r46 b6 b7 T46.heap h4_3) rfl (g := (mkF m 97 #[.val (.int p0), .val (.int p1), .val (.int p2), .val (.int p3), .val (.ref b1), .val (.ref b6), .val (.ref b7), .val (.int r46), .unset, .unset, .unset, .unset, .unset] [(.ref b7), (.ref b6), (.int r46), (.ref b1)])) rfl (by rw [hml]; rfl) (rest := []) (lenOf pd0_3 rfl) rfl (hb hby at_97) (W := 0) (by show 2 * 0 + _ ≤ _; exact Nat.le_of_eq rfl) (by decide) (by decide) (by decide) (by decide)
        obtain ⟨rfl, e47, rfl⟩ := hQ47
        have N47 := Fr.app N46 (Fr.nil n0)
        refine own_go (g' := (mkF m 100 #[.val (.int p0), .val (.int p1), .val (.int p2), .val (.int p3), .val (.ref b1), .val (.ref b6), .val (.ref b7), .val (.int r46), .unset, .unset, .unset, .unset, .unset] [(.int (4 : Int32))])) (st47) ?_
        refine own_go (g' := (mkF m 102 #[.val (.int p0), .val (.int p1), .val (.int p2), .val (.int p3), .val (.ref b1), .val (.ref b6), .val (.ref b7), .val (.int (4 : Int32)), .unset, .unset, .unset, .unset, .unset] [])) (fun _ kgo => XS.istore X47.here hx rfl (hb hby at_100) rfl (l' := #[.val (.int p0), .val (.int p1), .val (.int p2), .val (.int p3), .val (.ref b1), .val (.ref b6), .val (.ref b7), .val (.int (4 : Int32)), .unset, .unset, .unset, .unset, .unset]) rfl kgo) ?_
        have hfin : own_chk [(x0, a0'39, c0'39), (x1, a1'42, c1'42), (x2, a2'42, c2'42), (x3, a3'46, c3'46)] 0 128 191 = true := by
          rw [hr0, hr1]; exact hr3
        exact JG _ _ X47 _ e47 N47 Z46 (4 : Int32) a0'39 a1'42 a2'42 a3'46 c0'39 c1'42 c2'42 c3'46 q46_0 q46_1 q46_2 hfin
    ·
      refine own_go (g' := (mkF m 76 #[.val (.int p0), .val (.int p1), .val (.int p2), .val (.int p3), .val (.ref b1), .val (.ref b6), .val (.ref b7), .val (.int r42), .unset, .unset, .unset, .unset, .unset] [])) (fun _ kgo => XS.istore X42.here hx rfl (hb hby at_74) rfl (l' := #[.val (.int p0), .val (.int p1), .val (.int p2), .val (.int p3), .val (.ref b1), .val (.ref b6), .val (.ref b7), .val (.int r42), .unset, .unset, .unset, .unset, .unset]) rfl kgo) ?_
      refine own_go (g' := (mkF m 78 #[.val (.int p0), .val (.int p1), .val (.int p2), .val (.int p3), .val (.ref b1), .val (.ref b6), .val (.ref b7), .val (.int r42), .unset, .unset, .unset, .unset, .unset] [(.ref b1)])) (fun _ kgo => XS.aload X42.here hx rfl (hb hby at_76) rfl rfl kgo) ?_
      refine own_go (g' := (mkF m 80 #[.val (.int p0), .val (.int p1), .val (.int p2), .val (.int p3), .val (.ref b1), .val (.ref b6), .val (.ref b7), .val (.int r42), .unset, .unset, .unset, .unset, .unset] [(.int r42), (.ref b1)])) (fun _ kgo => XS.iload X42.here hx rfl (hb hby at_78) rfl kgo) ?_
      refine own_go (g' := (mkF m 82 #[.val (.int p0), .val (.int p1), .val (.int p2), .val (.int p3), .val (.ref b1), .val (.ref b6), .val (.ref b7), .val (.int r42), .unset, .unset, .unset, .unset, .unset] [(.ref b6), (.int r42), (.ref b1)])) (fun _ kgo => XS.aload X42.here hx rfl (hb hby at_80) rfl rfl kgo) ?_
      refine own_go (g' := (mkF m 84 #[.val (.int p0), .val (.int p1), .val (.int p2), .val (.int p3), .val (.ref b1), .val (.ref b6), .val (.ref b7), .val (.int r42), .unset, .unset, .unset, .unset, .unset] [(.ref b7), (.ref b6), (.int r42), (.ref b1)])) (fun _ kgo => XS.aload X42.here hx rfl (hb hby at_82) rfl rfl kgo) ?_
      obtain ⟨v48, T48, L48, hQ48, X48, st48⟩ := own_callS X42 hx hZ (y := (⟨"com/example/firm_tread/firmtread/transport/Utf8AcceptPinLaw", "step", "([II[Z[Z)I"⟩ : MethodName)) hown (hw _ (List.mem_of_getElem? (i := 2) rfl)) (hw _ (List.mem_of_getElem? (i := 3) rfl)) (hw _ (List.mem_of_getElem? (i := 4) rfl)) (hw _ (List.mem_of_getElem? (i := 5) rfl)) ⟨by decide, by decide⟩ (argsL := [(.ref b1), (.int r42), (.ref b6), (.ref b7)]) (stq4 l Z a0 hw b1 r42 b6 b7 T42.heap h4_1) rfl (g := (mkF m 84 #[.val (.int p0), .val (.int p1), .val (.int p2), .val (.int p3), .val (.ref b1), .val (.ref b6), .val (.ref b7), .val (.int r42), .unset, .unset, .unset, .unset, .unset] [(.ref b7), (.ref b6), (.int r42), (.ref b1)])) rfl (by rw [hml]; rfl) (rest := []) (lenOf pd0_3 rfl) rfl (hb hby at_84) (W := 0) (by show 2 * 0 + _ ≤ _; exact Nat.le_of_eq rfl) (by decide) (by decide) (by decide) (by decide)
      obtain ⟨rfl, e48, rfl⟩ := hQ48
      have N48 := Fr.app N42 (Fr.nil n0)
      refine own_go (g' := (mkF m 87 #[.val (.int p0), .val (.int p1), .val (.int p2), .val (.int p3), .val (.ref b1), .val (.ref b6), .val (.ref b7), .val (.int r42), .unset, .unset, .unset, .unset, .unset] [(.int (4 : Int32))])) (st48) ?_
      refine own_go (g' := (mkF m 89 #[.val (.int p0), .val (.int p1), .val (.int p2), .val (.int p3), .val (.ref b1), .val (.ref b6), .val (.ref b7), .val (.int (4 : Int32)), .unset, .unset, .unset, .unset, .unset] [])) (fun _ kgo => XS.istore X48.here hx rfl (hb hby at_87) rfl (l' := #[.val (.int p0), .val (.int p1), .val (.int p2), .val (.int p3), .val (.ref b1), .val (.ref b6), .val (.ref b7), .val (.int (4 : Int32)), .unset, .unset, .unset, .unset, .unset]) rfl kgo) ?_
      refine own_go (g' := (mkF m 91 #[.val (.int p0), .val (.int p1), .val (.int p2), .val (.int p3), .val (.ref b1), .val (.ref b6), .val (.ref b7), .val (.int (4 : Int32)), .unset, .unset, .unset, .unset, .unset] [(.ref b1)])) (fun _ kgo => XS.aload X48.here hx rfl (hb hby at_89) rfl rfl kgo) ?_
      refine own_go (g' := (mkF m 93 #[.val (.int p0), .val (.int p1), .val (.int p2), .val (.int p3), .val (.ref b1), .val (.ref b6), .val (.ref b7), .val (.int (4 : Int32)), .unset, .unset, .unset, .unset, .unset] [(.int (4 : Int32)), (.ref b1)])) (fun _ kgo => XS.iload X48.here hx rfl (hb hby at_91) rfl kgo) ?_
      refine own_go (g' := (mkF m 95 #[.val (.int p0), .val (.int p1), .val (.int p2), .val (.int p3), .val (.ref b1), .val (.ref b6), .val (.ref b7), .val (.int (4 : Int32)), .unset, .unset, .unset, .unset, .unset] [(.ref b6), (.int (4 : Int32)), (.ref b1)])) (fun _ kgo => XS.aload X48.here hx rfl (hb hby at_93) rfl rfl kgo) ?_
      refine own_go (g' := (mkF m 97 #[.val (.int p0), .val (.int p1), .val (.int p2), .val (.int p3), .val (.ref b1), .val (.ref b6), .val (.ref b7), .val (.int (4 : Int32)), .unset, .unset, .unset, .unset, .unset] [(.ref b7), (.ref b6), (.int (4 : Int32)), (.ref b1)])) (fun _ kgo => XS.aload X48.here hx rfl (hb hby at_95) rfl rfl kgo) ?_
      obtain ⟨v49, T49, L49, hQ49, X49, st49⟩ := own_callS X48 hx hZ (y := (⟨"com/example/firm_tread/firmtread/transport/Utf8AcceptPinLaw", "step", "([II[Z[Z)I"⟩ : MethodName)) hown (hw _ (List.mem_of_getElem? (i := 2) rfl)) (hw _ (List.mem_of_getElem? (i := 3) rfl)) (hw _ (List.mem_of_getElem? (i := 4) rfl)) (hw _ (List.mem_of_getElem? (i := 5) rfl)) ⟨by decide, by decide⟩ (argsL := [(.ref b1), (.int (4 : Int32)), (.ref b6), (.ref b7)]) (stq4 l Z a0 hw b1 (4 : Int32) b6 b7 T42.heap (by decide)) e48 (g := (mkF m 97 #[.val (.int p0), .val (.int p1), .val (.int p2), .val (.int p3), .val (.ref b1), .val (.ref b6), .val (.ref b7), .val (.int (4 : Int32)), .unset, .unset, .unset, .unset, .unset] [(.ref b7), (.ref b6), (.int (4 : Int32)), (.ref b1)])) rfl (by rw [hml]; rfl) (rest := []) (lenOf pd0_3 rfl) rfl (hb hby at_97) (W := 0) (by show 2 * 0 + _ ≤ _; exact Nat.le_of_eq rfl) (by decide) (by decide) (by decide) (by decide)
      obtain ⟨rfl, e49, rfl⟩ := hQ49
      have N49 := Fr.app N48 (Fr.nil n0)
      refine own_go (g' := (mkF m 100 #[.val (.int p0), .val (.int p1), .val (.int p2), .val (.int p3), .val (.ref b1), .val (.ref b6), .val (.ref b7), .val (.int (4 : Int32)), .unset, .unset, .unset, .unset, .unset] [(.int (4 : Int32))])) (st49) ?_
      refine own_go (g' := (mkF m 102 #[.val (.int p0), .val (.int p1), .val (.int p2), .val (.int p3), .val (.ref b1), .val (.ref b6), .val (.ref b7), .val (.int (4 : Int32)), .unset, .unset, .unset, .unset, .unset] [])) (fun _ kgo => XS.istore X49.here hx rfl (hb hby at_100) rfl (l' := #[.val (.int p0), .val (.int p1), .val (.int p2), .val (.int p3), .val (.ref b1), .val (.ref b6), .val (.ref b7), .val (.int (4 : Int32)), .unset, .unset, .unset, .unset, .unset]) rfl kgo) ?_
      have hfin : own_chk [(x0, a0'39, c0'39), (x1, a1'42, c1'42), (x2, a2'42, c2'42), (x3, a3'42, c3'42)] 0 128 191 = true := by
        rw [hr0]; exact hr1
      exact JG _ _ X49 _ e49 N49 Z42 (4 : Int32) a0'39 a1'42 a2'42 a3'42 c0'39 c1'42 c2'42 c3'42 q42_0 q42_1 q42_2 hfin
  ·
    refine own_go (g' := (mkF m 63 #[.val (.int p0), .val (.int p1), .val (.int p2), .val (.int p3), .val (.ref b1), .val (.ref b6), .val (.ref b7), .val (.int (2 : Int32)), .unset, .unset, .unset, .unset, .unset] [])) (fun _ kgo => XS.istore X39.here hx rfl (hb hby at_61) rfl (l' := #[.val (.int p0), .val (.int p1), .val (.int p2), .val (.int p3), .val (.ref b1), .val (.ref b6), .val (.ref b7), .val (.int (2 : Int32)), .unset, .unset, .unset, .unset, .unset]) rfl kgo) ?_
    refine own_go (g' := (mkF m 65 #[.val (.int p0), .val (.int p1), .val (.int p2), .val (.int p3), .val (.ref b1), .val (.ref b6), .val (.ref b7), .val (.int (2 : Int32)), .unset, .unset, .unset, .unset, .unset] [(.ref b1)])) (fun _ kgo => XS.aload X39.here hx rfl (hb hby at_63) rfl rfl kgo) ?_
    refine own_go (g' := (mkF m 67 #[.val (.int p0), .val (.int p1), .val (.int p2), .val (.int p3), .val (.ref b1), .val (.ref b6), .val (.ref b7), .val (.int (2 : Int32)), .unset, .unset, .unset, .unset, .unset] [(.int (2 : Int32)), (.ref b1)])) (fun _ kgo => XS.iload X39.here hx rfl (hb hby at_65) rfl kgo) ?_
    refine own_go (g' := (mkF m 69 #[.val (.int p0), .val (.int p1), .val (.int p2), .val (.int p3), .val (.ref b1), .val (.ref b6), .val (.ref b7), .val (.int (2 : Int32)), .unset, .unset, .unset, .unset, .unset] [(.ref b6), (.int (2 : Int32)), (.ref b1)])) (fun _ kgo => XS.aload X39.here hx rfl (hb hby at_67) rfl rfl kgo) ?_
    refine own_go (g' := (mkF m 71 #[.val (.int p0), .val (.int p1), .val (.int p2), .val (.int p3), .val (.ref b1), .val (.ref b6), .val (.ref b7), .val (.int (2 : Int32)), .unset, .unset, .unset, .unset, .unset] [(.ref b7), (.ref b6), (.int (2 : Int32)), (.ref b1)])) (fun _ kgo => XS.aload X39.here hx rfl (hb hby at_69) rfl rfl kgo) ?_
    obtain ⟨v50, T50, L50, hQ50, X50, st50⟩ := own_callS X39 hx hZ (y := (⟨"com/example/firm_tread/firmtread/transport/Utf8AcceptPinLaw", "step", "([II[Z[Z)I"⟩ : MethodName)) hown (hw _ (List.mem_of_getElem? (i := 2) rfl)) (hw _ (List.mem_of_getElem? (i := 3) rfl)) (hw _ (List.mem_of_getElem? (i := 4) rfl)) (hw _ (List.mem_of_getElem? (i := 5) rfl)) ⟨by decide, by decide⟩ (argsL := [(.ref b1), (.int (2 : Int32)), (.ref b6), (.ref b7)]) (stp2 l Z a0 hw b1 b6 b7 x0 x1 x2 x3 a0'39 a1'39 a2'39 a3'39 c0'39 c1'39 c2'39 c3'39 k1 k6 k7 T39.heap n0 Z39 ge_b6 ge_b7 q39_0 q39_1 q39_2 ne_b1_b6 ne_b1_b7 ne_b6_b7 hv2) rfl (g := (mkF m 71 #[.val (.int p0), .val (.int p1), .val (.int p2), .val (.int p3), .val (.ref b1), .val (.ref b6), .val (.ref b7), .val (.int (2 : Int32)), .unset, .unset, .unset, .unset, .unset] [(.ref b7), (.ref b6), (.int (2 : Int32)), (.ref b1)])) rfl (by rw [hml]; rfl) (rest := []) (lenOf pd0_3 rfl) rfl (hb hby at_71) (W := 0) (by show 2 * 0 + _ ≤ _; exact Nat.le_of_eq rfl) (by decide) (by decide) (by decide) (by decide)
    obtain ⟨r50, a2'50, a3'50, c2'50, c3'50, rfl, Nq50, Kq50, pr50_0, q50_0, q50_1, q50_2⟩ := hQ50
    have N50 := Fr.app N39 Nq50
    have Z50 : n0 ≤ T50.heap.size := Nat.le_trans Z39 Kq50.1
    refine own_go (g' := (mkF m 74 #[.val (.int p0), .val (.int p1), .val (.int p2), .val (.int p3), .val (.ref b1), .val (.ref b6), .val (.ref b7), .val (.int (2 : Int32)), .unset, .unset, .unset, .unset, .unset] [(.int r50)])) (st50) ?_
    rcases pr50_0 with ⟨rfl, hr2⟩ | ⟨h4_2, hr2⟩
    ·
      refine own_go (g' := (mkF m 76 #[.val (.int p0), .val (.int p1), .val (.int p2), .val (.int p3), .val (.ref b1), .val (.ref b6), .val (.ref b7), .val (.int (3 : Int32)), .unset, .unset, .unset, .unset, .unset] [])) (fun _ kgo => XS.istore X50.here hx rfl (hb hby at_74) rfl (l' := #[.val (.int p0), .val (.int p1), .val (.int p2), .val (.int p3), .val (.ref b1), .val (.ref b6), .val (.ref b7), .val (.int (3 : Int32)), .unset, .unset, .unset, .unset, .unset]) rfl kgo) ?_
      refine own_go (g' := (mkF m 78 #[.val (.int p0), .val (.int p1), .val (.int p2), .val (.int p3), .val (.ref b1), .val (.ref b6), .val (.ref b7), .val (.int (3 : Int32)), .unset, .unset, .unset, .unset, .unset] [(.ref b1)])) (fun _ kgo => XS.aload X50.here hx rfl (hb hby at_76) rfl rfl kgo) ?_
      refine own_go (g' := (mkF m 80 #[.val (.int p0), .val (.int p1), .val (.int p2), .val (.int p3), .val (.ref b1), .val (.ref b6), .val (.ref b7), .val (.int (3 : Int32)), .unset, .unset, .unset, .unset, .unset] [(.int (3 : Int32)), (.ref b1)])) (fun _ kgo => XS.iload X50.here hx rfl (hb hby at_78) rfl kgo) ?_
      refine own_go (g' := (mkF m 82 #[.val (.int p0), .val (.int p1), .val (.int p2), .val (.int p3), .val (.ref b1), .val (.ref b6), .val (.ref b7), .val (.int (3 : Int32)), .unset, .unset, .unset, .unset, .unset] [(.ref b6), (.int (3 : Int32)), (.ref b1)])) (fun _ kgo => XS.aload X50.here hx rfl (hb hby at_80) rfl rfl kgo) ?_
      refine own_go (g' := (mkF m 84 #[.val (.int p0), .val (.int p1), .val (.int p2), .val (.int p3), .val (.ref b1), .val (.ref b6), .val (.ref b7), .val (.int (3 : Int32)), .unset, .unset, .unset, .unset, .unset] [(.ref b7), (.ref b6), (.int (3 : Int32)), (.ref b1)])) (fun _ kgo => XS.aload X50.here hx rfl (hb hby at_82) rfl rfl kgo) ?_
      obtain ⟨v51, T51, L51, hQ51, X51, st51⟩ := own_callS X50 hx hZ (y := (⟨"com/example/firm_tread/firmtread/transport/Utf8AcceptPinLaw", "step", "([II[Z[Z)I"⟩ : MethodName)) hown (hw _ (List.mem_of_getElem? (i := 2) rfl)) (hw _ (List.mem_of_getElem? (i := 3) rfl)) (hw _ (List.mem_of_getElem? (i := 4) rfl)) (hw _ (List.mem_of_getElem? (i := 5) rfl)) ⟨by decide, by decide⟩ (argsL := [(.ref b1), (.int (3 : Int32)), (.ref b6), (.ref b7)]) (stp3 l Z a0 hw b1 b6 b7 x0 x1 x2 x3 a0'39 a1'39 a2'50 a3'50 c0'39 c1'39 c2'50 c3'50 k1 k6 k7 T50.heap n0 Z50 ge_b6 ge_b7 q50_0 q50_1 q50_2 ne_b1_b6 ne_b1_b7 ne_b6_b7 hv3) rfl (g := (mkF m 84 #[.val (.int p0), .val (.int p1), .val (.int p2), .val (.int p3), .val (.ref b1), .val (.ref b6), .val (.ref b7), .val (.int (3 : Int32)), .unset, .unset, .unset, .unset, .unset] [(.ref b7), (.ref b6), (.int (3 : Int32)), (.ref b1)])) rfl (by rw [hml]; rfl) (rest := []) (lenOf pd0_3 rfl) rfl (hb hby at_84) (W := 0) (by show 2 * 0 + _ ≤ _; exact Nat.le_of_eq rfl) (by decide) (by decide) (by decide) (by decide)
      obtain ⟨r51, a3'51, c3'51, rfl, Nq51, Kq51, pr51_0, q51_0, q51_1, q51_2⟩ := hQ51
      have N51 := Fr.app N50 Nq51
      have Z51 : n0 ≤ T51.heap.size := Nat.le_trans Z50 Kq51.1
      refine own_go (g' := (mkF m 87 #[.val (.int p0), .val (.int p1), .val (.int p2), .val (.int p3), .val (.ref b1), .val (.ref b6), .val (.ref b7), .val (.int (3 : Int32)), .unset, .unset, .unset, .unset, .unset] [(.int r51)])) (st51) ?_
      rcases pr51_0 with ⟨h4_3, hr3⟩
      ·
        refine own_go (g' := (mkF m 89 #[.val (.int p0), .val (.int p1), .val (.int p2), .val (.int p3), .val (.ref b1), .val (.ref b6), .val (.ref b7), .val (.int r51), .unset, .unset, .unset, .unset, .unset] [])) (fun _ kgo => XS.istore X51.here hx rfl (hb hby at_87) rfl (l' := #[.val (.int p0), .val (.int p1), .val (.int p2), .val (.int p3), .val (.ref b1), .val (.ref b6), .val (.ref b7), .val (.int r51), .unset, .unset, .unset, .unset, .unset]) rfl kgo) ?_
        refine own_go (g' := (mkF m 91 #[.val (.int p0), .val (.int p1), .val (.int p2), .val (.int p3), .val (.ref b1), .val (.ref b6), .val (.ref b7), .val (.int r51), .unset, .unset, .unset, .unset, .unset] [(.ref b1)])) (fun _ kgo => XS.aload X51.here hx rfl (hb hby at_89) rfl rfl kgo) ?_
        refine own_go (g' := (mkF m 93 #[.val (.int p0), .val (.int p1), .val (.int p2), .val (.int p3), .val (.ref b1), .val (.ref b6), .val (.ref b7), .val (.int r51), .unset, .unset, .unset, .unset, .unset] [(.int r51), (.ref b1)])) (fun _ kgo => XS.iload X51.here hx rfl (hb hby at_91) rfl kgo) ?_
        refine own_go (g' := (mkF m 95 #[.val (.int p0), .val (.int p1), .val (.int p2), .val (.int p3), .val (.ref b1), .val (.ref b6), .val (.ref b7), .val (.int r51), .unset, .unset, .unset, .unset, .unset] [(.ref b6), (.int r51), (.ref b1)])) (fun _ kgo => XS.aload X51.here hx rfl (hb hby at_93) rfl rfl kgo) ?_
        refine own_go (g' := (mkF m 97 #[.val (.int p0), .val (.int p1), .val (.int p2), .val (.int p3), .val (.ref b1), .val (.ref b6), .val (.ref b7), .val (.int r51), .unset, .unset, .unset, .unset, .unset] [(.ref b7), (.ref b6), (.int r51), (.ref b1)])) (fun _ kgo => XS.aload X51.here hx rfl (hb hby at_95) rfl rfl kgo) ?_
        obtain ⟨v52, T52, L52, hQ52, X52, st52⟩ := own_callS X51 hx hZ (y := (⟨"com/example/firm_tread/firmtread/transport/Utf8AcceptPinLaw", "step", "([II[Z[Z)I"⟩ : MethodName)) hown (hw _ (List.mem_of_getElem? (i := 2) rfl)) (hw _ (List.mem_of_getElem? (i := 3) rfl)) (hw _ (List.mem_of_getElem? (i := 4) rfl)) (hw _ (List.mem_of_getElem? (i := 5) rfl)) ⟨by decide, by decide⟩ (argsL := [(.ref b1), (.int r51), (.ref b6), (.ref b7)]) (stq4 l Z a0 hw b1 r51 b6 b7 T51.heap h4_3) rfl (g := (mkF m 97 #[.val (.int p0), .val (.int p1), .val (.int p2), .val (.int p3), .val (.ref b1), .val (.ref b6), .val (.ref b7), .val (.int r51), .unset, .unset, .unset, .unset, .unset] [(.ref b7), (.ref b6), (.int r51), (.ref b1)])) rfl (by rw [hml]; rfl) (rest := []) (lenOf pd0_3 rfl) rfl (hb hby at_97) (W := 0) (by show 2 * 0 + _ ≤ _; exact Nat.le_of_eq rfl) (by decide) (by decide) (by decide) (by decide)
        obtain ⟨rfl, e52, rfl⟩ := hQ52
        have N52 := Fr.app N51 (Fr.nil n0)
        refine own_go (g' := (mkF m 100 #[.val (.int p0), .val (.int p1), .val (.int p2), .val (.int p3), .val (.ref b1), .val (.ref b6), .val (.ref b7), .val (.int r51), .unset, .unset, .unset, .unset, .unset] [(.int (4 : Int32))])) (st52) ?_
        refine own_go (g' := (mkF m 102 #[.val (.int p0), .val (.int p1), .val (.int p2), .val (.int p3), .val (.ref b1), .val (.ref b6), .val (.ref b7), .val (.int (4 : Int32)), .unset, .unset, .unset, .unset, .unset] [])) (fun _ kgo => XS.istore X52.here hx rfl (hb hby at_100) rfl (l' := #[.val (.int p0), .val (.int p1), .val (.int p2), .val (.int p3), .val (.ref b1), .val (.ref b6), .val (.ref b7), .val (.int (4 : Int32)), .unset, .unset, .unset, .unset, .unset]) rfl kgo) ?_
        have hfin : own_chk [(x0, a0'39, c0'39), (x1, a1'39, c1'39), (x2, a2'50, c2'50), (x3, a3'51, c3'51)] 0 128 191 = true := by
          rw [hr0, hr2]; exact hr3
        exact JG _ _ X52 _ e52 N52 Z51 (4 : Int32) a0'39 a1'39 a2'50 a3'51 c0'39 c1'39 c2'50 c3'51 q51_0 q51_1 q51_2 hfin
    ·
      refine own_go (g' := (mkF m 76 #[.val (.int p0), .val (.int p1), .val (.int p2), .val (.int p3), .val (.ref b1), .val (.ref b6), .val (.ref b7), .val (.int r50), .unset, .unset, .unset, .unset, .unset] [])) (fun _ kgo => XS.istore X50.here hx rfl (hb hby at_74) rfl (l' := #[.val (.int p0), .val (.int p1), .val (.int p2), .val (.int p3), .val (.ref b1), .val (.ref b6), .val (.ref b7), .val (.int r50), .unset, .unset, .unset, .unset, .unset]) rfl kgo) ?_
      refine own_go (g' := (mkF m 78 #[.val (.int p0), .val (.int p1), .val (.int p2), .val (.int p3), .val (.ref b1), .val (.ref b6), .val (.ref b7), .val (.int r50), .unset, .unset, .unset, .unset, .unset] [(.ref b1)])) (fun _ kgo => XS.aload X50.here hx rfl (hb hby at_76) rfl rfl kgo) ?_
      refine own_go (g' := (mkF m 80 #[.val (.int p0), .val (.int p1), .val (.int p2), .val (.int p3), .val (.ref b1), .val (.ref b6), .val (.ref b7), .val (.int r50), .unset, .unset, .unset, .unset, .unset] [(.int r50), (.ref b1)])) (fun _ kgo => XS.iload X50.here hx rfl (hb hby at_78) rfl kgo) ?_
      refine own_go (g' := (mkF m 82 #[.val (.int p0), .val (.int p1), .val (.int p2), .val (.int p3), .val (.ref b1), .val (.ref b6), .val (.ref b7), .val (.int r50), .unset, .unset, .unset, .unset, .unset] [(.ref b6), (.int r50), (.ref b1)])) (fun _ kgo => XS.aload X50.here hx rfl (hb hby at_80) rfl rfl kgo) ?_
      refine own_go (g' := (mkF m 84 #[.val (.int p0), .val (.int p1), .val (.int p2), .val (.int p3), .val (.ref b1), .val (.ref b6), .val (.ref b7), .val (.int r50), .unset, .unset, .unset, .unset, .unset] [(.ref b7), (.ref b6), (.int r50), (.ref b1)])) (fun _ kgo => XS.aload X50.here hx rfl (hb hby at_82) rfl rfl kgo) ?_
      obtain ⟨v53, T53, L53, hQ53, X53, st53⟩ := own_callS X50 hx hZ (y := (⟨"com/example/firm_tread/firmtread/transport/Utf8AcceptPinLaw", "step", "([II[Z[Z)I"⟩ : MethodName)) hown (hw _ (List.mem_of_getElem? (i := 2) rfl)) (hw _ (List.mem_of_getElem? (i := 3) rfl)) (hw _ (List.mem_of_getElem? (i := 4) rfl)) (hw _ (List.mem_of_getElem? (i := 5) rfl)) ⟨by decide, by decide⟩ (argsL := [(.ref b1), (.int r50), (.ref b6), (.ref b7)]) (stq4 l Z a0 hw b1 r50 b6 b7 T50.heap h4_2) rfl (g := (mkF m 84 #[.val (.int p0), .val (.int p1), .val (.int p2), .val (.int p3), .val (.ref b1), .val (.ref b6), .val (.ref b7), .val (.int r50), .unset, .unset, .unset, .unset, .unset] [(.ref b7), (.ref b6), (.int r50), (.ref b1)])) rfl (by rw [hml]; rfl) (rest := []) (lenOf pd0_3 rfl) rfl (hb hby at_84) (W := 0) (by show 2 * 0 + _ ≤ _; exact Nat.le_of_eq rfl) (by decide) (by decide) (by decide) (by decide)
      obtain ⟨rfl, e53, rfl⟩ := hQ53
      have N53 := Fr.app N50 (Fr.nil n0)
      refine own_go (g' := (mkF m 87 #[.val (.int p0), .val (.int p1), .val (.int p2), .val (.int p3), .val (.ref b1), .val (.ref b6), .val (.ref b7), .val (.int r50), .unset, .unset, .unset, .unset, .unset] [(.int (4 : Int32))])) (st53) ?_
      refine own_go (g' := (mkF m 89 #[.val (.int p0), .val (.int p1), .val (.int p2), .val (.int p3), .val (.ref b1), .val (.ref b6), .val (.ref b7), .val (.int (4 : Int32)), .unset, .unset, .unset, .unset, .unset] [])) (fun _ kgo => XS.istore X53.here hx rfl (hb hby at_87) rfl (l' := #[.val (.int p0), .val (.int p1), .val (.int p2), .val (.int p3), .val (.ref b1), .val (.ref b6), .val (.ref b7), .val (.int (4 : Int32)), .unset, .unset, .unset, .unset, .unset]) rfl kgo) ?_
      refine own_go (g' := (mkF m 91 #[.val (.int p0), .val (.int p1), .val (.int p2), .val (.int p3), .val (.ref b1), .val (.ref b6), .val (.ref b7), .val (.int (4 : Int32)), .unset, .unset, .unset, .unset, .unset] [(.ref b1)])) (fun _ kgo => XS.aload X53.here hx rfl (hb hby at_89) rfl rfl kgo) ?_
      refine own_go (g' := (mkF m 93 #[.val (.int p0), .val (.int p1), .val (.int p2), .val (.int p3), .val (.ref b1), .val (.ref b6), .val (.ref b7), .val (.int (4 : Int32)), .unset, .unset, .unset, .unset, .unset] [(.int (4 : Int32)), (.ref b1)])) (fun _ kgo => XS.iload X53.here hx rfl (hb hby at_91) rfl kgo) ?_
      refine own_go (g' := (mkF m 95 #[.val (.int p0), .val (.int p1), .val (.int p2), .val (.int p3), .val (.ref b1), .val (.ref b6), .val (.ref b7), .val (.int (4 : Int32)), .unset, .unset, .unset, .unset, .unset] [(.ref b6), (.int (4 : Int32)), (.ref b1)])) (fun _ kgo => XS.aload X53.here hx rfl (hb hby at_93) rfl rfl kgo) ?_
      refine own_go (g' := (mkF m 97 #[.val (.int p0), .val (.int p1), .val (.int p2), .val (.int p3), .val (.ref b1), .val (.ref b6), .val (.ref b7), .val (.int (4 : Int32)), .unset, .unset, .unset, .unset, .unset] [(.ref b7), (.ref b6), (.int (4 : Int32)), (.ref b1)])) (fun _ kgo => XS.aload X53.here hx rfl (hb hby at_95) rfl rfl kgo) ?_
      obtain ⟨v54, T54, L54, hQ54, X54, st54⟩ := own_callS X53 hx hZ (y := (⟨"com/example/firm_tread/firmtread/transport/Utf8AcceptPinLaw", "step", "([II[Z[Z)I"⟩ : MethodName)) hown (hw _ (List.mem_of_getElem? (i := 2) rfl)) (hw _ (List.mem_of_getElem? (i := 3) rfl)) (hw _ (List.mem_of_getElem? (i := 4) rfl)) (hw _ (List.mem_of_getElem? (i := 5) rfl)) ⟨by decide, by decide⟩ (argsL := [(.ref b1), (.int (4 : Int32)), (.ref b6), (.ref b7)]) (stq4 l Z a0 hw b1 (4 : Int32) b6 b7 T50.heap (by decide)) e53 (g := (mkF m 97 #[.val (.int p0), .val (.int p1), .val (.int p2), .val (.int p3), .val (.ref b1), .val (.ref b6), .val (.ref b7), .val (.int (4 : Int32)), .unset, .unset, .unset, .unset, .unset] [(.ref b7), (.ref b6), (.int (4 : Int32)), (.ref b1)])) rfl (by rw [hml]; rfl) (rest := []) (lenOf pd0_3 rfl) rfl (hb hby at_97) (W := 0) (by show 2 * 0 + _ ≤ _; exact Nat.le_of_eq rfl) (by decide) (by decide) (by decide) (by decide)
      obtain ⟨rfl, e54, rfl⟩ := hQ54
      have N54 := Fr.app N53 (Fr.nil n0)
      refine own_go (g' := (mkF m 100 #[.val (.int p0), .val (.int p1), .val (.int p2), .val (.int p3), .val (.ref b1), .val (.ref b6), .val (.ref b7), .val (.int (4 : Int32)), .unset, .unset, .unset, .unset, .unset] [(.int (4 : Int32))])) (st54) ?_
      refine own_go (g' := (mkF m 102 #[.val (.int p0), .val (.int p1), .val (.int p2), .val (.int p3), .val (.ref b1), .val (.ref b6), .val (.ref b7), .val (.int (4 : Int32)), .unset, .unset, .unset, .unset, .unset] [])) (fun _ kgo => XS.istore X54.here hx rfl (hb hby at_100) rfl (l' := #[.val (.int p0), .val (.int p1), .val (.int p2), .val (.int p3), .val (.ref b1), .val (.ref b6), .val (.ref b7), .val (.int (4 : Int32)), .unset, .unset, .unset, .unset, .unset]) rfl kgo) ?_
      have hfin : own_chk [(x0, a0'39, c0'39), (x1, a1'39, c1'39), (x2, a2'50, c2'50), (x3, a3'50, c3'50)] 0 128 191 = true := by
        rw [hr0]; exact hr2
      exact JG _ _ X54 _ e54 N54 Z50 (4 : Int32) a0'39 a1'39 a2'50 a3'50 c0'39 c1'39 c2'50 c3'50 q50_0 q50_1 q50_2 hfin
  ·
    refine own_go (g' := (mkF m 63 #[.val (.int p0), .val (.int p1), .val (.int p2), .val (.int p3), .val (.ref b1), .val (.ref b6), .val (.ref b7), .val (.int (3 : Int32)), .unset, .unset, .unset, .unset, .unset] [])) (fun _ kgo => XS.istore X39.here hx rfl (hb hby at_61) rfl (l' := #[.val (.int p0), .val (.int p1), .val (.int p2), .val (.int p3), .val (.ref b1), .val (.ref b6), .val (.ref b7), .val (.int (3 : Int32)), .unset, .unset, .unset, .unset, .unset]) rfl kgo) ?_
    refine own_go (g' := (mkF m 65 #[.val (.int p0), .val (.int p1), .val (.int p2), .val (.int p3), .val (.ref b1), .val (.ref b6), .val (.ref b7), .val (.int (3 : Int32)), .unset, .unset, .unset, .unset, .unset] [(.ref b1)])) (fun _ kgo => XS.aload X39.here hx rfl (hb hby at_63) rfl rfl kgo) ?_
    refine own_go (g' := (mkF m 67 #[.val (.int p0), .val (.int p1), .val (.int p2), .val (.int p3), .val (.ref b1), .val (.ref b6), .val (.ref b7), .val (.int (3 : Int32)), .unset, .unset, .unset, .unset, .unset] [(.int (3 : Int32)), (.ref b1)])) (fun _ kgo => XS.iload X39.here hx rfl (hb hby at_65) rfl kgo) ?_
    refine own_go (g' := (mkF m 69 #[.val (.int p0), .val (.int p1), .val (.int p2), .val (.int p3), .val (.ref b1), .val (.ref b6), .val (.ref b7), .val (.int (3 : Int32)), .unset, .unset, .unset, .unset, .unset] [(.ref b6), (.int (3 : Int32)), (.ref b1)])) (fun _ kgo => XS.aload X39.here hx rfl (hb hby at_67) rfl rfl kgo) ?_
    refine own_go (g' := (mkF m 71 #[.val (.int p0), .val (.int p1), .val (.int p2), .val (.int p3), .val (.ref b1), .val (.ref b6), .val (.ref b7), .val (.int (3 : Int32)), .unset, .unset, .unset, .unset, .unset] [(.ref b7), (.ref b6), (.int (3 : Int32)), (.ref b1)])) (fun _ kgo => XS.aload X39.here hx rfl (hb hby at_69) rfl rfl kgo) ?_
    obtain ⟨v55, T55, L55, hQ55, X55, st55⟩ := own_callS X39 hx hZ (y := (⟨"com/example/firm_tread/firmtread/transport/Utf8AcceptPinLaw", "step", "([II[Z[Z)I"⟩ : MethodName)) hown (hw _ (List.mem_of_getElem? (i := 2) rfl)) (hw _ (List.mem_of_getElem? (i := 3) rfl)) (hw _ (List.mem_of_getElem? (i := 4) rfl)) (hw _ (List.mem_of_getElem? (i := 5) rfl)) ⟨by decide, by decide⟩ (argsL := [(.ref b1), (.int (3 : Int32)), (.ref b6), (.ref b7)]) (stp3 l Z a0 hw b1 b6 b7 x0 x1 x2 x3 a0'39 a1'39 a2'39 a3'39 c0'39 c1'39 c2'39 c3'39 k1 k6 k7 T39.heap n0 Z39 ge_b6 ge_b7 q39_0 q39_1 q39_2 ne_b1_b6 ne_b1_b7 ne_b6_b7 hv3) rfl (g := (mkF m 71 #[.val (.int p0), .val (.int p1), .val (.int p2), .val (.int p3), .val (.ref b1), .val (.ref b6), .val (.ref b7), .val (.int (3 : Int32)), .unset, .unset, .unset, .unset, .unset] [(.ref b7), (.ref b6), (.int (3 : Int32)), (.ref b1)])) rfl (by rw [hml]; rfl) (rest := []) (lenOf pd0_3 rfl) rfl (hb hby at_71) (W := 0) (by show 2 * 0 + _ ≤ _; exact Nat.le_of_eq rfl) (by decide) (by decide) (by decide) (by decide)
    obtain ⟨r55, a3'55, c3'55, rfl, Nq55, Kq55, pr55_0, q55_0, q55_1, q55_2⟩ := hQ55
    have N55 := Fr.app N39 Nq55
    have Z55 : n0 ≤ T55.heap.size := Nat.le_trans Z39 Kq55.1
    refine own_go (g' := (mkF m 74 #[.val (.int p0), .val (.int p1), .val (.int p2), .val (.int p3), .val (.ref b1), .val (.ref b6), .val (.ref b7), .val (.int (3 : Int32)), .unset, .unset, .unset, .unset, .unset] [(.int r55)])) (st55) ?_
    rcases pr55_0 with ⟨h4_3, hr3⟩
    ·
      refine own_go (g' := (mkF m 76 #[.val (.int p0), .val (.int p1), .val (.int p2), .val (.int p3), .val (.ref b1), .val (.ref b6), .val (.ref b7), .val (.int r55), .unset, .unset, .unset, .unset, .unset] [])) (fun _ kgo => XS.istore X55.here hx rfl (hb hby at_74) rfl (l' := #[.val (.int p0), .val (.int p1), .val (.int p2), .val (.int p3), .val (.ref b1), .val (.ref b6), .val (.ref b7), .val (.int r55), .unset, .unset, .unset, .unset, .unset]) rfl kgo) ?_
      refine own_go (g' := (mkF m 78 #[.val (.int p0), .val (.int p1), .val (.int p2), .val (.int p3), .val (.ref b1), .val (.ref b6), .val (.ref b7), .val (.int r55), .unset, .unset, .unset, .unset, .unset] [(.ref b1)])) (fun _ kgo => XS.aload X55.here hx rfl (hb hby at_76) rfl rfl kgo) ?_
      refine own_go (g' := (mkF m 80 #[.val (.int p0), .val (.int p1), .val (.int p2), .val (.int p3), .val (.ref b1), .val (.ref b6), .val (.ref b7), .val (.int r55), .unset, .unset, .unset, .unset, .unset] [(.int r55), (.ref b1)])) (fun _ kgo => XS.iload X55.here hx rfl (hb hby at_78) rfl kgo) ?_
      refine own_go (g' := (mkF m 82 #[.val (.int p0), .val (.int p1), .val (.int p2), .val (.int p3), .val (.ref b1), .val (.ref b6), .val (.ref b7), .val (.int r55), .unset, .unset, .unset, .unset, .unset] [(.ref b6), (.int r55), (.ref b1)])) (fun _ kgo => XS.aload X55.here hx rfl (hb hby at_80) rfl rfl kgo) ?_
      refine own_go (g' := (mkF m 84 #[.val (.int p0), .val (.int p1), .val (.int p2), .val (.int p3), .val (.ref b1), .val (.ref b6), .val (.ref b7), .val (.int r55), .unset, .unset, .unset, .unset, .unset] [(.ref b7), (.ref b6), (.int r55), (.ref b1)])) (fun _ kgo => XS.aload X55.here hx rfl (hb hby at_82) rfl rfl kgo) ?_
      obtain ⟨v56, T56, L56, hQ56, X56, st56⟩ := own_callS X55 hx hZ (y := (⟨"com/example/firm_tread/firmtread/transport/Utf8AcceptPinLaw", "step", "([II[Z[Z)I"⟩ : MethodName)) hown (hw _ (List.mem_of_getElem? (i := 2) rfl)) (hw _ (List.mem_of_getElem? (i := 3) rfl)) (hw _ (List.mem_of_getElem? (i := 4) rfl)) (hw _ (List.mem_of_getElem? (i := 5) rfl)) ⟨by decide, by decide⟩ (argsL := [(.ref b1), (.int r55), (.ref b6), (.ref b7)]) (stq4 l Z a0 hw b1 r55 b6 b7 T55.heap h4_3) rfl (g := (mkF m 84 #[.val (.int p0), .val (.int p1), .val (.int p2), .val (.int p3), .val (.ref b1), .val (.ref b6), .val (.ref b7), .val (.int r55), .unset, .unset, .unset, .unset, .unset] [(.ref b7), (.ref b6), (.int r55), (.ref b1)])) rfl (by rw [hml]; rfl) (rest := []) (lenOf pd0_3 rfl) rfl (hb hby at_84) (W := 0) (by show 2 * 0 + _ ≤ _; exact Nat.le_of_eq rfl) (by decide) (by decide) (by decide) (by decide)
      obtain ⟨rfl, e56, rfl⟩ := hQ56
      have N56 := Fr.app N55 (Fr.nil n0)
      refine own_go (g' := (mkF m 87 #[.val (.int p0), .val (.int p1), .val (.int p2), .val (.int p3), .val (.ref b1), .val (.ref b6), .val (.ref b7), .val (.int r55), .unset, .unset, .unset, .unset, .unset] [(.int (4 : Int32))])) (st56) ?_
      refine own_go (g' := (mkF m 89 #[.val (.int p0), .val (.int p1), .val (.int p2), .val (.int p3), .val (.ref b1), .val (.ref b6), .val (.ref b7), .val (.int (4 : Int32)), .unset, .unset, .unset, .unset, .unset] [])) (fun _ kgo => XS.istore X56.here hx rfl (hb hby at_87) rfl (l' := #[.val (.int p0), .val (.int p1), .val (.int p2), .val (.int p3), .val (.ref b1), .val (.ref b6), .val (.ref b7), .val (.int (4 : Int32)), .unset, .unset, .unset, .unset, .unset]) rfl kgo) ?_
      refine own_go (g' := (mkF m 91 #[.val (.int p0), .val (.int p1), .val (.int p2), .val (.int p3), .val (.ref b1), .val (.ref b6), .val (.ref b7), .val (.int (4 : Int32)), .unset, .unset, .unset, .unset, .unset] [(.ref b1)])) (fun _ kgo => XS.aload X56.here hx rfl (hb hby at_89) rfl rfl kgo) ?_
      refine own_go (g' := (mkF m 93 #[.val (.int p0), .val (.int p1), .val (.int p2), .val (.int p3), .val (.ref b1), .val (.ref b6), .val (.ref b7), .val (.int (4 : Int32)), .unset, .unset, .unset, .unset, .unset] [(.int (4 : Int32)), (.ref b1)])) (fun _ kgo => XS.iload X56.here hx rfl (hb hby at_91) rfl kgo) ?_
      refine own_go (g' := (mkF m 95 #[.val (.int p0), .val (.int p1), .val (.int p2), .val (.int p3), .val (.ref b1), .val (.ref b6), .val (.ref b7), .val (.int (4 : Int32)), .unset, .unset, .unset, .unset, .unset] [(.ref b6), (.int (4 : Int32)), (.ref b1)])) (fun _ kgo => XS.aload X56.here hx rfl (hb hby at_93) rfl rfl kgo) ?_
      refine own_go (g' := (mkF m 97 #[.val (.int p0), .val (.int p1), .val (.int p2), .val (.int p3), .val (.ref b1), .val (.ref b6), .val (.ref b7), .val (.int (4 : Int32)), .unset, .unset, .unset, .unset, .unset] [(.ref b7), (.ref b6), (.int (4 : Int32)), (.ref b1)])) (fun _ kgo => XS.aload X56.here hx rfl (hb hby at_95) rfl rfl kgo) ?_
      obtain ⟨v57, T57, L57, hQ57, X57, st57⟩ := own_callS X56 hx hZ (y := (⟨"com/example/firm_tread/firmtread/transport/Utf8AcceptPinLaw", "step", "([II[Z[Z)I"⟩ : MethodName)) hown (hw _ (List.mem_of_getElem? (i := 2) rfl)) (hw _ (List.mem_of_getElem? (i := 3) rfl)) (hw _ (List.mem_of_getElem? (i := 4) rfl)) (hw _ (List.mem_of_getElem? (i := 5) rfl)) ⟨by decide, by decide⟩ (argsL := [(.ref b1), (.int (4 : Int32)), (.ref b6), (.ref b7)]) (stq4 l Z a0 hw b1 (4 : Int32) b6 b7 T55.heap (by decide)) e56 (g := (mkF m 97 #[.val (.int p0), .val (.int p1), .val (.int p2), .val (.int p3), .val (.ref b1), .val (.ref b6), .val (.ref b7), .val (.int (4 : Int32)), .unset, .unset, .unset, .unset, .unset] [(.ref b7), (.ref b6), (.int (4 : Int32)), (.ref b1)])) rfl (by rw [hml]; rfl) (rest := []) (lenOf pd0_3 rfl) rfl (hb hby at_97) (W := 0) (by show 2 * 0 + _ ≤ _; exact Nat.le_of_eq rfl) (by decide) (by decide) (by decide) (by decide)
      obtain ⟨rfl, e57, rfl⟩ := hQ57
      have N57 := Fr.app N56 (Fr.nil n0)
      refine own_go (g' := (mkF m 100 #[.val (.int p0), .val (.int p1), .val (.int p2), .val (.int p3), .val (.ref b1), .val (.ref b6), .val (.ref b7), .val (.int (4 : Int32)), .unset, .unset, .unset, .unset, .unset] [(.int (4 : Int32))])) (st57) ?_
      refine own_go (g' := (mkF m 102 #[.val (.int p0), .val (.int p1), .val (.int p2), .val (.int p3), .val (.ref b1), .val (.ref b6), .val (.ref b7), .val (.int (4 : Int32)), .unset, .unset, .unset, .unset, .unset] [])) (fun _ kgo => XS.istore X57.here hx rfl (hb hby at_100) rfl (l' := #[.val (.int p0), .val (.int p1), .val (.int p2), .val (.int p3), .val (.ref b1), .val (.ref b6), .val (.ref b7), .val (.int (4 : Int32)), .unset, .unset, .unset, .unset, .unset]) rfl kgo) ?_
      have hfin : own_chk [(x0, a0'39, c0'39), (x1, a1'39, c1'39), (x2, a2'39, c2'39), (x3, a3'55, c3'55)] 0 128 191 = true := by
        rw [hr0]; exact hr3
      exact JG _ _ X57 _ e57 N57 Z55 (4 : Int32) a0'39 a1'39 a2'39 a3'55 c0'39 c1'39 c2'39 c3'55 q55_0 q55_1 q55_2 hfin
  ·
    refine own_go (g' := (mkF m 63 #[.val (.int p0), .val (.int p1), .val (.int p2), .val (.int p3), .val (.ref b1), .val (.ref b6), .val (.ref b7), .val (.int r39), .unset, .unset, .unset, .unset, .unset] [])) (fun _ kgo => XS.istore X39.here hx rfl (hb hby at_61) rfl (l' := #[.val (.int p0), .val (.int p1), .val (.int p2), .val (.int p3), .val (.ref b1), .val (.ref b6), .val (.ref b7), .val (.int r39), .unset, .unset, .unset, .unset, .unset]) rfl kgo) ?_
    refine own_go (g' := (mkF m 65 #[.val (.int p0), .val (.int p1), .val (.int p2), .val (.int p3), .val (.ref b1), .val (.ref b6), .val (.ref b7), .val (.int r39), .unset, .unset, .unset, .unset, .unset] [(.ref b1)])) (fun _ kgo => XS.aload X39.here hx rfl (hb hby at_63) rfl rfl kgo) ?_
    refine own_go (g' := (mkF m 67 #[.val (.int p0), .val (.int p1), .val (.int p2), .val (.int p3), .val (.ref b1), .val (.ref b6), .val (.ref b7), .val (.int r39), .unset, .unset, .unset, .unset, .unset] [(.int r39), (.ref b1)])) (fun _ kgo => XS.iload X39.here hx rfl (hb hby at_65) rfl kgo) ?_
    refine own_go (g' := (mkF m 69 #[.val (.int p0), .val (.int p1), .val (.int p2), .val (.int p3), .val (.ref b1), .val (.ref b6), .val (.ref b7), .val (.int r39), .unset, .unset, .unset, .unset, .unset] [(.ref b6), (.int r39), (.ref b1)])) (fun _ kgo => XS.aload X39.here hx rfl (hb hby at_67) rfl rfl kgo) ?_
    refine own_go (g' := (mkF m 71 #[.val (.int p0), .val (.int p1), .val (.int p2), .val (.int p3), .val (.ref b1), .val (.ref b6), .val (.ref b7), .val (.int r39), .unset, .unset, .unset, .unset, .unset] [(.ref b7), (.ref b6), (.int r39), (.ref b1)])) (fun _ kgo => XS.aload X39.here hx rfl (hb hby at_69) rfl rfl kgo) ?_
    obtain ⟨v58, T58, L58, hQ58, X58, st58⟩ := own_callS X39 hx hZ (y := (⟨"com/example/firm_tread/firmtread/transport/Utf8AcceptPinLaw", "step", "([II[Z[Z)I"⟩ : MethodName)) hown (hw _ (List.mem_of_getElem? (i := 2) rfl)) (hw _ (List.mem_of_getElem? (i := 3) rfl)) (hw _ (List.mem_of_getElem? (i := 4) rfl)) (hw _ (List.mem_of_getElem? (i := 5) rfl)) ⟨by decide, by decide⟩ (argsL := [(.ref b1), (.int r39), (.ref b6), (.ref b7)]) (stq4 l Z a0 hw b1 r39 b6 b7 T39.heap h4_0) rfl (g := (mkF m 71 #[.val (.int p0), .val (.int p1), .val (.int p2), .val (.int p3), .val (.ref b1), .val (.ref b6), .val (.ref b7), .val (.int r39), .unset, .unset, .unset, .unset, .unset] [(.ref b7), (.ref b6), (.int r39), (.ref b1)])) rfl (by rw [hml]; rfl) (rest := []) (lenOf pd0_3 rfl) rfl (hb hby at_71) (W := 0) (by show 2 * 0 + _ ≤ _; exact Nat.le_of_eq rfl) (by decide) (by decide) (by decide) (by decide)
    obtain ⟨rfl, e58, rfl⟩ := hQ58
    have N58 := Fr.app N39 (Fr.nil n0)
    refine own_go (g' := (mkF m 74 #[.val (.int p0), .val (.int p1), .val (.int p2), .val (.int p3), .val (.ref b1), .val (.ref b6), .val (.ref b7), .val (.int r39), .unset, .unset, .unset, .unset, .unset] [(.int (4 : Int32))])) (st58) ?_
    refine own_go (g' := (mkF m 76 #[.val (.int p0), .val (.int p1), .val (.int p2), .val (.int p3), .val (.ref b1), .val (.ref b6), .val (.ref b7), .val (.int (4 : Int32)), .unset, .unset, .unset, .unset, .unset] [])) (fun _ kgo => XS.istore X58.here hx rfl (hb hby at_74) rfl (l' := #[.val (.int p0), .val (.int p1), .val (.int p2), .val (.int p3), .val (.ref b1), .val (.ref b6), .val (.ref b7), .val (.int (4 : Int32)), .unset, .unset, .unset, .unset, .unset]) rfl kgo) ?_
    refine own_go (g' := (mkF m 78 #[.val (.int p0), .val (.int p1), .val (.int p2), .val (.int p3), .val (.ref b1), .val (.ref b6), .val (.ref b7), .val (.int (4 : Int32)), .unset, .unset, .unset, .unset, .unset] [(.ref b1)])) (fun _ kgo => XS.aload X58.here hx rfl (hb hby at_76) rfl rfl kgo) ?_
    refine own_go (g' := (mkF m 80 #[.val (.int p0), .val (.int p1), .val (.int p2), .val (.int p3), .val (.ref b1), .val (.ref b6), .val (.ref b7), .val (.int (4 : Int32)), .unset, .unset, .unset, .unset, .unset] [(.int (4 : Int32)), (.ref b1)])) (fun _ kgo => XS.iload X58.here hx rfl (hb hby at_78) rfl kgo) ?_
    refine own_go (g' := (mkF m 82 #[.val (.int p0), .val (.int p1), .val (.int p2), .val (.int p3), .val (.ref b1), .val (.ref b6), .val (.ref b7), .val (.int (4 : Int32)), .unset, .unset, .unset, .unset, .unset] [(.ref b6), (.int (4 : Int32)), (.ref b1)])) (fun _ kgo => XS.aload X58.here hx rfl (hb hby at_80) rfl rfl kgo) ?_
    refine own_go (g' := (mkF m 84 #[.val (.int p0), .val (.int p1), .val (.int p2), .val (.int p3), .val (.ref b1), .val (.ref b6), .val (.ref b7), .val (.int (4 : Int32)), .unset, .unset, .unset, .unset, .unset] [(.ref b7), (.ref b6), (.int (4 : Int32)), (.ref b1)])) (fun _ kgo => XS.aload X58.here hx rfl (hb hby at_82) rfl rfl kgo) ?_
    obtain ⟨v59, T59, L59, hQ59, X59, st59⟩ := own_callS X58 hx hZ (y := (⟨"com/example/firm_tread/firmtread/transport/Utf8AcceptPinLaw", "step", "([II[Z[Z)I"⟩ : MethodName)) hown (hw _ (List.mem_of_getElem? (i := 2) rfl)) (hw _ (List.mem_of_getElem? (i := 3) rfl)) (hw _ (List.mem_of_getElem? (i := 4) rfl)) (hw _ (List.mem_of_getElem? (i := 5) rfl)) ⟨by decide, by decide⟩ (argsL := [(.ref b1), (.int (4 : Int32)), (.ref b6), (.ref b7)]) (stq4 l Z a0 hw b1 (4 : Int32) b6 b7 T39.heap (by decide)) e58 (g := (mkF m 84 #[.val (.int p0), .val (.int p1), .val (.int p2), .val (.int p3), .val (.ref b1), .val (.ref b6), .val (.ref b7), .val (.int (4 : Int32)), .unset, .unset, .unset, .unset, .unset] [(.ref b7), (.ref b6), (.int (4 : Int32)), (.ref b1)])) rfl (by rw [hml]; rfl) (rest := []) (lenOf pd0_3 rfl) rfl (hb hby at_84) (W := 0) (by show 2 * 0 + _ ≤ _; exact Nat.le_of_eq rfl) (by decide) (by decide) (by decide) (by decide)
    obtain ⟨rfl, e59, rfl⟩ := hQ59
    have N59 := Fr.app N58 (Fr.nil n0)
    refine own_go (g' := (mkF m 87 #[.val (.int p0), .val (.int p1), .val (.int p2), .val (.int p3), .val (.ref b1), .val (.ref b6), .val (.ref b7), .val (.int (4 : Int32)), .unset, .unset, .unset, .unset, .unset] [(.int (4 : Int32))])) (st59) ?_
    refine own_go (g' := (mkF m 89 #[.val (.int p0), .val (.int p1), .val (.int p2), .val (.int p3), .val (.ref b1), .val (.ref b6), .val (.ref b7), .val (.int (4 : Int32)), .unset, .unset, .unset, .unset, .unset] [])) (fun _ kgo => XS.istore X59.here hx rfl (hb hby at_87) rfl (l' := #[.val (.int p0), .val (.int p1), .val (.int p2), .val (.int p3), .val (.ref b1), .val (.ref b6), .val (.ref b7), .val (.int (4 : Int32)), .unset, .unset, .unset, .unset, .unset]) rfl kgo) ?_
    refine own_go (g' := (mkF m 91 #[.val (.int p0), .val (.int p1), .val (.int p2), .val (.int p3), .val (.ref b1), .val (.ref b6), .val (.ref b7), .val (.int (4 : Int32)), .unset, .unset, .unset, .unset, .unset] [(.ref b1)])) (fun _ kgo => XS.aload X59.here hx rfl (hb hby at_89) rfl rfl kgo) ?_
    refine own_go (g' := (mkF m 93 #[.val (.int p0), .val (.int p1), .val (.int p2), .val (.int p3), .val (.ref b1), .val (.ref b6), .val (.ref b7), .val (.int (4 : Int32)), .unset, .unset, .unset, .unset, .unset] [(.int (4 : Int32)), (.ref b1)])) (fun _ kgo => XS.iload X59.here hx rfl (hb hby at_91) rfl kgo) ?_
    refine own_go (g' := (mkF m 95 #[.val (.int p0), .val (.int p1), .val (.int p2), .val (.int p3), .val (.ref b1), .val (.ref b6), .val (.ref b7), .val (.int (4 : Int32)), .unset, .unset, .unset, .unset, .unset] [(.ref b6), (.int (4 : Int32)), (.ref b1)])) (fun _ kgo => XS.aload X59.here hx rfl (hb hby at_93) rfl rfl kgo) ?_
    refine own_go (g' := (mkF m 97 #[.val (.int p0), .val (.int p1), .val (.int p2), .val (.int p3), .val (.ref b1), .val (.ref b6), .val (.ref b7), .val (.int (4 : Int32)), .unset, .unset, .unset, .unset, .unset] [(.ref b7), (.ref b6), (.int (4 : Int32)), (.ref b1)])) (fun _ kgo => XS.aload X59.here hx rfl (hb hby at_95) rfl rfl kgo) ?_
    obtain ⟨v60, T60, L60, hQ60, X60, st60⟩ := own_callS X59 hx hZ (y := (⟨"com/example/firm_tread/firmtread/transport/Utf8AcceptPinLaw", "step", "([II[Z[Z)I"⟩ : MethodName)) hown (hw _ (List.mem_of_getElem? (i := 2) rfl)) (hw _ (List.mem_of_getElem? (i := 3) rfl)) (hw _ (List.mem_of_getElem? (i := 4) rfl)) (hw _ (List.mem_of_getElem? (i := 5) rfl)) ⟨by decide, by decide⟩ (argsL := [(.ref b1), (.int (4 : Int32)), (.ref b6), (.ref b7)]) (stq4 l Z a0 hw b1 (4 : Int32) b6 b7 T39.heap (by decide)) e59 (g := (mkF m 97 #[.val (.int p0), .val (.int p1), .val (.int p2), .val (.int p3), .val (.ref b1), .val (.ref b6), .val (.ref b7), .val (.int (4 : Int32)), .unset, .unset, .unset, .unset, .unset] [(.ref b7), (.ref b6), (.int (4 : Int32)), (.ref b1)])) rfl (by rw [hml]; rfl) (rest := []) (lenOf pd0_3 rfl) rfl (hb hby at_97) (W := 0) (by show 2 * 0 + _ ≤ _; exact Nat.le_of_eq rfl) (by decide) (by decide) (by decide) (by decide)
    obtain ⟨rfl, e60, rfl⟩ := hQ60
    have N60 := Fr.app N59 (Fr.nil n0)
    refine own_go (g' := (mkF m 100 #[.val (.int p0), .val (.int p1), .val (.int p2), .val (.int p3), .val (.ref b1), .val (.ref b6), .val (.ref b7), .val (.int (4 : Int32)), .unset, .unset, .unset, .unset, .unset] [(.int (4 : Int32))])) (st60) ?_
    refine own_go (g' := (mkF m 102 #[.val (.int p0), .val (.int p1), .val (.int p2), .val (.int p3), .val (.ref b1), .val (.ref b6), .val (.ref b7), .val (.int (4 : Int32)), .unset, .unset, .unset, .unset, .unset] [])) (fun _ kgo => XS.istore X60.here hx rfl (hb hby at_100) rfl (l' := #[.val (.int p0), .val (.int p1), .val (.int p2), .val (.int p3), .val (.ref b1), .val (.ref b6), .val (.ref b7), .val (.int (4 : Int32)), .unset, .unset, .unset, .unset, .unset]) rfl kgo) ?_
    have hfin : own_chk [(x0, a0'39, c0'39), (x1, a1'39, c1'39), (x2, a2'39, c2'39), (x3, a3'39, c3'39)] 0 128 191 = true := by
      exact hr0
    exact JG _ _ X60 _ e60 N60 Z39 (4 : Int32) a0'39 a1'39 a2'39 a3'39 c0'39 c1'39 c2'39 c3'39 q39_0 q39_1 q39_2 hfin
set_option maxRecDepth 65536 in
set_option maxHeartbeats 40000000 in
theorem comes_1 {Post : Tables → Env → Array Value → State → Outcome → State → Prop} (hpost : ∀ tb e args s v u, (limb_1_1.after args s (.returned v) u = true ∧ limb_1_2.after args s (.returned v) u = true ∧ True) → FrameEnd s (.returned v) u (Jvm.fieldLocs frame_1_writes args s ++ Jvm.arrayLocs frame_1_arrays args s ++ Jvm.staticLocs frame_1_statics s) 16 128 → Post tb e args s (.returned v) u) :
    ArmFor flags0 classFile x code maxLocals ret World_1 tables_1 room_1 Calls_1 rest_1 Pre_1 Post := by
  intro l hfl _ _ p e ha hc hk s m args below hf hA hF happ hP
  obtain ⟨hcalls, hrest, hpre⟩ := hP
  obtain ⟨-, -, -, hnamed, -, -, -, hat⟩ := (Spec.applies_iff hf).mp happ
  obtain ⟨hg, hn⟩ := and_e (Cond.before_iff.mp (show (Jvm.Cond.and given_1 narrow_1).before args s = true from hpre))
  obtain ⟨g1, g2⟩ := and_e hg
  obtain ⟨g3, g4⟩ := and_e g2
  obtain ⟨g5, g6⟩ := and_e g4
  obtain ⟨g7, g8⟩ := and_e g6
  obtain ⟨w0, w1, w2, w3, rfl⟩ : ∃ w0 w1 w2 w3 : Value, args = #[w0, w1, w2, w3] := by
    have hs : args.size = 4 := by simpa [Cond.value, given_1] using g1
    obtain ⟨L⟩ := args
    match L, hs with
    | [w0, w1, w2, w3], _ => exact ⟨w0, w1, w2, w3, rfl⟩
  have hw := fun d (hd : d ∈ tables_1) => atoms_spec (ws := Jvm.Cond.code x code maxLocals ret :: tables_1) hat d (List.mem_cons_of_mem _ hd)
  obtain ⟨i0, ei0⟩ := is_v g3
  obtain rfl : w0 = (.int i0) := Option.some.inj ei0
  obtain ⟨i1, ei1⟩ := is_v g5
  obtain rfl : w1 = (.int i1) := Option.some.inj ei1
  obtain ⟨i2, ei2⟩ := is_v g7
  obtain rfl : w2 = (.int i2) := Option.some.inj ei2
  obtain ⟨i3, ei3⟩ := is_v g8
  obtain rfl : w3 = (.int i3) := Option.some.inj ei3
  obtain ⟨n, o, h1, h2, h3, _, L, rfl, ⟨rfl, N⟩, hq⟩ := rm0 l s _ hw i0 i1 i2 i3 s.heap s.heap.size (Nat.le_refl _) p e ha hc hk s m _ below hf ((Spec.applies_iff_loose hf).mp happ).1 ⟨rfl, State.Warmed39.refl s, rfl⟩ trivial
  refine ⟨n, _, h1, h2, h3, hpost _ _ _ _ _ _ ⟨Cond.after_iff.mpr rfl, Cond.after_iff.mpr (eq_i res_at (Term.int_eval (1)) rfl), trivial⟩ ⟨hq.1, hq.2.1, (hq.2.2.sift fun y hy => Or.inr (N y hy)).mono (by decide) (by decide)⟩⟩
theorem main_1_1 : Claimed_1_1 := comes_1 fun _ _ _ _ _ _ h hF => ⟨h.1, hF⟩
theorem main_1_2 : Claimed_1_2 := comes_1 fun _ _ _ _ _ _ h hF => ⟨h.2.1, hF⟩
end Jvm.Pilot.@@N@@
namespace Jvm.Pilot.@@N@@
open Jvm Jvm.ClassFile Sem Op Lib Jvm.Free Jvm.Stand Jvm.Pilot.@@N@@.Jvm.D
/-! MADE BY PROGRAM (witnessworld.py) out of the Statement's table words and the real class files: 11 classes; the members and pool entries that the words name. The judged class is class 1, her method 2. -/
namespace start1
open Jvm.ClassFile
def u (s : String) : CpInfo := .utf8 (stringToUtf16 s)
/-- a pool by its gaps: so many unusable entries, then the entry; so many at the end -/
def gap : Nat → List CpInfo → List CpInfo
  | 0, r => r
  | n + 1, r => .unusable :: gap n r
def poolList (es : List (Nat × CpInfo)) (last : Nat) : List CpInfo := es.foldr (fun e r => gap e.1 (e.2 :: r)) (gap last [])
def pool (es : List (Nat × CpInfo)) (last : Nat) : Array CpInfo := ⟨poolList es last⟩
def fileOf (pool : Array CpInfo) (this : Nat) (attrs : Array Attribute := #[]) (ms : Array MethodInfo := #[]) (fl : Nat := 33) (sup : Nat := 0) (ifs : Array Nat := #[]) (fds : Array FieldInfo := #[]) : ClassFile where
  minorVersion := 0
  majorVersion := 65
  constantPool := pool
  accessFlags := fl
  thisClass := this
  superClass := sup
  interfaces := ifs
  fields := fds
  methods := ms
  attributes := attrs
def plain (name : String) (sup : Option ClassId) : Class where
  name := name
  kind := .ordinary
  loader := none
  accessFlags := 33
  super := sup
  interfaces := #[]
  cf := none
  fields := #[]
  methods := #[]
  instanceTypes := #[]
  staticTypes := #[]
  resolved := #[]
  callSites := []
  init := .initialized
  statics := none
  mirror := none

def pool0 : Array CpInfo := pool [(5, u "<init>"), (0, u "()V"), (1, .class_ 10), (1, u "java/lang/Object")] 113

def k0c0 : Code := { maxStack := 0, maxLocals := 1, code := object_method_1_code, exceptionTable := #[], attributes := #[] }
def k0m0 : Method := { name := "<init>", desc := "()V", sig := { parameters := [], returnType := none }, accessFlags := 1, code := some k0c0 }
/-- java/lang/Object -/
def k0 : Class := { plain "java/lang/Object" none with
  accessFlags := 33
  interfaces := #[]
  cf := some (fileOf pool0 8 #[] #[{ accessFlags := 1, nameIndex := 5, descriptorIndex := 6, attributes := #[] }] 33 0 #[] #[])
  fields := #[]
  methods := #[k0m0]
  instanceTypes := #[]
  staticTypes := #[]
  resolved := Array.replicate 124 none
  statics := none }

def pool1 : Array CpInfo := pool [(2, .class_ 4), (0, .nameAndType 5 6), (0, u "java/lang/Object"), (0, u "<init>"), (0, u "()V"), (0, .methodref 8 9), (0, .class_ 10), (0, .nameAndType 11 12), (0, u "com/example/firm_tread/firmtread/transport/Utf8AcceptPinLaw"), (0, u "step"), (0, u "([II[Z[Z)I"), (0, .class_ 14), (0, u "com/example/firm_tread/firmtread/transport/Utf8"), (0, .methodref 13 3), (0, .methodref 13 17), (0, .nameAndType 18 19), (0, u "accept"), (0, u "(B)Z"), (0, .methodref 13 21), (0, .nameAndType 22 23), (0, u "isComplete"), (0, u "()Z"), (7, u "law"), (0, u "(IIII)Z")] 2

def k1m0 : Method := { name := "<init>", desc := "()V", sig := { parameters := [], returnType := none }, accessFlags := 2, code := none }
def k1c1 : Code := { maxStack := 4, maxLocals := 10, code := method_2_code, exceptionTable := #[], attributes := #[] }
def k1m1 : Method := { name := "step", desc := "([II[Z[Z)I", sig := { parameters := [(.array .int), .int, (.array .boolean), (.array .boolean)], returnType := some .int }, accessFlags := 10, code := some k1c1 }
def k1c2 : Code := { maxStack := 4, maxLocals := 13, code := code, exceptionTable := #[], attributes := #[] }
def k1m2 : Method := { name := "law", desc := "(IIII)Z", sig := { parameters := [.int, .int, .int, .int], returnType := some .boolean }, accessFlags := 9, code := some k1c2 }
/-- com/example/firm_tread/firmtread/transport/Utf8AcceptPinLaw -/
def k1 : Class := { plain "com/example/firm_tread/firmtread/transport/Utf8AcceptPinLaw" (some 0) with
  accessFlags := 49
  interfaces := #[]
  cf := some (fileOf pool1 8 #[] #[{ accessFlags := 2, nameIndex := 5, descriptorIndex := 6, attributes := #[] }, { accessFlags := 10, nameIndex := 11, descriptorIndex := 12, attributes := #[] }, { accessFlags := 9, nameIndex := 31, descriptorIndex := 32, attributes := #[] }] 49 2 #[] #[])
  fields := #[]
  methods := #[k1m0, k1m1, k1m2]
  instanceTypes := #[]
  staticTypes := #[]
  resolved := Array.replicate 35 none
  statics := none }

def pool2 : Array CpInfo := pool [(1, .methodref 2 3), (0, .class_ 4), (0, .nameAndType 5 6), (0, u "java/lang/Object"), (0, u "<init>"), (0, u "()V"), (0, .class_ 8), (0, u "com/example/firm_tread/firmtread/transport/Utf8"), (0, .fieldref 7 10), (0, .nameAndType 11 12), (0, u "low"), (0, u "I"), (0, .fieldref 7 14), (0, .nameAndType 15 12), (0, u "high"), (3, u "accept"), (0, u "(B)Z"), (2, u "isComplete"), (0, u "()Z"), (0, .fieldref 7 26), (0, .nameAndType 27 12), (0, u "needed"), (0, u "CONTINUATION_LOW"), (2, u "CONTINUATION_HIGH")] 10

def k2c0 : Code := { maxStack := 2, maxLocals := 1, code := prog_69_method_1_code, exceptionTable := #[], attributes := #[] }
def k2m0 : Method := { name := "<init>", desc := "()V", sig := { parameters := [], returnType := none }, accessFlags := 0, code := some k2c0 }
def k2c1 : Code := { maxStack := 3, maxLocals := 4, code := prog_69_method_3_code, exceptionTable := #[], attributes := #[] }
def k2m1 : Method := { name := "accept", desc := "(B)Z", sig := { parameters := [.byte], returnType := some .boolean }, accessFlags := 0, code := some k2c1 }
def k2c2 : Code := { maxStack := 1, maxLocals := 1, code := prog_69_method_4_code, exceptionTable := #[], attributes := #[] }
def k2m2 : Method := { name := "isComplete", desc := "()Z", sig := { parameters := [], returnType := some .boolean }, accessFlags := 0, code := some k2c2 }
/-- com/example/firm_tread/firmtread/transport/Utf8 -/
def k2 : Class := { plain "com/example/firm_tread/firmtread/transport/Utf8" (some 0) with
  accessFlags := 48
  interfaces := #[]
  cf := some (fileOf pool2 7 #[] #[{ accessFlags := 0, nameIndex := 5, descriptorIndex := 6, attributes := #[] }, { accessFlags := 0, nameIndex := 19, descriptorIndex := 20, attributes := #[] }, { accessFlags := 0, nameIndex := 23, descriptorIndex := 24, attributes := #[] }] 48 2 #[] #[{ accessFlags := 26, nameIndex := 28, descriptorIndex := 12, attributes := #[] }, { accessFlags := 26, nameIndex := 31, descriptorIndex := 12, attributes := #[] }, { accessFlags := 2, nameIndex := 27, descriptorIndex := 12, attributes := #[] }, { accessFlags := 2, nameIndex := 11, descriptorIndex := 12, attributes := #[] }, { accessFlags := 2, nameIndex := 15, descriptorIndex := 12, attributes := #[] }])
  fields := #[{ name := "CONTINUATION_LOW", type := .int, accessFlags := 26, slot := 0, constantValue := 0 }, { name := "CONTINUATION_HIGH", type := .int, accessFlags := 26, slot := 1, constantValue := 0 }, { name := "needed", type := .int, accessFlags := 2, slot := 0, constantValue := 0 }, { name := "low", type := .int, accessFlags := 2, slot := 1, constantValue := 0 }, { name := "high", type := .int, accessFlags := 2, slot := 2, constantValue := 0 }]
  methods := #[k2m0, k2m1, k2m2]
  instanceTypes := #[.int, .int, .int]
  staticTypes := #[.int, .int]
  resolved := Array.replicate 42 none
  statics := none }

def pool3 : Array CpInfo := pool [(1, u "java/lang/Cloneable"), (0, .class_ 1), (0, u "java/lang/Object"), (0, .class_ 3)] 3

/-- java/lang/Cloneable -/
def k3 : Class := { plain "java/lang/Cloneable" (some 0) with
  accessFlags := 1537
  interfaces := #[]
  cf := some (fileOf pool3 2 #[] #[] 1537 4 #[] #[])
  fields := #[]
  methods := #[]
  instanceTypes := #[]
  staticTypes := #[]
  resolved := Array.replicate 8 none
  statics := none }

def pool4 : Array CpInfo := pool [(1, u "java/io/Serializable"), (0, .class_ 1), (0, u "java/lang/Object"), (0, .class_ 3)] 3

/-- java/io/Serializable -/
def k4 : Class := { plain "java/io/Serializable" (some 0) with
  accessFlags := 1537
  interfaces := #[]
  cf := some (fileOf pool4 2 #[] #[] 1537 4 #[] #[])
  fields := #[]
  methods := #[]
  instanceTypes := #[]
  staticTypes := #[]
  resolved := Array.replicate 8 none
  statics := none }

/-- the primitive boolean -/
def k5 : Class := { plain "boolean" none with kind := .primitive 'Z', accessFlags := 0x411 }
/-- [Z -/
def k6 : Class := { plain "[Z" (some 0) with kind := .array 5 .boolean, interfaces := #[3, 4], accessFlags := 1041 }

/-- the primitive byte -/
def k7 : Class := { plain "byte" none with kind := .primitive 'B', accessFlags := 0x411 }
/-- [B -/
def k8 : Class := { plain "[B" (some 0) with kind := .array 7 .byte, interfaces := #[3, 4], accessFlags := 1041 }

/-- the primitive int -/
def k9 : Class := { plain "int" none with kind := .primitive 'I', accessFlags := 0x411 }
/-- [I -/
def k10 : Class := { plain "[I" (some 0) with kind := .array 9 .int, interfaces := #[3, 4], accessFlags := 1041 }

def heap : Heap := #[]
def classes : Array Class := #[k0, k1, k2, k3, k4, k5, k6, k7, k8, k9, k10]
def interned : List (Array UInt16 × Addr) := []
def slotsUsed : Nat := 0
def theMethod : MethodId := ⟨1, 2⟩
def args0 : Array Value := #[.int 5, .int 7, .int 8, .int 9]
def aboutOver (below : List Frame) : State where
  vm := { classes := classes, interned := interned.toArray }
  heap := heap
  slotsUsed := slotsUsed
  threads := #[{ frames := .invoking theMethod args0 :: below }]
def below0 : List Frame := [.native { method := ⟨0, 0⟩, args := #[] }]
def about1 : State := aboutOver below0
def p0 : Program := .bare "" "" ""
def e0 : Env := launch0.env 0 0 0
theorem w_frames : about1.frames = Frame.invoking theMethod args0 :: below0 := rfl
set_option maxRecDepth 65536 in
theorem w_args : argsFit about1.vm theMethod args0 = true := by decide +kernel
set_option maxRecDepth 65536 in
theorem w_heap : heapFits about1 = true := by decide +kernel
set_option maxRecDepth 65536 in
theorem w_runnable : about1.curStatus? = some .runnable := by decide +kernel
set_option maxRecDepth 65536 in
theorem w_alone : about1.alone = true := by decide +kernel
set_option maxRecDepth 65536 in
theorem w_named : about1.methodNamed? x = some theMethod := by decide +kernel
set_option maxRecDepth 65536 in
theorem w_hears : about1.hears theMethod below0 = true := by decide +kernel
set_option maxRecDepth 65536 in
theorem w_ripe : about1.ripe theMethod args0 below0 = true := by decide +kernel
theorem w_running : about1.status = .running := rfl
set_option maxRecDepth 65536 in
theorem w_room : about1.hasRoom e0.platform room_1 = true :=
  launch0.hasRoom_least _ room_1 (by decide +kernel) (by decide +kernel) (by decide +kernel) (by decide +kernel) (by decide +kernel) (by decide +kernel)
theorem allAtoms_all (ts : List Jvm.Cond) (a : Array Jvm.Value) (st : Jvm.State) : (allAtoms ts).before a st = ts.all (fun c => c.before a st) := by
  induction ts with
  | nil => rfl
  | cons c t ih =>
    show (Jvm.Cond.and c (allAtoms t)).before a st = _
    rw [Jvm.Cond.before_and, ih, List.all_cons]
def words1 : List Jvm.Cond := Jvm.Cond.code x code maxLocals ret :: tables_1
/-- a 'code' word, met by the world's own term for the bytes: nothing is compared byte by byte -/
theorem code_word {y : MethodName} {bytes : ByteArray} {mx : Nat} {rt : Option FieldType} {a : Array Value} {s : State} {m : MethodId} {meth : Method} {c : Code} (h1 : s.methodNamed? y = some m) (h2 : s.vm.method? m = some meth) (h3 : meth.code = some c) (h4 : c.code = bytes)
    (h5 : (c.maxLocals == mx && c.exceptionTable.isEmpty && decide (c.maxStack ≤ mostOperands) && decide (meth.sig.returnType = rt) && !meth.locks && decide (parseMethodDescriptor y.desc = some meth.sig)) = true) : (Jvm.Cond.code y bytes mx rt).before a s = true := by
  simp only [Bool.and_eq_true, beq_iff_eq, Bool.not_eq_true', decide_eq_true_eq] at h5
  obtain ⟨⟨⟨⟨⟨g1, g2⟩, g3⟩, g4⟩, g5⟩, g6⟩ := h5
  simp [Cond.before, Cond.holds, Cond.value, h1, h2, h3, h4, g1, g2, g3, g4, g5, g6]
def isCode : Jvm.Cond → Bool
  | .code _ _ _ _ => true
  | _ => false
theorem all_split {L : List Jvm.Cond} {P : Jvm.Cond → Bool} (h1 : L.all (fun c => isCode c || P c) = true) (h2 : ∀ c ∈ L.filter isCode, P c = true) : L.all P = true := by
  refine List.all_eq_true.mpr fun c hc => ?_
  have h := List.all_eq_true.mp h1 c hc
  rcases Bool.eq_false_or_eq_true (isCode c) with hi | hi
  · exact h2 c (List.mem_filter.mpr ⟨hc, hi⟩)
  · simpa [hi] using h
set_option maxRecDepth 65536 in
theorem w_c0 : (Jvm.Cond.code x code maxLocals ret).before args0 about1 = true := code_word (m := ⟨1, 2⟩) (meth := k1m2) (c := k1c2) (by decide +kernel) rfl rfl rfl (by decide +kernel)
set_option maxRecDepth 65536 in
theorem w_c1 : (Jvm.Cond.code ({ cls := "com/example/firm_tread/firmtread/transport/Utf8AcceptPinLaw", name := "step", desc := "([II[Z[Z)I" } : Jvm.MethodName) method_2_code (10 : Nat) (Option.some Jvm.ClassFile.FieldType.int)).before args0 about1 = true := code_word (m := ⟨1, 1⟩) (meth := k1m1) (c := k1c1) (by decide +kernel) rfl rfl rfl (by decide +kernel)
set_option maxRecDepth 65536 in
theorem w_c2 : (Jvm.Cond.code ({ cls := "com/example/firm_tread/firmtread/transport/Utf8", name := "<init>", desc := "()V" } : Jvm.MethodName) prog_69_method_1_code (1 : Nat) (Option.none : Option Jvm.ClassFile.FieldType)).before args0 about1 = true := code_word (m := ⟨2, 0⟩) (meth := k2m0) (c := k2c0) (by decide +kernel) rfl rfl rfl (by decide +kernel)
set_option maxRecDepth 65536 in
theorem w_c3 : (Jvm.Cond.code ({ cls := "java/lang/Object", name := "<init>", desc := "()V" } : Jvm.MethodName) object_method_1_code (1 : Nat) (Option.none : Option Jvm.ClassFile.FieldType)).before args0 about1 = true := code_word (m := ⟨0, 0⟩) (meth := k0m0) (c := k0c0) (by decide +kernel) rfl rfl rfl (by decide +kernel)
set_option maxRecDepth 65536 in
theorem w_c4 : (Jvm.Cond.code ({ cls := "com/example/firm_tread/firmtread/transport/Utf8", name := "accept", desc := "(B)Z" } : Jvm.MethodName) prog_69_method_3_code (4 : Nat) (Option.some Jvm.ClassFile.FieldType.boolean)).before args0 about1 = true := code_word (m := ⟨2, 1⟩) (meth := k2m1) (c := k2c1) (by decide +kernel) rfl rfl rfl (by decide +kernel)
set_option maxRecDepth 65536 in
theorem w_c5 : (Jvm.Cond.code ({ cls := "com/example/firm_tread/firmtread/transport/Utf8", name := "isComplete", desc := "()Z" } : Jvm.MethodName) prog_69_method_4_code (1 : Nat) (Option.some Jvm.ClassFile.FieldType.boolean)).before args0 about1 = true := code_word (m := ⟨2, 2⟩) (meth := k2m2) (c := k2c2) (by decide +kernel) rfl rfl rfl (by decide +kernel)
def codes1 : List Jvm.Cond := [Jvm.Cond.code x code maxLocals ret, Jvm.Cond.code ({ cls := "com/example/firm_tread/firmtread/transport/Utf8AcceptPinLaw", name := "step", desc := "([II[Z[Z)I" } : Jvm.MethodName) method_2_code (10 : Nat) (Option.some Jvm.ClassFile.FieldType.int), Jvm.Cond.code ({ cls := "com/example/firm_tread/firmtread/transport/Utf8", name := "<init>", desc := "()V" } : Jvm.MethodName) prog_69_method_1_code (1 : Nat) (Option.none : Option Jvm.ClassFile.FieldType), Jvm.Cond.code ({ cls := "java/lang/Object", name := "<init>", desc := "()V" } : Jvm.MethodName) object_method_1_code (1 : Nat) (Option.none : Option Jvm.ClassFile.FieldType), Jvm.Cond.code ({ cls := "com/example/firm_tread/firmtread/transport/Utf8", name := "accept", desc := "(B)Z" } : Jvm.MethodName) prog_69_method_3_code (4 : Nat) (Option.some Jvm.ClassFile.FieldType.boolean), Jvm.Cond.code ({ cls := "com/example/firm_tread/firmtread/transport/Utf8", name := "isComplete", desc := "()Z" } : Jvm.MethodName) prog_69_method_4_code (1 : Nat) (Option.some Jvm.ClassFile.FieldType.boolean)]
set_option maxRecDepth 65536 in
theorem codes_eq : words1.filter isCode = codes1 := rfl
theorem w_codes : ∀ c ∈ words1.filter isCode, c.before args0 about1 = true := by
  rw [codes_eq]
  intro c hc
  simp only [codes1, List.mem_cons, List.not_mem_nil, or_false] at hc
  rcases hc with rfl | rfl | rfl | rfl | rfl | rfl
  · exact w_c0
  · exact w_c1
  · exact w_c2
  · exact w_c3
  · exact w_c4
  · exact w_c5
set_option maxRecDepth 65536 in
theorem w_t1 : (words1.take 24).all (fun c => isCode c || c.before args0 about1) = true := by decide +kernel
set_option maxRecDepth 65536 in
theorem w_t2 : (words1.drop 24).all (fun c => isCode c || c.before args0 about1) = true := by decide +kernel
theorem w_tables : (allAtoms (Jvm.Cond.code x code maxLocals ret :: tables_1)).before args0 about1 = true := by
  rw [allAtoms_all]
  show words1.all (fun c => c.before args0 about1) = true
  refine all_split ?_ w_codes
  rw [← List.take_append_drop 24 words1, List.all_append, w_t1, w_t2]
  rfl
set_option maxRecDepth 65536 in
theorem w_case : (Jvm.Cond.and given_1 narrow_1).before args0 about1 = true := by decide +kernel
theorem w_applies : (headSpec (Jvm.Cond.code x code maxLocals ret :: tables_1) room_1).applies x e0.platform about1 = true :=
  (Spec.applies_iff w_frames).mpr ⟨w_running, w_runnable, w_alone, w_named, w_hears, w_ripe, w_room, w_tables⟩
theorem atStart : AtStart classFile x code maxLocals ret World_1 tables_1 room_1 Calls_1 rest_1 Pre_1 launch0 p0 e0 about1 theMethod args0 below0 :=
  ⟨lists_1, trivial, launch0.admits_env _ _ _, launch0.least_env, fairChoices_fair.cas, fairChoices_fair.clock, w_frames, w_args, w_heap, w_applies, trivial, trivial, w_case⟩
end start1
theorem witness_1 : WitnessClaimed_1 := ⟨start1.p0, start1.e0, start1.about1, start1.theMethod, start1.args0, start1.below0, start1.atStart⟩
end Jvm.Pilot.@@N@@
