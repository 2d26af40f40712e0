import JvmDerived
import JvmDerived.Pilot.@@N@@Statement
import JvmDerived.Pilot.@@N@@Code
set_option linter.unusedVariables false
set_option linter.unusedSimpArgs false
namespace Jvm.Pilot.@@N@@
open Jvm Jvm.ClassFile Sem Op Lib Jvm.Free Jvm.Stand Jvm.LawKit Jvm.RoadKit Bundle Jvm.Pilot.@@N@@.Jvm.D
/-! own_..: the walk in goal form: own_Go says that from a frame on the run comes to its end as the contract says; every step turns the goal for one frame into the goal for the next, so a branch is a case split and a join a 'have'. -/
def own_Post (s : State) (Q : Option Value → Heap → List Loc → Prop) (cs ss : Nat) (o : Outcome) (u : State) : Prop := ∃ v L, o = .returned v ∧ Q v u.heap L ∧ FrameEnd s o u L cs ss
def own_Go (p : Program) (e : Env) (below : List Frame) (Qf : Outcome → State → Prop) (T : State) (g : JFrame) : Prop := ∃ s₂ o, Steps p.tables e below (T.setTop g) s₂ ∧ s₂.status = .running ∧ Ended s₂ below o ∧ Qf o s₂
abbrev own_Met (l : Launch) (Z : State) (y : MethodName) (bytes : ByteArray) (maxL : Nat) (ret : Option FieldType) (ws : List Jvm.Cond) (rm : Room) (as' : Array Value) (h0 : Heap) (cs ss : Nat) (Q : Option Value → Heap → List Loc → Prop) : Prop :=
  MetFree l y (head1 (Jvm.Cond.code y bytes maxL ret :: ws) rm) (fun a U => a = as' ∧ Z.Warmed39 U.vm ∧ U.heap = h0) (fun _ _ _ _ _ => True) (fun _ U o U' => ∃ v L, o = .returned v ∧ Q v U'.heap L ∧ FrameEnd U o U' L cs ss)
def own_b (b : Bool) : Int32 := if b then 1 else 0
theorem own_b_t {b : Bool} (h : b = true) : own_b b = 1 := by subst h; rfl
theorem own_b_f {b : Bool} (h : ¬ b = true) : own_b b = 0 := by rw [Bool.eq_false_iff.mpr h]; rfl
theorem own_b_n {b : Bool} (h : b = true) : ¬ own_b b = 0 := by subst h; decide
theorem own_b_nar (b : Bool) : nar .boolean (own_b b) = own_b b := by cases b <;> rfl
theorem own_b_fits (b : Bool) : fits .boolean (.int (own_b b)) = true := by cases b <;> rfl
theorem own_b_inj {a b : Bool} (h : own_b a = own_b b) : a = b := by cases a <;> cases b <;> first | rfl | exact absurd h (by decide)
section Own
variable {p : Program} {l : Launch} {e : Env} {R : Room} {s : State} {m : MethodId} {args : Array Value} {below : List Frame} {meth : Method} {c : Code} {T T' : State} {locs : List Loc} {cells slots : Nat} {Z : State} {a0 : Array Value} {h : Heap}
theorem own_go {Qf : Outcome → State → Prop} {g g' : JFrame} (h : ∀ t, Steps p.tables e below (T'.setTop g') t → Steps p.tables e below (T.setTop g) t) (k : own_Go p e below Qf T' g') : own_Go p e below Qf T g := by
  obtain ⟨s₂, o, h1, h2⟩ := k
  exact ⟨s₂, o, h _ h1, h2⟩
theorem own_cast {Qf : Outcome → State → Prop} {g g' : JFrame} (q : g = g') (k : own_Go p e below Qf T g') : own_Go p e below Qf T g := q ▸ k
theorem own_met {y : MethodName} {bytes : ByteArray} {maxL : Nat} {ret : Option FieldType} {ws : List Jvm.Cond} {rm : Room} {as' : Array Value} {h0 : Heap} {cs ss : Nat} {Q : Option Value → Heap → List Loc → Prop} (hp : plainFor y = true)
    (body : ∀ (p : Program) (e : Env) (s : State) (m : MethodId) (below : List Frame) (meth : Method) (c : Code) (s₁ : State), BodyLoose p l y (head1 (Jvm.Cond.code y bytes maxL ret :: ws) rm) bytes maxL ret e s m as' below meth c s₁ → c.maxLocals = maxL → Z.Warmed39 s.vm →
      Stand p l e rm s m as' below meth c s₁ [] 0 0 → s₁.heap = h0 → own_Go p e below (own_Post s Q cs ss) s₁ (entryFrame m as' maxL)) : own_Met l Z y bytes maxL ret ws rm as' h0 cs ss Q := by
  refine MetFree.of_bodySF hp hisR ?_
  intro p e s m args below meth c s₁ Bd hml0 hP hK
  obtain ⟨rfl, hZ, hh⟩ := hP
  exact body p e s m below meth c s₁ Bd hml0 hZ (Stand.of_body Bd) (by rw [← hh, Bd.state]; rfl)
theorem own_retN (X : Stand p l e R s m args below meth c T locs cells slots) (hx : p.tables.exec = Jvm.exec) (t : FieldType) (hret : meth.sig.returnType = some t) (hlk : meth.locks = false) (ht : t = .boolean ∨ t = .byte ∨ t = .char ∨ t = .short) {pc : Nat} {Ls : Array Slot} {z : Int32} {rest : List Value} (hd : decode c.code pc = .ok (.ireturn, 1))
    {Q : Option Value → Heap → List Loc → Prop} {cs ss : Nat} (hc : cells ≤ cs) (hs : slots ≤ ss) (hQ : Q (some (.int (nar t z))) T.heap locs) : own_Go p e below (own_Post s Q cs ss) T (mkF m pc Ls (.int z :: rest)) := by
  obtain ⟨fs, hr, hrun, hended, hW, hsame⟩ := X.leave (v := some (.int (nar t z))) (fun h => by rw [hret] at h; cases h) hlk
  exact ⟨_, _, retN X hx hret ht hd hr, hrun, hended, _, _, rfl, hQ, ⟨_, rfl⟩, hW, hsame.mono hc hs⟩
theorem own_retI (X : Stand p l e R s m args below meth c T locs cells slots) (hx : p.tables.exec = Jvm.exec) (hret : meth.sig.returnType = some .int) (hlk : meth.locks = false) {pc : Nat} {Ls : Array Slot} {z : Int32} {rest : List Value} (hd : decode c.code pc = .ok (.ireturn, 1))
    {Q : Option Value → Heap → List Loc → Prop} {cs ss : Nat} (hc : cells ≤ cs) (hs : slots ≤ ss) (hQ : Q (some (.int z)) T.heap locs) : own_Go p e below (own_Post s Q cs ss) T (mkF m pc Ls (.int z :: rest)) := by
  obtain ⟨fs, hr, hrun, hended, hW, hsame⟩ := X.leave (v := some (.int z)) (fun h => by rw [hret] at h; cases h) hlk
  exact ⟨_, _, retOut X hx hret rfl (Or.inl ⟨rfl, Or.inl rfl, _, rfl⟩) hd hr, hrun, hended, _, _, rfl, hQ, ⟨_, rfl⟩, hW, hsame.mono hc hs⟩
theorem own_retJ (X : Stand p l e R s m args below meth c T locs cells slots) (hx : p.tables.exec = Jvm.exec) (hret : meth.sig.returnType = some .long) (hlk : meth.locks = false) {pc : Nat} {Ls : Array Slot} {z : Int64} {rest : List Value} (hd : decode c.code pc = .ok (.lreturn, 1))
    {Q : Option Value → Heap → List Loc → Prop} {cs ss : Nat} (hc : cells ≤ cs) (hs : slots ≤ ss) (hQ : Q (some (.long z)) T.heap locs) : own_Go p e below (own_Post s Q cs ss) T (mkF m pc Ls (.long z :: rest)) := by
  obtain ⟨fs, hr, hrun, hended, hW, hsame⟩ := X.leave (v := some (.long z)) (fun h => by rw [hret] at h; cases h) hlk
  exact ⟨_, _, retOut X hx hret rfl (Or.inr (Or.inl ⟨rfl, rfl, _, rfl⟩)) hd hr, hrun, hended, _, _, rfl, hQ, ⟨_, rfl⟩, hW, hsame.mono hc hs⟩
theorem own_retA (X : Stand p l e R s m args below meth c T locs cells slots) (hx : p.tables.exec = Jvm.exec) {t : FieldType} (hret : meth.sig.returnType = some t) (hlk : meth.locks = false) (ht : t.isReference = true) {pc : Nat} {Ls : Array Slot} {w : Value} {rest : List Value} (hw : w.isRef = true) (hd : decode c.code pc = .ok (.areturn, 1))
    {Q : Option Value → Heap → List Loc → Prop} {cs ss : Nat} (hc : cells ≤ cs) (hs : slots ≤ ss) (hQ : Q (some w) T.heap locs) : own_Go p e below (own_Post s Q cs ss) T (mkF m pc Ls (w :: rest)) := by
  obtain ⟨fs, hr, hrun, hended, hW, hsame⟩ := X.leave (v := some w) (fun h => by rw [hret] at h; cases h) hlk
  have hn : narrow t w = w := by rcases ref_cases hw with rfl | ⟨a, rfl⟩ <;> cases t <;> first | rfl | cases ht
  exact ⟨_, _, retOut X hx hret hn (Or.inr (Or.inr (Or.inr (Or.inr ⟨rfl, ht, hw⟩)))) hd hr, hrun, hended, _, _, rfl, hQ, ⟨_, rfl⟩, hW, hsame.mono hc hs⟩
theorem own_retV (X : Stand p l e R s m args below meth c T locs cells slots) (hx : p.tables.exec = Jvm.exec) (hret : meth.sig.returnType = none) (hlk : meth.locks = false) {pc : Nat} {Ls : Array Slot} (hd : decode c.code pc = .ok (.return_, 1))
    {Q : Option Value → Heap → List Loc → Prop} {cs ss : Nat} (hc : cells ≤ cs) (hs : slots ≤ ss) (hQ : Q none T.heap locs) : own_Go p e below (own_Post s Q cs ss) T (mkF m pc Ls []) := by
  obtain ⟨fs, hr, hrun, hended, hW, hsame⟩ := X.leave (v := none) (fun _ => rfl) hlk
  exact ⟨_, _, X.returnOut hx hret hd hr, hrun, hended, _, _, rfl, hQ, ⟨_, rfl⟩, hW, hsame.mono hc hs⟩
theorem own_callS (X : Stand p l e R s m args below meth c T locs cells slots) (hx : p.tables.exec = Jvm.exec) (hZ : Z.Warmed39 s.vm) {own : String} {index : Nat} {y : MethodName} {bytes : ByteArray} {maxL : Nat} {ret : Option FieldType} (hown : s.vm.findClass own = some m.cls)
    (w1 : (Jvm.Cond.methodLink own index y).before a0 Z = true) (w2 : (Jvm.Cond.static y).before a0 Z = true) (w3 : (Jvm.Cond.initialized y.cls).before a0 Z = true) (w4 : (Jvm.Cond.code y bytes maxL ret).before a0 Z = true)
    (hy : y.cls ≠ "java/lang/invoke/MethodHandle" ∧ y.cls ≠ "java/lang/invoke/VarHandle") {rm : Room} {argsL : List Value} {Q : Option Value → Heap → List Loc → Prop} (hM : own_Met l Z y bytes maxL ret [] rm argsL.toArray h rm.cells rm.slots Q) (eT : T.heap = h)
    {g : JFrame} (hg : g.method = m) (hsize : g.locals.size = c.maxLocals) {rest : List Value} (hlen : ∀ sig, parseMethodDescriptor y.desc = some sig → argsL.length = sig.parameters.length) (hstack : g.stack = argsL.reverse ++ rest)
    (hdg : decode c.code g.pc = .ok (.invokestatic index, 3)) {W : Nat} (hW : 2 * g.monitorRoom + (rest.map fun v => v.category).sum ≤ W) (hf : rm.frames + 1 ≤ R.frames) (hl : W + (maxL + 11) + rm.locals ≤ R.locals) (hc : cells + rm.cells ≤ R.cells) (hs : slots + rm.slots ≤ R.slots) :
    ∃ (v : Option Value) (T' : State) (L : List Loc), Q v T'.heap L ∧ Stand p l e R s m args below meth c T' (locs ++ L) (cells + rm.cells) (slots + rm.slots) ∧
      ∀ t, Steps p.tables e below (T'.setTop { g with pc := g.pc + 3, stack := v.toList ++ rest }) t → Steps p.tables e below (T.setTop g) t := by
  obtain ⟨v, _, ⟨T', L', k', n'⟩, -, X', ⟨L, hQ, l1, l2, l3⟩, st⟩ := Jvm.LawKit.callS X hx hown (mvT hZ w1) (mvT hZ w2) (mvT hZ w3) (mvT hZ w4) hy (backOf (W := W) hM hZ w4 w3 hf hl) hg hsize hlen hstack hW hdg (fun _ _ => ⟨rfl, eT, hc, hs⟩)
  dsimp only [Pt.U, Pt.locs, Pt.cells, Pt.slots] at X' l1 l2 l3 st hQ
  subst l1 l2 l3
  exact ⟨v, T', L, hQ, X', st⟩
theorem own_callI (X : Stand p l e R s m args below meth c T locs cells slots) (hx : p.tables.exec = Jvm.exec) (hZ : Z.Warmed39 s.vm) {own : String} {index : Nat} {y : MethodName} {bytes : ByteArray} {maxL : Nat} (hy1 : y.name = "<init>") (hown : s.vm.findClass own = some m.cls)
    (w1 : (Jvm.Cond.methodLink own index y).before a0 Z = true) (w2 : (Jvm.Cond.instanceMethod y).before a0 Z = true) (w3 : (Jvm.Cond.initialized y.cls).before a0 Z = true) (w4 : (Jvm.Cond.code y bytes maxL none).before a0 Z = true)
    (hy : y.cls ≠ "java/lang/invoke/MethodHandle" ∧ y.cls ≠ "java/lang/invoke/VarHandle") {rm : Room} {a : Addr} {argsL : List Value} {Q : Option Value → Heap → List Loc → Prop} (hM : own_Met l Z y bytes maxL none [] rm (.ref a :: argsL).toArray h rm.cells rm.slots Q) (eT : T.heap = h)
    {g : JFrame} (hg : g.method = m) (hsize : g.locals.size = c.maxLocals) {rest : List Value} (hlen : ∀ sig, parseMethodDescriptor y.desc = some sig → argsL.length = sig.parameters.length) (hstack : g.stack = argsL.reverse ++ .ref a :: rest)
    (hdg : decode c.code g.pc = .ok (.invokespecial index, 3)) {W : Nat} (hW : 2 * g.monitorRoom + (rest.map fun v => v.category).sum ≤ W) (hf : rm.frames + 1 ≤ R.frames) (hl : W + (maxL + 11) + rm.locals ≤ R.locals) (hc : cells + rm.cells ≤ R.cells) (hs : slots + rm.slots ≤ R.slots) :
    ∃ (v : Option Value) (T' : State) (L : List Loc), Q v T'.heap L ∧ Stand p l e R s m args below meth c T' (locs ++ L) (cells + rm.cells) (slots + rm.slots) ∧
      ∀ t, Steps p.tables e below (T'.setTop { g with pc := g.pc + 3, stack := v.toList ++ rest }) t → Steps p.tables e below (T.setTop g) t := by
  obtain ⟨v, _, ⟨T', L', k', n'⟩, -, X', ⟨L, hQ, l1, l2, l3⟩, st⟩ := X.specialBack hx hy1 hown (mvT hZ w1) (mvT hZ w2) (mvT hZ w4) hy (backOf (W := W) hM hZ w4 w3 hf hl) hg hsize (Steps.refl _) hlen hstack hW hdg (fun _ _ => ⟨rfl, eT, hc, hs⟩)
  dsimp only [Pt.U, Pt.locs, Pt.cells, Pt.slots] at X' l1 l2 l3 st hQ
  subst l1 l2 l3
  exact ⟨v, T', L, hQ, X', fun _ k => st.trans k⟩
theorem own_callV (X : Stand p l e R s m args below meth c T locs cells slots) (hx : p.tables.exec = Jvm.exec) (hZ : Z.Warmed39 s.vm) {own C : String} {index : Nat} {y z : MethodName} {bytes : ByteArray} {maxL : Nat} {ret : Option FieldType} (hown : s.vm.findClass own = some m.cls)
    (w1 : (Jvm.Cond.methodLink own index y).before a0 Z = true) (w2 : (Jvm.Cond.declares y).before a0 Z = true) (hnf : NotFace s y) (ws : (Jvm.Cond.selects C y z).before a0 Z = true) (wi : (Jvm.Cond.instanceMethod z).before a0 Z = true) (w3 : (Jvm.Cond.initialized z.cls).before a0 Z = true) (w4 : (Jvm.Cond.code z bytes maxL ret).before a0 Z = true)
    (hy : y.cls ≠ "java/lang/invoke/MethodHandle" ∧ y.cls ≠ "java/lang/invoke/VarHandle") {rm : Room} {a : Addr} {argsL : List Value} {Q : Option Value → Heap → List Loc → Prop} (hM : own_Met l Z z bytes maxL ret [] rm (.ref a :: argsL).toArray h rm.cells rm.slots Q) (eT : T.heap = h) (E : Exa Z h a C)
    {g : JFrame} (hg : g.method = m) (hsize : g.locals.size = c.maxLocals) {rest : List Value} (hlen : ∀ sig, parseMethodDescriptor y.desc = some sig → argsL.length = sig.parameters.length) (hstack : g.stack = argsL.reverse ++ .ref a :: rest)
    (hdg : decode c.code g.pc = .ok (.invokevirtual index, 3)) {W : Nat} (hW : 2 * g.monitorRoom + (rest.map fun v => v.category).sum ≤ W) (hf : rm.frames + 1 ≤ R.frames) (hl : W + (maxL + 11) + rm.locals ≤ R.locals) (hc : cells + rm.cells ≤ R.cells) (hs : slots + rm.slots ≤ R.slots) :
    ∃ (v : Option Value) (T' : State) (L : List Loc), Q v T'.heap L ∧ Stand p l e R s m args below meth c T' (locs ++ L) (cells + rm.cells) (slots + rm.slots) ∧
      ∀ t, Steps p.tables e below (T'.setTop { g with pc := g.pc + 3, stack := v.toList ++ rest }) t → Steps p.tables e below (T.setTop g) t := by
  obtain ⟨cq, kq, qa, qb, qc⟩ := isOf hZ eT E
  obtain ⟨v, _, ⟨T', L', k', n'⟩, -, X', ⟨L, hQ, l1, l2, l3⟩, st⟩ := X.virtualBack hx hown (mvT hZ w1) (mvT hZ w2) hnf (mvT hZ ws) (mvT hZ wi) hy (backOf (W := W) hM hZ w4 w3 hf hl) qa qc hg hsize (Steps.refl _) hlen hstack hW hdg (fun _ _ => ⟨rfl, eT, hc, hs⟩)
  dsimp only [Pt.U, Pt.locs, Pt.cells, Pt.slots] at X' l1 l2 l3 st hQ
  subst l1 l2 l3
  exact ⟨v, T', L, hQ, X', fun _ k => st.trans k⟩
theorem own_callF (X : Stand p l e R s m args below meth c T locs cells slots) (hx : p.tables.exec = Jvm.exec) (hZ : Z.Warmed39 s.vm) {own C : String} {index count : Nat} {xi y : MethodName} {bytes : ByteArray} {maxL : Nat} {ret : Option FieldType} (hown : s.vm.findClass own = some m.cls)
    (w1 : (Jvm.Cond.methodLink own index xi).before args s = true) (w2 : (Jvm.Cond.declares xi).before args s = true) (wf : (Jvm.Cond.interfaceMethod xi.cls xi.cls xi.name xi.desc).before args s = true) (ws : (Jvm.Cond.selects C xi y).before args s = true) (wi : (Jvm.Cond.instanceMethod y).before args s = true) (wp : (Jvm.Cond.publicMethod y).before args s = true) (wu : (Jvm.Cond.unhidden C xi.name xi.desc).before args s = true) (wc : (Jvm.Cond.castable C xi.cls).before args s = true) (w3 : (Jvm.Cond.initialized y.cls).before a0 Z = true) (w4 : (Jvm.Cond.code y bytes maxL ret).before a0 Z = true)
    (hy : xi.cls ≠ "java/lang/invoke/MethodHandle" ∧ xi.cls ≠ "java/lang/invoke/VarHandle") {rm : Room} {a : Addr} {argsL : List Value} {Q : Option Value → Heap → List Loc → Prop} (hM : own_Met l Z y bytes maxL ret [] rm (.ref a :: argsL).toArray h rm.cells rm.slots Q) (eT : T.heap = h) (E : Exa Z h a C)
    {g : JFrame} (hg : g.method = m) (hsize : g.locals.size = c.maxLocals) {rest : List Value} (hlen : ∀ sig, parseMethodDescriptor xi.desc = some sig → argsL.length = sig.parameters.length) (hstack : g.stack = argsL.reverse ++ .ref a :: rest)
    (hdg : decode c.code g.pc = .ok (.invokeinterface index count, 5)) {W : Nat} (hW : 2 * g.monitorRoom + (rest.map fun v => v.category).sum ≤ W) (hf : rm.frames + 1 ≤ R.frames) (hl : W + (maxL + 11) + rm.locals ≤ R.locals) (hc : cells + rm.cells ≤ R.cells) (hs : slots + rm.slots ≤ R.slots) :
    ∃ (v : Option Value) (T' : State) (L : List Loc), Q v T'.heap L ∧ Stand p l e R s m args below meth c T' (locs ++ L) (cells + rm.cells) (slots + rm.slots) ∧
      ∀ t, Steps p.tables e below (T'.setTop { g with pc := g.pc + 5, stack := v.toList ++ rest }) t → Steps p.tables e below (T.setTop g) t := by
  obtain ⟨cq, kq, qa, qb, qc⟩ := isOf hZ eT E
  obtain ⟨v, _, ⟨T', L', k', n'⟩, -, X', ⟨L, hQ, l1, l2, l3⟩, st⟩ := X.interfaceBack hx hown w1 w2 wf ws wi wp wu wc hy (backOf (W := W) hM hZ w4 w3 hf hl) qa qb qc hg hsize (Steps.refl _) hlen hstack hW hdg (fun _ _ => ⟨rfl, eT, hc, hs⟩)
  dsimp only [Pt.U, Pt.locs, Pt.cells, Pt.slots] at X' l1 l2 l3 st hQ
  subst l1 l2 l3
  exact ⟨v, T', L, hQ, X', fun _ k => st.trans k⟩
theorem own_irem {g : JFrame} {target : State} (X : Stand p l e R s m args below meth c T locs cells slots) (hx : p.tables.exec = Jvm.exec) (hg : g.method = m) {x y : Int32} {rest : List Value} (hd : decode c.code g.pc = .ok (.irem, 1)) (hs : g.stack = .int y :: .int x :: rest) (hy : y ≠ 0)
    (hr : Steps p.tables e below (T.setTop { g with pc := g.pc + 1, stack := .int (x % y) :: rest }) target) : Steps p.tables e below (T.setTop g) target := iremM X hx hg hd hs hy hr
theorem own_lrem {g : JFrame} {target : State} (X : Stand p l e R s m args below meth c T locs cells slots) (hx : p.tables.exec = Jvm.exec) (hg : g.method = m) {x y : Int64} {rest : List Value} (hd : decode c.code g.pc = .ok (.lrem, 1)) (hs : g.stack = .long y :: .long x :: rest) (hy : y ≠ 0)
    (hr : Steps p.tables e below (T.setTop { g with pc := g.pc + 1, stack := .long (x % y) :: rest }) target) : Steps p.tables e below (T.setTop g) target :=
  XS.lrem X.here hx hg hd hs hy (by rw [lrem_mod]; exact hr)
theorem own_pop2 {g : JFrame} {target : State} (X : Stand p l e R s m args below meth c T locs cells slots) (hx : p.tables.exec = Jvm.exec) (hg : g.method = m) {x : Int64} {rest : List Value} (hd : decode c.code g.pc = .ok (.pop2, 1)) (hs : g.stack = .long x :: rest)
    (hr : Steps p.tables e below (T.setTop { g with pc := g.pc + 1, stack := rest }) target) : Steps p.tables e below (T.setTop g) target := by
  subst hg
  jvm_step X.here [X.here.top, hx, hd, hs, Value.category]
  exact hr
theorem own_fldJ {t : Term} {C n d : String} {a : Addr} {z : Int64} (ht : t.eval args s none [] s = some (.ref a)) (q : (Jvm.Cond.eq (.field t C n d) (.long z)).value args s none s [] = some true) : Fld s s.heap a C n d (.long z) := by
  obtain ⟨x, y, ha, hb, -, k2⟩ := cmp_v (Or.inl q)
  obtain rfl : y = .long z := Option.some.inj (hb.symm.trans (long_at z))
  obtain ⟨w, rfl⟩ := k2
  have e : w = z := gotT (eq_L ha hb) q
  subst e
  exact Fld.start ((fld_at ht).symm.trans ha)
theorem own_staI {C n d : String} {z : Int32} (q : (Jvm.Cond.eq (.static C n d) (.int z)).value args s none s [] = some true) (hi : (Jvm.Cond.initializedFor C n d).before args s = true ∨ ((Jvm.Cond.initialized C).before args s = true ∧ (Jvm.Cond.laysStatic C n d).before args s = true)) : Sta s s.heap C n d (.int z) := by
  obtain ⟨x, y, ha, hb, -, k2⟩ := cmp_v (Or.inl q)
  obtain rfl : y = .int z := Option.some.inj (hb.symm.trans (Term.int_eval z))
  obtain ⟨w, rfl⟩ := k2
  have e : w = z := gotT (Cond.eq_ints ha hb) q
  subst e
  exact Sta.start ha hi
theorem own_ns_exa {a : Addr} {C : String} (E : Exa Z h a C) : ∃ c : Cell, h[a]? = some c ∧ c.vm.isStatics = false := by
  obtain ⟨c, k, h1, -, -, h4, -⟩ := E
  exact ⟨c, h1, h4⟩
theorem own_ns_arv {a : Addr} {k : ClassId} {ty : FieldType} {z : Int32} {vs : List Value} {dv : Value} (F : Arv Z h a k ty z vs dv) : ∃ c : Cell, h[a]? = some c ∧ c.vm.isStatics = false := by
  obtain ⟨c, A, -⟩ := F
  exact ⟨c, A.1, A.plain⟩
theorem own_sta_keep {h' : Heap} {C n d : String} {w : Value} {ws : List Addr} (F : Sta Z h C n d w) (K : Keep h h' ws) (hn : ∀ x ∈ ws, ∃ c : Cell, h[x]? = some c ∧ c.vm.isStatics = false) : Sta Z h' C n d w := by
  obtain ⟨cf, i, k, f, st, cell, h1, h2, h3, h4, h5, h6, h7⟩ := F
  exact ⟨cf, i, k, f, st, cell, h1, h2, h3, h4, K.2.1 st cell h5 (fun q => by obtain ⟨c, e1, e2⟩ := hn st q; cases h5.symm.trans e1; rw [e2] at h6; cases h6), h6, h7⟩
end Own
def own_o (k : Int) (q : Int64) (x : Int64) : Int64 := if q.toInt / 64 = k then x ||| ((1 : Int64) <<< ((q.toInt32) &&& 0x3f).toInt64) else x
def own_e (i : Int32) (w : Int32) (x : Int64) : Int64 := if (i >>> ((6 : Int32) &&& 31)) = w then x ||| ((1 : Int64) <<< ((i &&& (63 : Int32)) &&& 0x3f).toInt64) else x
theorem own_oe (i w : Int32) (k : Int) (hk : w.toInt = k) (x : Int64) : own_o k i.toInt64 x = own_e i w x := by
  have h1 := c_ishr i (6 : Int32) 6 (by decide)
  simp only [Nat.reducePow, Int.cast_ofNat_Int] at h1
  have h2 : i.toInt64.toInt32 = i := by
    rw [← Int32.toInt_inj]
    have a := c_l2i i.toInt64
    have b := rng32 i
    have d := rng32 i.toInt64.toInt32
    rw [c_i2l] at a
    omega
  have h3 : (i &&& (63 : Int32)) &&& 0x3f = i &&& 0x3f := by
    rw [Int32.and_assoc, Int32.and_self]
  unfold own_o own_e
  rw [h2, h3, c_i2l]
  by_cases q : i.toInt / 64 = k
  · rw [if_pos q, if_pos (by rw [← Int32.toInt_inj, h1, hk]; exact q)]
  · rw [if_neg q, if_neg (by rw [← Int32.toInt_inj, h1, hk]; exact q)]
theorem own_wd (q : Int64) (h : 193 ≤ q.toInt ∧ q.toInt ≤ 256) : (((q + (63 : Int64)).toUInt64 >>> ((6 : Int32) &&& 0x3f).toInt64.toUInt64).toInt64) = (4 : Int64) := by
  have h1 := c_ladd q (63 : Int64)
  have h2 := c_lushr (q + (63 : Int64)) (6 : Int32) 6 (by decide) (by decide)
  have h3 := rng64 (q + (63 : Int64))
  have h4 : (63 : Int64).toInt = 63 := by decide
  have h5 : (4 : Int64).toInt = 4 := by decide
  rw [h4] at h1
  rw [← Int64.toInt_inj, h2, h5]
  simp only [Nat.reducePow, Int.cast_ofNat_Int]
  omega
theorem own_p0 (q : Int64) (h : 0 ≤ q.toInt ∧ q.toInt < 256) : (((q.toUInt64 >>> ((31 : Int32) &&& 0x3f).toInt64.toUInt64).toInt64).toInt32) = (0 : Int32) := by
  have h2 := c_lushr q (31 : Int32) 31 (by decide) (by decide)
  simp only [Nat.reducePow, Int.cast_ofNat_Int] at h2
  have h3 : ((q.toUInt64 >>> ((31 : Int32) &&& 0x3f).toInt64.toUInt64).toInt64) = 0 := by
    rw [← Int64.toInt_inj, h2]
    have : (0 : Int64).toInt = 0 := by decide
    omega
  rw [h3]
  decide
theorem own_pk (q : Int64) (k : Int) (w : Int32) (hw : w.toInt = k) (hk : 0 ≤ k ∧ k ≤ 3) (h : 64 * k ≤ q.toInt ∧ q.toInt < 64 * k + 64) : (((q.toUInt64 >>> ((6 : Int32) &&& 0x3f).toInt64.toUInt64).toInt64).toInt32) &&& (33554431 : Int32) = w := by
  have h2 := c_lushr q (6 : Int32) 6 (by decide) (by decide)
  simp only [Nat.reducePow, Int.cast_ofNat_Int] at h2
  have h3 := c_l2i ((q.toUInt64 >>> ((6 : Int32) &&& 0x3f).toInt64.toUInt64).toInt64)
  have h4 := rng32 ((q.toUInt64 >>> ((6 : Int32) &&& 0x3f).toInt64.toUInt64).toInt64).toInt32
  generalize ((q.toUInt64 >>> ((6 : Int32) &&& 0x3f).toInt64.toUInt64).toInt64) = y at *
  have h5 := c_mask y.toInt32 (33554431 : Int32) 25 (by decide) (by decide)
  simp only [Nat.reducePow, Int.cast_ofNat_Int] at h5
  rw [← Int32.toInt_inj, h5, hw]
  omega
theorem own_n (x : Int32) : 193 ≤ ((193 : Int32) + (x &&& (63 : Int32))).toInt ∧ ((193 : Int32) + (x &&& (63 : Int32))).toInt ≤ 256 := by
  have h1 := c_mask x (63 : Int32) 6 (by decide) (by decide)
  have h2 := c_iadd (193 : Int32) (x &&& (63 : Int32))
  have h3 := rng32 ((193 : Int32) + (x &&& (63 : Int32)))
  have h4 : (193 : Int32).toInt = 193 := by decide
  rw [h4] at h2
  omega
theorem own_ix (a n : Int32) (hn : 193 ≤ n.toInt ∧ n.toInt ≤ 256) : 0 ≤ ((a &&& (2147483647 : Int32)) % n).toInt ∧ ((a &&& (2147483647 : Int32)) % n).toInt < n.toInt := by
  have h1 := c_mask a (2147483647 : Int32) 31 (by decide) (by decide)
  have h2 := (c_iremV (a &&& (2147483647 : Int32)) n).1 (by omega) (by omega)
  omega
theorem own_nz {n : Int32} (hn : 193 ≤ n.toInt ∧ n.toInt ≤ 256) : n ≠ 0 := by
  intro q
  rw [q] at hn
  have : (0 : Int32).toInt = 0 := by decide
  omega
theorem d3_0 : decode prog_31_method_17_code 0 = .ok (.lload_n 0, 1) := by decide +kernel
theorem d3_1 : decode prog_31_method_17_code 1 = .ok (.ldc2_w 45, 3) := by decide +kernel
theorem d3_4 : decode prog_31_method_17_code 4 = .ok (.ladd, 1) := by decide +kernel
theorem d3_5 : decode prog_31_method_17_code 5 = .ok (.bipush 6, 2) := by decide +kernel
theorem d3_7 : decode prog_31_method_17_code 7 = .ok (.lushr, 1) := by decide +kernel
theorem d3_8 : decode prog_31_method_17_code 8 = .ok (.lreturn, 1) := by decide +kernel
theorem pn_rm3 : plainName "com/example/gist_sketch/gistsketch/format/BitArray" = true := by first | (simp [plainName, overriddenIn]; done) | decide +kernel
theorem ef_rm3 (m : MethodId) (q0 : Int64) : entryFrame m #[(.long q0)] 2 = mkF m 0 #[.val (.long q0), .second] [] := by first | (simp [entryFrame, mkF, argsToLocals, Value.category]; done) | rfl
set_option maxRecDepth 65536 in
set_option maxHeartbeats 40000000 in
theorem rm3 (l : Launch) (Z : State) (a0 : Array Value) (hw : ∀ d ∈ tables_1, d.before a0 Z = true) (q0 : Int64)  (h0 : Heap) (hq : 193 ≤ q0.toInt ∧ q0.toInt ≤ 256) :
    own_Met l Z (⟨"com/example/gist_sketch/gistsketch/format/BitArray", "words", "(J)J"⟩ : MethodName) prog_31_method_17_code 2 (some .long) [] ({ frames := 0, cells := 0, slots := 0, locals := 0 } : Room) #[(.long q0)] h0 0 0 (fun v h L => v = some (.long (4 : Int64)) ∧ h = h0 ∧ L = []) := by
  refine own_met (plainFor_of_name pn_rm3) ?_
  intro p e s m below meth c s₁ Bd hml0 hZ X0 e0
  have hx := Bd.exec
  have hby := Bd.bytes
  have hml : c.maxLocals = 2 := hml0
  have hown : s.vm.findClass "com/example/gist_sketch/gistsketch/format/BitArray" = some m.cls := findClass_of_methodNamed Bd.named
  have hnm := (name_of_methodNamed Bd.named Bd.method).1
  refine own_cast (ef_rm3 m q0) ?_
  generalize hQQ : (fun (v : Option Value) (h : Heap) (L : List Loc) => v = some (.long (4 : Int64)) ∧ h = h0 ∧ L = []) = QQ
  refine own_go (g' := (mkF m 1 #[.val (.long q0), .second] [(.long q0)])) (fun _ kgo => XS.lloadN X0.here hx rfl (hb hby d3_0) rfl kgo) ?_
  refine own_go (g' := (mkF m 4 #[.val (.long q0), .second] [(.long (63 : Int64)), (.long q0)])) (X0.ldc2Long hx hown (mvT hZ (hw _ (List.mem_of_getElem? (i := 14) rfl))) (g := (mkF m 1 #[.val (.long q0), .second] [(.long q0)])) rfl (hb hby d3_1)) ?_
  refine own_go (g' := (mkF m 5 #[.val (.long q0), .second] [(.long (q0 + (63 : Int64)))])) (fun _ kgo => XS.ladd X0.here hx rfl (hb hby d3_4) rfl kgo) ?_
  refine own_go (g' := (mkF m 7 #[.val (.long q0), .second] [(.int (6 : Int32)), (.long (q0 + (63 : Int64)))])) (fun _ kgo => XS.bipush X0.here hx rfl (hb hby d3_5) kgo) ?_
  refine own_go (g' := (mkF m 8 #[.val (.long q0), .second] [(.long (((q0 + (63 : Int64)).toUInt64 >>> ((6 : Int32) &&& 0x3f).toInt64.toUInt64).toInt64))])) (fun _ kgo => XS.lushr X0.here hx rfl (hb hby d3_7) rfl kgo) ?_
  refine own_retJ X0 hx Bd.returns Bd.notSynchronized (hb hby d3_8) (by decide) (by decide) ?_
  show QQ _ s₁.heap _
  rw [e0]
  rw [← hQQ]
  exact ⟨by rw [own_wd q0 hq], rfl, rfl⟩
theorem d2_0 : decode prog_31_method_15_code 0 = .ok (.lload_n 0, 1) := by decide +kernel
theorem d2_1 : decode prog_31_method_15_code 1 = .ok (.lconst 0, 1) := by decide +kernel
theorem d2_2 : decode prog_31_method_15_code 2 = .ok (.lcmp, 1) := by decide +kernel
theorem d2_3 : decode prog_31_method_15_code 3 = .ok (.ifCond .lt 11, 3) := by decide +kernel
theorem d2_6 : decode prog_31_method_15_code 6 = .ok (.lload_n 0, 1) := by decide +kernel
theorem d2_7 : decode prog_31_method_15_code 7 = .ok (.ldc2_w 89, 3) := by decide +kernel
theorem d2_10 : decode prog_31_method_15_code 10 = .ok (.lcmp, 1) := by decide +kernel
theorem d2_11 : decode prog_31_method_15_code 11 = .ok (.ifCond .le 17, 3) := by decide +kernel
theorem d2_28 : decode prog_31_method_15_code 28 = .ok (.lload_n 0, 1) := by decide +kernel
theorem d2_29 : decode prog_31_method_15_code 29 = .ok (.invokestatic 93, 3) := by decide +kernel
theorem d2_32 : decode prog_31_method_15_code 32 = .ok (.ldc2_w 96, 3) := by decide +kernel
theorem d2_35 : decode prog_31_method_15_code 35 = .ok (.ladd, 1) := by decide +kernel
theorem d2_36 : decode prog_31_method_15_code 36 = .ok (.bipush 25, 2) := by decide +kernel
theorem d2_38 : decode prog_31_method_15_code 38 = .ok (.lushr, 1) := by decide +kernel
theorem d2_39 : decode prog_31_method_15_code 39 = .ok (.l2i, 1) := by decide +kernel
theorem d2_40 : decode prog_31_method_15_code 40 = .ok (.ireturn, 1) := by decide +kernel
theorem pn_rm2 : plainName "com/example/gist_sketch/gistsketch/format/BitArray" = true := by first | (simp [plainName, overriddenIn]; done) | decide +kernel
theorem pd2_0 : parseMethodDescriptor "(J)J" = some ⟨[.long], some .long⟩ := by decide +kernel
theorem ef_rm2 (m : MethodId) (q0 : Int64) : entryFrame m #[(.long q0)] 2 = mkF m 0 #[.val (.long q0), .second] [] := by first | (simp [entryFrame, mkF, argsToLocals, Value.category]; done) | rfl
set_option maxRecDepth 65536 in
set_option maxHeartbeats 40000000 in
theorem rm2 (l : Launch) (Z : State) (a0 : Array Value) (hw : ∀ d ∈ tables_1, d.before a0 Z = true) (q0 : Int64)  (h0 : Heap) (hq : 193 ≤ q0.toInt ∧ q0.toInt ≤ 256) :
    own_Met l Z (⟨"com/example/gist_sketch/gistsketch/format/BitArray", "pageCount", "(J)I"⟩ : MethodName) prog_31_method_15_code 2 (some .int) [] ({ frames := 1, cells := 0, slots := 0, locals := 13 } : Room) #[(.long q0)] h0 0 0 (fun v h L => v = some (.int (1 : Int32)) ∧ h = h0 ∧ L = []) := by
  refine own_met (plainFor_of_name pn_rm2) ?_
  intro p e s m below meth c s₁ Bd hml0 hZ X0 e0
  have hx := Bd.exec
  have hby := Bd.bytes
  have hml : c.maxLocals = 2 := hml0
  have hown : s.vm.findClass "com/example/gist_sketch/gistsketch/format/BitArray" = some m.cls := findClass_of_methodNamed Bd.named
  have hnm := (name_of_methodNamed Bd.named Bd.method).1
  refine own_cast (ef_rm2 m q0) ?_
  generalize hQQ : (fun (v : Option Value) (h : Heap) (L : List Loc) => v = some (.int (1 : Int32)) ∧ h = h0 ∧ L = []) = QQ
  refine own_go (g' := (mkF m 1 #[.val (.long q0), .second] [(.long q0)])) (fun _ kgo => XS.lloadN X0.here hx rfl (hb hby d2_0) rfl kgo) ?_
  refine own_go (g' := (mkF m 2 #[.val (.long q0), .second] [(.long (0 : Int64)), (.long q0)])) (fun _ kgo => XS.lconst X0.here hx rfl (hb hby d2_1) kgo) ?_
  refine own_go (g' := (mkF m 3 #[.val (.long q0), .second] [(.int (lcmpW q0 (0 : Int64)))])) (fun _ kgo => XS.lcmp X0.here hx rfl (hb hby d2_2) rfl kgo) ?_
  refine own_go (g' := (mkF m 6 #[.val (.long q0), .second] [])) (fun _ kgo => XS.ifNo X0.here hx rfl (hb hby d2_3) rfl ((if0 _ _).trans (flt (mt (lw_lt _ _).mp (by simp only [Int64.lt_iff_toInt_lt, Int64.reduceToInt]; omega))).1) kgo) ?_
  refine own_go (g' := (mkF m 7 #[.val (.long q0), .second] [(.long q0)])) (fun _ kgo => XS.lloadN X0.here hx rfl (hb hby d2_6) rfl kgo) ?_
  refine own_go (g' := (mkF m 10 #[.val (.long q0), .second] [(.long (137438952896 : Int64)), (.long q0)])) (X0.ldc2Long hx hown (mvT hZ (hw _ (List.mem_of_getElem? (i := 10) rfl))) (g := (mkF m 7 #[.val (.long q0), .second] [(.long q0)])) rfl (hb hby d2_7)) ?_
  refine own_go (g' := (mkF m 11 #[.val (.long q0), .second] [(.int (lcmpW q0 (137438952896 : Int64)))])) (fun _ kgo => XS.lcmp X0.here hx rfl (hb hby d2_10) rfl kgo) ?_
  refine own_go (g' := (mkF m 28 #[.val (.long q0), .second] [])) (fun _ kgo => XS.ifYes X0.here hx rfl (pc0 := 11) (pc' := 28) rfl (hb hby d2_11) rfl ((if0 _ _).trans (flt (mt (lw_gt _ _).mp (by simp only [Int64.lt_iff_toInt_lt, Int64.reduceToInt]; omega))).2.2.2) (by decide) (by decide) kgo) ?_
  refine own_go (g' := (mkF m 29 #[.val (.long q0), .second] [(.long q0)])) (fun _ kgo => XS.lloadN X0.here hx rfl (hb hby d2_28) rfl kgo) ?_
  obtain ⟨v1, T1, L1, hQ1, X1, st1⟩ := own_callS X0 hx hZ (y := (⟨"com/example/gist_sketch/gistsketch/format/BitArray", "words", "(J)J"⟩ : MethodName)) hown (hw _ (List.mem_of_getElem? (i := 11) rfl)) (hw _ (List.mem_of_getElem? (i := 12) rfl)) (hw _ (List.mem_of_getElem? (i := 3) rfl)) (hw _ (List.mem_of_getElem? (i := 13) rfl)) ⟨by decide, by decide⟩ (argsL := [(.long q0)]) (rm3 l Z a0 hw q0 h0 hq) e0 (g := (mkF m 29 #[.val (.long q0), .second] [(.long q0)])) rfl (by rw [hml]; rfl) (rest := []) (lenOf pd2_0 rfl) rfl (hb hby d2_29) (W := 0) (by show 2 * 0 + _ ≤ _; exact Nat.le_of_eq rfl) (by decide) (by decide) (by decide) (by decide)
  obtain ⟨rfl, e1, rfl⟩ := hQ1
  refine own_go (g' := (mkF m 32 #[.val (.long q0), .second] [(.long (4 : Int64))])) (st1) ?_
  refine own_go (g' := (mkF m 35 #[.val (.long q0), .second] [(.long (33554431 : Int64)), (.long (4 : Int64))])) (X1.ldc2Long hx hown (mvT hZ (hw _ (List.mem_of_getElem? (i := 15) rfl))) (g := (mkF m 32 #[.val (.long q0), .second] [(.long (4 : Int64))])) rfl (hb hby d2_32)) ?_
  refine own_go (g' := (mkF m 36 #[.val (.long q0), .second] [(.long (33554435 : Int64))])) (fun _ kgo => XS.ladd X1.here hx rfl (hb hby d2_35) rfl kgo) ?_
  refine own_go (g' := (mkF m 38 #[.val (.long q0), .second] [(.int (25 : Int32)), (.long (33554435 : Int64))])) (fun _ kgo => XS.bipush X1.here hx rfl (hb hby d2_36) kgo) ?_
  refine own_go (g' := (mkF m 39 #[.val (.long q0), .second] [(.long (1 : Int64))])) (fun _ kgo => XS.lushr X1.here hx rfl (hb hby d2_38) rfl kgo) ?_
  refine own_go (g' := (mkF m 40 #[.val (.long q0), .second] [(.int (1 : Int32))])) (fun _ kgo => XS.l2i X1.here hx rfl (hb hby d2_39) rfl kgo) ?_
  refine own_retI X1 hx Bd.returns Bd.notSynchronized (hb hby d2_40) (by decide) (by decide) ?_
  show QQ _ T1.heap _
  rw [e1]
  rw [← hQQ]
  exact ⟨rfl, rfl, rfl⟩
theorem d7_0 : decode jdk_29_method_70_code 0 = .ok (.lload_n 0, 1) := by decide +kernel
theorem d7_1 : decode jdk_29_method_70_code 1 = .ok (.lload_n 2, 1) := by decide +kernel
theorem d7_2 : decode jdk_29_method_70_code 2 = .ok (.lcmp, 1) := by decide +kernel
theorem d7_3 : decode jdk_29_method_70_code 3 = .ok (.ifCond .gt 7, 3) := by decide +kernel
theorem d7_10 : decode jdk_29_method_70_code 10 = .ok (.lload_n 2, 1) := by decide +kernel
theorem d7_11 : decode jdk_29_method_70_code 11 = .ok (.lreturn, 1) := by decide +kernel
theorem ef_rm7 (m : MethodId)  : entryFrame m #[(.long (33554432 : Int64)), (.long (4 : Int64))] 4 = mkF m 0 #[.val (.long (33554432 : Int64)), .second, .val (.long (4 : Int64)), .second] [] := by first | (simp [entryFrame, mkF, argsToLocals, Value.category]; done) | rfl
set_option maxRecDepth 65536 in
set_option maxHeartbeats 40000000 in
theorem rm7 (l : Launch) (Z : State) (a0 : Array Value) (hw : ∀ d ∈ tables_1, d.before a0 Z = true)   (h0 : Heap) :
    own_Met l Z (⟨"java/lang/Math", "min", "(JJ)J"⟩ : MethodName) jdk_29_method_70_code 4 (some .long) [] ({ frames := 0, cells := 0, slots := 0, locals := 0 } : Room) #[(.long (33554432 : Int64)), (.long (4 : Int64))] h0 0 0 (fun v h L => v = some (.long (4 : Int64)) ∧ h = h0 ∧ L = []) := by
  refine own_met (Jvm.Free.JP.mathPlain rfl (by decide +kernel)) ?_
  intro p e s m below meth c s₁ Bd hml0 hZ X0 e0
  have hx := Bd.exec
  have hby := Bd.bytes
  have hml : c.maxLocals = 4 := hml0
  have hown : s.vm.findClass "java/lang/Math" = some m.cls := findClass_of_methodNamed Bd.named
  have hnm := (name_of_methodNamed Bd.named Bd.method).1
  refine own_cast (ef_rm7 m ) ?_
  generalize hQQ : (fun (v : Option Value) (h : Heap) (L : List Loc) => v = some (.long (4 : Int64)) ∧ h = h0 ∧ L = []) = QQ
  refine own_go (g' := (mkF m 1 #[.val (.long (33554432 : Int64)), .second, .val (.long (4 : Int64)), .second] [(.long (33554432 : Int64))])) (fun _ kgo => XS.lloadN X0.here hx rfl (hb hby d7_0) rfl kgo) ?_
  refine own_go (g' := (mkF m 2 #[.val (.long (33554432 : Int64)), .second, .val (.long (4 : Int64)), .second] [(.long (4 : Int64)), (.long (33554432 : Int64))])) (fun _ kgo => XS.lloadN X0.here hx rfl (hb hby d7_1) rfl kgo) ?_
  refine own_go (g' := (mkF m 3 #[.val (.long (33554432 : Int64)), .second, .val (.long (4 : Int64)), .second] [(.int (lcmpW (33554432 : Int64) (4 : Int64)))])) (fun _ kgo => XS.lcmp X0.here hx rfl (hb hby d7_2) rfl kgo) ?_
  refine own_go (g' := (mkF m 10 #[.val (.long (33554432 : Int64)), .second, .val (.long (4 : Int64)), .second] [])) (fun _ kgo => XS.ifYes X0.here hx rfl (pc0 := 3) (pc' := 10) rfl (hb hby d7_3) rfl ((if0 _ _).trans (tlt ((lw_gt _ _).mpr (by decide))).2.2.1) (by decide) (by decide) kgo) ?_
  refine own_go (g' := (mkF m 11 #[.val (.long (33554432 : Int64)), .second, .val (.long (4 : Int64)), .second] [(.long (4 : Int64))])) (fun _ kgo => XS.lloadN X0.here hx rfl (hb hby d7_10) rfl kgo) ?_
  refine own_retJ X0 hx Bd.returns Bd.notSynchronized (hb hby d7_11) (by decide) (by decide) ?_
  show QQ _ s₁.heap _
  rw [e0]
  rw [← hQQ]
  exact ⟨rfl, rfl, rfl⟩
theorem d6_0 : decode prog_31_method_16_code 0 = .ok (.ldc2_w 98, 3) := by decide +kernel
theorem d6_3 : decode prog_31_method_16_code 3 = .ok (.lload_n 0, 1) := by decide +kernel
theorem d6_4 : decode prog_31_method_16_code 4 = .ok (.invokestatic 93, 3) := by decide +kernel
theorem d6_7 : decode prog_31_method_16_code 7 = .ok (.iload_n 2, 1) := by decide +kernel
theorem d6_8 : decode prog_31_method_16_code 8 = .ok (.i2l, 1) := by decide +kernel
theorem d6_9 : decode prog_31_method_16_code 9 = .ok (.bipush 25, 2) := by decide +kernel
theorem d6_11 : decode prog_31_method_16_code 11 = .ok (.lshl, 1) := by decide +kernel
theorem d6_12 : decode prog_31_method_16_code 12 = .ok (.lsub, 1) := by decide +kernel
theorem d6_13 : decode prog_31_method_16_code 13 = .ok (.invokestatic 100, 3) := by decide +kernel
theorem d6_16 : decode prog_31_method_16_code 16 = .ok (.l2i, 1) := by decide +kernel
theorem d6_17 : decode prog_31_method_16_code 17 = .ok (.ireturn, 1) := by decide +kernel
theorem pn_rm6 : plainName "com/example/gist_sketch/gistsketch/format/BitArray" = true := by first | (simp [plainName, overriddenIn]; done) | decide +kernel
theorem pd6_0 : parseMethodDescriptor "(J)J" = some ⟨[.long], some .long⟩ := by decide +kernel
theorem pd6_1 : parseMethodDescriptor "(JJ)J" = some ⟨[.long, .long], some .long⟩ := by decide +kernel
theorem ef_rm6 (m : MethodId) (q0 : Int64) : entryFrame m #[(.long q0), (.int (0 : Int32))] 3 = mkF m 0 #[.val (.long q0), .second, .val (.int (0 : Int32))] [] := by first | (simp [entryFrame, mkF, argsToLocals, Value.category]; done) | rfl
set_option maxRecDepth 65536 in
set_option maxHeartbeats 40000000 in
theorem rm6 (l : Launch) (Z : State) (a0 : Array Value) (hw : ∀ d ∈ tables_1, d.before a0 Z = true) (q0 : Int64)  (h0 : Heap) (hq : 193 ≤ q0.toInt ∧ q0.toInt ≤ 256) :
    own_Met l Z (⟨"com/example/gist_sketch/gistsketch/format/BitArray", "pageWords", "(JI)I"⟩ : MethodName) prog_31_method_16_code 3 (some .int) [] ({ frames := 1, cells := 0, slots := 0, locals := 15 } : Room) #[(.long q0), (.int (0 : Int32))] h0 0 0 (fun v h L => v = some (.int (4 : Int32)) ∧ h = h0 ∧ L = []) := by
  refine own_met (plainFor_of_name pn_rm6) ?_
  intro p e s m below meth c s₁ Bd hml0 hZ X0 e0
  have hx := Bd.exec
  have hby := Bd.bytes
  have hml : c.maxLocals = 3 := hml0
  have hown : s.vm.findClass "com/example/gist_sketch/gistsketch/format/BitArray" = some m.cls := findClass_of_methodNamed Bd.named
  have hnm := (name_of_methodNamed Bd.named Bd.method).1
  refine own_cast (ef_rm6 m q0) ?_
  generalize hQQ : (fun (v : Option Value) (h : Heap) (L : List Loc) => v = some (.int (4 : Int32)) ∧ h = h0 ∧ L = []) = QQ
  refine own_go (g' := (mkF m 3 #[.val (.long q0), .second, .val (.int (0 : Int32))] [(.long (33554432 : Int64))])) (X0.ldc2Long hx hown (mvT hZ (hw _ (List.mem_of_getElem? (i := 31) rfl))) (g := (mkF m 0 #[.val (.long q0), .second, .val (.int (0 : Int32))] [])) rfl (hb hby d6_0)) ?_
  refine own_go (g' := (mkF m 4 #[.val (.long q0), .second, .val (.int (0 : Int32))] [(.long q0), (.long (33554432 : Int64))])) (fun _ kgo => XS.lloadN X0.here hx rfl (hb hby d6_3) rfl kgo) ?_
  obtain ⟨v1, T1, L1, hQ1, X1, st1⟩ := own_callS X0 hx hZ (y := (⟨"com/example/gist_sketch/gistsketch/format/BitArray", "words", "(J)J"⟩ : MethodName)) hown (hw _ (List.mem_of_getElem? (i := 11) rfl)) (hw _ (List.mem_of_getElem? (i := 12) rfl)) (hw _ (List.mem_of_getElem? (i := 3) rfl)) (hw _ (List.mem_of_getElem? (i := 13) rfl)) ⟨by decide, by decide⟩ (argsL := [(.long q0)]) (rm3 l Z a0 hw q0 h0 hq) e0 (g := (mkF m 4 #[.val (.long q0), .second, .val (.int (0 : Int32))] [(.long q0), (.long (33554432 : Int64))])) rfl (by rw [hml]; rfl) (rest := [(.long (33554432 : Int64))]) (lenOf pd6_0 rfl) rfl (hb hby d6_4) (W := 2) (by show 2 * 0 + _ ≤ _; exact Nat.le_of_eq rfl) (by decide) (by decide) (by decide) (by decide)
  obtain ⟨rfl, e1, rfl⟩ := hQ1
  refine own_go (g' := (mkF m 7 #[.val (.long q0), .second, .val (.int (0 : Int32))] [(.long (4 : Int64)), (.long (33554432 : Int64))])) (st1) ?_
  refine own_go (g' := (mkF m 8 #[.val (.long q0), .second, .val (.int (0 : Int32))] [(.int (0 : Int32)), (.long (4 : Int64)), (.long (33554432 : Int64))])) (fun _ kgo => XS.iloadN X1.here hx rfl (hb hby d6_7) rfl kgo) ?_
  refine own_go (g' := (mkF m 9 #[.val (.long q0), .second, .val (.int (0 : Int32))] [(.long (0 : Int64)), (.long (4 : Int64)), (.long (33554432 : Int64))])) (fun _ kgo => XS.i2l X1.here hx rfl (hb hby d6_8) rfl kgo) ?_
  refine own_go (g' := (mkF m 11 #[.val (.long q0), .second, .val (.int (0 : Int32))] [(.int (25 : Int32)), (.long (0 : Int64)), (.long (4 : Int64)), (.long (33554432 : Int64))])) (fun _ kgo => XS.bipush X1.here hx rfl (hb hby d6_9) kgo) ?_
  refine own_go (g' := (mkF m 12 #[.val (.long q0), .second, .val (.int (0 : Int32))] [(.long (0 : Int64)), (.long (4 : Int64)), (.long (33554432 : Int64))])) (fun _ kgo => XS.lshl X1.here hx rfl (hb hby d6_11) rfl kgo) ?_
  refine own_go (g' := (mkF m 13 #[.val (.long q0), .second, .val (.int (0 : Int32))] [(.long (4 : Int64)), (.long (33554432 : Int64))])) (fun _ kgo => XS.lsub X1.here hx rfl (hb hby d6_12) rfl kgo) ?_
  obtain ⟨v2, T2, L2, hQ2, X2, st2⟩ := own_callS X1 hx hZ (y := (⟨"java/lang/Math", "min", "(JJ)J"⟩ : MethodName)) hown (hw _ (List.mem_of_getElem? (i := 32) rfl)) (hw _ (List.mem_of_getElem? (i := 33) rfl)) (hw _ (List.mem_of_getElem? (i := 34) rfl)) (hw _ (List.mem_of_getElem? (i := 35) rfl)) ⟨by decide, by decide⟩ (argsL := [(.long (33554432 : Int64)), (.long (4 : Int64))]) (rm7 l Z a0 hw h0) e1 (g := (mkF m 13 #[.val (.long q0), .second, .val (.int (0 : Int32))] [(.long (4 : Int64)), (.long (33554432 : Int64))])) rfl (by rw [hml]; rfl) (rest := []) (lenOf pd6_1 rfl) rfl (hb hby d6_13) (W := 0) (by show 2 * 0 + _ ≤ _; exact Nat.le_of_eq rfl) (by decide) (by decide) (by decide) (by decide)
  obtain ⟨rfl, e2, rfl⟩ := hQ2
  refine own_go (g' := (mkF m 16 #[.val (.long q0), .second, .val (.int (0 : Int32))] [(.long (4 : Int64))])) (st2) ?_
  refine own_go (g' := (mkF m 17 #[.val (.long q0), .second, .val (.int (0 : Int32))] [(.int (4 : Int32))])) (fun _ kgo => XS.l2i X2.here hx rfl (hb hby d6_16) rfl kgo) ?_
  refine own_retI X2 hx Bd.returns Bd.notSynchronized (hb hby d6_17) (by decide) (by decide) ?_
  show QQ _ T2.heap _
  rw [e2]
  rw [← hQQ]
  exact ⟨rfl, rfl, rfl⟩
theorem d4_0 : decode prog_31_method_2_code 0 = .ok (.aload_n 0, 1) := by decide +kernel
theorem d4_1 : decode prog_31_method_2_code 1 = .ok (.invokespecial 25, 3) := by decide +kernel
theorem d4_4 : decode prog_31_method_2_code 4 = .ok (.aload_n 0, 1) := by decide +kernel
theorem d4_5 : decode prog_31_method_2_code 5 = .ok (.lload_n 1, 1) := by decide +kernel
theorem d4_6 : decode prog_31_method_2_code 6 = .ok (.putfield 30, 3) := by decide +kernel
theorem d4_9 : decode prog_31_method_2_code 9 = .ok (.aload_n 0, 1) := by decide +kernel
theorem d4_10 : decode prog_31_method_2_code 10 = .ok (.aload_n 3, 1) := by decide +kernel
theorem d4_11 : decode prog_31_method_2_code 11 = .ok (.putfield 17, 3) := by decide +kernel
theorem d4_14 : decode prog_31_method_2_code 14 = .ok (.return_, 1) := by decide +kernel
theorem pn_ct2 : plainName "com/example/gist_sketch/gistsketch/format/BitArray" = true := by first | (simp [plainName, overriddenIn]; done) | decide +kernel
theorem ef_ct2 (m : MethodId) (o0 : Addr) (q1 : Int64) (o2 : Addr) : entryFrame m #[(.ref o0), (.long q1), (.ref o2)] 4 = mkF m 0 #[.val (.ref o0), .val (.long q1), .second, .val (.ref o2)] [] := by first | (simp [entryFrame, mkF, argsToLocals, Value.category]; done) | rfl
set_option maxRecDepth 65536 in
set_option maxHeartbeats 40000000 in
theorem ct2 (l : Launch) (Z : State) (a0 : Array Value) (hw : ∀ d ∈ tables_1, d.before a0 Z = true) (o0 : Addr) (q1 : Int64) (o2 : Addr)  (h0 : Heap) (n0 : Nat) (Z0 : n0 ≤ h0.size) (g_o0 : n0 ≤ o0) (P0 : Exa Z h0 o0 "com/example/gist_sketch/gistsketch/format/BitArray") (P1 : Fld Z h0 o0 "com/example/gist_sketch/gistsketch/format/BitArray" "bits" "J" (.long (0 : Int64))) (P2 : Fld Z h0 o0 "com/example/gist_sketch/gistsketch/format/BitArray" "pages" "[[J" .null) :
    own_Met l Z (⟨"com/example/gist_sketch/gistsketch/format/BitArray", "<init>", "(J[[J)V"⟩ : MethodName) prog_31_method_2_code 4 none [] ({ frames := 1, cells := 0, slots := 0, locals := 12 } : Room) #[(.ref o0), (.long q1), (.ref o2)] h0 0 0 (fun v h L => v = none ∧ Fr n0 L ∧ Keep h0 h [o0] ∧ Exa Z h o0 "com/example/gist_sketch/gistsketch/format/BitArray" ∧ Fld Z h o0 "com/example/gist_sketch/gistsketch/format/BitArray" "bits" "J" (.long q1) ∧ Fld Z h o0 "com/example/gist_sketch/gistsketch/format/BitArray" "pages" "[[J" (.ref o2)) := by
  refine own_met (plainFor_of_name pn_ct2) ?_
  intro p e s m below meth c s₁ Bd hml0 hZ X0 e0
  have hx := Bd.exec
  have hby := Bd.bytes
  have hml : c.maxLocals = 4 := hml0
  have hown : s.vm.findClass "com/example/gist_sketch/gistsketch/format/BitArray" = some m.cls := findClass_of_methodNamed Bd.named
  have hnm := (name_of_methodNamed Bd.named Bd.method).1
  refine own_cast (ef_ct2 m o0 q1 o2) ?_
  generalize hQQ : (fun (v : Option Value) (h : Heap) (L : List Loc) => v = none ∧ Fr n0 L ∧ Keep h0 h [o0] ∧ Exa Z h o0 "com/example/gist_sketch/gistsketch/format/BitArray" ∧ Fld Z h o0 "com/example/gist_sketch/gistsketch/format/BitArray" "bits" "J" (.long q1) ∧ Fld Z h o0 "com/example/gist_sketch/gistsketch/format/BitArray" "pages" "[[J" (.ref o2)) = QQ
  have N0 := Fr.nil n0
  have K0 := Keep.refl h0 [o0]
  refine own_go (g' := (mkF m 1 #[.val (.ref o0), .val (.long q1), .second, .val (.ref o2)] [(.ref o0)])) (fun _ kgo => XS.aloadN X0.here hx rfl (hb hby d4_0) rfl rfl kgo) ?_
  obtain ⟨T1, X1, e1, st1⟩ := initO X0 hx hZ hown (hw _ (List.mem_of_getElem? (i := 21) rfl)) (hw _ (List.mem_of_getElem? (i := 22) rfl)) (hw _ (List.mem_of_getElem? (i := 23) rfl)) e0 (g := (mkF m 1 #[.val (.ref o0), .val (.long q1), .second, .val (.ref o2)] [(.ref o0)])) rfl (by rw [hml]; rfl) rfl (hb hby d4_1) (by decide) (W := 0) (by show 2 * 0 + _ ≤ _; exact Nat.le_of_eq rfl) (by decide)
  refine own_go (g' := (mkF m 4 #[.val (.ref o0), .val (.long q1), .second, .val (.ref o2)] [])) (st1) ?_
  refine own_go (g' := (mkF m 5 #[.val (.ref o0), .val (.long q1), .second, .val (.ref o2)] [(.ref o0)])) (fun _ kgo => XS.aloadN X1.here hx rfl (hb hby d4_4) rfl rfl kgo) ?_
  refine own_go (g' := (mkF m 6 #[.val (.ref o0), .val (.long q1), .second, .val (.ref o2)] [(.long q1), (.ref o0)])) (fun _ kgo => XS.lloadN X1.here hx rfl (hb hby d4_5) rfl kgo) ?_
  obtain ⟨T2, h2, X2, e2, W2, st2⟩ := putF X1 hx hZ hown (host := "") (Or.inl (hw _ (List.mem_of_getElem? (i := 24) rfl))) Via.refl e1 P1 P0 (Or.inr ⟨(hw _ (List.mem_of_getElem? (i := 25) rfl)), rfl, hnm⟩) (hw _ (List.mem_of_getElem? (i := 2) rfl)) (ty := .long) (by decide) rfl rfl (g := (mkF m 6 #[.val (.ref o0), .val (.long q1), .second, .val (.ref o2)] [(.long q1), (.ref o0)])) rfl rfl (hb hby d4_6)
  have fw2 := Fld.same W2 P1
  have N2 := Fr.snoc X2 N0 g_o0
  have Z2 : n0 ≤ h2.size := by rw [W2.size]; exact Z0
  have K2 : Keep h0 h2 [o0] := K0.wr W2 (Or.inl (List.mem_of_getElem? (i := 0) rfl))
  refine own_go (g' := (mkF m 9 #[.val (.ref o0), .val (.long q1), .second, .val (.ref o2)] [])) (st2) ?_
  refine own_go (g' := (mkF m 10 #[.val (.ref o0), .val (.long q1), .second, .val (.ref o2)] [(.ref o0)])) (fun _ kgo => XS.aloadN X2.here hx rfl (hb hby d4_9) rfl rfl kgo) ?_
  refine own_go (g' := (mkF m 11 #[.val (.ref o0), .val (.long q1), .second, .val (.ref o2)] [(.ref o2), (.ref o0)])) (fun _ kgo => XS.aloadN X2.here hx rfl (hb hby d4_10) rfl rfl kgo) ?_
  have fx3 : Fld Z h2 o0 "com/example/gist_sketch/gistsketch/format/BitArray" "pages" "[[J" .null := (Fld.other W2 P2 (Or.inr (slot_ne (Or.inr (hw _ (List.mem_of_getElem? (i := 27) rfl))) (Or.inr (hw _ (List.mem_of_getElem? (i := 25) rfl))) (by decide) (t := (.array (.array .long))) (t' := .long) (by decide) (by decide))))
  have fx4 : Exa Z h2 o0 "com/example/gist_sketch/gistsketch/format/BitArray" := (Exa.wr W2 P0)
  obtain ⟨T5, h5, X5, e5, W5, st5⟩ := putF X2 hx hZ hown (host := "") (Or.inl (hw _ (List.mem_of_getElem? (i := 26) rfl))) Via.refl e2 fx3 fx4 (Or.inr ⟨(hw _ (List.mem_of_getElem? (i := 27) rfl)), rfl, hnm⟩) (hw _ (List.mem_of_getElem? (i := 2) rfl)) (ty := (.array (.array .long))) (by decide) rfl rfl (g := (mkF m 11 #[.val (.ref o0), .val (.long q1), .second, .val (.ref o2)] [(.ref o2), (.ref o0)])) rfl rfl (hb hby d4_11)
  have fw5 := Fld.same W5 fx3
  have N5 := Fr.snoc X5 N2 g_o0
  have Z5 : n0 ≤ h5.size := by rw [W5.size]; exact Z2
  have K5 : Keep h0 h5 [o0] := K2.wr W5 (Or.inl (List.mem_of_getElem? (i := 0) rfl))
  refine own_go (g' := (mkF m 14 #[.val (.ref o0), .val (.long q1), .second, .val (.ref o2)] [])) (st5) ?_
  refine own_retV X5 hx Bd.returns Bd.notSynchronized (hb hby d4_14) (by decide) (by decide) ?_
  show QQ _ T5.heap _
  rw [e5]
  have fx6 : Exa Z h5 o0 "com/example/gist_sketch/gistsketch/format/BitArray" := (Exa.wr W5 fx4)
  have fx7 : Fld Z h5 o0 "com/example/gist_sketch/gistsketch/format/BitArray" "bits" "J" (.long q1) := (Fld.other W5 fw2 (Or.inr (slot_ne (Or.inr (hw _ (List.mem_of_getElem? (i := 25) rfl))) (Or.inr (hw _ (List.mem_of_getElem? (i := 27) rfl))) (by decide) (t := .long) (t' := (.array (.array .long))) (by decide) (by decide))))
  rw [← hQQ]
  exact ⟨rfl, N5, K5, fx6, fx7, fw5⟩
theorem d1_0 : decode prog_31_method_1_code 0 = .ok (.aload_n 0, 1) := by decide +kernel
theorem d1_1 : decode prog_31_method_1_code 1 = .ok (.lload_n 1, 1) := by decide +kernel
theorem d1_2 : decode prog_31_method_1_code 2 = .ok (.lload_n 1, 1) := by decide +kernel
theorem d1_3 : decode prog_31_method_1_code 3 = .ok (.invokestatic 7, 3) := by decide +kernel
theorem d1_6 : decode prog_31_method_1_code 6 = .ok (.anewarray 11, 3) := by decide +kernel
theorem d1_9 : decode prog_31_method_1_code 9 = .ok (.invokespecial 13, 3) := by decide +kernel
theorem d1_12 : decode prog_31_method_1_code 12 = .ok (.iconst 0, 1) := by decide +kernel
theorem d1_13 : decode prog_31_method_1_code 13 = .ok (.istore_n 3, 1) := by decide +kernel
theorem d1_14 : decode prog_31_method_1_code 14 = .ok (.iload_n 3, 1) := by decide +kernel
theorem d1_15 : decode prog_31_method_1_code 15 = .ok (.aload_n 0, 1) := by decide +kernel
theorem d1_16 : decode prog_31_method_1_code 16 = .ok (.getfield 17, 3) := by decide +kernel
theorem d1_19 : decode prog_31_method_1_code 19 = .ok (.arraylength, 1) := by decide +kernel
theorem d1_20 : decode prog_31_method_1_code 20 = .ok (.if_icmp .ge 22, 3) := by decide +kernel
theorem d1_23 : decode prog_31_method_1_code 23 = .ok (.aload_n 0, 1) := by decide +kernel
theorem d1_24 : decode prog_31_method_1_code 24 = .ok (.getfield 17, 3) := by decide +kernel
theorem d1_27 : decode prog_31_method_1_code 27 = .ok (.iload_n 3, 1) := by decide +kernel
theorem d1_28 : decode prog_31_method_1_code 28 = .ok (.lload_n 1, 1) := by decide +kernel
theorem d1_29 : decode prog_31_method_1_code 29 = .ok (.iload_n 3, 1) := by decide +kernel
theorem d1_30 : decode prog_31_method_1_code 30 = .ok (.invokestatic 21, 3) := by decide +kernel
theorem d1_33 : decode prog_31_method_1_code 33 = .ok (.newarray .long, 2) := by decide +kernel
theorem d1_35 : decode prog_31_method_1_code 35 = .ok (.aastore, 1) := by decide +kernel
theorem d1_36 : decode prog_31_method_1_code 36 = .ok (.iinc 3 1, 3) := by decide +kernel
theorem d1_39 : decode prog_31_method_1_code 39 = .ok (.goto (-25), 3) := by decide +kernel
theorem d1_42 : decode prog_31_method_1_code 42 = .ok (.return_, 1) := by decide +kernel
theorem pn_ct1 : plainName "com/example/gist_sketch/gistsketch/format/BitArray" = true := by first | (simp [plainName, overriddenIn]; done) | decide +kernel
theorem pd1_0 : parseMethodDescriptor "(J)I" = some ⟨[.long], some .int⟩ := by decide +kernel
theorem pd1_1 : parseMethodDescriptor "(J[[J)V" = some ⟨[.long, (.array (.array .long))], none⟩ := by decide +kernel
theorem pd1_2 : parseMethodDescriptor "(JI)I" = some ⟨[.long, .int], some .int⟩ := by decide +kernel
theorem ef_ct1 (m : MethodId) (o0 : Addr) (q1 : Int64) : entryFrame m #[(.ref o0), (.long q1)] 4 = mkF m 0 #[.val (.ref o0), .val (.long q1), .second, .unset] [] := by first | (simp [entryFrame, mkF, argsToLocals, Value.category]; done) | rfl
set_option maxRecDepth 65536 in
set_option maxHeartbeats 40000000 in
theorem ct1 (l : Launch) (Z : State) (a0 : Array Value) (hw : ∀ d ∈ tables_1, d.before a0 Z = true) (o0 : Addr) (q1 : Int64)  (h0 : Heap) (n0 : Nat) (Z0 : n0 ≤ h0.size) (g_o0 : n0 ≤ o0) (P0 : Exa Z h0 o0 "com/example/gist_sketch/gistsketch/format/BitArray") (P1 : Fld Z h0 o0 "com/example/gist_sketch/gistsketch/format/BitArray" "bits" "J" (.long (0 : Int64))) (P2 : Fld Z h0 o0 "com/example/gist_sketch/gistsketch/format/BitArray" "pages" "[[J" .null) (hq : 193 ≤ q1.toInt ∧ q1.toInt ≤ 256) :
    own_Met l Z (⟨"com/example/gist_sketch/gistsketch/format/BitArray", "<init>", "(J)V"⟩ : MethodName) prog_31_method_1_code 4 none [] ({ frames := 2, cells := 2, slots := 5, locals := 31 } : Room) #[(.ref o0), (.long q1)] h0 2 5 (fun v h L => ∃ (pg : Addr), ∃ (w : Addr), ∃ (kp : ClassId), ∃ (kw : ClassId), v = none ∧ Fr n0 L ∧ Keep h0 h [o0] ∧ pg ≠ w ∧ h0.size ≤ pg ∧ h0.size ≤ w ∧ Exa Z h o0 "com/example/gist_sketch/gistsketch/format/BitArray" ∧ Fld Z h o0 "com/example/gist_sketch/gistsketch/format/BitArray" "bits" "J" (.long q1) ∧ Fld Z h o0 "com/example/gist_sketch/gistsketch/format/BitArray" "pages" "[[J" (.ref pg) ∧ Arv Z h pg kp (.array .long) (1 : Int32) [(.ref w)] .null ∧ Arv Z h w kw .long (4 : Int32) [(.long (0 : Int64)), (.long (0 : Int64)), (.long (0 : Int64)), (.long (0 : Int64))] (.long (0 : Int64))) := by
  refine own_met (plainFor_of_name pn_ct1) ?_
  intro p e s m below meth c s₁ Bd hml0 hZ X0 e0
  have hx := Bd.exec
  have hby := Bd.bytes
  have hml : c.maxLocals = 4 := hml0
  have hown : s.vm.findClass "com/example/gist_sketch/gistsketch/format/BitArray" = some m.cls := findClass_of_methodNamed Bd.named
  have hnm := (name_of_methodNamed Bd.named Bd.method).1
  refine own_cast (ef_ct1 m o0 q1) ?_
  generalize hQQ : (fun (v : Option Value) (h : Heap) (L : List Loc) => ∃ (pg : Addr), ∃ (w : Addr), ∃ (kp : ClassId), ∃ (kw : ClassId), v = none ∧ Fr n0 L ∧ Keep h0 h [o0] ∧ pg ≠ w ∧ h0.size ≤ pg ∧ h0.size ≤ w ∧ Exa Z h o0 "com/example/gist_sketch/gistsketch/format/BitArray" ∧ Fld Z h o0 "com/example/gist_sketch/gistsketch/format/BitArray" "bits" "J" (.long q1) ∧ Fld Z h o0 "com/example/gist_sketch/gistsketch/format/BitArray" "pages" "[[J" (.ref pg) ∧ Arv Z h pg kp (.array .long) (1 : Int32) [(.ref w)] .null ∧ Arv Z h w kw .long (4 : Int32) [(.long (0 : Int64)), (.long (0 : Int64)), (.long (0 : Int64)), (.long (0 : Int64))] (.long (0 : Int64))) = QQ
  have N0 := Fr.nil n0
  have K0 := Keep.refl h0 [o0]
  refine own_go (g' := (mkF m 1 #[.val (.ref o0), .val (.long q1), .second, .unset] [(.ref o0)])) (fun _ kgo => XS.aloadN X0.here hx rfl (hb hby d1_0) rfl rfl kgo) ?_
  refine own_go (g' := (mkF m 2 #[.val (.ref o0), .val (.long q1), .second, .unset] [(.long q1), (.ref o0)])) (fun _ kgo => XS.lloadN X0.here hx rfl (hb hby d1_1) rfl kgo) ?_
  refine own_go (g' := (mkF m 3 #[.val (.ref o0), .val (.long q1), .second, .unset] [(.long q1), (.long q1), (.ref o0)])) (fun _ kgo => XS.lloadN X0.here hx rfl (hb hby d1_2) rfl kgo) ?_
  obtain ⟨v1, T1, L1, hQ1, X1, st1⟩ := own_callS X0 hx hZ (y := (⟨"com/example/gist_sketch/gistsketch/format/BitArray", "pageCount", "(J)I"⟩ : MethodName)) hown (hw _ (List.mem_of_getElem? (i := 7) rfl)) (hw _ (List.mem_of_getElem? (i := 8) rfl)) (hw _ (List.mem_of_getElem? (i := 3) rfl)) (hw _ (List.mem_of_getElem? (i := 9) rfl)) ⟨by decide, by decide⟩ (argsL := [(.long q1)]) (rm2 l Z a0 hw q1 h0 hq) e0 (g := (mkF m 3 #[.val (.ref o0), .val (.long q1), .second, .unset] [(.long q1), (.long q1), (.ref o0)])) rfl (by rw [hml]; rfl) (rest := [(.long q1), (.ref o0)]) (lenOf pd1_0 rfl) rfl (hb hby d1_3) (W := 3) (by show 2 * 0 + _ ≤ _; exact Nat.le_of_eq rfl) (by decide) (by decide) (by decide) (by decide)
  obtain ⟨rfl, e1, rfl⟩ := hQ1
  have N1 := Fr.app N0 (Fr.nil n0)
  refine own_go (g' := (mkF m 6 #[.val (.ref o0), .val (.long q1), .second, .unset] [(.int (1 : Int32)), (.long q1), (.ref o0)])) (st1) ?_
  obtain ⟨T2, h2, k2, X2, e2, E2, A2, Ax2, O2, st2⟩ := newRA X1 hx hZ hown (ty := .long) (C := "[J") (by decide) (hw _ (List.mem_of_getElem? (i := 16) rfl)) (hw _ (List.mem_of_getElem? (i := 17) rfl)) e1 (g := (mkF m 6 #[.val (.ref o0), .val (.long q1), .second, .unset] [(.int (1 : Int32)), (.long q1), (.ref o0)])) rfl (hb hby d1_6) rfl (by decide) (cap := 1) (by decide) (by decide) (by decide) (by decide) (ad := "[[J") (by decide)
  obtain ⟨b2, ad2⟩ : ∃ z, z = h0.size := ⟨_, rfl⟩
  rw [← ad2] at A2 Ax2 st2
  have ne_o0_b2 : o0 ≠ b2 := Nat.ne_of_lt (by rw [ad2]; exact P0.lt)
  have ge_b2 : n0 ≤ b2 := by rw [ad2]; exact Z0
  have sz_b2 : h0.size ≤ b2 := by rw [ad2]; exact K0.1
  have Z2 : n0 ≤ h2.size := Nat.le_trans Z0 E2.1
  have K2 : Keep h0 h2 [o0] := K0.ext E2
  have V2 : Arv Z h2 b2 k2 (.array .long) (1 : Int32) [.null] .null := (Arv.new A2 (by decide)).pad (pad_rep [] .null 1)
  refine own_go (g' := (mkF m 9 #[.val (.ref o0), .val (.long q1), .second, .unset] [(.ref b2), (.long q1), (.ref o0)])) (st2) ?_
  have fx4 : Exa Z h2 o0 "com/example/gist_sketch/gistsketch/format/BitArray" := (Exa.ext E2 P0)
  have fx5 : Fld Z h2 o0 "com/example/gist_sketch/gistsketch/format/BitArray" "bits" "J" (.long (0 : Int64)) := (Fld.ext E2 P1)
  have fx6 : Fld Z h2 o0 "com/example/gist_sketch/gistsketch/format/BitArray" "pages" "[[J" .null := (Fld.ext E2 P2)
  obtain ⟨v3, T3, L3, hQ3, X3, st3⟩ := own_callI X2 hx hZ (y := (⟨"com/example/gist_sketch/gistsketch/format/BitArray", "<init>", "(J[[J)V"⟩ : MethodName)) rfl hown (hw _ (List.mem_of_getElem? (i := 18) rfl)) (hw _ (List.mem_of_getElem? (i := 19) rfl)) (hw _ (List.mem_of_getElem? (i := 3) rfl)) (hw _ (List.mem_of_getElem? (i := 20) rfl)) ⟨by decide, by decide⟩ (a := o0) (argsL := [(.long q1), (.ref b2)]) (ct2 l Z a0 hw o0 q1 b2 h2 n0 Z2 g_o0 fx4 fx5 fx6) e2 (g := (mkF m 9 #[.val (.ref o0), .val (.long q1), .second, .unset] [(.ref b2), (.long q1), (.ref o0)])) rfl (by rw [hml]; rfl) (rest := []) (lenOf pd1_1 rfl) rfl (hb hby d1_9) (W := 0) (by show 2 * 0 + _ ≤ _; exact Nat.le_of_eq rfl) (by decide) (by decide) (by decide) (by decide)
  obtain ⟨rfl, Nq3, Kq3, q3_0, q3_1, q3_2⟩ := hQ3
  have N3 := Fr.app N1 Nq3
  have Z3 : n0 ≤ T3.heap.size := Nat.le_trans Z2 Kq3.1
  have KK3 : Keep h0 T3.heap [o0] := K2.trans Kq3 (allS (Or.inl (List.mem_of_getElem? (i := 0) rfl)) all0)
  refine own_go (g' := (mkF m 12 #[.val (.ref o0), .val (.long q1), .second, .unset] [])) (st3) ?_
  refine own_go (g' := (mkF m 13 #[.val (.ref o0), .val (.long q1), .second, .unset] [(.int (0 : Int32))])) (fun _ kgo => XS.iconst X3.here hx rfl (hb hby d1_12) kgo) ?_
  refine own_go (g' := (mkF m 14 #[.val (.ref o0), .val (.long q1), .second, .val (.int (0 : Int32))] [])) (fun _ kgo => XS.istoreN X3.here hx rfl (hb hby d1_13) rfl (l' := #[.val (.ref o0), .val (.long q1), .second, .val (.int (0 : Int32))]) rfl kgo) ?_
  refine own_go (g' := (mkF m 15 #[.val (.ref o0), .val (.long q1), .second, .val (.int (0 : Int32))] [(.int (0 : Int32))])) (fun _ kgo => XS.iloadN X3.here hx rfl (hb hby d1_14) rfl kgo) ?_
  refine own_go (g' := (mkF m 16 #[.val (.ref o0), .val (.long q1), .second, .val (.int (0 : Int32))] [(.ref o0), (.int (0 : Int32))])) (fun _ kgo => XS.aloadN X3.here hx rfl (hb hby d1_15) rfl rfl kgo) ?_
  obtain ⟨T7, X7, e7, st7⟩ := getF X3 hx hZ hown (host := "") (Or.inl (hw _ (List.mem_of_getElem? (i := 26) rfl))) Via.refl rfl q3_2 (g := (mkF m 16 #[.val (.ref o0), .val (.long q1), .second, .val (.int (0 : Int32))] [(.ref o0), (.int (0 : Int32))])) rfl rfl (hb hby d1_16)
  refine own_go (g' := (mkF m 19 #[.val (.ref o0), .val (.long q1), .second, .val (.int (0 : Int32))] [(.ref b2), (.int (0 : Int32))])) (st7) ?_
  have fx8 : Arv Z T3.heap b2 k2 (.array .long) (1 : Int32) [.null] .null := (Arv.keep V2 Kq3 (ninS (Ne.symm ne_o0_b2) nin0))
  obtain ⟨cl9, Ar9, -, sz9, nn9, -, -⟩ := id fx8
  refine own_go (g' := (mkF m 20 #[.val (.ref o0), .val (.long q1), .second, .val (.int (0 : Int32))] [(.int (1 : Int32)), (.int (0 : Int32))])) (by have q := X7.arraylength hx (by rw [e7]; exact Ar9.1) (State.isArrayOf_alike hZ.alike Ar9.2.1) (g := (mkF m 19 #[.val (.ref o0), .val (.long q1), .second, .val (.int (0 : Int32))] [(.ref b2), (.int (0 : Int32))])) rfl rfl (hb hby d1_19); rw [len_of sz9 nn9] at q; exact q) ?_
  refine own_go (g' := (mkF m 23 #[.val (.ref o0), .val (.long q1), .second, .val (.int (0 : Int32))] [])) (fun _ kgo => XS.icmpNo X7.here hx rfl (hb hby d1_20) rfl (tlt (by decide)).2.1 kgo) ?_
  refine own_go (g' := (mkF m 24 #[.val (.ref o0), .val (.long q1), .second, .val (.int (0 : Int32))] [(.ref o0)])) (fun _ kgo => XS.aloadN X7.here hx rfl (hb hby d1_23) rfl rfl kgo) ?_
  obtain ⟨T10, X10, e10, st10⟩ := getF X7 hx hZ hown (host := "") (Or.inl (hw _ (List.mem_of_getElem? (i := 26) rfl))) Via.refl e7 q3_2 (g := (mkF m 24 #[.val (.ref o0), .val (.long q1), .second, .val (.int (0 : Int32))] [(.ref o0)])) rfl rfl (hb hby d1_24)
  refine own_go (g' := (mkF m 27 #[.val (.ref o0), .val (.long q1), .second, .val (.int (0 : Int32))] [(.ref b2)])) (st10) ?_
  refine own_go (g' := (mkF m 28 #[.val (.ref o0), .val (.long q1), .second, .val (.int (0 : Int32))] [(.int (0 : Int32)), (.ref b2)])) (fun _ kgo => XS.iloadN X10.here hx rfl (hb hby d1_27) rfl kgo) ?_
  refine own_go (g' := (mkF m 29 #[.val (.ref o0), .val (.long q1), .second, .val (.int (0 : Int32))] [(.long q1), (.int (0 : Int32)), (.ref b2)])) (fun _ kgo => XS.lloadN X10.here hx rfl (hb hby d1_28) rfl kgo) ?_
  refine own_go (g' := (mkF m 30 #[.val (.ref o0), .val (.long q1), .second, .val (.int (0 : Int32))] [(.int (0 : Int32)), (.long q1), (.int (0 : Int32)), (.ref b2)])) (fun _ kgo => XS.iloadN X10.here hx rfl (hb hby d1_29) rfl kgo) ?_
  obtain ⟨v11, T11, L11, hQ11, X11, st11⟩ := own_callS X10 hx hZ (y := (⟨"com/example/gist_sketch/gistsketch/format/BitArray", "pageWords", "(JI)I"⟩ : MethodName)) hown (hw _ (List.mem_of_getElem? (i := 28) rfl)) (hw _ (List.mem_of_getElem? (i := 29) rfl)) (hw _ (List.mem_of_getElem? (i := 3) rfl)) (hw _ (List.mem_of_getElem? (i := 30) rfl)) ⟨by decide, by decide⟩ (argsL := [(.long q1), (.int (0 : Int32))]) (rm6 l Z a0 hw q1 T3.heap hq) e10 (g := (mkF m 30 #[.val (.ref o0), .val (.long q1), .second, .val (.int (0 : Int32))] [(.int (0 : Int32)), (.long q1), (.int (0 : Int32)), (.ref b2)])) rfl (by rw [hml]; rfl) (rest := [(.int (0 : Int32)), (.ref b2)]) (lenOf pd1_2 rfl) rfl (hb hby d1_30) (W := 2) (by show 2 * 0 + _ ≤ _; exact Nat.le_of_eq rfl) (by decide) (by decide) (by decide) (by decide)
  obtain ⟨rfl, e11, rfl⟩ := hQ11
  have N11 := Fr.app N3 (Fr.nil n0)
  refine own_go (g' := (mkF m 33 #[.val (.ref o0), .val (.long q1), .second, .val (.int (0 : Int32))] [(.int (4 : Int32)), (.int (0 : Int32)), (.ref b2)])) (st11) ?_
  obtain ⟨T12, h12, k12, X12, e12, E12, A12, Ax12, st12⟩ := newPE X11 hx hZ (hw _ (List.mem_of_getElem? (i := 36) rfl)) e11 (g := (mkF m 33 #[.val (.ref o0), .val (.long q1), .second, .val (.int (0 : Int32))] [(.int (4 : Int32)), (.int (0 : Int32)), (.ref b2)])) rfl (hb hby d1_33) rfl (by decide) (cap := 4) (by decide) (by decide) (by decide) (by decide) (ad := "[J") (by decide)
  obtain ⟨b12, ad12⟩ : ∃ z, z = T3.heap.size := ⟨_, rfl⟩
  rw [← ad12] at A12 Ax12 st12
  have ne_o0_b12 : o0 ≠ b12 := Nat.ne_of_lt (by rw [ad12]; exact q3_0.lt)
  have ne_b2_b12 : b2 ≠ b12 := Nat.ne_of_lt (by rw [ad12]; exact fx8.lt)
  have ge_b12 : n0 ≤ b12 := by rw [ad12]; exact Z3
  have sz_b12 : h0.size ≤ b12 := by rw [ad12]; exact KK3.1
  have Z12 : n0 ≤ h12.size := Nat.le_trans Z3 E12.1
  have K12 : Keep h0 h12 [o0] := KK3.ext E12
  have V12 : Arv Z h12 b12 k12 .long (4 : Int32) [(.long (0 : Int64)), (.long (0 : Int64)), (.long (0 : Int64)), (.long (0 : Int64))] (.long (0 : Int64)) := (Arv.new A12 (by decide)).pad (pad_rep [] (.long (0 : Int64)) 4)
  refine own_go (g' := (mkF m 35 #[.val (.ref o0), .val (.long q1), .second, .val (.int (0 : Int32))] [(.ref b12), (.int (0 : Int32)), (.ref b2)])) (st12) ?_
  have fx13 : Arv Z h12 b2 k2 (.array .long) (1 : Int32) [.null] .null := (Arv.ext fx8 E12)
  obtain ⟨cl14, Ar14, qk14, sz14, nn14, Hs14, Gs14⟩ := id fx13
  have hin14 : ¬ ((0 : Int32) < 0 ∨ cl14.slots.size ≤ ((0 : Int32)).toNatClampNeg) := inb_of sz14 ⟨by decide, by decide⟩
  obtain ⟨T14, h14, X14, e14, W14, st14⟩ := stR X12 hx hZ e12 Ar14 (j := (0 : Int32)) hin14 rfl (Sto.ofVA Ar14 qk14 O2 (Ins.self Ax12)) (g := (mkF m 35 #[.val (.ref o0), .val (.long q1), .second, .val (.int (0 : Int32))] [(.ref b12), (.int (0 : Int32)), (.ref b2)])) rfl rfl (hb hby d1_35)
  have V14 : Arv Z h14 b2 k2 (.array .long) (1 : Int32) [(.ref b12)] .null := Arv.set Ar14 qk14 sz14 nn14 Hs14 Gs14 rfl W14 0 rfl (Nat.le_of_ble_eq_true rfl)
  have N14 := Fr.snoc X14 N11 ge_b2
  have Z14 : n0 ≤ h14.size := by rw [W14.size]; exact Z12
  have K14 : Keep h0 h14 [o0] := K12.wr W14 (Or.inr sz_b2)
  refine own_go (g' := (mkF m 36 #[.val (.ref o0), .val (.long q1), .second, .val (.int (0 : Int32))] [])) (st14) ?_
  refine own_go (g' := (mkF m 39 #[.val (.ref o0), .val (.long q1), .second, .val (.int (1 : Int32))] [])) (fun _ kgo => XS.iinc X14.here hx rfl (hb hby d1_36) rfl (l' := #[.val (.ref o0), .val (.long q1), .second, .val (.int (1 : Int32))]) rfl kgo) ?_
  refine own_go (g' := (mkF m 14 #[.val (.ref o0), .val (.long q1), .second, .val (.int (1 : Int32))] [])) (fun _ kgo => XS.goto X14.here hx rfl (pc0 := 39) (pc' := 14) rfl (hb hby d1_39) (by decide) (by decide) kgo) ?_
  refine own_go (g' := (mkF m 15 #[.val (.ref o0), .val (.long q1), .second, .val (.int (1 : Int32))] [(.int (1 : Int32))])) (fun _ kgo => XS.iloadN X14.here hx rfl (hb hby d1_14) rfl kgo) ?_
  refine own_go (g' := (mkF m 16 #[.val (.ref o0), .val (.long q1), .second, .val (.int (1 : Int32))] [(.ref o0), (.int (1 : Int32))])) (fun _ kgo => XS.aloadN X14.here hx rfl (hb hby d1_15) rfl rfl kgo) ?_
  have fx15 : Fld Z h14 o0 "com/example/gist_sketch/gistsketch/format/BitArray" "pages" "[[J" (.ref b2) := (Fld.other W14 (Fld.ext E12 q3_2) (Or.inl ne_o0_b2))
  obtain ⟨T16, X16, e16, st16⟩ := getF X14 hx hZ hown (host := "") (Or.inl (hw _ (List.mem_of_getElem? (i := 26) rfl))) Via.refl e14 fx15 (g := (mkF m 16 #[.val (.ref o0), .val (.long q1), .second, .val (.int (1 : Int32))] [(.ref o0), (.int (1 : Int32))])) rfl rfl (hb hby d1_16)
  refine own_go (g' := (mkF m 19 #[.val (.ref o0), .val (.long q1), .second, .val (.int (1 : Int32))] [(.ref b2), (.int (1 : Int32))])) (st16) ?_
  obtain ⟨cl17, Ar17, -, sz17, nn17, -, -⟩ := id V14
  refine own_go (g' := (mkF m 20 #[.val (.ref o0), .val (.long q1), .second, .val (.int (1 : Int32))] [(.int (1 : Int32)), (.int (1 : Int32))])) (by have q := X16.arraylength hx (by rw [e16]; exact Ar17.1) (State.isArrayOf_alike hZ.alike Ar17.2.1) (g := (mkF m 19 #[.val (.ref o0), .val (.long q1), .second, .val (.int (1 : Int32))] [(.ref b2), (.int (1 : Int32))])) rfl rfl (hb hby d1_19); rw [len_of sz17 nn17] at q; exact q) ?_
  refine own_go (g' := (mkF m 42 #[.val (.ref o0), .val (.long q1), .second, .val (.int (1 : Int32))] [])) (fun _ kgo => XS.icmpYes X16.here hx rfl (pc0 := 20) (pc' := 42) rfl (hb hby d1_20) rfl (flt (by decide)).2.1 (by decide) (by decide) kgo) ?_
  refine own_retV X16 hx Bd.returns Bd.notSynchronized (hb hby d1_42) (by decide) (by decide) ?_
  show QQ _ T16.heap _
  rw [e16]
  have fx18 : Exa Z h14 o0 "com/example/gist_sketch/gistsketch/format/BitArray" := (Exa.wr W14 (Exa.ext E12 q3_0))
  have fx19 : Fld Z h14 o0 "com/example/gist_sketch/gistsketch/format/BitArray" "bits" "J" (.long q1) := (Fld.other W14 (Fld.ext E12 q3_1) (Or.inl ne_o0_b2))
  have fx20 : Arv Z h14 b12 k12 .long (4 : Int32) [(.long (0 : Int64)), (.long (0 : Int64)), (.long (0 : Int64)), (.long (0 : Int64))] (.long (0 : Int64)) := (Arv.other V12 W14 (Ne.symm ne_b2_b12))
  rw [← hQQ]
  exact ⟨b2, b12, k2, k12, rfl, N14, K14, ne_b2_b12, sz_b2, sz_b12, fx18, fx19, fx15, V14, fx20⟩
theorem d10_0 : decode jdk_41_method_14_code 0 = .ok (.lload_n 0, 1) := by decide +kernel
theorem d10_1 : decode jdk_41_method_14_code 1 = .ok (.lconst 0, 1) := by decide +kernel
theorem d10_2 : decode jdk_41_method_14_code 2 = .ok (.lcmp, 1) := by decide +kernel
theorem d10_3 : decode jdk_41_method_14_code 3 = .ok (.ifCond .lt 9, 3) := by decide +kernel
theorem d10_6 : decode jdk_41_method_14_code 6 = .ok (.lload_n 0, 1) := by decide +kernel
theorem d10_7 : decode jdk_41_method_14_code 7 = .ok (.lload_n 2, 1) := by decide +kernel
theorem d10_8 : decode jdk_41_method_14_code 8 = .ok (.lcmp, 1) := by decide +kernel
theorem d10_9 : decode jdk_41_method_14_code 9 = .ok (.ifCond .lt 11, 3) := by decide +kernel
theorem d10_20 : decode jdk_41_method_14_code 20 = .ok (.lload_n 0, 1) := by decide +kernel
theorem d10_21 : decode jdk_41_method_14_code 21 = .ok (.lreturn, 1) := by decide +kernel
theorem pn_pci : plainName "jdk/internal/util/Preconditions" = true := by first | (simp [plainName, overriddenIn]; done) | decide +kernel
theorem ef_pci (m : MethodId) (q0 : Int64) (q1 : Int64) : entryFrame m #[(.long q0), (.long q1), .null] 5 = mkF m 0 #[.val (.long q0), .second, .val (.long q1), .second, .val .null] [] := by first | (simp [entryFrame, mkF, argsToLocals, Value.category]; done) | rfl
set_option maxRecDepth 65536 in
set_option maxHeartbeats 40000000 in
theorem pci (l : Launch) (Z : State) (a0 : Array Value) (hw : ∀ d ∈ tables_1, d.before a0 Z = true) (q0 : Int64) (q1 : Int64)  (h0 : Heap) (hci : ¬ q0 < 0 ∧ q0 < q1) :
    own_Met l Z (⟨"jdk/internal/util/Preconditions", "checkIndex", "(JJLjava/util/function/BiFunction;)J"⟩ : MethodName) jdk_41_method_14_code 5 (some .long) [] ({ frames := 0, cells := 0, slots := 0, locals := 0 } : Room) #[(.long q0), (.long q1), .null] h0 0 0 (fun v h L => v = some (.long q0) ∧ h = h0 ∧ L = []) := by
  refine own_met (plainFor_of_name pn_pci) ?_
  intro p e s m below meth c s₁ Bd hml0 hZ X0 e0
  have hx := Bd.exec
  have hby := Bd.bytes
  have hml : c.maxLocals = 5 := hml0
  have hown : s.vm.findClass "jdk/internal/util/Preconditions" = some m.cls := findClass_of_methodNamed Bd.named
  have hnm := (name_of_methodNamed Bd.named Bd.method).1
  refine own_cast (ef_pci m q0 q1) ?_
  generalize hQQ : (fun (v : Option Value) (h : Heap) (L : List Loc) => v = some (.long q0) ∧ h = h0 ∧ L = []) = QQ
  refine own_go (g' := (mkF m 1 #[.val (.long q0), .second, .val (.long q1), .second, .val .null] [(.long q0)])) (fun _ kgo => XS.lloadN X0.here hx rfl (hb hby d10_0) rfl kgo) ?_
  refine own_go (g' := (mkF m 2 #[.val (.long q0), .second, .val (.long q1), .second, .val .null] [(.long (0 : Int64)), (.long q0)])) (fun _ kgo => XS.lconst X0.here hx rfl (hb hby d10_1) kgo) ?_
  refine own_go (g' := (mkF m 3 #[.val (.long q0), .second, .val (.long q1), .second, .val .null] [(.int (lcmpW q0 (0 : Int64)))])) (fun _ kgo => XS.lcmp X0.here hx rfl (hb hby d10_2) rfl kgo) ?_
  refine own_go (g' := (mkF m 6 #[.val (.long q0), .second, .val (.long q1), .second, .val .null] [])) (fun _ kgo => XS.ifNo X0.here hx rfl (hb hby d10_3) rfl ((if0 _ _).trans (flt (mt (lw_lt _ _).mp hci.1)).1) kgo) ?_
  refine own_go (g' := (mkF m 7 #[.val (.long q0), .second, .val (.long q1), .second, .val .null] [(.long q0)])) (fun _ kgo => XS.lloadN X0.here hx rfl (hb hby d10_6) rfl kgo) ?_
  refine own_go (g' := (mkF m 8 #[.val (.long q0), .second, .val (.long q1), .second, .val .null] [(.long q1), (.long q0)])) (fun _ kgo => XS.lloadN X0.here hx rfl (hb hby d10_7) rfl kgo) ?_
  refine own_go (g' := (mkF m 9 #[.val (.long q0), .second, .val (.long q1), .second, .val .null] [(.int (lcmpW q0 q1))])) (fun _ kgo => XS.lcmp X0.here hx rfl (hb hby d10_8) rfl kgo) ?_
  refine own_go (g' := (mkF m 20 #[.val (.long q0), .second, .val (.long q1), .second, .val .null] [])) (fun _ kgo => XS.ifYes X0.here hx rfl (pc0 := 9) (pc' := 20) rfl (hb hby d10_9) rfl ((if0 _ _).trans (tlt ((lw_lt _ _).mpr hci.2)).1) (by decide) (by decide) kgo) ?_
  refine own_go (g' := (mkF m 21 #[.val (.long q0), .second, .val (.long q1), .second, .val .null] [(.long q0)])) (fun _ kgo => XS.lloadN X0.here hx rfl (hb hby d10_20) rfl kgo) ?_
  refine own_retJ X0 hx Bd.returns Bd.notSynchronized (hb hby d10_21) (by decide) (by decide) ?_
  show QQ _ s₁.heap _
  rw [e0]
  rw [← hQQ]
  exact ⟨rfl, rfl, rfl⟩
theorem d9_0 : decode jdk_31_method_20_code 0 = .ok (.lload_n 0, 1) := by decide +kernel
theorem d9_1 : decode jdk_31_method_20_code 1 = .ok (.lload_n 2, 1) := by decide +kernel
theorem d9_2 : decode jdk_31_method_20_code 2 = .ok (.aconst_null, 1) := by decide +kernel
theorem d9_3 : decode jdk_31_method_20_code 3 = .ok (.invokestatic 118, 3) := by decide +kernel
theorem d9_6 : decode jdk_31_method_20_code 6 = .ok (.lreturn, 1) := by decide +kernel
theorem pn_oci : plainName "java/util/Objects" = true := by first | (simp [plainName, overriddenIn]; done) | decide +kernel
theorem pd9_0 : parseMethodDescriptor "(JJLjava/util/function/BiFunction;)J" = some ⟨[.long, .long, (.object "java/util/function/BiFunction")], some .long⟩ := by decide +kernel
theorem ef_oci (m : MethodId) (q0 : Int64) (q1 : Int64) : entryFrame m #[(.long q0), (.long q1)] 4 = mkF m 0 #[.val (.long q0), .second, .val (.long q1), .second] [] := by first | (simp [entryFrame, mkF, argsToLocals, Value.category]; done) | rfl
set_option maxRecDepth 65536 in
set_option maxHeartbeats 40000000 in
theorem oci (l : Launch) (Z : State) (a0 : Array Value) (hw : ∀ d ∈ tables_1, d.before a0 Z = true) (q0 : Int64) (q1 : Int64)  (h0 : Heap) (hci : ¬ q0 < 0 ∧ q0 < q1) :
    own_Met l Z (⟨"java/util/Objects", "checkIndex", "(JJ)J"⟩ : MethodName) jdk_31_method_20_code 4 (some .long) [] ({ frames := 1, cells := 0, slots := 0, locals := 16 } : Room) #[(.long q0), (.long q1)] h0 0 0 (fun v h L => v = some (.long q0) ∧ h = h0 ∧ L = []) := by
  refine own_met (plainFor_of_name pn_oci) ?_
  intro p e s m below meth c s₁ Bd hml0 hZ X0 e0
  have hx := Bd.exec
  have hby := Bd.bytes
  have hml : c.maxLocals = 4 := hml0
  have hown : s.vm.findClass "java/util/Objects" = some m.cls := findClass_of_methodNamed Bd.named
  have hnm := (name_of_methodNamed Bd.named Bd.method).1
  refine own_cast (ef_oci m q0 q1) ?_
  generalize hQQ : (fun (v : Option Value) (h : Heap) (L : List Loc) => v = some (.long q0) ∧ h = h0 ∧ L = []) = QQ
  refine own_go (g' := (mkF m 1 #[.val (.long q0), .second, .val (.long q1), .second] [(.long q0)])) (fun _ kgo => XS.lloadN X0.here hx rfl (hb hby d9_0) rfl kgo) ?_
  refine own_go (g' := (mkF m 2 #[.val (.long q0), .second, .val (.long q1), .second] [(.long q1), (.long q0)])) (fun _ kgo => XS.lloadN X0.here hx rfl (hb hby d9_1) rfl kgo) ?_
  refine own_go (g' := (mkF m 3 #[.val (.long q0), .second, .val (.long q1), .second] [.null, (.long q1), (.long q0)])) (fun _ kgo => XS.aconstNull X0.here hx rfl (hb hby d9_2) kgo) ?_
  obtain ⟨v1, T1, L1, hQ1, X1, st1⟩ := own_callS X0 hx hZ (y := (⟨"jdk/internal/util/Preconditions", "checkIndex", "(JJLjava/util/function/BiFunction;)J"⟩ : MethodName)) hown (hw _ (List.mem_of_getElem? (i := 47) rfl)) (hw _ (List.mem_of_getElem? (i := 48) rfl)) (hw _ (List.mem_of_getElem? (i := 49) rfl)) (hw _ (List.mem_of_getElem? (i := 50) rfl)) ⟨by decide, by decide⟩ (argsL := [(.long q0), (.long q1), .null]) (pci l Z a0 hw q0 q1 h0 hci) e0 (g := (mkF m 3 #[.val (.long q0), .second, .val (.long q1), .second] [.null, (.long q1), (.long q0)])) rfl (by rw [hml]; rfl) (rest := []) (lenOf pd9_0 rfl) rfl (hb hby d9_3) (W := 0) (by show 2 * 0 + _ ≤ _; exact Nat.le_of_eq rfl) (by decide) (by decide) (by decide) (by decide)
  obtain ⟨rfl, e1, rfl⟩ := hQ1
  refine own_go (g' := (mkF m 6 #[.val (.long q0), .second, .val (.long q1), .second] [(.long q0)])) (st1) ?_
  refine own_retJ X1 hx Bd.returns Bd.notSynchronized (hb hby d9_6) (by decide) (by decide) ?_
  show QQ _ T1.heap _
  rw [e1]
  rw [← hQQ]
  exact ⟨rfl, rfl, rfl⟩
theorem d8_0 : decode prog_31_method_4_code 0 = .ok (.lload_n 1, 1) := by decide +kernel
theorem d8_1 : decode prog_31_method_4_code 1 = .ok (.aload_n 0, 1) := by decide +kernel
theorem d8_2 : decode prog_31_method_4_code 2 = .ok (.getfield 30, 3) := by decide +kernel
theorem d8_5 : decode prog_31_method_4_code 5 = .ok (.invokestatic 34, 3) := by decide +kernel
theorem d8_8 : decode prog_31_method_4_code 8 = .ok (.pop2, 1) := by decide +kernel
theorem d8_9 : decode prog_31_method_4_code 9 = .ok (.aload_n 0, 1) := by decide +kernel
theorem d8_10 : decode prog_31_method_4_code 10 = .ok (.getfield 17, 3) := by decide +kernel
theorem d8_13 : decode prog_31_method_4_code 13 = .ok (.lload_n 1, 1) := by decide +kernel
theorem d8_14 : decode prog_31_method_4_code 14 = .ok (.bipush 31, 2) := by decide +kernel
theorem d8_16 : decode prog_31_method_4_code 16 = .ok (.lushr, 1) := by decide +kernel
theorem d8_17 : decode prog_31_method_4_code 17 = .ok (.l2i, 1) := by decide +kernel
theorem d8_18 : decode prog_31_method_4_code 18 = .ok (.aaload, 1) := by decide +kernel
theorem d8_19 : decode prog_31_method_4_code 19 = .ok (.lload_n 1, 1) := by decide +kernel
theorem d8_20 : decode prog_31_method_4_code 20 = .ok (.bipush 6, 2) := by decide +kernel
theorem d8_22 : decode prog_31_method_4_code 22 = .ok (.lushr, 1) := by decide +kernel
theorem d8_23 : decode prog_31_method_4_code 23 = .ok (.l2i, 1) := by decide +kernel
theorem d8_24 : decode prog_31_method_4_code 24 = .ok (.ldc 40, 2) := by decide +kernel
theorem d8_26 : decode prog_31_method_4_code 26 = .ok (.iand, 1) := by decide +kernel
theorem d8_27 : decode prog_31_method_4_code 27 = .ok (.dup2, 1) := by decide +kernel
theorem d8_28 : decode prog_31_method_4_code 28 = .ok (.laload, 1) := by decide +kernel
theorem d8_29 : decode prog_31_method_4_code 29 = .ok (.lconst 1, 1) := by decide +kernel
theorem d8_30 : decode prog_31_method_4_code 30 = .ok (.lload_n 1, 1) := by decide +kernel
theorem d8_31 : decode prog_31_method_4_code 31 = .ok (.l2i, 1) := by decide +kernel
theorem d8_32 : decode prog_31_method_4_code 32 = .ok (.lshl, 1) := by decide +kernel
theorem d8_33 : decode prog_31_method_4_code 33 = .ok (.lor, 1) := by decide +kernel
theorem d8_34 : decode prog_31_method_4_code 34 = .ok (.lastore, 1) := by decide +kernel
theorem d8_35 : decode prog_31_method_4_code 35 = .ok (.return_, 1) := by decide +kernel
theorem pn_rm8 : plainName "com/example/gist_sketch/gistsketch/format/BitArray" = true := by first | (simp [plainName, overriddenIn]; done) | decide +kernel
theorem pd8_0 : parseMethodDescriptor "(JJ)J" = some ⟨[.long, .long], some .long⟩ := by decide +kernel
theorem ef_rm8 (m : MethodId) (o0 : Addr) (q1 : Int64) : entryFrame m #[(.ref o0), (.long q1)] 3 = mkF m 0 #[.val (.ref o0), .val (.long q1), .second] [] := by first | (simp [entryFrame, mkF, argsToLocals, Value.category]; done) | rfl
set_option maxRecDepth 65536 in
set_option maxHeartbeats 40000000 in
theorem rm8 (l : Launch) (Z : State) (a0 : Array Value) (hw : ∀ d ∈ tables_1, d.before a0 Z = true) (o0 : Addr) (q1 : Int64) (bt : Int64) (pg : Addr) (kp : ClassId) (w : Addr) (kw : ClassId) (x0 : Int64) (x1 : Int64) (x2 : Int64) (x3 : Int64) (h0 : Heap) (n0 : Nat) (Z0 : n0 ≤ h0.size) (g_w : n0 ≤ w) (P0 : Exa Z h0 o0 "com/example/gist_sketch/gistsketch/format/BitArray") (P1 : Fld Z h0 o0 "com/example/gist_sketch/gistsketch/format/BitArray" "bits" "J" (.long bt)) (P2 : Fld Z h0 o0 "com/example/gist_sketch/gistsketch/format/BitArray" "pages" "[[J" (.ref pg)) (P3 : Arv Z h0 pg kp (.array .long) (1 : Int32) [(.ref w)] .null) (P4 : Arv Z h0 w kw .long (4 : Int32) [(.long x0), (.long x1), (.long x2), (.long x3)] (.long (0 : Int64))) (hi0 : 0 ≤ q1.toInt ∧ q1.toInt < 256) (hci : ¬ q1 < 0 ∧ q1 < bt) (hno : o0 ≠ w) (hnp : pg ≠ w) :
    own_Met l Z (⟨"com/example/gist_sketch/gistsketch/format/BitArray", "set", "(J)V"⟩ : MethodName) prog_31_method_4_code 3 none [] ({ frames := 2, cells := 0, slots := 0, locals := 31 } : Room) #[(.ref o0), (.long q1)] h0 0 0 (fun v h L => v = none ∧ Fr n0 L ∧ Keep h0 h [w] ∧ Arv Z h w kw .long (4 : Int32) [(.long (own_o 0 q1 x0)), (.long (own_o 1 q1 x1)), (.long (own_o 2 q1 x2)), (.long (own_o 3 q1 x3))] (.long (0 : Int64))) := by
  refine own_met (plainFor_of_name pn_rm8) ?_
  intro p e s m below meth c s₁ Bd hml0 hZ X0 e0
  have hx := Bd.exec
  have hby := Bd.bytes
  have hml : c.maxLocals = 3 := hml0
  have hown : s.vm.findClass "com/example/gist_sketch/gistsketch/format/BitArray" = some m.cls := findClass_of_methodNamed Bd.named
  have hnm := (name_of_methodNamed Bd.named Bd.method).1
  refine own_cast (ef_rm8 m o0 q1) ?_
  generalize hQQ : (fun (v : Option Value) (h : Heap) (L : List Loc) => v = none ∧ Fr n0 L ∧ Keep h0 h [w] ∧ Arv Z h w kw .long (4 : Int32) [(.long (own_o 0 q1 x0)), (.long (own_o 1 q1 x1)), (.long (own_o 2 q1 x2)), (.long (own_o 3 q1 x3))] (.long (0 : Int64))) = QQ
  have N0 := Fr.nil n0
  have K0 := Keep.refl h0 [w]
  refine own_go (g' := (mkF m 1 #[.val (.ref o0), .val (.long q1), .second] [(.long q1)])) (fun _ kgo => XS.lloadN X0.here hx rfl (hb hby d8_0) rfl kgo) ?_
  refine own_go (g' := (mkF m 2 #[.val (.ref o0), .val (.long q1), .second] [(.ref o0), (.long q1)])) (fun _ kgo => XS.aloadN X0.here hx rfl (hb hby d8_1) rfl rfl kgo) ?_
  obtain ⟨T1, X1, e1, st1⟩ := getF X0 hx hZ hown (host := "") (Or.inl (hw _ (List.mem_of_getElem? (i := 24) rfl))) Via.refl e0 P1 (g := (mkF m 2 #[.val (.ref o0), .val (.long q1), .second] [(.ref o0), (.long q1)])) rfl rfl (hb hby d8_2)
  refine own_go (g' := (mkF m 5 #[.val (.ref o0), .val (.long q1), .second] [(.long bt), (.long q1)])) (st1) ?_
  obtain ⟨v2, T2, L2, hQ2, X2, st2⟩ := own_callS X1 hx hZ (y := (⟨"java/util/Objects", "checkIndex", "(JJ)J"⟩ : MethodName)) hown (hw _ (List.mem_of_getElem? (i := 43) rfl)) (hw _ (List.mem_of_getElem? (i := 44) rfl)) (hw _ (List.mem_of_getElem? (i := 45) rfl)) (hw _ (List.mem_of_getElem? (i := 46) rfl)) ⟨by decide, by decide⟩ (argsL := [(.long q1), (.long bt)]) (oci l Z a0 hw q1 bt h0 hci) e1 (g := (mkF m 5 #[.val (.ref o0), .val (.long q1), .second] [(.long bt), (.long q1)])) rfl (by rw [hml]; rfl) (rest := []) (lenOf pd8_0 rfl) rfl (hb hby d8_5) (W := 0) (by show 2 * 0 + _ ≤ _; exact Nat.le_of_eq rfl) (by decide) (by decide) (by decide) (by decide)
  obtain ⟨rfl, e2, rfl⟩ := hQ2
  have N2 := Fr.app N0 (Fr.nil n0)
  refine own_go (g' := (mkF m 8 #[.val (.ref o0), .val (.long q1), .second] [(.long q1)])) (st2) ?_
  refine own_go (g' := (mkF m 9 #[.val (.ref o0), .val (.long q1), .second] [])) (fun _ kgo => own_pop2 X2 hx rfl (hb hby d8_8) rfl kgo) ?_
  refine own_go (g' := (mkF m 10 #[.val (.ref o0), .val (.long q1), .second] [(.ref o0)])) (fun _ kgo => XS.aloadN X2.here hx rfl (hb hby d8_9) rfl rfl kgo) ?_
  obtain ⟨T3, X3, e3, st3⟩ := getF X2 hx hZ hown (host := "") (Or.inl (hw _ (List.mem_of_getElem? (i := 26) rfl))) Via.refl e2 P2 (g := (mkF m 10 #[.val (.ref o0), .val (.long q1), .second] [(.ref o0)])) rfl rfl (hb hby d8_10)
  refine own_go (g' := (mkF m 13 #[.val (.ref o0), .val (.long q1), .second] [(.ref pg)])) (st3) ?_
  refine own_go (g' := (mkF m 14 #[.val (.ref o0), .val (.long q1), .second] [(.long q1), (.ref pg)])) (fun _ kgo => XS.lloadN X3.here hx rfl (hb hby d8_13) rfl kgo) ?_
  refine own_go (g' := (mkF m 16 #[.val (.ref o0), .val (.long q1), .second] [(.int (31 : Int32)), (.long q1), (.ref pg)])) (fun _ kgo => XS.bipush X3.here hx rfl (hb hby d8_14) kgo) ?_
  refine own_go (g' := (mkF m 17 #[.val (.ref o0), .val (.long q1), .second] [(.long ((q1.toUInt64 >>> ((31 : Int32) &&& 0x3f).toInt64.toUInt64).toInt64)), (.ref pg)])) (fun _ kgo => XS.lushr X3.here hx rfl (hb hby d8_16) rfl kgo) ?_
  refine own_go (g' := (mkF m 18 #[.val (.ref o0), .val (.long q1), .second] [(.int (((q1.toUInt64 >>> ((31 : Int32) &&& 0x3f).toInt64.toUInt64).toInt64).toInt32)), (.ref pg)])) (fun _ kgo => XS.l2i X3.here hx rfl (hb hby d8_17) rfl kgo) ?_
  refine own_cast (g' := (mkF m 18 #[.val (.ref o0), .val (.long q1), .second] [(.int (0 : Int32)), (.ref pg)])) (by rw [show (((q1.toUInt64 >>> ((31 : Int32) &&& 0x3f).toInt64.toUInt64).toInt64).toInt32) = (0 : Int32) from own_p0 q1 hi0]) ?_
  obtain ⟨cl4, Ar4, qk4, sz4, nn4, Hs4, Gs4⟩ := id P3
  have hin4 : ¬ ((0 : Int32) < 0 ∨ cl4.slots.size ≤ ((0 : Int32)).toNatClampNeg) := inb_of sz4 ⟨by decide, by decide⟩
  have hat4 : cl4.slots[((0 : Int32)).toNatClampNeg]? = some (.ref w) := Has.at Hs4 hin4 rfl
  refine own_go (g' := (mkF m 19 #[.val (.ref o0), .val (.long q1), .second] [(.ref w)])) (X3.aaload hx (j := (0 : Int32)) (v := (.ref w)) (by rw [e3]; exact Ar4.1) (State.isArrayOf_alike hZ.alike Ar4.2.1) rfl Ar4.2.2 hin4 hat4 (g := (mkF m 18 #[.val (.ref o0), .val (.long q1), .second] [(.int (0 : Int32)), (.ref pg)])) rfl rfl (hb hby d8_18)) ?_
  refine own_go (g' := (mkF m 20 #[.val (.ref o0), .val (.long q1), .second] [(.long q1), (.ref w)])) (fun _ kgo => XS.lloadN X3.here hx rfl (hb hby d8_19) rfl kgo) ?_
  refine own_go (g' := (mkF m 22 #[.val (.ref o0), .val (.long q1), .second] [(.int (6 : Int32)), (.long q1), (.ref w)])) (fun _ kgo => XS.bipush X3.here hx rfl (hb hby d8_20) kgo) ?_
  refine own_go (g' := (mkF m 23 #[.val (.ref o0), .val (.long q1), .second] [(.long ((q1.toUInt64 >>> ((6 : Int32) &&& 0x3f).toInt64.toUInt64).toInt64)), (.ref w)])) (fun _ kgo => XS.lushr X3.here hx rfl (hb hby d8_22) rfl kgo) ?_
  refine own_go (g' := (mkF m 24 #[.val (.ref o0), .val (.long q1), .second] [(.int (((q1.toUInt64 >>> ((6 : Int32) &&& 0x3f).toInt64.toUInt64).toInt64).toInt32)), (.ref w)])) (fun _ kgo => XS.l2i X3.here hx rfl (hb hby d8_23) rfl kgo) ?_
  refine own_go (g' := (mkF m 26 #[.val (.ref o0), .val (.long q1), .second] [(.int (33554431 : Int32)), (.int (((q1.toUInt64 >>> ((6 : Int32) &&& 0x3f).toInt64.toUInt64).toInt64).toInt32)), (.ref w)])) (X3.ldcInt hx hown (mvT hZ (hw _ (List.mem_of_getElem? (i := 51) rfl))) (g := (mkF m 24 #[.val (.ref o0), .val (.long q1), .second] [(.int (((q1.toUInt64 >>> ((6 : Int32) &&& 0x3f).toInt64.toUInt64).toInt64).toInt32)), (.ref w)])) rfl (hb hby d8_24)) ?_
  refine own_go (g' := (mkF m 27 #[.val (.ref o0), .val (.long q1), .second] [(.int ((((q1.toUInt64 >>> ((6 : Int32) &&& 0x3f).toInt64.toUInt64).toInt64).toInt32) &&& (33554431 : Int32))), (.ref w)])) (fun _ kgo => XS.iand X3.here hx rfl (hb hby d8_26) rfl kgo) ?_
  have hk4 : (64 * 0 ≤ q1.toInt ∧ q1.toInt < 64 * 0 + 64) ∨ (64 * 1 ≤ q1.toInt ∧ q1.toInt < 64 * 1 + 64) ∨ (64 * 2 ≤ q1.toInt ∧ q1.toInt < 64 * 2 + 64) ∨ (64 * 3 ≤ q1.toInt ∧ q1.toInt < 64 * 3 + 64) := by omega
  rcases hk4 with hk | hk | hk | hk
  ·
    refine own_cast (g' := (mkF m 27 #[.val (.ref o0), .val (.long q1), .second] [(.int (0 : Int32)), (.ref w)])) (by rw [show ((((q1.toUInt64 >>> ((6 : Int32) &&& 0x3f).toInt64.toUInt64).toInt64).toInt32) &&& (33554431 : Int32)) = (0 : Int32) from own_pk q1 0 _ (by decide) (by decide) hk]) ?_
    refine own_go (g' := (mkF m 28 #[.val (.ref o0), .val (.long q1), .second] [(.int (0 : Int32)), (.ref w), (.int (0 : Int32)), (.ref w)])) (fun _ kgo => XT.dup2 X3.here hx rfl (hb hby d8_27) rfl rfl rfl kgo) ?_
    obtain ⟨cl5, Ar5, qk5, sz5, nn5, Hs5, Gs5⟩ := id P4
    have hin5 : ¬ ((0 : Int32) < 0 ∨ cl5.slots.size ≤ ((0 : Int32)).toNatClampNeg) := inb_of sz5 ⟨by decide, by decide⟩
    have hat5 : cl5.slots[((0 : Int32)).toNatClampNeg]? = some (.long x0) := Has.at Hs5 hin5 rfl
    refine own_go (g' := (mkF m 29 #[.val (.ref o0), .val (.long q1), .second] [(.long x0), (.int (0 : Int32)), (.ref w)])) (X3.laload hx (j := (0 : Int32)) (v := (.long x0)) (by rw [e3]; exact Ar5.1) (State.isArrayOf_alike hZ.alike Ar5.2.1) Ar5.2.2 hin5 hat5 (g := (mkF m 28 #[.val (.ref o0), .val (.long q1), .second] [(.int (0 : Int32)), (.ref w), (.int (0 : Int32)), (.ref w)])) rfl rfl (hb hby d8_28)) ?_
    refine own_go (g' := (mkF m 30 #[.val (.ref o0), .val (.long q1), .second] [(.long (1 : Int64)), (.long x0), (.int (0 : Int32)), (.ref w)])) (fun _ kgo => XS.lconst X3.here hx rfl (hb hby d8_29) kgo) ?_
    refine own_go (g' := (mkF m 31 #[.val (.ref o0), .val (.long q1), .second] [(.long q1), (.long (1 : Int64)), (.long x0), (.int (0 : Int32)), (.ref w)])) (fun _ kgo => XS.lloadN X3.here hx rfl (hb hby d8_30) rfl kgo) ?_
    refine own_go (g' := (mkF m 32 #[.val (.ref o0), .val (.long q1), .second] [(.int (q1.toInt32)), (.long (1 : Int64)), (.long x0), (.int (0 : Int32)), (.ref w)])) (fun _ kgo => XS.l2i X3.here hx rfl (hb hby d8_31) rfl kgo) ?_
    refine own_go (g' := (mkF m 33 #[.val (.ref o0), .val (.long q1), .second] [(.long ((1 : Int64) <<< ((q1.toInt32) &&& 0x3f).toInt64)), (.long x0), (.int (0 : Int32)), (.ref w)])) (fun _ kgo => XS.lshl X3.here hx rfl (hb hby d8_32) rfl kgo) ?_
    refine own_go (g' := (mkF m 34 #[.val (.ref o0), .val (.long q1), .second] [(.long (x0 ||| ((1 : Int64) <<< ((q1.toInt32) &&& 0x3f).toInt64))), (.int (0 : Int32)), (.ref w)])) (fun _ kgo => XS.lor X3.here hx rfl (hb hby d8_33) rfl kgo) ?_
    obtain ⟨cl6, Ar6, qk6, sz6, nn6, Hs6, Gs6⟩ := id P4
    have hin6 : ¬ ((0 : Int32) < 0 ∨ cl6.slots.size ≤ ((0 : Int32)).toNatClampNeg) := inb_of sz6 ⟨by decide, by decide⟩
    obtain ⟨T6, h6, X6, e6, W6, st6⟩ := stJ X3 hx hZ e3 Ar6 (j := (0 : Int32)) hin6 (g := (mkF m 34 #[.val (.ref o0), .val (.long q1), .second] [(.long (x0 ||| ((1 : Int64) <<< ((q1.toInt32) &&& 0x3f).toInt64))), (.int (0 : Int32)), (.ref w)])) rfl rfl (hb hby d8_34)
    have V6 : Arv Z h6 w kw .long (4 : Int32) [(.long (x0 ||| ((1 : Int64) <<< ((q1.toInt32) &&& 0x3f).toInt64))), (.long x1), (.long x2), (.long x3)] (.long (0 : Int64)) := Arv.set Ar6 qk6 sz6 nn6 Hs6 Gs6 rfl W6 0 rfl (Nat.le_of_ble_eq_true rfl)
    have N6 := Fr.snoc X6 N2 g_w
    have Z6 : n0 ≤ h6.size := by rw [W6.size]; exact Z0
    have K6 : Keep h0 h6 [w] := K0.wr W6 (Or.inl (List.mem_of_getElem? (i := 0) rfl))
    refine own_go (g' := (mkF m 35 #[.val (.ref o0), .val (.long q1), .second] [])) (st6) ?_
    refine own_retV X6 hx Bd.returns Bd.notSynchronized (hb hby d8_35) (by decide) (by decide) ?_
    show QQ _ T6.heap _
    rw [e6]
    have c7 : Arv Z h6 w kw .long (4 : Int32) [(.long (own_o 0 q1 x0)), (.long (own_o 1 q1 x1)), (.long (own_o 2 q1 x2)), (.long (own_o 3 q1 x3))] (.long (0 : Int64)) := by
      rw [show ([(.long (own_o 0 q1 x0)), (.long (own_o 1 q1 x1)), (.long (own_o 2 q1 x2)), (.long (own_o 3 q1 x3))] : List Value) = [(.long (x0 ||| ((1 : Int64) <<< ((q1.toInt32) &&& 0x3f).toInt64))), (.long x1), (.long x2), (.long x3)] from (by simp only [own_o]; rw [if_pos (show q1.toInt / 64 = 0 from by omega), if_neg (show ¬ q1.toInt / 64 = 1 from by omega), if_neg (show ¬ q1.toInt / 64 = 2 from by omega), if_neg (show ¬ q1.toInt / 64 = 3 from by omega)])]
      exact V6
    rw [← hQQ]
    exact ⟨rfl, N6, K6, c7⟩
  ·
    refine own_cast (g' := (mkF m 27 #[.val (.ref o0), .val (.long q1), .second] [(.int (1 : Int32)), (.ref w)])) (by rw [show ((((q1.toUInt64 >>> ((6 : Int32) &&& 0x3f).toInt64.toUInt64).toInt64).toInt32) &&& (33554431 : Int32)) = (1 : Int32) from own_pk q1 1 _ (by decide) (by decide) hk]) ?_
    refine own_go (g' := (mkF m 28 #[.val (.ref o0), .val (.long q1), .second] [(.int (1 : Int32)), (.ref w), (.int (1 : Int32)), (.ref w)])) (fun _ kgo => XT.dup2 X3.here hx rfl (hb hby d8_27) rfl rfl rfl kgo) ?_
    obtain ⟨cl8, Ar8, qk8, sz8, nn8, Hs8, Gs8⟩ := id P4
    have hin8 : ¬ ((1 : Int32) < 0 ∨ cl8.slots.size ≤ ((1 : Int32)).toNatClampNeg) := inb_of sz8 ⟨by decide, by decide⟩
    have hat8 : cl8.slots[((1 : Int32)).toNatClampNeg]? = some (.long x1) := Has.at Hs8 hin8 rfl
    refine own_go (g' := (mkF m 29 #[.val (.ref o0), .val (.long q1), .second] [(.long x1), (.int (1 : Int32)), (.ref w)])) (X3.laload hx (j := (1 : Int32)) (v := (.long x1)) (by rw [e3]; exact Ar8.1) (State.isArrayOf_alike hZ.alike Ar8.2.1) Ar8.2.2 hin8 hat8 (g := (mkF m 28 #[.val (.ref o0), .val (.long q1), .second] [(.int (1 : Int32)), (.ref w), (.int (1 : Int32)), (.ref w)])) rfl rfl (hb hby d8_28)) ?_
    refine own_go (g' := (mkF m 30 #[.val (.ref o0), .val (.long q1), .second] [(.long (1 : Int64)), (.long x1), (.int (1 : Int32)), (.ref w)])) (fun _ kgo => XS.lconst X3.here hx rfl (hb hby d8_29) kgo) ?_
    refine own_go (g' := (mkF m 31 #[.val (.ref o0), .val (.long q1), .second] [(.long q1), (.long (1 : Int64)), (.long x1), (.int (1 : Int32)), (.ref w)])) (fun _ kgo => XS.lloadN X3.here hx rfl (hb hby d8_30) rfl kgo) ?_
    refine own_go (g' := (mkF m 32 #[.val (.ref o0), .val (.long q1), .second] [(.int (q1.toInt32)), (.long (1 : Int64)), (.long x1), (.int (1 : Int32)), (.ref w)])) (fun _ kgo => XS.l2i X3.here hx rfl (hb hby d8_31) rfl kgo) ?_
    refine own_go (g' := (mkF m 33 #[.val (.ref o0), .val (.long q1), .second] [(.long ((1 : Int64) <<< ((q1.toInt32) &&& 0x3f).toInt64)), (.long x1), (.int (1 : Int32)), (.ref w)])) (fun _ kgo => XS.lshl X3.here hx rfl (hb hby d8_32) rfl kgo) ?_
    refine own_go (g' := (mkF m 34 #[.val (.ref o0), .val (.long q1), .second] [(.long (x1 ||| ((1 : Int64) <<< ((q1.toInt32) &&& 0x3f).toInt64))), (.int (1 : Int32)), (.ref w)])) (fun _ kgo => XS.lor X3.here hx rfl (hb hby d8_33) rfl kgo) ?_
    obtain ⟨cl9, Ar9, qk9, sz9, nn9, Hs9, Gs9⟩ := id P4
    have hin9 : ¬ ((1 : Int32) < 0 ∨ cl9.slots.size ≤ ((1 : Int32)).toNatClampNeg) := inb_of sz9 ⟨by decide, by decide⟩
    obtain ⟨T9, h9, X9, e9, W9, st9⟩ := stJ X3 hx hZ e3 Ar9 (j := (1 : Int32)) hin9 (g := (mkF m 34 #[.val (.ref o0), .val (.long q1), .second] [(.long (x1 ||| ((1 : Int64) <<< ((q1.toInt32) &&& 0x3f).toInt64))), (.int (1 : Int32)), (.ref w)])) rfl rfl (hb hby d8_34)
    have V9 : Arv Z h9 w kw .long (4 : Int32) [(.long x0), (.long (x1 ||| ((1 : Int64) <<< ((q1.toInt32) &&& 0x3f).toInt64))), (.long x2), (.long x3)] (.long (0 : Int64)) := Arv.set Ar9 qk9 sz9 nn9 Hs9 Gs9 rfl W9 1 rfl (Nat.le_of_ble_eq_true rfl)
    have N9 := Fr.snoc X9 N2 g_w
    have Z9 : n0 ≤ h9.size := by rw [W9.size]; exact Z0
    have K9 : Keep h0 h9 [w] := K0.wr W9 (Or.inl (List.mem_of_getElem? (i := 0) rfl))
    refine own_go (g' := (mkF m 35 #[.val (.ref o0), .val (.long q1), .second] [])) (st9) ?_
    refine own_retV X9 hx Bd.returns Bd.notSynchronized (hb hby d8_35) (by decide) (by decide) ?_
    show QQ _ T9.heap _
    rw [e9]
    have c10 : Arv Z h9 w kw .long (4 : Int32) [(.long (own_o 0 q1 x0)), (.long (own_o 1 q1 x1)), (.long (own_o 2 q1 x2)), (.long (own_o 3 q1 x3))] (.long (0 : Int64)) := by
      rw [show ([(.long (own_o 0 q1 x0)), (.long (own_o 1 q1 x1)), (.long (own_o 2 q1 x2)), (.long (own_o 3 q1 x3))] : List Value) = [(.long x0), (.long (x1 ||| ((1 : Int64) <<< ((q1.toInt32) &&& 0x3f).toInt64))), (.long x2), (.long x3)] from (by simp only [own_o]; rw [if_neg (show ¬ q1.toInt / 64 = 0 from by omega), if_pos (show q1.toInt / 64 = 1 from by omega), if_neg (show ¬ q1.toInt / 64 = 2 from by omega), if_neg (show ¬ q1.toInt / 64 = 3 from by omega)])]
      exact V9
    rw [← hQQ]
    exact ⟨rfl, N9, K9, c10⟩
  ·
    refine own_cast (g' := (mkF m 27 #[.val (.ref o0), .val (.long q1), .second] [(.int (2 : Int32)), (.ref w)])) (by rw [show ((((q1.toUInt64 >>> ((6 : Int32) &&& 0x3f).toInt64.toUInt64).toInt64).toInt32) &&& (33554431 : Int32)) = (2 : Int32) from own_pk q1 2 _ (by decide) (by decide) hk]) ?_
    refine own_go (g' := (mkF m 28 #[.val (.ref o0), .val (.long q1), .second] [(.int (2 : Int32)), (.ref w), (.int (2 : Int32)), (.ref w)])) (fun _ kgo => XT.dup2 X3.here hx rfl (hb hby d8_27) rfl rfl rfl kgo) ?_
    obtain ⟨cl11, Ar11, qk11, sz11, nn11, Hs11, Gs11⟩ := id P4
    have hin11 : ¬ ((2 : Int32) < 0 ∨ cl11.slots.size ≤ ((2 : Int32)).toNatClampNeg) := inb_of sz11 ⟨by decide, by decide⟩
    have hat11 : cl11.slots[((2 : Int32)).toNatClampNeg]? = some (.long x2) := Has.at Hs11 hin11 rfl
    refine own_go (g' := (mkF m 29 #[.val (.ref o0), .val (.long q1), .second] [(.long x2), (.int (2 : Int32)), (.ref w)])) (X3.laload hx (j := (2 : Int32)) (v := (.long x2)) (by rw [e3]; exact Ar11.1) (State.isArrayOf_alike hZ.alike Ar11.2.1) Ar11.2.2 hin11 hat11 (g := (mkF m 28 #[.val (.ref o0), .val (.long q1), .second] [(.int (2 : Int32)), (.ref w), (.int (2 : Int32)), (.ref w)])) rfl rfl (hb hby d8_28)) ?_
    refine own_go (g' := (mkF m 30 #[.val (.ref o0), .val (.long q1), .second] [(.long (1 : Int64)), (.long x2), (.int (2 : Int32)), (.ref w)])) (fun _ kgo => XS.lconst X3.here hx rfl (hb hby d8_29) kgo) ?_
    refine own_go (g' := (mkF m 31 #[.val (.ref o0), .val (.long q1), .second] [(.long q1), (.long (1 : Int64)), (.long x2), (.int (2 : Int32)), (.ref w)])) (fun _ kgo => XS.lloadN X3.here hx rfl (hb hby d8_30) rfl kgo) ?_
    refine own_go (g' := (mkF m 32 #[.val (.ref o0), .val (.long q1), .second] [(.int (q1.toInt32)), (.long (1 : Int64)), (.long x2), (.int (2 : Int32)), (.ref w)])) (fun _ kgo => XS.l2i X3.here hx rfl (hb hby d8_31) rfl kgo) ?_
    refine own_go (g' := (mkF m 33 #[.val (.ref o0), .val (.long q1), .second] [(.long ((1 : Int64) <<< ((q1.toInt32) &&& 0x3f).toInt64)), (.long x2), (.int (2 : Int32)), (.ref w)])) (fun _ kgo => XS.lshl X3.here hx rfl (hb hby d8_32) rfl kgo) ?_
    refine own_go (g' := (mkF m 34 #[.val (.ref o0), .val (.long q1), .second] [(.long (x2 ||| ((1 : Int64) <<< ((q1.toInt32) &&& 0x3f).toInt64))), (.int (2 : Int32)), (.ref w)])) (fun _ kgo => XS.lor X3.here hx rfl (hb hby d8_33) rfl kgo) ?_
    obtain ⟨cl12, Ar12, qk12, sz12, nn12, Hs12, Gs12⟩ := id P4
    have hin12 : ¬ ((2 : Int32) < 0 ∨ cl12.slots.size ≤ ((2 : Int32)).toNatClampNeg) := inb_of sz12 ⟨by decide, by decide⟩
    obtain ⟨T12, h12, X12, e12, W12, st12⟩ := stJ X3 hx hZ e3 Ar12 (j := (2 : Int32)) hin12 (g := (mkF m 34 #[.val (.ref o0), .val (.long q1), .second] [(.long (x2 ||| ((1 : Int64) <<< ((q1.toInt32) &&& 0x3f).toInt64))), (.int (2 : Int32)), (.ref w)])) rfl rfl (hb hby d8_34)
    have V12 : Arv Z h12 w kw .long (4 : Int32) [(.long x0), (.long x1), (.long (x2 ||| ((1 : Int64) <<< ((q1.toInt32) &&& 0x3f).toInt64))), (.long x3)] (.long (0 : Int64)) := Arv.set Ar12 qk12 sz12 nn12 Hs12 Gs12 rfl W12 2 rfl (Nat.le_of_ble_eq_true rfl)
    have N12 := Fr.snoc X12 N2 g_w
    have Z12 : n0 ≤ h12.size := by rw [W12.size]; exact Z0
    have K12 : Keep h0 h12 [w] := K0.wr W12 (Or.inl (List.mem_of_getElem? (i := 0) rfl))
    refine own_go (g' := (mkF m 35 #[.val (.ref o0), .val (.long q1), .second] [])) (st12) ?_
    refine own_retV X12 hx Bd.returns Bd.notSynchronized (hb hby d8_35) (by decide) (by decide) ?_
    show QQ _ T12.heap _
    rw [e12]
    have c13 : Arv Z h12 w kw .long (4 : Int32) [(.long (own_o 0 q1 x0)), (.long (own_o 1 q1 x1)), (.long (own_o 2 q1 x2)), (.long (own_o 3 q1 x3))] (.long (0 : Int64)) := by
      rw [show ([(.long (own_o 0 q1 x0)), (.long (own_o 1 q1 x1)), (.long (own_o 2 q1 x2)), (.long (own_o 3 q1 x3))] : List Value) = [(.long x0), (.long x1), (.long (x2 ||| ((1 : Int64) <<< ((q1.toInt32) &&& 0x3f).toInt64))), (.long x3)] from (by simp only [own_o]; rw [if_neg (show ¬ q1.toInt / 64 = 0 from by omega), if_neg (show ¬ q1.toInt / 64 = 1 from by omega), if_pos (show q1.toInt / 64 = 2 from by omega), if_neg (show ¬ q1.toInt / 64 = 3 from by omega)])]
      exact V12
    rw [← hQQ]
    exact ⟨rfl, N12, K12, c13⟩
  ·
    refine own_cast (g' := (mkF m 27 #[.val (.ref o0), .val (.long q1), .second] [(.int (3 : Int32)), (.ref w)])) (by rw [show ((((q1.toUInt64 >>> ((6 : Int32) &&& 0x3f).toInt64.toUInt64).toInt64).toInt32) &&& (33554431 : Int32)) = (3 : Int32) from own_pk q1 3 _ (by decide) (by decide) hk]) ?_
    refine own_go (g' := (mkF m 28 #[.val (.ref o0), .val (.long q1), .second] [(.int (3 : Int32)), (.ref w), (.int (3 : Int32)), (.ref w)])) (fun _ kgo => XT.dup2 X3.here hx rfl (hb hby d8_27) rfl rfl rfl kgo) ?_
    obtain ⟨cl14, Ar14, qk14, sz14, nn14, Hs14, Gs14⟩ := id P4
    have hin14 : ¬ ((3 : Int32) < 0 ∨ cl14.slots.size ≤ ((3 : Int32)).toNatClampNeg) := inb_of sz14 ⟨by decide, by decide⟩
    have hat14 : cl14.slots[((3 : Int32)).toNatClampNeg]? = some (.long x3) := Has.at Hs14 hin14 rfl
    refine own_go (g' := (mkF m 29 #[.val (.ref o0), .val (.long q1), .second] [(.long x3), (.int (3 : Int32)), (.ref w)])) (X3.laload hx (j := (3 : Int32)) (v := (.long x3)) (by rw [e3]; exact Ar14.1) (State.isArrayOf_alike hZ.alike Ar14.2.1) Ar14.2.2 hin14 hat14 (g := (mkF m 28 #[.val (.ref o0), .val (.long q1), .second] [(.int (3 : Int32)), (.ref w), (.int (3 : Int32)), (.ref w)])) rfl rfl (hb hby d8_28)) ?_
    refine own_go (g' := (mkF m 30 #[.val (.ref o0), .val (.long q1), .second] [(.long (1 : Int64)), (.long x3), (.int (3 : Int32)), (.ref w)])) (fun _ kgo => XS.lconst X3.here hx rfl (hb hby d8_29) kgo) ?_
    refine own_go (g' := (mkF m 31 #[.val (.ref o0), .val (.long q1), .second] [(.long q1), (.long (1 : Int64)), (.long x3), (.int (3 : Int32)), (.ref w)])) (fun _ kgo => XS.lloadN X3.here hx rfl (hb hby d8_30) rfl kgo) ?_
    refine own_go (g' := (mkF m 32 #[.val (.ref o0), .val (.long q1), .second] [(.int (q1.toInt32)), (.long (1 : Int64)), (.long x3), (.int (3 : Int32)), (.ref w)])) (fun _ kgo => XS.l2i X3.here hx rfl (hb hby d8_31) rfl kgo) ?_
    refine own_go (g' := (mkF m 33 #[.val (.ref o0), .val (.long q1), .second] [(.long ((1 : Int64) <<< ((q1.toInt32) &&& 0x3f).toInt64)), (.long x3), (.int (3 : Int32)), (.ref w)])) (fun _ kgo => XS.lshl X3.here hx rfl (hb hby d8_32) rfl kgo) ?_
    refine own_go (g' := (mkF m 34 #[.val (.ref o0), .val (.long q1), .second] [(.long (x3 ||| ((1 : Int64) <<< ((q1.toInt32) &&& 0x3f).toInt64))), (.int (3 : Int32)), (.ref w)])) (fun _ kgo => XS.lor X3.here hx rfl (hb hby d8_33) rfl kgo) ?_
    obtain ⟨cl15, Ar15, qk15, sz15, nn15, Hs15, Gs15⟩ := id P4
    have hin15 : ¬ ((3 : Int32) < 0 ∨ cl15.slots.size ≤ ((3 : Int32)).toNatClampNeg) := inb_of sz15 ⟨by decide, by decide⟩
    obtain ⟨T15, h15, X15, e15, W15, st15⟩ := stJ X3 hx hZ e3 Ar15 (j := (3 : Int32)) hin15 (g := (mkF m 34 #[.val (.ref o0), .val (.long q1), .second] [(.long (x3 ||| ((1 : Int64) <<< ((q1.toInt32) &&& 0x3f).toInt64))), (.int (3 : Int32)), (.ref w)])) rfl rfl (hb hby d8_34)
    have V15 : Arv Z h15 w kw .long (4 : Int32) [(.long x0), (.long x1), (.long x2), (.long (x3 ||| ((1 : Int64) <<< ((q1.toInt32) &&& 0x3f).toInt64)))] (.long (0 : Int64)) := Arv.set Ar15 qk15 sz15 nn15 Hs15 Gs15 rfl W15 3 rfl (Nat.le_of_ble_eq_true rfl)
    have N15 := Fr.snoc X15 N2 g_w
    have Z15 : n0 ≤ h15.size := by rw [W15.size]; exact Z0
    have K15 : Keep h0 h15 [w] := K0.wr W15 (Or.inl (List.mem_of_getElem? (i := 0) rfl))
    refine own_go (g' := (mkF m 35 #[.val (.ref o0), .val (.long q1), .second] [])) (st15) ?_
    refine own_retV X15 hx Bd.returns Bd.notSynchronized (hb hby d8_35) (by decide) (by decide) ?_
    show QQ _ T15.heap _
    rw [e15]
    have c16 : Arv Z h15 w kw .long (4 : Int32) [(.long (own_o 0 q1 x0)), (.long (own_o 1 q1 x1)), (.long (own_o 2 q1 x2)), (.long (own_o 3 q1 x3))] (.long (0 : Int64)) := by
      rw [show ([(.long (own_o 0 q1 x0)), (.long (own_o 1 q1 x1)), (.long (own_o 2 q1 x2)), (.long (own_o 3 q1 x3))] : List Value) = [(.long x0), (.long x1), (.long x2), (.long (x3 ||| ((1 : Int64) <<< ((q1.toInt32) &&& 0x3f).toInt64)))] from (by simp only [own_o]; rw [if_neg (show ¬ q1.toInt / 64 = 0 from by omega), if_neg (show ¬ q1.toInt / 64 = 1 from by omega), if_neg (show ¬ q1.toInt / 64 = 2 from by omega), if_pos (show q1.toInt / 64 = 3 from by omega)])]
      exact V15
    rw [← hQQ]
    exact ⟨rfl, N15, K15, c16⟩
theorem d11_0 : decode prog_31_method_11_code 0 = .ok (.aload_n 0, 1) := by decide +kernel
theorem d11_1 : decode prog_31_method_11_code 1 = .ok (.getfield 17, 3) := by decide +kernel
theorem d11_4 : decode prog_31_method_11_code 4 = .ok (.lload_n 1, 1) := by decide +kernel
theorem d11_5 : decode prog_31_method_11_code 5 = .ok (.bipush 25, 2) := by decide +kernel
theorem d11_7 : decode prog_31_method_11_code 7 = .ok (.lushr, 1) := by decide +kernel
theorem d11_8 : decode prog_31_method_11_code 8 = .ok (.l2i, 1) := by decide +kernel
theorem d11_9 : decode prog_31_method_11_code 9 = .ok (.aaload, 1) := by decide +kernel
theorem d11_10 : decode prog_31_method_11_code 10 = .ok (.lload_n 1, 1) := by decide +kernel
theorem d11_11 : decode prog_31_method_11_code 11 = .ok (.l2i, 1) := by decide +kernel
theorem d11_12 : decode prog_31_method_11_code 12 = .ok (.ldc 40, 2) := by decide +kernel
theorem d11_14 : decode prog_31_method_11_code 14 = .ok (.iand, 1) := by decide +kernel
theorem d11_15 : decode prog_31_method_11_code 15 = .ok (.laload, 1) := by decide +kernel
theorem d11_16 : decode prog_31_method_11_code 16 = .ok (.lreturn, 1) := by decide +kernel
theorem pn_wd_0_1 : plainName "com/example/gist_sketch/gistsketch/format/BitArray" = true := by first | (simp [plainName, overriddenIn]; done) | decide +kernel
theorem ef_wd_0_1 (m : MethodId) (o0 : Addr) : entryFrame m #[(.ref o0), (.long (0 : Int64))] 3 = mkF m 0 #[.val (.ref o0), .val (.long (0 : Int64)), .second] [] := by first | (simp [entryFrame, mkF, argsToLocals, Value.category]; done) | rfl
set_option maxRecDepth 65536 in
set_option maxHeartbeats 40000000 in
theorem wd_0_1 (l : Launch) (Z : State) (a0 : Array Value) (hw : ∀ d ∈ tables_1, d.before a0 Z = true) (o0 : Addr) (bt : Int64) (pg : Addr) (kp : ClassId) (w0 : Addr) (k0_ : ClassId) (x0_0 : Int64) (x0_1 : Int64) (x0_2 : Int64) (x0_3 : Int64) (h0 : Heap) (P0 : Fld Z h0 o0 "com/example/gist_sketch/gistsketch/format/BitArray" "bits" "J" (.long bt)) (P1 : Fld Z h0 o0 "com/example/gist_sketch/gistsketch/format/BitArray" "pages" "[[J" (.ref pg)) (P2 : Arv Z h0 pg kp (.array .long) (1 : Int32) [(.ref w0)] .null) (P3 : Arv Z h0 w0 k0_ .long (4 : Int32) [(.long x0_0), (.long x0_1), (.long x0_2), (.long x0_3)] (.long (0 : Int64))) :
    own_Met l Z (⟨"com/example/gist_sketch/gistsketch/format/BitArray", "word", "(J)J"⟩ : MethodName) prog_31_method_11_code 3 (some .long) [] ({ frames := 0, cells := 0, slots := 0, locals := 0 } : Room) #[(.ref o0), (.long (0 : Int64))] h0 0 0 (fun v h L => v = some (.long x0_0) ∧ h = h0 ∧ L = []) := by
  refine own_met (plainFor_of_name pn_wd_0_1) ?_
  intro p e s m below meth c s₁ Bd hml0 hZ X0 e0
  have hx := Bd.exec
  have hby := Bd.bytes
  have hml : c.maxLocals = 3 := hml0
  have hown : s.vm.findClass "com/example/gist_sketch/gistsketch/format/BitArray" = some m.cls := findClass_of_methodNamed Bd.named
  have hnm := (name_of_methodNamed Bd.named Bd.method).1
  refine own_cast (ef_wd_0_1 m o0) ?_
  generalize hQQ : (fun (v : Option Value) (h : Heap) (L : List Loc) => v = some (.long x0_0) ∧ h = h0 ∧ L = []) = QQ
  refine own_go (g' := (mkF m 1 #[.val (.ref o0), .val (.long (0 : Int64)), .second] [(.ref o0)])) (fun _ kgo => XS.aloadN X0.here hx rfl (hb hby d11_0) rfl rfl kgo) ?_
  obtain ⟨T1, X1, e1, st1⟩ := getF X0 hx hZ hown (host := "") (Or.inl (hw _ (List.mem_of_getElem? (i := 26) rfl))) Via.refl e0 P1 (g := (mkF m 1 #[.val (.ref o0), .val (.long (0 : Int64)), .second] [(.ref o0)])) rfl rfl (hb hby d11_1)
  refine own_go (g' := (mkF m 4 #[.val (.ref o0), .val (.long (0 : Int64)), .second] [(.ref pg)])) (st1) ?_
  refine own_go (g' := (mkF m 5 #[.val (.ref o0), .val (.long (0 : Int64)), .second] [(.long (0 : Int64)), (.ref pg)])) (fun _ kgo => XS.lloadN X1.here hx rfl (hb hby d11_4) rfl kgo) ?_
  refine own_go (g' := (mkF m 7 #[.val (.ref o0), .val (.long (0 : Int64)), .second] [(.int (25 : Int32)), (.long (0 : Int64)), (.ref pg)])) (fun _ kgo => XS.bipush X1.here hx rfl (hb hby d11_5) kgo) ?_
  refine own_go (g' := (mkF m 8 #[.val (.ref o0), .val (.long (0 : Int64)), .second] [(.long (0 : Int64)), (.ref pg)])) (fun _ kgo => XS.lushr X1.here hx rfl (hb hby d11_7) rfl kgo) ?_
  refine own_go (g' := (mkF m 9 #[.val (.ref o0), .val (.long (0 : Int64)), .second] [(.int (0 : Int32)), (.ref pg)])) (fun _ kgo => XS.l2i X1.here hx rfl (hb hby d11_8) rfl kgo) ?_
  obtain ⟨cl2, Ar2, qk2, sz2, nn2, Hs2, Gs2⟩ := id P2
  have hin2 : ¬ ((0 : Int32) < 0 ∨ cl2.slots.size ≤ ((0 : Int32)).toNatClampNeg) := inb_of sz2 ⟨by decide, by decide⟩
  have hat2 : cl2.slots[((0 : Int32)).toNatClampNeg]? = some (.ref w0) := Has.at Hs2 hin2 rfl
  refine own_go (g' := (mkF m 10 #[.val (.ref o0), .val (.long (0 : Int64)), .second] [(.ref w0)])) (X1.aaload hx (j := (0 : Int32)) (v := (.ref w0)) (by rw [e1]; exact Ar2.1) (State.isArrayOf_alike hZ.alike Ar2.2.1) rfl Ar2.2.2 hin2 hat2 (g := (mkF m 9 #[.val (.ref o0), .val (.long (0 : Int64)), .second] [(.int (0 : Int32)), (.ref pg)])) rfl rfl (hb hby d11_9)) ?_
  refine own_go (g' := (mkF m 11 #[.val (.ref o0), .val (.long (0 : Int64)), .second] [(.long (0 : Int64)), (.ref w0)])) (fun _ kgo => XS.lloadN X1.here hx rfl (hb hby d11_10) rfl kgo) ?_
  refine own_go (g' := (mkF m 12 #[.val (.ref o0), .val (.long (0 : Int64)), .second] [(.int (0 : Int32)), (.ref w0)])) (fun _ kgo => XS.l2i X1.here hx rfl (hb hby d11_11) rfl kgo) ?_
  refine own_go (g' := (mkF m 14 #[.val (.ref o0), .val (.long (0 : Int64)), .second] [(.int (33554431 : Int32)), (.int (0 : Int32)), (.ref w0)])) (X1.ldcInt hx hown (mvT hZ (hw _ (List.mem_of_getElem? (i := 51) rfl))) (g := (mkF m 12 #[.val (.ref o0), .val (.long (0 : Int64)), .second] [(.int (0 : Int32)), (.ref w0)])) rfl (hb hby d11_12)) ?_
  refine own_go (g' := (mkF m 15 #[.val (.ref o0), .val (.long (0 : Int64)), .second] [(.int (0 : Int32)), (.ref w0)])) (fun _ kgo => XS.iand X1.here hx rfl (hb hby d11_14) rfl kgo) ?_
  obtain ⟨cl3, Ar3, qk3, sz3, nn3, Hs3, Gs3⟩ := id P3
  have hin3 : ¬ ((0 : Int32) < 0 ∨ cl3.slots.size ≤ ((0 : Int32)).toNatClampNeg) := inb_of sz3 ⟨by decide, by decide⟩
  have hat3 : cl3.slots[((0 : Int32)).toNatClampNeg]? = some (.long x0_0) := Has.at Hs3 hin3 rfl
  refine own_go (g' := (mkF m 16 #[.val (.ref o0), .val (.long (0 : Int64)), .second] [(.long x0_0)])) (X1.laload hx (j := (0 : Int32)) (v := (.long x0_0)) (by rw [e1]; exact Ar3.1) (State.isArrayOf_alike hZ.alike Ar3.2.1) Ar3.2.2 hin3 hat3 (g := (mkF m 15 #[.val (.ref o0), .val (.long (0 : Int64)), .second] [(.int (0 : Int32)), (.ref w0)])) rfl rfl (hb hby d11_15)) ?_
  refine own_retJ X1 hx Bd.returns Bd.notSynchronized (hb hby d11_16) (by decide) (by decide) ?_
  show QQ _ T1.heap _
  rw [e1]
  rw [← hQQ]
  exact ⟨rfl, rfl, rfl⟩
theorem pn_wd_1_1 : plainName "com/example/gist_sketch/gistsketch/format/BitArray" = true := by first | (simp [plainName, overriddenIn]; done) | decide +kernel
theorem ef_wd_1_1 (m : MethodId) (o0 : Addr) : entryFrame m #[(.ref o0), (.long (1 : Int64))] 3 = mkF m 0 #[.val (.ref o0), .val (.long (1 : Int64)), .second] [] := by first | (simp [entryFrame, mkF, argsToLocals, Value.category]; done) | rfl
set_option maxRecDepth 65536 in
set_option maxHeartbeats 40000000 in
theorem wd_1_1 (l : Launch) (Z : State) (a0 : Array Value) (hw : ∀ d ∈ tables_1, d.before a0 Z = true) (o0 : Addr) (bt : Int64) (pg : Addr) (kp : ClassId) (w0 : Addr) (k0_ : ClassId) (x0_0 : Int64) (x0_1 : Int64) (x0_2 : Int64) (x0_3 : Int64) (h0 : Heap) (P0 : Fld Z h0 o0 "com/example/gist_sketch/gistsketch/format/BitArray" "bits" "J" (.long bt)) (P1 : Fld Z h0 o0 "com/example/gist_sketch/gistsketch/format/BitArray" "pages" "[[J" (.ref pg)) (P2 : Arv Z h0 pg kp (.array .long) (1 : Int32) [(.ref w0)] .null) (P3 : Arv Z h0 w0 k0_ .long (4 : Int32) [(.long x0_0), (.long x0_1), (.long x0_2), (.long x0_3)] (.long (0 : Int64))) :
    own_Met l Z (⟨"com/example/gist_sketch/gistsketch/format/BitArray", "word", "(J)J"⟩ : MethodName) prog_31_method_11_code 3 (some .long) [] ({ frames := 0, cells := 0, slots := 0, locals := 0 } : Room) #[(.ref o0), (.long (1 : Int64))] h0 0 0 (fun v h L => v = some (.long x0_1) ∧ h = h0 ∧ L = []) := by
  refine own_met (plainFor_of_name pn_wd_1_1) ?_
  intro p e s m below meth c s₁ Bd hml0 hZ X0 e0
  have hx := Bd.exec
  have hby := Bd.bytes
  have hml : c.maxLocals = 3 := hml0
  have hown : s.vm.findClass "com/example/gist_sketch/gistsketch/format/BitArray" = some m.cls := findClass_of_methodNamed Bd.named
  have hnm := (name_of_methodNamed Bd.named Bd.method).1
  refine own_cast (ef_wd_1_1 m o0) ?_
  generalize hQQ : (fun (v : Option Value) (h : Heap) (L : List Loc) => v = some (.long x0_1) ∧ h = h0 ∧ L = []) = QQ
  refine own_go (g' := (mkF m 1 #[.val (.ref o0), .val (.long (1 : Int64)), .second] [(.ref o0)])) (fun _ kgo => XS.aloadN X0.here hx rfl (hb hby d11_0) rfl rfl kgo) ?_
  obtain ⟨T1, X1, e1, st1⟩ := getF X0 hx hZ hown (host := "") (Or.inl (hw _ (List.mem_of_getElem? (i := 26) rfl))) Via.refl e0 P1 (g := (mkF m 1 #[.val (.ref o0), .val (.long (1 : Int64)), .second] [(.ref o0)])) rfl rfl (hb hby d11_1)
  refine own_go (g' := (mkF m 4 #[.val (.ref o0), .val (.long (1 : Int64)), .second] [(.ref pg)])) (st1) ?_
  refine own_go (g' := (mkF m 5 #[.val (.ref o0), .val (.long (1 : Int64)), .second] [(.long (1 : Int64)), (.ref pg)])) (fun _ kgo => XS.lloadN X1.here hx rfl (hb hby d11_4) rfl kgo) ?_
  refine own_go (g' := (mkF m 7 #[.val (.ref o0), .val (.long (1 : Int64)), .second] [(.int (25 : Int32)), (.long (1 : Int64)), (.ref pg)])) (fun _ kgo => XS.bipush X1.here hx rfl (hb hby d11_5) kgo) ?_
  refine own_go (g' := (mkF m 8 #[.val (.ref o0), .val (.long (1 : Int64)), .second] [(.long (0 : Int64)), (.ref pg)])) (fun _ kgo => XS.lushr X1.here hx rfl (hb hby d11_7) rfl kgo) ?_
  refine own_go (g' := (mkF m 9 #[.val (.ref o0), .val (.long (1 : Int64)), .second] [(.int (0 : Int32)), (.ref pg)])) (fun _ kgo => XS.l2i X1.here hx rfl (hb hby d11_8) rfl kgo) ?_
  obtain ⟨cl2, Ar2, qk2, sz2, nn2, Hs2, Gs2⟩ := id P2
  have hin2 : ¬ ((0 : Int32) < 0 ∨ cl2.slots.size ≤ ((0 : Int32)).toNatClampNeg) := inb_of sz2 ⟨by decide, by decide⟩
  have hat2 : cl2.slots[((0 : Int32)).toNatClampNeg]? = some (.ref w0) := Has.at Hs2 hin2 rfl
  refine own_go (g' := (mkF m 10 #[.val (.ref o0), .val (.long (1 : Int64)), .second] [(.ref w0)])) (X1.aaload hx (j := (0 : Int32)) (v := (.ref w0)) (by rw [e1]; exact Ar2.1) (State.isArrayOf_alike hZ.alike Ar2.2.1) rfl Ar2.2.2 hin2 hat2 (g := (mkF m 9 #[.val (.ref o0), .val (.long (1 : Int64)), .second] [(.int (0 : Int32)), (.ref pg)])) rfl rfl (hb hby d11_9)) ?_
  refine own_go (g' := (mkF m 11 #[.val (.ref o0), .val (.long (1 : Int64)), .second] [(.long (1 : Int64)), (.ref w0)])) (fun _ kgo => XS.lloadN X1.here hx rfl (hb hby d11_10) rfl kgo) ?_
  refine own_go (g' := (mkF m 12 #[.val (.ref o0), .val (.long (1 : Int64)), .second] [(.int (1 : Int32)), (.ref w0)])) (fun _ kgo => XS.l2i X1.here hx rfl (hb hby d11_11) rfl kgo) ?_
  refine own_go (g' := (mkF m 14 #[.val (.ref o0), .val (.long (1 : Int64)), .second] [(.int (33554431 : Int32)), (.int (1 : Int32)), (.ref w0)])) (X1.ldcInt hx hown (mvT hZ (hw _ (List.mem_of_getElem? (i := 51) rfl))) (g := (mkF m 12 #[.val (.ref o0), .val (.long (1 : Int64)), .second] [(.int (1 : Int32)), (.ref w0)])) rfl (hb hby d11_12)) ?_
  refine own_go (g' := (mkF m 15 #[.val (.ref o0), .val (.long (1 : Int64)), .second] [(.int (1 : Int32)), (.ref w0)])) (fun _ kgo => XS.iand X1.here hx rfl (hb hby d11_14) rfl kgo) ?_
  obtain ⟨cl3, Ar3, qk3, sz3, nn3, Hs3, Gs3⟩ := id P3
  have hin3 : ¬ ((1 : Int32) < 0 ∨ cl3.slots.size ≤ ((1 : Int32)).toNatClampNeg) := inb_of sz3 ⟨by decide, by decide⟩
  have hat3 : cl3.slots[((1 : Int32)).toNatClampNeg]? = some (.long x0_1) := Has.at Hs3 hin3 rfl
  refine own_go (g' := (mkF m 16 #[.val (.ref o0), .val (.long (1 : Int64)), .second] [(.long x0_1)])) (X1.laload hx (j := (1 : Int32)) (v := (.long x0_1)) (by rw [e1]; exact Ar3.1) (State.isArrayOf_alike hZ.alike Ar3.2.1) Ar3.2.2 hin3 hat3 (g := (mkF m 15 #[.val (.ref o0), .val (.long (1 : Int64)), .second] [(.int (1 : Int32)), (.ref w0)])) rfl rfl (hb hby d11_15)) ?_
  refine own_retJ X1 hx Bd.returns Bd.notSynchronized (hb hby d11_16) (by decide) (by decide) ?_
  show QQ _ T1.heap _
  rw [e1]
  rw [← hQQ]
  exact ⟨rfl, rfl, rfl⟩
theorem pn_wd_2_1 : plainName "com/example/gist_sketch/gistsketch/format/BitArray" = true := by first | (simp [plainName, overriddenIn]; done) | decide +kernel
theorem ef_wd_2_1 (m : MethodId) (o0 : Addr) : entryFrame m #[(.ref o0), (.long (2 : Int64))] 3 = mkF m 0 #[.val (.ref o0), .val (.long (2 : Int64)), .second] [] := by first | (simp [entryFrame, mkF, argsToLocals, Value.category]; done) | rfl
set_option maxRecDepth 65536 in
set_option maxHeartbeats 40000000 in
theorem wd_2_1 (l : Launch) (Z : State) (a0 : Array Value) (hw : ∀ d ∈ tables_1, d.before a0 Z = true) (o0 : Addr) (bt : Int64) (pg : Addr) (kp : ClassId) (w0 : Addr) (k0_ : ClassId) (x0_0 : Int64) (x0_1 : Int64) (x0_2 : Int64) (x0_3 : Int64) (h0 : Heap) (P0 : Fld Z h0 o0 "com/example/gist_sketch/gistsketch/format/BitArray" "bits" "J" (.long bt)) (P1 : Fld Z h0 o0 "com/example/gist_sketch/gistsketch/format/BitArray" "pages" "[[J" (.ref pg)) (P2 : Arv Z h0 pg kp (.array .long) (1 : Int32) [(.ref w0)] .null) (P3 : Arv Z h0 w0 k0_ .long (4 : Int32) [(.long x0_0), (.long x0_1), (.long x0_2), (.long x0_3)] (.long (0 : Int64))) :
    own_Met l Z (⟨"com/example/gist_sketch/gistsketch/format/BitArray", "word", "(J)J"⟩ : MethodName) prog_31_method_11_code 3 (some .long) [] ({ frames := 0, cells := 0, slots := 0, locals := 0 } : Room) #[(.ref o0), (.long (2 : Int64))] h0 0 0 (fun v h L => v = some (.long x0_2) ∧ h = h0 ∧ L = []) := by
  refine own_met (plainFor_of_name pn_wd_2_1) ?_
  intro p e s m below meth c s₁ Bd hml0 hZ X0 e0
  have hx := Bd.exec
  have hby := Bd.bytes
  have hml : c.maxLocals = 3 := hml0
  have hown : s.vm.findClass "com/example/gist_sketch/gistsketch/format/BitArray" = some m.cls := findClass_of_methodNamed Bd.named
  have hnm := (name_of_methodNamed Bd.named Bd.method).1
  refine own_cast (ef_wd_2_1 m o0) ?_
  generalize hQQ : (fun (v : Option Value) (h : Heap) (L : List Loc) => v = some (.long x0_2) ∧ h = h0 ∧ L = []) = QQ
  refine own_go (g' := (mkF m 1 #[.val (.ref o0), .val (.long (2 : Int64)), .second] [(.ref o0)])) (fun _ kgo => XS.aloadN X0.here hx rfl (hb hby d11_0) rfl rfl kgo) ?_
  obtain ⟨T1, X1, e1, st1⟩ := getF X0 hx hZ hown (host := "") (Or.inl (hw _ (List.mem_of_getElem? (i := 26) rfl))) Via.refl e0 P1 (g := (mkF m 1 #[.val (.ref o0), .val (.long (2 : Int64)), .second] [(.ref o0)])) rfl rfl (hb hby d11_1)
  refine own_go (g' := (mkF m 4 #[.val (.ref o0), .val (.long (2 : Int64)), .second] [(.ref pg)])) (st1) ?_
  refine own_go (g' := (mkF m 5 #[.val (.ref o0), .val (.long (2 : Int64)), .second] [(.long (2 : Int64)), (.ref pg)])) (fun _ kgo => XS.lloadN X1.here hx rfl (hb hby d11_4) rfl kgo) ?_
  refine own_go (g' := (mkF m 7 #[.val (.ref o0), .val (.long (2 : Int64)), .second] [(.int (25 : Int32)), (.long (2 : Int64)), (.ref pg)])) (fun _ kgo => XS.bipush X1.here hx rfl (hb hby d11_5) kgo) ?_
  refine own_go (g' := (mkF m 8 #[.val (.ref o0), .val (.long (2 : Int64)), .second] [(.long (0 : Int64)), (.ref pg)])) (fun _ kgo => XS.lushr X1.here hx rfl (hb hby d11_7) rfl kgo) ?_
  refine own_go (g' := (mkF m 9 #[.val (.ref o0), .val (.long (2 : Int64)), .second] [(.int (0 : Int32)), (.ref pg)])) (fun _ kgo => XS.l2i X1.here hx rfl (hb hby d11_8) rfl kgo) ?_
  obtain ⟨cl2, Ar2, qk2, sz2, nn2, Hs2, Gs2⟩ := id P2
  have hin2 : ¬ ((0 : Int32) < 0 ∨ cl2.slots.size ≤ ((0 : Int32)).toNatClampNeg) := inb_of sz2 ⟨by decide, by decide⟩
  have hat2 : cl2.slots[((0 : Int32)).toNatClampNeg]? = some (.ref w0) := Has.at Hs2 hin2 rfl
  refine own_go (g' := (mkF m 10 #[.val (.ref o0), .val (.long (2 : Int64)), .second] [(.ref w0)])) (X1.aaload hx (j := (0 : Int32)) (v := (.ref w0)) (by rw [e1]; exact Ar2.1) (State.isArrayOf_alike hZ.alike Ar2.2.1) rfl Ar2.2.2 hin2 hat2 (g := (mkF m 9 #[.val (.ref o0), .val (.long (2 : Int64)), .second] [(.int (0 : Int32)), (.ref pg)])) rfl rfl (hb hby d11_9)) ?_
  refine own_go (g' := (mkF m 11 #[.val (.ref o0), .val (.long (2 : Int64)), .second] [(.long (2 : Int64)), (.ref w0)])) (fun _ kgo => XS.lloadN X1.here hx rfl (hb hby d11_10) rfl kgo) ?_
  refine own_go (g' := (mkF m 12 #[.val (.ref o0), .val (.long (2 : Int64)), .second] [(.int (2 : Int32)), (.ref w0)])) (fun _ kgo => XS.l2i X1.here hx rfl (hb hby d11_11) rfl kgo) ?_
  refine own_go (g' := (mkF m 14 #[.val (.ref o0), .val (.long (2 : Int64)), .second] [(.int (33554431 : Int32)), (.int (2 : Int32)), (.ref w0)])) (X1.ldcInt hx hown (mvT hZ (hw _ (List.mem_of_getElem? (i := 51) rfl))) (g := (mkF m 12 #[.val (.ref o0), .val (.long (2 : Int64)), .second] [(.int (2 : Int32)), (.ref w0)])) rfl (hb hby d11_12)) ?_
  refine own_go (g' := (mkF m 15 #[.val (.ref o0), .val (.long (2 : Int64)), .second] [(.int (2 : Int32)), (.ref w0)])) (fun _ kgo => XS.iand X1.here hx rfl (hb hby d11_14) rfl kgo) ?_
  obtain ⟨cl3, Ar3, qk3, sz3, nn3, Hs3, Gs3⟩ := id P3
  have hin3 : ¬ ((2 : Int32) < 0 ∨ cl3.slots.size ≤ ((2 : Int32)).toNatClampNeg) := inb_of sz3 ⟨by decide, by decide⟩
  have hat3 : cl3.slots[((2 : Int32)).toNatClampNeg]? = some (.long x0_2) := Has.at Hs3 hin3 rfl
  refine own_go (g' := (mkF m 16 #[.val (.ref o0), .val (.long (2 : Int64)), .second] [(.long x0_2)])) (X1.laload hx (j := (2 : Int32)) (v := (.long x0_2)) (by rw [e1]; exact Ar3.1) (State.isArrayOf_alike hZ.alike Ar3.2.1) Ar3.2.2 hin3 hat3 (g := (mkF m 15 #[.val (.ref o0), .val (.long (2 : Int64)), .second] [(.int (2 : Int32)), (.ref w0)])) rfl rfl (hb hby d11_15)) ?_
  refine own_retJ X1 hx Bd.returns Bd.notSynchronized (hb hby d11_16) (by decide) (by decide) ?_
  show QQ _ T1.heap _
  rw [e1]
  rw [← hQQ]
  exact ⟨rfl, rfl, rfl⟩
theorem pn_wd_3_1 : plainName "com/example/gist_sketch/gistsketch/format/BitArray" = true := by first | (simp [plainName, overriddenIn]; done) | decide +kernel
theorem ef_wd_3_1 (m : MethodId) (o0 : Addr) : entryFrame m #[(.ref o0), (.long (3 : Int64))] 3 = mkF m 0 #[.val (.ref o0), .val (.long (3 : Int64)), .second] [] := by first | (simp [entryFrame, mkF, argsToLocals, Value.category]; done) | rfl
set_option maxRecDepth 65536 in
set_option maxHeartbeats 40000000 in
theorem wd_3_1 (l : Launch) (Z : State) (a0 : Array Value) (hw : ∀ d ∈ tables_1, d.before a0 Z = true) (o0 : Addr) (bt : Int64) (pg : Addr) (kp : ClassId) (w0 : Addr) (k0_ : ClassId) (x0_0 : Int64) (x0_1 : Int64) (x0_2 : Int64) (x0_3 : Int64) (h0 : Heap) (P0 : Fld Z h0 o0 "com/example/gist_sketch/gistsketch/format/BitArray" "bits" "J" (.long bt)) (P1 : Fld Z h0 o0 "com/example/gist_sketch/gistsketch/format/BitArray" "pages" "[[J" (.ref pg)) (P2 : Arv Z h0 pg kp (.array .long) (1 : Int32) [(.ref w0)] .null) (P3 : Arv Z h0 w0 k0_ .long (4 : Int32) [(.long x0_0), (.long x0_1), (.long x0_2), (.long x0_3)] (.long (0 : Int64))) :
    own_Met l Z (⟨"com/example/gist_sketch/gistsketch/format/BitArray", "word", "(J)J"⟩ : MethodName) prog_31_method_11_code 3 (some .long) [] ({ frames := 0, cells := 0, slots := 0, locals := 0 } : Room) #[(.ref o0), (.long (3 : Int64))] h0 0 0 (fun v h L => v = some (.long x0_3) ∧ h = h0 ∧ L = []) := by
  refine own_met (plainFor_of_name pn_wd_3_1) ?_
  intro p e s m below meth c s₁ Bd hml0 hZ X0 e0
  have hx := Bd.exec
  have hby := Bd.bytes
  have hml : c.maxLocals = 3 := hml0
  have hown : s.vm.findClass "com/example/gist_sketch/gistsketch/format/BitArray" = some m.cls := findClass_of_methodNamed Bd.named
  have hnm := (name_of_methodNamed Bd.named Bd.method).1
  refine own_cast (ef_wd_3_1 m o0) ?_
  generalize hQQ : (fun (v : Option Value) (h : Heap) (L : List Loc) => v = some (.long x0_3) ∧ h = h0 ∧ L = []) = QQ
  refine own_go (g' := (mkF m 1 #[.val (.ref o0), .val (.long (3 : Int64)), .second] [(.ref o0)])) (fun _ kgo => XS.aloadN X0.here hx rfl (hb hby d11_0) rfl rfl kgo) ?_
  obtain ⟨T1, X1, e1, st1⟩ := getF X0 hx hZ hown (host := "") (Or.inl (hw _ (List.mem_of_getElem? (i := 26) rfl))) Via.refl e0 P1 (g := (mkF m 1 #[.val (.ref o0), .val (.long (3 : Int64)), .second] [(.ref o0)])) rfl rfl (hb hby d11_1)
  refine own_go (g' := (mkF m 4 #[.val (.ref o0), .val (.long (3 : Int64)), .second] [(.ref pg)])) (st1) ?_
  refine own_go (g' := (mkF m 5 #[.val (.ref o0), .val (.long (3 : Int64)), .second] [(.long (3 : Int64)), (.ref pg)])) (fun _ kgo => XS.lloadN X1.here hx rfl (hb hby d11_4) rfl kgo) ?_
  refine own_go (g' := (mkF m 7 #[.val (.ref o0), .val (.long (3 : Int64)), .second] [(.int (25 : Int32)), (.long (3 : Int64)), (.ref pg)])) (fun _ kgo => XS.bipush X1.here hx rfl (hb hby d11_5) kgo) ?_
  refine own_go (g' := (mkF m 8 #[.val (.ref o0), .val (.long (3 : Int64)), .second] [(.long (0 : Int64)), (.ref pg)])) (fun _ kgo => XS.lushr X1.here hx rfl (hb hby d11_7) rfl kgo) ?_
  refine own_go (g' := (mkF m 9 #[.val (.ref o0), .val (.long (3 : Int64)), .second] [(.int (0 : Int32)), (.ref pg)])) (fun _ kgo => XS.l2i X1.here hx rfl (hb hby d11_8) rfl kgo) ?_
  obtain ⟨cl2, Ar2, qk2, sz2, nn2, Hs2, Gs2⟩ := id P2
  have hin2 : ¬ ((0 : Int32) < 0 ∨ cl2.slots.size ≤ ((0 : Int32)).toNatClampNeg) := inb_of sz2 ⟨by decide, by decide⟩
  have hat2 : cl2.slots[((0 : Int32)).toNatClampNeg]? = some (.ref w0) := Has.at Hs2 hin2 rfl
  refine own_go (g' := (mkF m 10 #[.val (.ref o0), .val (.long (3 : Int64)), .second] [(.ref w0)])) (X1.aaload hx (j := (0 : Int32)) (v := (.ref w0)) (by rw [e1]; exact Ar2.1) (State.isArrayOf_alike hZ.alike Ar2.2.1) rfl Ar2.2.2 hin2 hat2 (g := (mkF m 9 #[.val (.ref o0), .val (.long (3 : Int64)), .second] [(.int (0 : Int32)), (.ref pg)])) rfl rfl (hb hby d11_9)) ?_
  refine own_go (g' := (mkF m 11 #[.val (.ref o0), .val (.long (3 : Int64)), .second] [(.long (3 : Int64)), (.ref w0)])) (fun _ kgo => XS.lloadN X1.here hx rfl (hb hby d11_10) rfl kgo) ?_
  refine own_go (g' := (mkF m 12 #[.val (.ref o0), .val (.long (3 : Int64)), .second] [(.int (3 : Int32)), (.ref w0)])) (fun _ kgo => XS.l2i X1.here hx rfl (hb hby d11_11) rfl kgo) ?_
  refine own_go (g' := (mkF m 14 #[.val (.ref o0), .val (.long (3 : Int64)), .second] [(.int (33554431 : Int32)), (.int (3 : Int32)), (.ref w0)])) (X1.ldcInt hx hown (mvT hZ (hw _ (List.mem_of_getElem? (i := 51) rfl))) (g := (mkF m 12 #[.val (.ref o0), .val (.long (3 : Int64)), .second] [(.int (3 : Int32)), (.ref w0)])) rfl (hb hby d11_12)) ?_
  refine own_go (g' := (mkF m 15 #[.val (.ref o0), .val (.long (3 : Int64)), .second] [(.int (3 : Int32)), (.ref w0)])) (fun _ kgo => XS.iand X1.here hx rfl (hb hby d11_14) rfl kgo) ?_
  obtain ⟨cl3, Ar3, qk3, sz3, nn3, Hs3, Gs3⟩ := id P3
  have hin3 : ¬ ((3 : Int32) < 0 ∨ cl3.slots.size ≤ ((3 : Int32)).toNatClampNeg) := inb_of sz3 ⟨by decide, by decide⟩
  have hat3 : cl3.slots[((3 : Int32)).toNatClampNeg]? = some (.long x0_3) := Has.at Hs3 hin3 rfl
  refine own_go (g' := (mkF m 16 #[.val (.ref o0), .val (.long (3 : Int64)), .second] [(.long x0_3)])) (X1.laload hx (j := (3 : Int32)) (v := (.long x0_3)) (by rw [e1]; exact Ar3.1) (State.isArrayOf_alike hZ.alike Ar3.2.1) Ar3.2.2 hin3 hat3 (g := (mkF m 15 #[.val (.ref o0), .val (.long (3 : Int64)), .second] [(.int (3 : Int32)), (.ref w0)])) rfl rfl (hb hby d11_15)) ?_
  refine own_retJ X1 hx Bd.returns Bd.notSynchronized (hb hby d11_16) (by decide) (by decide) ?_
  show QQ _ T1.heap _
  rw [e1]
  rw [← hQQ]
  exact ⟨rfl, rfl, rfl⟩
theorem pn_wd_0_2 : plainName "com/example/gist_sketch/gistsketch/format/BitArray" = true := by first | (simp [plainName, overriddenIn]; done) | decide +kernel
theorem ef_wd_0_2 (m : MethodId) (o0 : Addr) : entryFrame m #[(.ref o0), (.long (0 : Int64))] 3 = mkF m 0 #[.val (.ref o0), .val (.long (0 : Int64)), .second] [] := by first | (simp [entryFrame, mkF, argsToLocals, Value.category]; done) | rfl
set_option maxRecDepth 65536 in
set_option maxHeartbeats 40000000 in
theorem wd_0_2 (l : Launch) (Z : State) (a0 : Array Value) (hw : ∀ d ∈ tables_1, d.before a0 Z = true) (o0 : Addr) (bt : Int64) (pg : Addr) (kp : ClassId) (w0 : Addr) (w1 : Addr) (k0_ : ClassId) (k1_ : ClassId) (x0_0 : Int64) (x0_1 : Int64) (x1_0 : Int64) (x1_1 : Int64) (h0 : Heap) (P0 : Fld Z h0 o0 "com/example/gist_sketch/gistsketch/format/BitArray" "bits" "J" (.long bt)) (P1 : Fld Z h0 o0 "com/example/gist_sketch/gistsketch/format/BitArray" "pages" "[[J" (.ref pg)) (P2 : Arv Z h0 pg kp (.array .long) (2 : Int32) [(.ref w0), (.ref w1)] .null) (P3 : Arv Z h0 w0 k0_ .long (2 : Int32) [(.long x0_0), (.long x0_1)] (.long (0 : Int64))) (P4 : Arv Z h0 w1 k1_ .long (2 : Int32) [(.long x1_0), (.long x1_1)] (.long (0 : Int64))) :
    own_Met l Z (⟨"com/example/gist_sketch/gistsketch/format/BitArray", "word", "(J)J"⟩ : MethodName) prog_31_method_11_code 3 (some .long) [] ({ frames := 0, cells := 0, slots := 0, locals := 0 } : Room) #[(.ref o0), (.long (0 : Int64))] h0 0 0 (fun v h L => v = some (.long x0_0) ∧ h = h0 ∧ L = []) := by
  refine own_met (plainFor_of_name pn_wd_0_2) ?_
  intro p e s m below meth c s₁ Bd hml0 hZ X0 e0
  have hx := Bd.exec
  have hby := Bd.bytes
  have hml : c.maxLocals = 3 := hml0
  have hown : s.vm.findClass "com/example/gist_sketch/gistsketch/format/BitArray" = some m.cls := findClass_of_methodNamed Bd.named
  have hnm := (name_of_methodNamed Bd.named Bd.method).1
  refine own_cast (ef_wd_0_2 m o0) ?_
  generalize hQQ : (fun (v : Option Value) (h : Heap) (L : List Loc) => v = some (.long x0_0) ∧ h = h0 ∧ L = []) = QQ
  refine own_go (g' := (mkF m 1 #[.val (.ref o0), .val (.long (0 : Int64)), .second] [(.ref o0)])) (fun _ kgo => XS.aloadN X0.here hx rfl (hb hby d11_0) rfl rfl kgo) ?_
  obtain ⟨T1, X1, e1, st1⟩ := getF X0 hx hZ hown (host := "") (Or.inl (hw _ (List.mem_of_getElem? (i := 26) rfl))) Via.refl e0 P1 (g := (mkF m 1 #[.val (.ref o0), .val (.long (0 : Int64)), .second] [(.ref o0)])) rfl rfl (hb hby d11_1)
  refine own_go (g' := (mkF m 4 #[.val (.ref o0), .val (.long (0 : Int64)), .second] [(.ref pg)])) (st1) ?_
  refine own_go (g' := (mkF m 5 #[.val (.ref o0), .val (.long (0 : Int64)), .second] [(.long (0 : Int64)), (.ref pg)])) (fun _ kgo => XS.lloadN X1.here hx rfl (hb hby d11_4) rfl kgo) ?_
  refine own_go (g' := (mkF m 7 #[.val (.ref o0), .val (.long (0 : Int64)), .second] [(.int (25 : Int32)), (.long (0 : Int64)), (.ref pg)])) (fun _ kgo => XS.bipush X1.here hx rfl (hb hby d11_5) kgo) ?_
  refine own_go (g' := (mkF m 8 #[.val (.ref o0), .val (.long (0 : Int64)), .second] [(.long (0 : Int64)), (.ref pg)])) (fun _ kgo => XS.lushr X1.here hx rfl (hb hby d11_7) rfl kgo) ?_
  refine own_go (g' := (mkF m 9 #[.val (.ref o0), .val (.long (0 : Int64)), .second] [(.int (0 : Int32)), (.ref pg)])) (fun _ kgo => XS.l2i X1.here hx rfl (hb hby d11_8) rfl kgo) ?_
  obtain ⟨cl2, Ar2, qk2, sz2, nn2, Hs2, Gs2⟩ := id P2
  have hin2 : ¬ ((0 : Int32) < 0 ∨ cl2.slots.size ≤ ((0 : Int32)).toNatClampNeg) := inb_of sz2 ⟨by decide, by decide⟩
  have hat2 : cl2.slots[((0 : Int32)).toNatClampNeg]? = some (.ref w0) := Has.at Hs2 hin2 rfl
  refine own_go (g' := (mkF m 10 #[.val (.ref o0), .val (.long (0 : Int64)), .second] [(.ref w0)])) (X1.aaload hx (j := (0 : Int32)) (v := (.ref w0)) (by rw [e1]; exact Ar2.1) (State.isArrayOf_alike hZ.alike Ar2.2.1) rfl Ar2.2.2 hin2 hat2 (g := (mkF m 9 #[.val (.ref o0), .val (.long (0 : Int64)), .second] [(.int (0 : Int32)), (.ref pg)])) rfl rfl (hb hby d11_9)) ?_
  refine own_go (g' := (mkF m 11 #[.val (.ref o0), .val (.long (0 : Int64)), .second] [(.long (0 : Int64)), (.ref w0)])) (fun _ kgo => XS.lloadN X1.here hx rfl (hb hby d11_10) rfl kgo) ?_
  refine own_go (g' := (mkF m 12 #[.val (.ref o0), .val (.long (0 : Int64)), .second] [(.int (0 : Int32)), (.ref w0)])) (fun _ kgo => XS.l2i X1.here hx rfl (hb hby d11_11) rfl kgo) ?_
  refine own_go (g' := (mkF m 14 #[.val (.ref o0), .val (.long (0 : Int64)), .second] [(.int (33554431 : Int32)), (.int (0 : Int32)), (.ref w0)])) (X1.ldcInt hx hown (mvT hZ (hw _ (List.mem_of_getElem? (i := 51) rfl))) (g := (mkF m 12 #[.val (.ref o0), .val (.long (0 : Int64)), .second] [(.int (0 : Int32)), (.ref w0)])) rfl (hb hby d11_12)) ?_
  refine own_go (g' := (mkF m 15 #[.val (.ref o0), .val (.long (0 : Int64)), .second] [(.int (0 : Int32)), (.ref w0)])) (fun _ kgo => XS.iand X1.here hx rfl (hb hby d11_14) rfl kgo) ?_
  obtain ⟨cl3, Ar3, qk3, sz3, nn3, Hs3, Gs3⟩ := id P3
  have hin3 : ¬ ((0 : Int32) < 0 ∨ cl3.slots.size ≤ ((0 : Int32)).toNatClampNeg) := inb_of sz3 ⟨by decide, by decide⟩
  have hat3 : cl3.slots[((0 : Int32)).toNatClampNeg]? = some (.long x0_0) := Has.at Hs3 hin3 rfl
  refine own_go (g' := (mkF m 16 #[.val (.ref o0), .val (.long (0 : Int64)), .second] [(.long x0_0)])) (X1.laload hx (j := (0 : Int32)) (v := (.long x0_0)) (by rw [e1]; exact Ar3.1) (State.isArrayOf_alike hZ.alike Ar3.2.1) Ar3.2.2 hin3 hat3 (g := (mkF m 15 #[.val (.ref o0), .val (.long (0 : Int64)), .second] [(.int (0 : Int32)), (.ref w0)])) rfl rfl (hb hby d11_15)) ?_
  refine own_retJ X1 hx Bd.returns Bd.notSynchronized (hb hby d11_16) (by decide) (by decide) ?_
  show QQ _ T1.heap _
  rw [e1]
  rw [← hQQ]
  exact ⟨rfl, rfl, rfl⟩
theorem pn_wd_1_2 : plainName "com/example/gist_sketch/gistsketch/format/BitArray" = true := by first | (simp [plainName, overriddenIn]; done) | decide +kernel
theorem ef_wd_1_2 (m : MethodId) (o0 : Addr) : entryFrame m #[(.ref o0), (.long (1 : Int64))] 3 = mkF m 0 #[.val (.ref o0), .val (.long (1 : Int64)), .second] [] := by first | (simp [entryFrame, mkF, argsToLocals, Value.category]; done) | rfl
set_option maxRecDepth 65536 in
set_option maxHeartbeats 40000000 in
theorem wd_1_2 (l : Launch) (Z : State) (a0 : Array Value) (hw : ∀ d ∈ tables_1, d.before a0 Z = true) (o0 : Addr) (bt : Int64) (pg : Addr) (kp : ClassId) (w0 : Addr) (w1 : Addr) (k0_ : ClassId) (k1_ : ClassId) (x0_0 : Int64) (x0_1 : Int64) (x1_0 : Int64) (x1_1 : Int64) (h0 : Heap) (P0 : Fld Z h0 o0 "com/example/gist_sketch/gistsketch/format/BitArray" "bits" "J" (.long bt)) (P1 : Fld Z h0 o0 "com/example/gist_sketch/gistsketch/format/BitArray" "pages" "[[J" (.ref pg)) (P2 : Arv Z h0 pg kp (.array .long) (2 : Int32) [(.ref w0), (.ref w1)] .null) (P3 : Arv Z h0 w0 k0_ .long (2 : Int32) [(.long x0_0), (.long x0_1)] (.long (0 : Int64))) (P4 : Arv Z h0 w1 k1_ .long (2 : Int32) [(.long x1_0), (.long x1_1)] (.long (0 : Int64))) :
    own_Met l Z (⟨"com/example/gist_sketch/gistsketch/format/BitArray", "word", "(J)J"⟩ : MethodName) prog_31_method_11_code 3 (some .long) [] ({ frames := 0, cells := 0, slots := 0, locals := 0 } : Room) #[(.ref o0), (.long (1 : Int64))] h0 0 0 (fun v h L => v = some (.long x0_1) ∧ h = h0 ∧ L = []) := by
  refine own_met (plainFor_of_name pn_wd_1_2) ?_
  intro p e s m below meth c s₁ Bd hml0 hZ X0 e0
  have hx := Bd.exec
  have hby := Bd.bytes
  have hml : c.maxLocals = 3 := hml0
  have hown : s.vm.findClass "com/example/gist_sketch/gistsketch/format/BitArray" = some m.cls := findClass_of_methodNamed Bd.named
  have hnm := (name_of_methodNamed Bd.named Bd.method).1
  refine own_cast (ef_wd_1_2 m o0) ?_
  generalize hQQ : (fun (v : Option Value) (h : Heap) (L : List Loc) => v = some (.long x0_1) ∧ h = h0 ∧ L = []) = QQ
  refine own_go (g' := (mkF m 1 #[.val (.ref o0), .val (.long (1 : Int64)), .second] [(.ref o0)])) (fun _ kgo => XS.aloadN X0.here hx rfl (hb hby d11_0) rfl rfl kgo) ?_
  obtain ⟨T1, X1, e1, st1⟩ := getF X0 hx hZ hown (host := "") (Or.inl (hw _ (List.mem_of_getElem? (i := 26) rfl))) Via.refl e0 P1 (g := (mkF m 1 #[.val (.ref o0), .val (.long (1 : Int64)), .second] [(.ref o0)])) rfl rfl (hb hby d11_1)
  refine own_go (g' := (mkF m 4 #[.val (.ref o0), .val (.long (1 : Int64)), .second] [(.ref pg)])) (st1) ?_
  refine own_go (g' := (mkF m 5 #[.val (.ref o0), .val (.long (1 : Int64)), .second] [(.long (1 : Int64)), (.ref pg)])) (fun _ kgo => XS.lloadN X1.here hx rfl (hb hby d11_4) rfl kgo) ?_
  refine own_go (g' := (mkF m 7 #[.val (.ref o0), .val (.long (1 : Int64)), .second] [(.int (25 : Int32)), (.long (1 : Int64)), (.ref pg)])) (fun _ kgo => XS.bipush X1.here hx rfl (hb hby d11_5) kgo) ?_
  refine own_go (g' := (mkF m 8 #[.val (.ref o0), .val (.long (1 : Int64)), .second] [(.long (0 : Int64)), (.ref pg)])) (fun _ kgo => XS.lushr X1.here hx rfl (hb hby d11_7) rfl kgo) ?_
  refine own_go (g' := (mkF m 9 #[.val (.ref o0), .val (.long (1 : Int64)), .second] [(.int (0 : Int32)), (.ref pg)])) (fun _ kgo => XS.l2i X1.here hx rfl (hb hby d11_8) rfl kgo) ?_
  obtain ⟨cl2, Ar2, qk2, sz2, nn2, Hs2, Gs2⟩ := id P2
  have hin2 : ¬ ((0 : Int32) < 0 ∨ cl2.slots.size ≤ ((0 : Int32)).toNatClampNeg) := inb_of sz2 ⟨by decide, by decide⟩
  have hat2 : cl2.slots[((0 : Int32)).toNatClampNeg]? = some (.ref w0) := Has.at Hs2 hin2 rfl
  refine own_go (g' := (mkF m 10 #[.val (.ref o0), .val (.long (1 : Int64)), .second] [(.ref w0)])) (X1.aaload hx (j := (0 : Int32)) (v := (.ref w0)) (by rw [e1]; exact Ar2.1) (State.isArrayOf_alike hZ.alike Ar2.2.1) rfl Ar2.2.2 hin2 hat2 (g := (mkF m 9 #[.val (.ref o0), .val (.long (1 : Int64)), .second] [(.int (0 : Int32)), (.ref pg)])) rfl rfl (hb hby d11_9)) ?_
  refine own_go (g' := (mkF m 11 #[.val (.ref o0), .val (.long (1 : Int64)), .second] [(.long (1 : Int64)), (.ref w0)])) (fun _ kgo => XS.lloadN X1.here hx rfl (hb hby d11_10) rfl kgo) ?_
  refine own_go (g' := (mkF m 12 #[.val (.ref o0), .val (.long (1 : Int64)), .second] [(.int (1 : Int32)), (.ref w0)])) (fun _ kgo => XS.l2i X1.here hx rfl (hb hby d11_11) rfl kgo) ?_
  refine own_go (g' := (mkF m 14 #[.val (.ref o0), .val (.long (1 : Int64)), .second] [(.int (33554431 : Int32)), (.int (1 : Int32)), (.ref w0)])) (X1.ldcInt hx hown (mvT hZ (hw _ (List.mem_of_getElem? (i := 51) rfl))) (g := (mkF m 12 #[.val (.ref o0), .val (.long (1 : Int64)), .second] [(.int (1 : Int32)), (.ref w0)])) rfl (hb hby d11_12)) ?_
  refine own_go (g' := (mkF m 15 #[.val (.ref o0), .val (.long (1 : Int64)), .second] [(.int (1 : Int32)), (.ref w0)])) (fun _ kgo => XS.iand X1.here hx rfl (hb hby d11_14) rfl kgo) ?_
  obtain ⟨cl3, Ar3, qk3, sz3, nn3, Hs3, Gs3⟩ := id P3
  have hin3 : ¬ ((1 : Int32) < 0 ∨ cl3.slots.size ≤ ((1 : Int32)).toNatClampNeg) := inb_of sz3 ⟨by decide, by decide⟩
  have hat3 : cl3.slots[((1 : Int32)).toNatClampNeg]? = some (.long x0_1) := Has.at Hs3 hin3 rfl
  refine own_go (g' := (mkF m 16 #[.val (.ref o0), .val (.long (1 : Int64)), .second] [(.long x0_1)])) (X1.laload hx (j := (1 : Int32)) (v := (.long x0_1)) (by rw [e1]; exact Ar3.1) (State.isArrayOf_alike hZ.alike Ar3.2.1) Ar3.2.2 hin3 hat3 (g := (mkF m 15 #[.val (.ref o0), .val (.long (1 : Int64)), .second] [(.int (1 : Int32)), (.ref w0)])) rfl rfl (hb hby d11_15)) ?_
  refine own_retJ X1 hx Bd.returns Bd.notSynchronized (hb hby d11_16) (by decide) (by decide) ?_
  show QQ _ T1.heap _
  rw [e1]
  rw [← hQQ]
  exact ⟨rfl, rfl, rfl⟩
theorem pn_wd_33554432_2 : plainName "com/example/gist_sketch/gistsketch/format/BitArray" = true := by first | (simp [plainName, overriddenIn]; done) | decide +kernel
theorem ef_wd_33554432_2 (m : MethodId) (o0 : Addr) : entryFrame m #[(.ref o0), (.long (33554432 : Int64))] 3 = mkF m 0 #[.val (.ref o0), .val (.long (33554432 : Int64)), .second] [] := by first | (simp [entryFrame, mkF, argsToLocals, Value.category]; done) | rfl
set_option maxRecDepth 65536 in
set_option maxHeartbeats 40000000 in
theorem wd_33554432_2 (l : Launch) (Z : State) (a0 : Array Value) (hw : ∀ d ∈ tables_1, d.before a0 Z = true) (o0 : Addr) (bt : Int64) (pg : Addr) (kp : ClassId) (w0 : Addr) (w1 : Addr) (k0_ : ClassId) (k1_ : ClassId) (x0_0 : Int64) (x0_1 : Int64) (x1_0 : Int64) (x1_1 : Int64) (h0 : Heap) (P0 : Fld Z h0 o0 "com/example/gist_sketch/gistsketch/format/BitArray" "bits" "J" (.long bt)) (P1 : Fld Z h0 o0 "com/example/gist_sketch/gistsketch/format/BitArray" "pages" "[[J" (.ref pg)) (P2 : Arv Z h0 pg kp (.array .long) (2 : Int32) [(.ref w0), (.ref w1)] .null) (P3 : Arv Z h0 w0 k0_ .long (2 : Int32) [(.long x0_0), (.long x0_1)] (.long (0 : Int64))) (P4 : Arv Z h0 w1 k1_ .long (2 : Int32) [(.long x1_0), (.long x1_1)] (.long (0 : Int64))) :
    own_Met l Z (⟨"com/example/gist_sketch/gistsketch/format/BitArray", "word", "(J)J"⟩ : MethodName) prog_31_method_11_code 3 (some .long) [] ({ frames := 0, cells := 0, slots := 0, locals := 0 } : Room) #[(.ref o0), (.long (33554432 : Int64))] h0 0 0 (fun v h L => v = some (.long x1_0) ∧ h = h0 ∧ L = []) := by
  refine own_met (plainFor_of_name pn_wd_33554432_2) ?_
  intro p e s m below meth c s₁ Bd hml0 hZ X0 e0
  have hx := Bd.exec
  have hby := Bd.bytes
  have hml : c.maxLocals = 3 := hml0
  have hown : s.vm.findClass "com/example/gist_sketch/gistsketch/format/BitArray" = some m.cls := findClass_of_methodNamed Bd.named
  have hnm := (name_of_methodNamed Bd.named Bd.method).1
  refine own_cast (ef_wd_33554432_2 m o0) ?_
  generalize hQQ : (fun (v : Option Value) (h : Heap) (L : List Loc) => v = some (.long x1_0) ∧ h = h0 ∧ L = []) = QQ
  refine own_go (g' := (mkF m 1 #[.val (.ref o0), .val (.long (33554432 : Int64)), .second] [(.ref o0)])) (fun _ kgo => XS.aloadN X0.here hx rfl (hb hby d11_0) rfl rfl kgo) ?_
  obtain ⟨T1, X1, e1, st1⟩ := getF X0 hx hZ hown (host := "") (Or.inl (hw _ (List.mem_of_getElem? (i := 26) rfl))) Via.refl e0 P1 (g := (mkF m 1 #[.val (.ref o0), .val (.long (33554432 : Int64)), .second] [(.ref o0)])) rfl rfl (hb hby d11_1)
  refine own_go (g' := (mkF m 4 #[.val (.ref o0), .val (.long (33554432 : Int64)), .second] [(.ref pg)])) (st1) ?_
  refine own_go (g' := (mkF m 5 #[.val (.ref o0), .val (.long (33554432 : Int64)), .second] [(.long (33554432 : Int64)), (.ref pg)])) (fun _ kgo => XS.lloadN X1.here hx rfl (hb hby d11_4) rfl kgo) ?_
  refine own_go (g' := (mkF m 7 #[.val (.ref o0), .val (.long (33554432 : Int64)), .second] [(.int (25 : Int32)), (.long (33554432 : Int64)), (.ref pg)])) (fun _ kgo => XS.bipush X1.here hx rfl (hb hby d11_5) kgo) ?_
  refine own_go (g' := (mkF m 8 #[.val (.ref o0), .val (.long (33554432 : Int64)), .second] [(.long (1 : Int64)), (.ref pg)])) (fun _ kgo => XS.lushr X1.here hx rfl (hb hby d11_7) rfl kgo) ?_
  refine own_go (g' := (mkF m 9 #[.val (.ref o0), .val (.long (33554432 : Int64)), .second] [(.int (1 : Int32)), (.ref pg)])) (fun _ kgo => XS.l2i X1.here hx rfl (hb hby d11_8) rfl kgo) ?_
  obtain ⟨cl2, Ar2, qk2, sz2, nn2, Hs2, Gs2⟩ := id P2
  have hin2 : ¬ ((1 : Int32) < 0 ∨ cl2.slots.size ≤ ((1 : Int32)).toNatClampNeg) := inb_of sz2 ⟨by decide, by decide⟩
  have hat2 : cl2.slots[((1 : Int32)).toNatClampNeg]? = some (.ref w1) := Has.at Hs2 hin2 rfl
  refine own_go (g' := (mkF m 10 #[.val (.ref o0), .val (.long (33554432 : Int64)), .second] [(.ref w1)])) (X1.aaload hx (j := (1 : Int32)) (v := (.ref w1)) (by rw [e1]; exact Ar2.1) (State.isArrayOf_alike hZ.alike Ar2.2.1) rfl Ar2.2.2 hin2 hat2 (g := (mkF m 9 #[.val (.ref o0), .val (.long (33554432 : Int64)), .second] [(.int (1 : Int32)), (.ref pg)])) rfl rfl (hb hby d11_9)) ?_
  refine own_go (g' := (mkF m 11 #[.val (.ref o0), .val (.long (33554432 : Int64)), .second] [(.long (33554432 : Int64)), (.ref w1)])) (fun _ kgo => XS.lloadN X1.here hx rfl (hb hby d11_10) rfl kgo) ?_
  refine own_go (g' := (mkF m 12 #[.val (.ref o0), .val (.long (33554432 : Int64)), .second] [(.int (33554432 : Int32)), (.ref w1)])) (fun _ kgo => XS.l2i X1.here hx rfl (hb hby d11_11) rfl kgo) ?_
  refine own_go (g' := (mkF m 14 #[.val (.ref o0), .val (.long (33554432 : Int64)), .second] [(.int (33554431 : Int32)), (.int (33554432 : Int32)), (.ref w1)])) (X1.ldcInt hx hown (mvT hZ (hw _ (List.mem_of_getElem? (i := 51) rfl))) (g := (mkF m 12 #[.val (.ref o0), .val (.long (33554432 : Int64)), .second] [(.int (33554432 : Int32)), (.ref w1)])) rfl (hb hby d11_12)) ?_
  refine own_go (g' := (mkF m 15 #[.val (.ref o0), .val (.long (33554432 : Int64)), .second] [(.int (0 : Int32)), (.ref w1)])) (fun _ kgo => XS.iand X1.here hx rfl (hb hby d11_14) rfl kgo) ?_
  obtain ⟨cl3, Ar3, qk3, sz3, nn3, Hs3, Gs3⟩ := id P4
  have hin3 : ¬ ((0 : Int32) < 0 ∨ cl3.slots.size ≤ ((0 : Int32)).toNatClampNeg) := inb_of sz3 ⟨by decide, by decide⟩
  have hat3 : cl3.slots[((0 : Int32)).toNatClampNeg]? = some (.long x1_0) := Has.at Hs3 hin3 rfl
  refine own_go (g' := (mkF m 16 #[.val (.ref o0), .val (.long (33554432 : Int64)), .second] [(.long x1_0)])) (X1.laload hx (j := (0 : Int32)) (v := (.long x1_0)) (by rw [e1]; exact Ar3.1) (State.isArrayOf_alike hZ.alike Ar3.2.1) Ar3.2.2 hin3 hat3 (g := (mkF m 15 #[.val (.ref o0), .val (.long (33554432 : Int64)), .second] [(.int (0 : Int32)), (.ref w1)])) rfl rfl (hb hby d11_15)) ?_
  refine own_retJ X1 hx Bd.returns Bd.notSynchronized (hb hby d11_16) (by decide) (by decide) ?_
  show QQ _ T1.heap _
  rw [e1]
  rw [← hQQ]
  exact ⟨rfl, rfl, rfl⟩
theorem pn_wd_33554433_2 : plainName "com/example/gist_sketch/gistsketch/format/BitArray" = true := by first | (simp [plainName, overriddenIn]; done) | decide +kernel
theorem ef_wd_33554433_2 (m : MethodId) (o0 : Addr) : entryFrame m #[(.ref o0), (.long (33554433 : Int64))] 3 = mkF m 0 #[.val (.ref o0), .val (.long (33554433 : Int64)), .second] [] := by first | (simp [entryFrame, mkF, argsToLocals, Value.category]; done) | rfl
set_option maxRecDepth 65536 in
set_option maxHeartbeats 40000000 in
theorem wd_33554433_2 (l : Launch) (Z : State) (a0 : Array Value) (hw : ∀ d ∈ tables_1, d.before a0 Z = true) (o0 : Addr) (bt : Int64) (pg : Addr) (kp : ClassId) (w0 : Addr) (w1 : Addr) (k0_ : ClassId) (k1_ : ClassId) (x0_0 : Int64) (x0_1 : Int64) (x1_0 : Int64) (x1_1 : Int64) (h0 : Heap) (P0 : Fld Z h0 o0 "com/example/gist_sketch/gistsketch/format/BitArray" "bits" "J" (.long bt)) (P1 : Fld Z h0 o0 "com/example/gist_sketch/gistsketch/format/BitArray" "pages" "[[J" (.ref pg)) (P2 : Arv Z h0 pg kp (.array .long) (2 : Int32) [(.ref w0), (.ref w1)] .null) (P3 : Arv Z h0 w0 k0_ .long (2 : Int32) [(.long x0_0), (.long x0_1)] (.long (0 : Int64))) (P4 : Arv Z h0 w1 k1_ .long (2 : Int32) [(.long x1_0), (.long x1_1)] (.long (0 : Int64))) :
    own_Met l Z (⟨"com/example/gist_sketch/gistsketch/format/BitArray", "word", "(J)J"⟩ : MethodName) prog_31_method_11_code 3 (some .long) [] ({ frames := 0, cells := 0, slots := 0, locals := 0 } : Room) #[(.ref o0), (.long (33554433 : Int64))] h0 0 0 (fun v h L => v = some (.long x1_1) ∧ h = h0 ∧ L = []) := by
  refine own_met (plainFor_of_name pn_wd_33554433_2) ?_
  intro p e s m below meth c s₁ Bd hml0 hZ X0 e0
  have hx := Bd.exec
  have hby := Bd.bytes
  have hml : c.maxLocals = 3 := hml0
  have hown : s.vm.findClass "com/example/gist_sketch/gistsketch/format/BitArray" = some m.cls := findClass_of_methodNamed Bd.named
  have hnm := (name_of_methodNamed Bd.named Bd.method).1
  refine own_cast (ef_wd_33554433_2 m o0) ?_
  generalize hQQ : (fun (v : Option Value) (h : Heap) (L : List Loc) => v = some (.long x1_1) ∧ h = h0 ∧ L = []) = QQ
  refine own_go (g' := (mkF m 1 #[.val (.ref o0), .val (.long (33554433 : Int64)), .second] [(.ref o0)])) (fun _ kgo => XS.aloadN X0.here hx rfl (hb hby d11_0) rfl rfl kgo) ?_
  obtain ⟨T1, X1, e1, st1⟩ := getF X0 hx hZ hown (host := "") (Or.inl (hw _ (List.mem_of_getElem? (i := 26) rfl))) Via.refl e0 P1 (g := (mkF m 1 #[.val (.ref o0), .val (.long (33554433 : Int64)), .second] [(.ref o0)])) rfl rfl (hb hby d11_1)
  refine own_go (g' := (mkF m 4 #[.val (.ref o0), .val (.long (33554433 : Int64)), .second] [(.ref pg)])) (st1) ?_
  refine own_go (g' := (mkF m 5 #[.val (.ref o0), .val (.long (33554433 : Int64)), .second] [(.long (33554433 : Int64)), (.ref pg)])) (fun _ kgo => XS.lloadN X1.here hx rfl (hb hby d11_4) rfl kgo) ?_
  refine own_go (g' := (mkF m 7 #[.val (.ref o0), .val (.long (33554433 : Int64)), .second] [(.int (25 : Int32)), (.long (33554433 : Int64)), (.ref pg)])) (fun _ kgo => XS.bipush X1.here hx rfl (hb hby d11_5) kgo) ?_
  refine own_go (g' := (mkF m 8 #[.val (.ref o0), .val (.long (33554433 : Int64)), .second] [(.long (1 : Int64)), (.ref pg)])) (fun _ kgo => XS.lushr X1.here hx rfl (hb hby d11_7) rfl kgo) ?_
  refine own_go (g' := (mkF m 9 #[.val (.ref o0), .val (.long (33554433 : Int64)), .second] [(.int (1 : Int32)), (.ref pg)])) (fun _ kgo => XS.l2i X1.here hx rfl (hb hby d11_8) rfl kgo) ?_
  obtain ⟨cl2, Ar2, qk2, sz2, nn2, Hs2, Gs2⟩ := id P2
  have hin2 : ¬ ((1 : Int32) < 0 ∨ cl2.slots.size ≤ ((1 : Int32)).toNatClampNeg) := inb_of sz2 ⟨by decide, by decide⟩
  have hat2 : cl2.slots[((1 : Int32)).toNatClampNeg]? = some (.ref w1) := Has.at Hs2 hin2 rfl
  refine own_go (g' := (mkF m 10 #[.val (.ref o0), .val (.long (33554433 : Int64)), .second] [(.ref w1)])) (X1.aaload hx (j := (1 : Int32)) (v := (.ref w1)) (by rw [e1]; exact Ar2.1) (State.isArrayOf_alike hZ.alike Ar2.2.1) rfl Ar2.2.2 hin2 hat2 (g := (mkF m 9 #[.val (.ref o0), .val (.long (33554433 : Int64)), .second] [(.int (1 : Int32)), (.ref pg)])) rfl rfl (hb hby d11_9)) ?_
  refine own_go (g' := (mkF m 11 #[.val (.ref o0), .val (.long (33554433 : Int64)), .second] [(.long (33554433 : Int64)), (.ref w1)])) (fun _ kgo => XS.lloadN X1.here hx rfl (hb hby d11_10) rfl kgo) ?_
  refine own_go (g' := (mkF m 12 #[.val (.ref o0), .val (.long (33554433 : Int64)), .second] [(.int (33554433 : Int32)), (.ref w1)])) (fun _ kgo => XS.l2i X1.here hx rfl (hb hby d11_11) rfl kgo) ?_
  refine own_go (g' := (mkF m 14 #[.val (.ref o0), .val (.long (33554433 : Int64)), .second] [(.int (33554431 : Int32)), (.int (33554433 : Int32)), (.ref w1)])) (X1.ldcInt hx hown (mvT hZ (hw _ (List.mem_of_getElem? (i := 51) rfl))) (g := (mkF m 12 #[.val (.ref o0), .val (.long (33554433 : Int64)), .second] [(.int (33554433 : Int32)), (.ref w1)])) rfl (hb hby d11_12)) ?_
  refine own_go (g' := (mkF m 15 #[.val (.ref o0), .val (.long (33554433 : Int64)), .second] [(.int (1 : Int32)), (.ref w1)])) (fun _ kgo => XS.iand X1.here hx rfl (hb hby d11_14) rfl kgo) ?_
  obtain ⟨cl3, Ar3, qk3, sz3, nn3, Hs3, Gs3⟩ := id P4
  have hin3 : ¬ ((1 : Int32) < 0 ∨ cl3.slots.size ≤ ((1 : Int32)).toNatClampNeg) := inb_of sz3 ⟨by decide, by decide⟩
  have hat3 : cl3.slots[((1 : Int32)).toNatClampNeg]? = some (.long x1_1) := Has.at Hs3 hin3 rfl
  refine own_go (g' := (mkF m 16 #[.val (.ref o0), .val (.long (33554433 : Int64)), .second] [(.long x1_1)])) (X1.laload hx (j := (1 : Int32)) (v := (.long x1_1)) (by rw [e1]; exact Ar3.1) (State.isArrayOf_alike hZ.alike Ar3.2.1) Ar3.2.2 hin3 hat3 (g := (mkF m 15 #[.val (.ref o0), .val (.long (33554433 : Int64)), .second] [(.int (1 : Int32)), (.ref w1)])) rfl rfl (hb hby d11_15)) ?_
  refine own_retJ X1 hx Bd.returns Bd.notSynchronized (hb hby d11_16) (by decide) (by decide) ?_
  show QQ _ T1.heap _
  rw [e1]
  rw [← hQQ]
  exact ⟨rfl, rfl, rfl⟩
theorem d12_0 : decode method_2_code 0 = .ok (.lconst 0, 1) := by decide +kernel
theorem d12_1 : decode method_2_code 1 = .ok (.lstore_n 3, 1) := by decide +kernel
theorem d12_2 : decode method_2_code 2 = .ok (.iload_n 0, 1) := by decide +kernel
theorem d12_3 : decode method_2_code 3 = .ok (.bipush 6, 2) := by decide +kernel
theorem d12_5 : decode method_2_code 5 = .ok (.ishr, 1) := by decide +kernel
theorem d12_6 : decode method_2_code 6 = .ok (.iload_n 2, 1) := by decide +kernel
theorem d12_7 : decode method_2_code 7 = .ok (.if_icmp .ne 12, 3) := by decide +kernel
theorem d12_10 : decode method_2_code 10 = .ok (.lload_n 3, 1) := by decide +kernel
theorem d12_11 : decode method_2_code 11 = .ok (.lconst 1, 1) := by decide +kernel
theorem d12_12 : decode method_2_code 12 = .ok (.iload_n 0, 1) := by decide +kernel
theorem d12_13 : decode method_2_code 13 = .ok (.bipush 63, 2) := by decide +kernel
theorem d12_15 : decode method_2_code 15 = .ok (.iand, 1) := by decide +kernel
theorem d12_16 : decode method_2_code 16 = .ok (.lshl, 1) := by decide +kernel
theorem d12_17 : decode method_2_code 17 = .ok (.lor, 1) := by decide +kernel
theorem d12_18 : decode method_2_code 18 = .ok (.lstore_n 3, 1) := by decide +kernel
theorem d12_19 : decode method_2_code 19 = .ok (.iload_n 1, 1) := by decide +kernel
theorem d12_20 : decode method_2_code 20 = .ok (.bipush 6, 2) := by decide +kernel
theorem d12_22 : decode method_2_code 22 = .ok (.ishr, 1) := by decide +kernel
theorem d12_23 : decode method_2_code 23 = .ok (.iload_n 2, 1) := by decide +kernel
theorem d12_24 : decode method_2_code 24 = .ok (.if_icmp .ne 12, 3) := by decide +kernel
theorem d12_27 : decode method_2_code 27 = .ok (.lload_n 3, 1) := by decide +kernel
theorem d12_28 : decode method_2_code 28 = .ok (.lconst 1, 1) := by decide +kernel
theorem d12_29 : decode method_2_code 29 = .ok (.iload_n 1, 1) := by decide +kernel
theorem d12_30 : decode method_2_code 30 = .ok (.bipush 63, 2) := by decide +kernel
theorem d12_32 : decode method_2_code 32 = .ok (.iand, 1) := by decide +kernel
theorem d12_33 : decode method_2_code 33 = .ok (.lshl, 1) := by decide +kernel
theorem d12_34 : decode method_2_code 34 = .ok (.lor, 1) := by decide +kernel
theorem d12_35 : decode method_2_code 35 = .ok (.lstore_n 3, 1) := by decide +kernel
theorem d12_36 : decode method_2_code 36 = .ok (.lload_n 3, 1) := by decide +kernel
theorem d12_37 : decode method_2_code 37 = .ok (.lreturn, 1) := by decide +kernel
theorem pn_rm12 : plainName "com/example/gist_sketch/gistsketch/format/BitArrayWordPinLaw" = true := by first | (simp [plainName, overriddenIn]; done) | decide +kernel
theorem ef_rm12 (m : MethodId) (p0 : Int32) (p1 : Int32) (p2 : Int32) : entryFrame m #[(.int p0), (.int p1), (.int p2)] 5 = mkF m 0 #[.val (.int p0), .val (.int p1), .val (.int p2), .unset, .unset] [] := by first | (simp [entryFrame, mkF, argsToLocals, Value.category]; done) | rfl
set_option maxRecDepth 65536 in
set_option maxHeartbeats 40000000 in
theorem rm12 (l : Launch) (Z : State) (a0 : Array Value) (hw : ∀ d ∈ tables_1, d.before a0 Z = true) (p0 : Int32) (p1 : Int32) (p2 : Int32)  (h0 : Heap) :
    own_Met l Z (⟨"com/example/gist_sketch/gistsketch/format/BitArrayWordPinLaw", "expect", "(III)J"⟩ : MethodName) method_2_code 5 (some .long) [] ({ frames := 0, cells := 0, slots := 0, locals := 0 } : Room) #[(.int p0), (.int p1), (.int p2)] h0 0 0 (fun v h L => v = some (.long (own_e p1 p2 (own_e p0 p2 (0 : Int64)))) ∧ h = h0 ∧ L = []) := by
  refine own_met (plainFor_of_name pn_rm12) ?_
  intro p e s m below meth c s₁ Bd hml0 hZ X0 e0
  have hx := Bd.exec
  have hby := Bd.bytes
  have hml : c.maxLocals = 5 := hml0
  have hown : s.vm.findClass "com/example/gist_sketch/gistsketch/format/BitArrayWordPinLaw" = some m.cls := findClass_of_methodNamed Bd.named
  have hnm := (name_of_methodNamed Bd.named Bd.method).1
  refine own_cast (ef_rm12 m p0 p1 p2) ?_
  generalize hQQ : (fun (v : Option Value) (h : Heap) (L : List Loc) => v = some (.long (own_e p1 p2 (own_e p0 p2 (0 : Int64)))) ∧ h = h0 ∧ L = []) = QQ
  refine own_go (g' := (mkF m 1 #[.val (.int p0), .val (.int p1), .val (.int p2), .unset, .unset] [(.long (0 : Int64))])) (fun _ kgo => XS.lconst X0.here hx rfl (hb hby d12_0) kgo) ?_
  refine own_go (g' := (mkF m 2 #[.val (.int p0), .val (.int p1), .val (.int p2), .val (.long (0 : Int64)), .second] [])) (fun _ kgo => XS.lstoreN X0.here hx rfl (hb hby d12_1) rfl (l' := #[.val (.int p0), .val (.int p1), .val (.int p2), .val (.long (0 : Int64)), .second]) rfl kgo) ?_
  refine own_go (g' := (mkF m 3 #[.val (.int p0), .val (.int p1), .val (.int p2), .val (.long (0 : Int64)), .second] [(.int p0)])) (fun _ kgo => XS.iloadN X0.here hx rfl (hb hby d12_2) rfl kgo) ?_
  refine own_go (g' := (mkF m 5 #[.val (.int p0), .val (.int p1), .val (.int p2), .val (.long (0 : Int64)), .second] [(.int (6 : Int32)), (.int p0)])) (fun _ kgo => XS.bipush X0.here hx rfl (hb hby d12_3) kgo) ?_
  refine own_go (g' := (mkF m 6 #[.val (.int p0), .val (.int p1), .val (.int p2), .val (.long (0 : Int64)), .second] [(.int (p0 >>> ((6 : Int32) &&& 31)))])) (fun _ kgo => XS.ishr X0.here hx rfl (hb hby d12_5) rfl kgo) ?_
  refine own_go (g' := (mkF m 7 #[.val (.int p0), .val (.int p1), .val (.int p2), .val (.long (0 : Int64)), .second] [(.int p2), (.int (p0 >>> ((6 : Int32) &&& 31)))])) (fun _ kgo => XS.iloadN X0.here hx rfl (hb hby d12_6) rfl kgo) ?_
  by_cases hc1 : (p0 >>> ((6 : Int32) &&& 31)) = p2
  ·
    refine own_go (g' := (mkF m 10 #[.val (.int p0), .val (.int p1), .val (.int p2), .val (.long (0 : Int64)), .second] [])) (fun _ kgo => XS.icmpNo X0.here hx rfl (hb hby d12_7) rfl (teq hc1).2 kgo) ?_
    refine own_go (g' := (mkF m 11 #[.val (.int p0), .val (.int p1), .val (.int p2), .val (.long (0 : Int64)), .second] [(.long (0 : Int64))])) (fun _ kgo => XS.lloadN X0.here hx rfl (hb hby d12_10) rfl kgo) ?_
    refine own_go (g' := (mkF m 12 #[.val (.int p0), .val (.int p1), .val (.int p2), .val (.long (0 : Int64)), .second] [(.long (1 : Int64)), (.long (0 : Int64))])) (fun _ kgo => XS.lconst X0.here hx rfl (hb hby d12_11) kgo) ?_
    refine own_go (g' := (mkF m 13 #[.val (.int p0), .val (.int p1), .val (.int p2), .val (.long (0 : Int64)), .second] [(.int p0), (.long (1 : Int64)), (.long (0 : Int64))])) (fun _ kgo => XS.iloadN X0.here hx rfl (hb hby d12_12) rfl kgo) ?_
    refine own_go (g' := (mkF m 15 #[.val (.int p0), .val (.int p1), .val (.int p2), .val (.long (0 : Int64)), .second] [(.int (63 : Int32)), (.int p0), (.long (1 : Int64)), (.long (0 : Int64))])) (fun _ kgo => XS.bipush X0.here hx rfl (hb hby d12_13) kgo) ?_
    refine own_go (g' := (mkF m 16 #[.val (.int p0), .val (.int p1), .val (.int p2), .val (.long (0 : Int64)), .second] [(.int (p0 &&& (63 : Int32))), (.long (1 : Int64)), (.long (0 : Int64))])) (fun _ kgo => XS.iand X0.here hx rfl (hb hby d12_15) rfl kgo) ?_
    refine own_go (g' := (mkF m 17 #[.val (.int p0), .val (.int p1), .val (.int p2), .val (.long (0 : Int64)), .second] [(.long ((1 : Int64) <<< ((p0 &&& (63 : Int32)) &&& 0x3f).toInt64)), (.long (0 : Int64))])) (fun _ kgo => XS.lshl X0.here hx rfl (hb hby d12_16) rfl kgo) ?_
    refine own_go (g' := (mkF m 18 #[.val (.int p0), .val (.int p1), .val (.int p2), .val (.long (0 : Int64)), .second] [(.long ((0 : Int64) ||| ((1 : Int64) <<< ((p0 &&& (63 : Int32)) &&& 0x3f).toInt64)))])) (fun _ kgo => XS.lor X0.here hx rfl (hb hby d12_17) rfl kgo) ?_
    refine own_go (g' := (mkF m 19 #[.val (.int p0), .val (.int p1), .val (.int p2), .val (.long ((0 : Int64) ||| ((1 : Int64) <<< ((p0 &&& (63 : Int32)) &&& 0x3f).toInt64))), .second] [])) (fun _ kgo => XS.lstoreN X0.here hx rfl (hb hby d12_18) rfl (l' := #[.val (.int p0), .val (.int p1), .val (.int p2), .val (.long ((0 : Int64) ||| ((1 : Int64) <<< ((p0 &&& (63 : Int32)) &&& 0x3f).toInt64))), .second]) rfl kgo) ?_
    refine own_go (g' := (mkF m 20 #[.val (.int p0), .val (.int p1), .val (.int p2), .val (.long ((0 : Int64) ||| ((1 : Int64) <<< ((p0 &&& (63 : Int32)) &&& 0x3f).toInt64))), .second] [(.int p1)])) (fun _ kgo => XS.iloadN X0.here hx rfl (hb hby d12_19) rfl kgo) ?_
    refine own_go (g' := (mkF m 22 #[.val (.int p0), .val (.int p1), .val (.int p2), .val (.long ((0 : Int64) ||| ((1 : Int64) <<< ((p0 &&& (63 : Int32)) &&& 0x3f).toInt64))), .second] [(.int (6 : Int32)), (.int p1)])) (fun _ kgo => XS.bipush X0.here hx rfl (hb hby d12_20) kgo) ?_
    refine own_go (g' := (mkF m 23 #[.val (.int p0), .val (.int p1), .val (.int p2), .val (.long ((0 : Int64) ||| ((1 : Int64) <<< ((p0 &&& (63 : Int32)) &&& 0x3f).toInt64))), .second] [(.int (p1 >>> ((6 : Int32) &&& 31)))])) (fun _ kgo => XS.ishr X0.here hx rfl (hb hby d12_22) rfl kgo) ?_
    refine own_go (g' := (mkF m 24 #[.val (.int p0), .val (.int p1), .val (.int p2), .val (.long ((0 : Int64) ||| ((1 : Int64) <<< ((p0 &&& (63 : Int32)) &&& 0x3f).toInt64))), .second] [(.int p2), (.int (p1 >>> ((6 : Int32) &&& 31)))])) (fun _ kgo => XS.iloadN X0.here hx rfl (hb hby d12_23) rfl kgo) ?_
    by_cases hc2 : (p1 >>> ((6 : Int32) &&& 31)) = p2
    ·
      refine own_go (g' := (mkF m 27 #[.val (.int p0), .val (.int p1), .val (.int p2), .val (.long ((0 : Int64) ||| ((1 : Int64) <<< ((p0 &&& (63 : Int32)) &&& 0x3f).toInt64))), .second] [])) (fun _ kgo => XS.icmpNo X0.here hx rfl (hb hby d12_24) rfl (teq hc2).2 kgo) ?_
      refine own_go (g' := (mkF m 28 #[.val (.int p0), .val (.int p1), .val (.int p2), .val (.long ((0 : Int64) ||| ((1 : Int64) <<< ((p0 &&& (63 : Int32)) &&& 0x3f).toInt64))), .second] [(.long ((0 : Int64) ||| ((1 : Int64) <<< ((p0 &&& (63 : Int32)) &&& 0x3f).toInt64)))])) (fun _ kgo => XS.lloadN X0.here hx rfl (hb hby d12_27) rfl kgo) ?_
      refine own_go (g' := (mkF m 29 #[.val (.int p0), .val (.int p1), .val (.int p2), .val (.long ((0 : Int64) ||| ((1 : Int64) <<< ((p0 &&& (63 : Int32)) &&& 0x3f).toInt64))), .second] [(.long (1 : Int64)), (.long ((0 : Int64) ||| ((1 : Int64) <<< ((p0 &&& (63 : Int32)) &&& 0x3f).toInt64)))])) (fun _ kgo => XS.lconst X0.here hx rfl (hb hby d12_28) kgo) ?_
      refine own_go (g' := (mkF m 30 #[.val (.int p0), .val (.int p1), .val (.int p2), .val (.long ((0 : Int64) ||| ((1 : Int64) <<< ((p0 &&& (63 : Int32)) &&& 0x3f).toInt64))), .second] [(.int p1), (.long (1 : Int64)), (.long ((0 : Int64) ||| ((1 : Int64) <<< ((p0 &&& (63 : Int32)) &&& 0x3f).toInt64)))])) (fun _ kgo => XS.iloadN X0.here hx rfl (hb hby d12_29) rfl kgo) ?_
      refine own_go (g' := (mkF m 32 #[.val (.int p0), .val (.int p1), .val (.int p2), .val (.long ((0 : Int64) ||| ((1 : Int64) <<< ((p0 &&& (63 : Int32)) &&& 0x3f).toInt64))), .second] [(.int (63 : Int32)), (.int p1), (.long (1 : Int64)), (.long ((0 : Int64) ||| ((1 : Int64) <<< ((p0 &&& (63 : Int32)) &&& 0x3f).toInt64)))])) (fun _ kgo => XS.bipush X0.here hx rfl (hb hby d12_30) kgo) ?_
      refine own_go (g' := (mkF m 33 #[.val (.int p0), .val (.int p1), .val (.int p2), .val (.long ((0 : Int64) ||| ((1 : Int64) <<< ((p0 &&& (63 : Int32)) &&& 0x3f).toInt64))), .second] [(.int (p1 &&& (63 : Int32))), (.long (1 : Int64)), (.long ((0 : Int64) ||| ((1 : Int64) <<< ((p0 &&& (63 : Int32)) &&& 0x3f).toInt64)))])) (fun _ kgo => XS.iand X0.here hx rfl (hb hby d12_32) rfl kgo) ?_
      refine own_go (g' := (mkF m 34 #[.val (.int p0), .val (.int p1), .val (.int p2), .val (.long ((0 : Int64) ||| ((1 : Int64) <<< ((p0 &&& (63 : Int32)) &&& 0x3f).toInt64))), .second] [(.long ((1 : Int64) <<< ((p1 &&& (63 : Int32)) &&& 0x3f).toInt64)), (.long ((0 : Int64) ||| ((1 : Int64) <<< ((p0 &&& (63 : Int32)) &&& 0x3f).toInt64)))])) (fun _ kgo => XS.lshl X0.here hx rfl (hb hby d12_33) rfl kgo) ?_
      refine own_go (g' := (mkF m 35 #[.val (.int p0), .val (.int p1), .val (.int p2), .val (.long ((0 : Int64) ||| ((1 : Int64) <<< ((p0 &&& (63 : Int32)) &&& 0x3f).toInt64))), .second] [(.long (((0 : Int64) ||| ((1 : Int64) <<< ((p0 &&& (63 : Int32)) &&& 0x3f).toInt64)) ||| ((1 : Int64) <<< ((p1 &&& (63 : Int32)) &&& 0x3f).toInt64)))])) (fun _ kgo => XS.lor X0.here hx rfl (hb hby d12_34) rfl kgo) ?_
      refine own_go (g' := (mkF m 36 #[.val (.int p0), .val (.int p1), .val (.int p2), .val (.long (((0 : Int64) ||| ((1 : Int64) <<< ((p0 &&& (63 : Int32)) &&& 0x3f).toInt64)) ||| ((1 : Int64) <<< ((p1 &&& (63 : Int32)) &&& 0x3f).toInt64))), .second] [])) (fun _ kgo => XS.lstoreN X0.here hx rfl (hb hby d12_35) rfl (l' := #[.val (.int p0), .val (.int p1), .val (.int p2), .val (.long (((0 : Int64) ||| ((1 : Int64) <<< ((p0 &&& (63 : Int32)) &&& 0x3f).toInt64)) ||| ((1 : Int64) <<< ((p1 &&& (63 : Int32)) &&& 0x3f).toInt64))), .second]) rfl kgo) ?_
      refine own_go (g' := (mkF m 37 #[.val (.int p0), .val (.int p1), .val (.int p2), .val (.long (((0 : Int64) ||| ((1 : Int64) <<< ((p0 &&& (63 : Int32)) &&& 0x3f).toInt64)) ||| ((1 : Int64) <<< ((p1 &&& (63 : Int32)) &&& 0x3f).toInt64))), .second] [(.long (((0 : Int64) ||| ((1 : Int64) <<< ((p0 &&& (63 : Int32)) &&& 0x3f).toInt64)) ||| ((1 : Int64) <<< ((p1 &&& (63 : Int32)) &&& 0x3f).toInt64)))])) (fun _ kgo => XS.lloadN X0.here hx rfl (hb hby d12_36) rfl kgo) ?_
      refine own_retJ X0 hx Bd.returns Bd.notSynchronized (hb hby d12_37) (by decide) (by decide) ?_
      show QQ _ s₁.heap _
      rw [e0]
      have hv : own_e p1 p2 (own_e p0 p2 (0 : Int64)) = (((0 : Int64) ||| ((1 : Int64) <<< ((p0 &&& (63 : Int32)) &&& 0x3f).toInt64)) ||| ((1 : Int64) <<< ((p1 &&& (63 : Int32)) &&& 0x3f).toInt64)) := by unfold own_e; rw [if_pos hc1, if_pos hc2]
      rw [← hQQ]
      exact ⟨by rw [hv], rfl, rfl⟩
    ·
      refine own_go (g' := (mkF m 36 #[.val (.int p0), .val (.int p1), .val (.int p2), .val (.long ((0 : Int64) ||| ((1 : Int64) <<< ((p0 &&& (63 : Int32)) &&& 0x3f).toInt64))), .second] [])) (fun _ kgo => XS.icmpYes X0.here hx rfl (pc0 := 24) (pc' := 36) rfl (hb hby d12_24) rfl (feq hc2).2 (by decide) (by decide) kgo) ?_
      refine own_go (g' := (mkF m 37 #[.val (.int p0), .val (.int p1), .val (.int p2), .val (.long ((0 : Int64) ||| ((1 : Int64) <<< ((p0 &&& (63 : Int32)) &&& 0x3f).toInt64))), .second] [(.long ((0 : Int64) ||| ((1 : Int64) <<< ((p0 &&& (63 : Int32)) &&& 0x3f).toInt64)))])) (fun _ kgo => XS.lloadN X0.here hx rfl (hb hby d12_36) rfl kgo) ?_
      refine own_retJ X0 hx Bd.returns Bd.notSynchronized (hb hby d12_37) (by decide) (by decide) ?_
      show QQ _ s₁.heap _
      rw [e0]
      have hv : own_e p1 p2 (own_e p0 p2 (0 : Int64)) = ((0 : Int64) ||| ((1 : Int64) <<< ((p0 &&& (63 : Int32)) &&& 0x3f).toInt64)) := by unfold own_e; rw [if_pos hc1, if_neg hc2]
      rw [← hQQ]
      exact ⟨by rw [hv], rfl, rfl⟩
  ·
    refine own_go (g' := (mkF m 19 #[.val (.int p0), .val (.int p1), .val (.int p2), .val (.long (0 : Int64)), .second] [])) (fun _ kgo => XS.icmpYes X0.here hx rfl (pc0 := 7) (pc' := 19) rfl (hb hby d12_7) rfl (feq hc1).2 (by decide) (by decide) kgo) ?_
    refine own_go (g' := (mkF m 20 #[.val (.int p0), .val (.int p1), .val (.int p2), .val (.long (0 : Int64)), .second] [(.int p1)])) (fun _ kgo => XS.iloadN X0.here hx rfl (hb hby d12_19) rfl kgo) ?_
    refine own_go (g' := (mkF m 22 #[.val (.int p0), .val (.int p1), .val (.int p2), .val (.long (0 : Int64)), .second] [(.int (6 : Int32)), (.int p1)])) (fun _ kgo => XS.bipush X0.here hx rfl (hb hby d12_20) kgo) ?_
    refine own_go (g' := (mkF m 23 #[.val (.int p0), .val (.int p1), .val (.int p2), .val (.long (0 : Int64)), .second] [(.int (p1 >>> ((6 : Int32) &&& 31)))])) (fun _ kgo => XS.ishr X0.here hx rfl (hb hby d12_22) rfl kgo) ?_
    refine own_go (g' := (mkF m 24 #[.val (.int p0), .val (.int p1), .val (.int p2), .val (.long (0 : Int64)), .second] [(.int p2), (.int (p1 >>> ((6 : Int32) &&& 31)))])) (fun _ kgo => XS.iloadN X0.here hx rfl (hb hby d12_23) rfl kgo) ?_
    by_cases hc3 : (p1 >>> ((6 : Int32) &&& 31)) = p2
    ·
      refine own_go (g' := (mkF m 27 #[.val (.int p0), .val (.int p1), .val (.int p2), .val (.long (0 : Int64)), .second] [])) (fun _ kgo => XS.icmpNo X0.here hx rfl (hb hby d12_24) rfl (teq hc3).2 kgo) ?_
      refine own_go (g' := (mkF m 28 #[.val (.int p0), .val (.int p1), .val (.int p2), .val (.long (0 : Int64)), .second] [(.long (0 : Int64))])) (fun _ kgo => XS.lloadN X0.here hx rfl (hb hby d12_27) rfl kgo) ?_
      refine own_go (g' := (mkF m 29 #[.val (.int p0), .val (.int p1), .val (.int p2), .val (.long (0 : Int64)), .second] [(.long (1 : Int64)), (.long (0 : Int64))])) (fun _ kgo => XS.lconst X0.here hx rfl (hb hby d12_28) kgo) ?_
      refine own_go (g' := (mkF m 30 #[.val (.int p0), .val (.int p1), .val (.int p2), .val (.long (0 : Int64)), .second] [(.int p1), (.long (1 : Int64)), (.long (0 : Int64))])) (fun _ kgo => XS.iloadN X0.here hx rfl (hb hby d12_29) rfl kgo) ?_
      refine own_go (g' := (mkF m 32 #[.val (.int p0), .val (.int p1), .val (.int p2), .val (.long (0 : Int64)), .second] [(.int (63 : Int32)), (.int p1), (.long (1 : Int64)), (.long (0 : Int64))])) (fun _ kgo => XS.bipush X0.here hx rfl (hb hby d12_30) kgo) ?_
      refine own_go (g' := (mkF m 33 #[.val (.int p0), .val (.int p1), .val (.int p2), .val (.long (0 : Int64)), .second] [(.int (p1 &&& (63 : Int32))), (.long (1 : Int64)), (.long (0 : Int64))])) (fun _ kgo => XS.iand X0.here hx rfl (hb hby d12_32) rfl kgo) ?_
      refine own_go (g' := (mkF m 34 #[.val (.int p0), .val (.int p1), .val (.int p2), .val (.long (0 : Int64)), .second] [(.long ((1 : Int64) <<< ((p1 &&& (63 : Int32)) &&& 0x3f).toInt64)), (.long (0 : Int64))])) (fun _ kgo => XS.lshl X0.here hx rfl (hb hby d12_33) rfl kgo) ?_
      refine own_go (g' := (mkF m 35 #[.val (.int p0), .val (.int p1), .val (.int p2), .val (.long (0 : Int64)), .second] [(.long ((0 : Int64) ||| ((1 : Int64) <<< ((p1 &&& (63 : Int32)) &&& 0x3f).toInt64)))])) (fun _ kgo => XS.lor X0.here hx rfl (hb hby d12_34) rfl kgo) ?_
      refine own_go (g' := (mkF m 36 #[.val (.int p0), .val (.int p1), .val (.int p2), .val (.long ((0 : Int64) ||| ((1 : Int64) <<< ((p1 &&& (63 : Int32)) &&& 0x3f).toInt64))), .second] [])) (fun _ kgo => XS.lstoreN X0.here hx rfl (hb hby d12_35) rfl (l' := #[.val (.int p0), .val (.int p1), .val (.int p2), .val (.long ((0 : Int64) ||| ((1 : Int64) <<< ((p1 &&& (63 : Int32)) &&& 0x3f).toInt64))), .second]) rfl kgo) ?_
      refine own_go (g' := (mkF m 37 #[.val (.int p0), .val (.int p1), .val (.int p2), .val (.long ((0 : Int64) ||| ((1 : Int64) <<< ((p1 &&& (63 : Int32)) &&& 0x3f).toInt64))), .second] [(.long ((0 : Int64) ||| ((1 : Int64) <<< ((p1 &&& (63 : Int32)) &&& 0x3f).toInt64)))])) (fun _ kgo => XS.lloadN X0.here hx rfl (hb hby d12_36) rfl kgo) ?_
      refine own_retJ X0 hx Bd.returns Bd.notSynchronized (hb hby d12_37) (by decide) (by decide) ?_
      show QQ _ s₁.heap _
      rw [e0]
      have hv : own_e p1 p2 (own_e p0 p2 (0 : Int64)) = ((0 : Int64) ||| ((1 : Int64) <<< ((p1 &&& (63 : Int32)) &&& 0x3f).toInt64)) := by unfold own_e; rw [if_neg hc1, if_pos hc3]
      rw [← hQQ]
      exact ⟨by rw [hv], rfl, rfl⟩
    ·
      refine own_go (g' := (mkF m 36 #[.val (.int p0), .val (.int p1), .val (.int p2), .val (.long (0 : Int64)), .second] [])) (fun _ kgo => XS.icmpYes X0.here hx rfl (pc0 := 24) (pc' := 36) rfl (hb hby d12_24) rfl (feq hc3).2 (by decide) (by decide) kgo) ?_
      refine own_go (g' := (mkF m 37 #[.val (.int p0), .val (.int p1), .val (.int p2), .val (.long (0 : Int64)), .second] [(.long (0 : Int64))])) (fun _ kgo => XS.lloadN X0.here hx rfl (hb hby d12_36) rfl kgo) ?_
      refine own_retJ X0 hx Bd.returns Bd.notSynchronized (hb hby d12_37) (by decide) (by decide) ?_
      show QQ _ s₁.heap _
      rw [e0]
      have hv : own_e p1 p2 (own_e p0 p2 (0 : Int64)) = (0 : Int64) := by unfold own_e; rw [if_neg hc1, if_neg hc3]
      rw [← hQQ]
      exact ⟨by rw [hv], rfl, rfl⟩
theorem pn_rm0 : plainName "com/example/gist_sketch/gistsketch/format/BitArrayWordPinLaw" = true := by first | (simp [plainName, overriddenIn]; done) | decide +kernel
theorem pd0_0 : parseMethodDescriptor "(J)V" = some ⟨[.long], none⟩ := by decide +kernel
theorem pd0_1 : parseMethodDescriptor "(J)J" = some ⟨[.long], some .long⟩ := by decide +kernel
theorem pd0_2 : parseMethodDescriptor "(III)J" = some ⟨[.int, .int, .int], some .long⟩ := by decide +kernel
theorem pd0_3 : parseMethodDescriptor "(J[[J)V" = some ⟨[.long, (.array (.array .long))], none⟩ := by decide +kernel
theorem ef_rm0 (m : MethodId) (p0 : Int32) (p1 : Int32) (q2 : Int64) (q3 : Int64) (p4 : Int32) : entryFrame m #[(.int p0), (.int p1), (.long q2), (.long q3), (.int p4)] maxLocals = mkF m 0 #[.val (.int p0), .val (.int p1), .val (.long q2), .second, .val (.long q3), .second, .val (.int p4), .unset, .unset, .unset, .unset, .unset, .unset, .unset, .unset, .unset, .unset, .unset, .unset, .unset] [] := by first | (simp [entryFrame, mkF, argsToLocals, Value.category, maxLocals]; done) | rfl
set_option maxRecDepth 65536 in
set_option maxHeartbeats 40000000 in
theorem rm0 (l : Launch) (Z : State) (a0 : Array Value) (hw : ∀ d ∈ tables_1, d.before a0 Z = true) (p0 : Int32) (p1 : Int32) (q2 : Int64) (q3 : Int64) (p4 : Int32)  (h0 : Heap) (n0 : Nat) (Z0 : n0 ≤ h0.size) :
    own_Met l Z x code maxLocals ret tables_1 room_1 #[(.int p0), (.int p1), (.long q2), (.long q3), (.int p4)] h0 24 128 (fun v h L => v = some (.int 1) ∧ Fr n0 L) := by
  refine own_met (plainFor_of_name pn_rm0) ?_
  intro p e s m below meth c s₁ Bd hml0 hZ X0 e0
  have hx := Bd.exec
  have hby := Bd.bytes
  have hml : c.maxLocals = 20 := hml0
  have hown : s.vm.findClass "com/example/gist_sketch/gistsketch/format/BitArrayWordPinLaw" = some m.cls := findClass_of_methodNamed Bd.named
  have hnm := (name_of_methodNamed Bd.named Bd.method).1
  refine own_cast (ef_rm0 m p0 p1 q2 q3 p4) ?_
  generalize hQQ : (fun (v : Option Value) (h : Heap) (L : List Loc) => v = some (.int 1) ∧ Fr n0 L) = QQ
  have N0 := Fr.nil n0
  refine own_go (g' := (mkF m 3 #[.val (.int p0), .val (.int p1), .val (.long q2), .second, .val (.long q3), .second, .val (.int p4), .unset, .unset, .unset, .unset, .unset, .unset, .unset, .unset, .unset, .unset, .unset, .unset, .unset] [(.int (193 : Int32))])) (fun _ kgo => XS.sipush X0.here hx rfl (hb hby at_0) kgo) ?_
  refine own_go (g' := (mkF m 5 #[.val (.int p0), .val (.int p1), .val (.long q2), .second, .val (.long q3), .second, .val (.int p4), .unset, .unset, .unset, .unset, .unset, .unset, .unset, .unset, .unset, .unset, .unset, .unset, .unset] [(.int p4), (.int (193 : Int32))])) (fun _ kgo => XS.iload X0.here hx rfl (hb hby at_3) rfl kgo) ?_
  refine own_go (g' := (mkF m 7 #[.val (.int p0), .val (.int p1), .val (.long q2), .second, .val (.long q3), .second, .val (.int p4), .unset, .unset, .unset, .unset, .unset, .unset, .unset, .unset, .unset, .unset, .unset, .unset, .unset] [(.int (63 : Int32)), (.int p4), (.int (193 : Int32))])) (fun _ kgo => XS.bipush X0.here hx rfl (hb hby at_5) kgo) ?_
  refine own_go (g' := (mkF m 8 #[.val (.int p0), .val (.int p1), .val (.long q2), .second, .val (.long q3), .second, .val (.int p4), .unset, .unset, .unset, .unset, .unset, .unset, .unset, .unset, .unset, .unset, .unset, .unset, .unset] [(.int (p4 &&& (63 : Int32))), (.int (193 : Int32))])) (fun _ kgo => XS.iand X0.here hx rfl (hb hby at_7) rfl kgo) ?_
  refine own_go (g' := (mkF m 9 #[.val (.int p0), .val (.int p1), .val (.long q2), .second, .val (.long q3), .second, .val (.int p4), .unset, .unset, .unset, .unset, .unset, .unset, .unset, .unset, .unset, .unset, .unset, .unset, .unset] [(.int ((193 : Int32) + (p4 &&& (63 : Int32))))])) (fun _ kgo => XS.iadd X0.here hx rfl (hb hby at_8) rfl kgo) ?_
  have hn := own_n p4
  suffices JNenn : ∀ nn : Int32, nn = ((193 : Int32) + (p4 &&& (63 : Int32))) → own_Go p e below (own_Post s QQ 24 128) s₁ (mkF m 9 #[.val (.int p0), .val (.int p1), .val (.long q2), .second, .val (.long q3), .second, .val (.int p4), .unset, .unset, .unset, .unset, .unset, .unset, .unset, .unset, .unset, .unset, .unset, .unset, .unset] [(.int nn)]) from JNenn _ (rfl)
  intro nn enn
  rw [← enn] at hn
  refine own_go (g' := (mkF m 11 #[.val (.int p0), .val (.int p1), .val (.long q2), .second, .val (.long q3), .second, .val (.int p4), .val (.int nn), .unset, .unset, .unset, .unset, .unset, .unset, .unset, .unset, .unset, .unset, .unset, .unset] [])) (fun _ kgo => XS.istore X0.here hx rfl (hb hby at_9) rfl (l' := #[.val (.int p0), .val (.int p1), .val (.long q2), .second, .val (.long q3), .second, .val (.int p4), .val (.int nn), .unset, .unset, .unset, .unset, .unset, .unset, .unset, .unset, .unset, .unset, .unset, .unset]) rfl kgo) ?_
  refine own_go (g' := (mkF m 12 #[.val (.int p0), .val (.int p1), .val (.long q2), .second, .val (.long q3), .second, .val (.int p4), .val (.int nn), .unset, .unset, .unset, .unset, .unset, .unset, .unset, .unset, .unset, .unset, .unset, .unset] [(.int p0)])) (fun _ kgo => XS.iloadN X0.here hx rfl (hb hby at_11) rfl kgo) ?_
  refine own_go (g' := (mkF m 14 #[.val (.int p0), .val (.int p1), .val (.long q2), .second, .val (.long q3), .second, .val (.int p4), .val (.int nn), .unset, .unset, .unset, .unset, .unset, .unset, .unset, .unset, .unset, .unset, .unset, .unset] [(.int (2147483647 : Int32)), (.int p0)])) (X0.ldcInt hx hown (mvT hZ (hw _ (List.mem_of_getElem? (i := 0) rfl))) (g := (mkF m 12 #[.val (.int p0), .val (.int p1), .val (.long q2), .second, .val (.long q3), .second, .val (.int p4), .val (.int nn), .unset, .unset, .unset, .unset, .unset, .unset, .unset, .unset, .unset, .unset, .unset, .unset] [(.int p0)])) rfl (hb hby at_12)) ?_
  refine own_go (g' := (mkF m 15 #[.val (.int p0), .val (.int p1), .val (.long q2), .second, .val (.long q3), .second, .val (.int p4), .val (.int nn), .unset, .unset, .unset, .unset, .unset, .unset, .unset, .unset, .unset, .unset, .unset, .unset] [(.int (p0 &&& (2147483647 : Int32)))])) (fun _ kgo => XS.iand X0.here hx rfl (hb hby at_14) rfl kgo) ?_
  refine own_go (g' := (mkF m 17 #[.val (.int p0), .val (.int p1), .val (.long q2), .second, .val (.long q3), .second, .val (.int p4), .val (.int nn), .unset, .unset, .unset, .unset, .unset, .unset, .unset, .unset, .unset, .unset, .unset, .unset] [(.int nn), (.int (p0 &&& (2147483647 : Int32)))])) (fun _ kgo => XS.iload X0.here hx rfl (hb hby at_15) rfl kgo) ?_
  refine own_go (g' := (mkF m 18 #[.val (.int p0), .val (.int p1), .val (.long q2), .second, .val (.long q3), .second, .val (.int p4), .val (.int nn), .unset, .unset, .unset, .unset, .unset, .unset, .unset, .unset, .unset, .unset, .unset, .unset] [(.int ((p0 &&& (2147483647 : Int32)) % nn))])) (fun _ kgo => own_irem X0 hx rfl (hb hby at_17) rfl (own_nz hn) kgo) ?_
  have hia := own_ix p0 nn hn
  suffices JNeia : ∀ ia : Int32, ia = ((p0 &&& (2147483647 : Int32)) % nn) → own_Go p e below (own_Post s QQ 24 128) s₁ (mkF m 18 #[.val (.int p0), .val (.int p1), .val (.long q2), .second, .val (.long q3), .second, .val (.int p4), .val (.int nn), .unset, .unset, .unset, .unset, .unset, .unset, .unset, .unset, .unset, .unset, .unset, .unset] [(.int ia)]) from JNeia _ (rfl)
  intro ia eia
  rw [← eia] at hia
  refine own_go (g' := (mkF m 20 #[.val (.int p0), .val (.int p1), .val (.long q2), .second, .val (.long q3), .second, .val (.int p4), .val (.int nn), .val (.int ia), .unset, .unset, .unset, .unset, .unset, .unset, .unset, .unset, .unset, .unset, .unset] [])) (fun _ kgo => XS.istore X0.here hx rfl (hb hby at_18) rfl (l' := #[.val (.int p0), .val (.int p1), .val (.long q2), .second, .val (.long q3), .second, .val (.int p4), .val (.int nn), .val (.int ia), .unset, .unset, .unset, .unset, .unset, .unset, .unset, .unset, .unset, .unset, .unset]) rfl kgo) ?_
  refine own_go (g' := (mkF m 21 #[.val (.int p0), .val (.int p1), .val (.long q2), .second, .val (.long q3), .second, .val (.int p4), .val (.int nn), .val (.int ia), .unset, .unset, .unset, .unset, .unset, .unset, .unset, .unset, .unset, .unset, .unset] [(.int p1)])) (fun _ kgo => XS.iloadN X0.here hx rfl (hb hby at_20) rfl kgo) ?_
  refine own_go (g' := (mkF m 23 #[.val (.int p0), .val (.int p1), .val (.long q2), .second, .val (.long q3), .second, .val (.int p4), .val (.int nn), .val (.int ia), .unset, .unset, .unset, .unset, .unset, .unset, .unset, .unset, .unset, .unset, .unset] [(.int (2147483647 : Int32)), (.int p1)])) (X0.ldcInt hx hown (mvT hZ (hw _ (List.mem_of_getElem? (i := 0) rfl))) (g := (mkF m 21 #[.val (.int p0), .val (.int p1), .val (.long q2), .second, .val (.long q3), .second, .val (.int p4), .val (.int nn), .val (.int ia), .unset, .unset, .unset, .unset, .unset, .unset, .unset, .unset, .unset, .unset, .unset] [(.int p1)])) rfl (hb hby at_21)) ?_
  refine own_go (g' := (mkF m 24 #[.val (.int p0), .val (.int p1), .val (.long q2), .second, .val (.long q3), .second, .val (.int p4), .val (.int nn), .val (.int ia), .unset, .unset, .unset, .unset, .unset, .unset, .unset, .unset, .unset, .unset, .unset] [(.int (p1 &&& (2147483647 : Int32)))])) (fun _ kgo => XS.iand X0.here hx rfl (hb hby at_23) rfl kgo) ?_
  refine own_go (g' := (mkF m 26 #[.val (.int p0), .val (.int p1), .val (.long q2), .second, .val (.long q3), .second, .val (.int p4), .val (.int nn), .val (.int ia), .unset, .unset, .unset, .unset, .unset, .unset, .unset, .unset, .unset, .unset, .unset] [(.int nn), (.int (p1 &&& (2147483647 : Int32)))])) (fun _ kgo => XS.iload X0.here hx rfl (hb hby at_24) rfl kgo) ?_
  refine own_go (g' := (mkF m 27 #[.val (.int p0), .val (.int p1), .val (.long q2), .second, .val (.long q3), .second, .val (.int p4), .val (.int nn), .val (.int ia), .unset, .unset, .unset, .unset, .unset, .unset, .unset, .unset, .unset, .unset, .unset] [(.int ((p1 &&& (2147483647 : Int32)) % nn))])) (fun _ kgo => own_irem X0 hx rfl (hb hby at_26) rfl (own_nz hn) kgo) ?_
  have hib := own_ix p1 nn hn
  suffices JNeib : ∀ ib : Int32, ib = ((p1 &&& (2147483647 : Int32)) % nn) → own_Go p e below (own_Post s QQ 24 128) s₁ (mkF m 27 #[.val (.int p0), .val (.int p1), .val (.long q2), .second, .val (.long q3), .second, .val (.int p4), .val (.int nn), .val (.int ia), .unset, .unset, .unset, .unset, .unset, .unset, .unset, .unset, .unset, .unset, .unset] [(.int ib)]) from JNeib _ (rfl)
  intro ib eib
  rw [← eib] at hib
  refine own_go (g' := (mkF m 29 #[.val (.int p0), .val (.int p1), .val (.long q2), .second, .val (.long q3), .second, .val (.int p4), .val (.int nn), .val (.int ia), .val (.int ib), .unset, .unset, .unset, .unset, .unset, .unset, .unset, .unset, .unset, .unset] [])) (fun _ kgo => XS.istore X0.here hx rfl (hb hby at_27) rfl (l' := #[.val (.int p0), .val (.int p1), .val (.long q2), .second, .val (.long q3), .second, .val (.int p4), .val (.int nn), .val (.int ia), .val (.int ib), .unset, .unset, .unset, .unset, .unset, .unset, .unset, .unset, .unset, .unset]) rfl kgo) ?_
  obtain ⟨T1, h1, X1, e1, E1, A1, D1, -, st1⟩ := newO X0 hx hZ hown (hw _ (List.mem_of_getElem? (i := 1) rfl)) (hw _ (List.mem_of_getElem? (i := 2) rfl)) (hw _ (List.mem_of_getElem? (i := 3) rfl)) e0 (g := (mkF m 29 #[.val (.int p0), .val (.int p1), .val (.long q2), .second, .val (.long q3), .second, .val (.int p4), .val (.int nn), .val (.int ia), .val (.int ib), .unset, .unset, .unset, .unset, .unset, .unset, .unset, .unset, .unset, .unset] [])) rfl (hb hby at_29) (by decide) (by decide)
  obtain ⟨b1, ad1⟩ : ∃ z, z = h0.size := ⟨_, rfl⟩
  rw [← ad1] at A1 D1 st1
  have ge_b1 : n0 ≤ b1 := by rw [ad1]; exact Z0
  have Z1 : n0 ≤ h1.size := Nat.le_trans Z0 E1.1
  have F1_bits : Fld Z h1 b1 "com/example/gist_sketch/gistsketch/format/BitArray" "bits" "J" (.long (0 : Int64)) := D1 (Or.inr (hw _ (List.mem_of_getElem? (i := 25) rfl))) (ty := .long) (by decide)
  have F1_pages : Fld Z h1 b1 "com/example/gist_sketch/gistsketch/format/BitArray" "pages" "[[J" .null := D1 (Or.inr (hw _ (List.mem_of_getElem? (i := 27) rfl))) (ty := (.array (.array .long))) (by decide)
  refine own_go (g' := (mkF m 32 #[.val (.int p0), .val (.int p1), .val (.long q2), .second, .val (.long q3), .second, .val (.int p4), .val (.int nn), .val (.int ia), .val (.int ib), .unset, .unset, .unset, .unset, .unset, .unset, .unset, .unset, .unset, .unset] [(.ref b1)])) (st1) ?_
  refine own_go (g' := (mkF m 33 #[.val (.int p0), .val (.int p1), .val (.long q2), .second, .val (.long q3), .second, .val (.int p4), .val (.int nn), .val (.int ia), .val (.int ib), .unset, .unset, .unset, .unset, .unset, .unset, .unset, .unset, .unset, .unset] [(.ref b1), (.ref b1)])) (fun _ kgo => XS.dup X1.here hx rfl (hb hby at_32) rfl rfl kgo) ?_
  refine own_go (g' := (mkF m 35 #[.val (.int p0), .val (.int p1), .val (.long q2), .second, .val (.long q3), .second, .val (.int p4), .val (.int nn), .val (.int ia), .val (.int ib), .unset, .unset, .unset, .unset, .unset, .unset, .unset, .unset, .unset, .unset] [(.int nn), (.ref b1), (.ref b1)])) (fun _ kgo => XS.iload X1.here hx rfl (hb hby at_33) rfl kgo) ?_
  refine own_go (g' := (mkF m 36 #[.val (.int p0), .val (.int p1), .val (.long q2), .second, .val (.long q3), .second, .val (.int p4), .val (.int nn), .val (.int ia), .val (.int ib), .unset, .unset, .unset, .unset, .unset, .unset, .unset, .unset, .unset, .unset] [(.long (nn.toInt64)), (.ref b1), (.ref b1)])) (fun _ kgo => XS.i2l X1.here hx rfl (hb hby at_35) rfl kgo) ?_
  obtain ⟨v2, T2, L2, hQ2, X2, st2⟩ := own_callI X1 hx hZ (y := (⟨"com/example/gist_sketch/gistsketch/format/BitArray", "<init>", "(J)V"⟩ : MethodName)) rfl hown (hw _ (List.mem_of_getElem? (i := 4) rfl)) (hw _ (List.mem_of_getElem? (i := 5) rfl)) (hw _ (List.mem_of_getElem? (i := 3) rfl)) (hw _ (List.mem_of_getElem? (i := 6) rfl)) ⟨by decide, by decide⟩ (a := b1) (argsL := [(.long (nn.toInt64))]) (ct1 l Z a0 hw b1 (nn.toInt64) h1 n0 Z1 ge_b1 A1 F1_bits F1_pages (by rw [c_i2l]; exact hn)) e1 (g := (mkF m 36 #[.val (.int p0), .val (.int p1), .val (.long q2), .second, .val (.long q3), .second, .val (.int p4), .val (.int nn), .val (.int ia), .val (.int ib), .unset, .unset, .unset, .unset, .unset, .unset, .unset, .unset, .unset, .unset] [(.long (nn.toInt64)), (.ref b1), (.ref b1)])) rfl (by rw [hml]; rfl) (rest := [(.ref b1)]) (lenOf pd0_0 rfl) rfl (hb hby at_36) (W := 1) (by show 2 * 0 + _ ≤ _; exact Nat.le_of_eq rfl) (by decide) (by decide) (by decide) (by decide)
  obtain ⟨pg2, w2, kp2, kw2, rfl, Nq2, Kq2, pr2_0, pr2_1, pr2_2, q2_0, q2_1, q2_2, q2_3, q2_4⟩ := hQ2
  have ne_b1_pg2 : b1 ≠ pg2 := Nat.ne_of_lt (Nat.lt_of_lt_of_le A1.lt pr2_1)
  have ge_pg2 : n0 ≤ pg2 := Nat.le_trans Z1 pr2_1
  have ne_b1_w2 : b1 ≠ w2 := Nat.ne_of_lt (Nat.lt_of_lt_of_le A1.lt pr2_2)
  have ge_w2 : n0 ≤ w2 := Nat.le_trans Z1 pr2_2
  have N2 := Fr.app N0 Nq2
  have Z2 : n0 ≤ T2.heap.size := Nat.le_trans Z1 Kq2.1
  refine own_go (g' := (mkF m 39 #[.val (.int p0), .val (.int p1), .val (.long q2), .second, .val (.long q3), .second, .val (.int p4), .val (.int nn), .val (.int ia), .val (.int ib), .unset, .unset, .unset, .unset, .unset, .unset, .unset, .unset, .unset, .unset] [(.ref b1)])) (st2) ?_
  refine own_go (g' := (mkF m 41 #[.val (.int p0), .val (.int p1), .val (.long q2), .second, .val (.long q3), .second, .val (.int p4), .val (.int nn), .val (.int ia), .val (.int ib), .val (.ref b1), .unset, .unset, .unset, .unset, .unset, .unset, .unset, .unset, .unset] [])) (fun _ kgo => XS.astore X2.here hx rfl (hb hby at_39) rfl rfl (l' := #[.val (.int p0), .val (.int p1), .val (.long q2), .second, .val (.long q3), .second, .val (.int p4), .val (.int nn), .val (.int ia), .val (.int ib), .val (.ref b1), .unset, .unset, .unset, .unset, .unset, .unset, .unset, .unset, .unset]) rfl kgo) ?_
  refine own_go (g' := (mkF m 43 #[.val (.int p0), .val (.int p1), .val (.long q2), .second, .val (.long q3), .second, .val (.int p4), .val (.int nn), .val (.int ia), .val (.int ib), .val (.ref b1), .unset, .unset, .unset, .unset, .unset, .unset, .unset, .unset, .unset] [(.ref b1)])) (fun _ kgo => XS.aload X2.here hx rfl (hb hby at_41) rfl rfl kgo) ?_
  refine own_go (g' := (mkF m 45 #[.val (.int p0), .val (.int p1), .val (.long q2), .second, .val (.long q3), .second, .val (.int p4), .val (.int nn), .val (.int ia), .val (.int ib), .val (.ref b1), .unset, .unset, .unset, .unset, .unset, .unset, .unset, .unset, .unset] [(.int ia), (.ref b1)])) (fun _ kgo => XS.iload X2.here hx rfl (hb hby at_43) rfl kgo) ?_
  refine own_go (g' := (mkF m 46 #[.val (.int p0), .val (.int p1), .val (.long q2), .second, .val (.long q3), .second, .val (.int p4), .val (.int nn), .val (.int ia), .val (.int ib), .val (.ref b1), .unset, .unset, .unset, .unset, .unset, .unset, .unset, .unset, .unset] [(.long (ia.toInt64)), (.ref b1)])) (fun _ kgo => XS.i2l X2.here hx rfl (hb hby at_45) rfl kgo) ?_
  obtain ⟨v3, T3, L3, hQ3, X3, st3⟩ := own_callV X2 hx hZ (y := (⟨"com/example/gist_sketch/gistsketch/format/BitArray", "set", "(J)V"⟩ : MethodName)) (z := (⟨"com/example/gist_sketch/gistsketch/format/BitArray", "set", "(J)V"⟩ : MethodName)) hown (hw _ (List.mem_of_getElem? (i := 38) rfl)) (hw _ (List.mem_of_getElem? (i := 39) rfl)) (notFace_of_selects (args := #[]) (mvT hZ (hw _ (List.mem_of_getElem? (i := 41) rfl)))) (hw _ (List.mem_of_getElem? (i := 41) rfl)) (hw _ (List.mem_of_getElem? (i := 40) rfl)) (hw _ (List.mem_of_getElem? (i := 3) rfl)) (hw _ (List.mem_of_getElem? (i := 42) rfl)) ⟨by decide, by decide⟩ (a := b1) (argsL := [(.long (ia.toInt64))]) (rm8 l Z a0 hw b1 (ia.toInt64) (nn.toInt64) pg2 kp2 w2 kw2 (0 : Int64) (0 : Int64) (0 : Int64) (0 : Int64) T2.heap n0 Z2 ge_w2 q2_0 q2_1 q2_2 q2_3 q2_4 (by rw [c_i2l]; omega) (by simp only [Int64.lt_iff_toInt_lt, c_i2l, Int64.reduceToInt]; omega) ne_b1_w2 pr2_0) rfl q2_0 (g := (mkF m 46 #[.val (.int p0), .val (.int p1), .val (.long q2), .second, .val (.long q3), .second, .val (.int p4), .val (.int nn), .val (.int ia), .val (.int ib), .val (.ref b1), .unset, .unset, .unset, .unset, .unset, .unset, .unset, .unset, .unset] [(.long (ia.toInt64)), (.ref b1)])) rfl (by rw [hml]; rfl) (rest := []) (lenOf pd0_0 rfl) rfl (hb hby at_46) (W := 0) (by show 2 * 0 + _ ≤ _; exact Nat.le_of_eq rfl) (by decide) (by decide) (by decide) (by decide)
  obtain ⟨rfl, Nq3, Kq3, q3_0⟩ := hQ3
  have N3 := Fr.app N2 Nq3
  have Z3 : n0 ≤ T3.heap.size := Nat.le_trans Z2 Kq3.1
  refine own_go (g' := (mkF m 49 #[.val (.int p0), .val (.int p1), .val (.long q2), .second, .val (.long q3), .second, .val (.int p4), .val (.int nn), .val (.int ia), .val (.int ib), .val (.ref b1), .unset, .unset, .unset, .unset, .unset, .unset, .unset, .unset, .unset] [])) (st3) ?_
  refine own_go (g' := (mkF m 51 #[.val (.int p0), .val (.int p1), .val (.long q2), .second, .val (.long q3), .second, .val (.int p4), .val (.int nn), .val (.int ia), .val (.int ib), .val (.ref b1), .unset, .unset, .unset, .unset, .unset, .unset, .unset, .unset, .unset] [(.ref b1)])) (fun _ kgo => XS.aload X3.here hx rfl (hb hby at_49) rfl rfl kgo) ?_
  refine own_go (g' := (mkF m 53 #[.val (.int p0), .val (.int p1), .val (.long q2), .second, .val (.long q3), .second, .val (.int p4), .val (.int nn), .val (.int ia), .val (.int ib), .val (.ref b1), .unset, .unset, .unset, .unset, .unset, .unset, .unset, .unset, .unset] [(.int ib), (.ref b1)])) (fun _ kgo => XS.iload X3.here hx rfl (hb hby at_51) rfl kgo) ?_
  refine own_go (g' := (mkF m 54 #[.val (.int p0), .val (.int p1), .val (.long q2), .second, .val (.long q3), .second, .val (.int p4), .val (.int nn), .val (.int ia), .val (.int ib), .val (.ref b1), .unset, .unset, .unset, .unset, .unset, .unset, .unset, .unset, .unset] [(.long (ib.toInt64)), (.ref b1)])) (fun _ kgo => XS.i2l X3.here hx rfl (hb hby at_53) rfl kgo) ?_
  have fx5 : Exa Z T3.heap b1 "com/example/gist_sketch/gistsketch/format/BitArray" := (Exa.keep q2_0 Kq3)
  have fx6 : Fld Z T3.heap b1 "com/example/gist_sketch/gistsketch/format/BitArray" "bits" "J" (.long (nn.toInt64)) := (Fld.keep q2_1 Kq3 (ninS ne_b1_w2 nin0))
  have fx7 : Fld Z T3.heap b1 "com/example/gist_sketch/gistsketch/format/BitArray" "pages" "[[J" (.ref pg2) := (Fld.keep q2_2 Kq3 (ninS ne_b1_w2 nin0))
  have fx8 : Arv Z T3.heap pg2 kp2 (.array .long) (1 : Int32) [(.ref w2)] .null := (Arv.keep q2_3 Kq3 (ninS pr2_0 nin0))
  obtain ⟨v4, T4, L4, hQ4, X4, st4⟩ := own_callV X3 hx hZ (y := (⟨"com/example/gist_sketch/gistsketch/format/BitArray", "set", "(J)V"⟩ : MethodName)) (z := (⟨"com/example/gist_sketch/gistsketch/format/BitArray", "set", "(J)V"⟩ : MethodName)) hown (hw _ (List.mem_of_getElem? (i := 38) rfl)) (hw _ (List.mem_of_getElem? (i := 39) rfl)) (notFace_of_selects (args := #[]) (mvT hZ (hw _ (List.mem_of_getElem? (i := 41) rfl)))) (hw _ (List.mem_of_getElem? (i := 41) rfl)) (hw _ (List.mem_of_getElem? (i := 40) rfl)) (hw _ (List.mem_of_getElem? (i := 3) rfl)) (hw _ (List.mem_of_getElem? (i := 42) rfl)) ⟨by decide, by decide⟩ (a := b1) (argsL := [(.long (ib.toInt64))]) (rm8 l Z a0 hw b1 (ib.toInt64) (nn.toInt64) pg2 kp2 w2 kw2 (own_o 0 (ia.toInt64) (0 : Int64)) (own_o 1 (ia.toInt64) (0 : Int64)) (own_o 2 (ia.toInt64) (0 : Int64)) (own_o 3 (ia.toInt64) (0 : Int64)) T3.heap n0 Z3 ge_w2 fx5 fx6 fx7 fx8 q3_0 (by rw [c_i2l]; omega) (by simp only [Int64.lt_iff_toInt_lt, c_i2l, Int64.reduceToInt]; omega) ne_b1_w2 pr2_0) rfl fx5 (g := (mkF m 54 #[.val (.int p0), .val (.int p1), .val (.long q2), .second, .val (.long q3), .second, .val (.int p4), .val (.int nn), .val (.int ia), .val (.int ib), .val (.ref b1), .unset, .unset, .unset, .unset, .unset, .unset, .unset, .unset, .unset] [(.long (ib.toInt64)), (.ref b1)])) rfl (by rw [hml]; rfl) (rest := []) (lenOf pd0_0 rfl) rfl (hb hby at_54) (W := 0) (by show 2 * 0 + _ ≤ _; exact Nat.le_of_eq rfl) (by decide) (by decide) (by decide) (by decide)
  obtain ⟨rfl, Nq4, Kq4, q4_0⟩ := hQ4
  have N4 := Fr.app N3 Nq4
  have Z4 : n0 ≤ T4.heap.size := Nat.le_trans Z3 Kq4.1
  refine own_go (g' := (mkF m 57 #[.val (.int p0), .val (.int p1), .val (.long q2), .second, .val (.long q3), .second, .val (.int p4), .val (.int nn), .val (.int ia), .val (.int ib), .val (.ref b1), .unset, .unset, .unset, .unset, .unset, .unset, .unset, .unset, .unset] [])) (st4) ?_
  refine own_go (g' := (mkF m 59 #[.val (.int p0), .val (.int p1), .val (.long q2), .second, .val (.long q3), .second, .val (.int p4), .val (.int nn), .val (.int ia), .val (.int ib), .val (.ref b1), .unset, .unset, .unset, .unset, .unset, .unset, .unset, .unset, .unset] [(.ref b1)])) (fun _ kgo => XS.aload X4.here hx rfl (hb hby at_57) rfl rfl kgo) ?_
  refine own_go (g' := (mkF m 60 #[.val (.int p0), .val (.int p1), .val (.long q2), .second, .val (.long q3), .second, .val (.int p4), .val (.int nn), .val (.int ia), .val (.int ib), .val (.ref b1), .unset, .unset, .unset, .unset, .unset, .unset, .unset, .unset, .unset] [(.long (0 : Int64)), (.ref b1)])) (fun _ kgo => XS.lconst X4.here hx rfl (hb hby at_59) kgo) ?_
  have fx10 : Fld Z T4.heap b1 "com/example/gist_sketch/gistsketch/format/BitArray" "bits" "J" (.long (nn.toInt64)) := (Fld.keep fx6 Kq4 (ninS ne_b1_w2 nin0))
  have fx11 : Fld Z T4.heap b1 "com/example/gist_sketch/gistsketch/format/BitArray" "pages" "[[J" (.ref pg2) := (Fld.keep fx7 Kq4 (ninS ne_b1_w2 nin0))
  have fx12 : Arv Z T4.heap pg2 kp2 (.array .long) (1 : Int32) [(.ref w2)] .null := (Arv.keep fx8 Kq4 (ninS pr2_0 nin0))
  have fx13 : Exa Z T4.heap b1 "com/example/gist_sketch/gistsketch/format/BitArray" := (Exa.keep fx5 Kq4)
  obtain ⟨v9, T9, L9, hQ9, X9, st9⟩ := own_callV X4 hx hZ (y := (⟨"com/example/gist_sketch/gistsketch/format/BitArray", "word", "(J)J"⟩ : MethodName)) (z := (⟨"com/example/gist_sketch/gistsketch/format/BitArray", "word", "(J)J"⟩ : MethodName)) hown (hw _ (List.mem_of_getElem? (i := 52) rfl)) (hw _ (List.mem_of_getElem? (i := 53) rfl)) (notFace_of_selects (args := #[]) (mvT hZ (hw _ (List.mem_of_getElem? (i := 55) rfl)))) (hw _ (List.mem_of_getElem? (i := 55) rfl)) (hw _ (List.mem_of_getElem? (i := 54) rfl)) (hw _ (List.mem_of_getElem? (i := 3) rfl)) (hw _ (List.mem_of_getElem? (i := 56) rfl)) ⟨by decide, by decide⟩ (a := b1) (argsL := [(.long (0 : Int64))]) (wd_0_1 l Z a0 hw b1 (nn.toInt64) pg2 kp2 w2 kw2 (own_o 0 (ib.toInt64) (own_o 0 (ia.toInt64) (0 : Int64))) (own_o 1 (ib.toInt64) (own_o 1 (ia.toInt64) (0 : Int64))) (own_o 2 (ib.toInt64) (own_o 2 (ia.toInt64) (0 : Int64))) (own_o 3 (ib.toInt64) (own_o 3 (ia.toInt64) (0 : Int64))) T4.heap fx10 fx11 fx12 q4_0) rfl fx13 (g := (mkF m 60 #[.val (.int p0), .val (.int p1), .val (.long q2), .second, .val (.long q3), .second, .val (.int p4), .val (.int nn), .val (.int ia), .val (.int ib), .val (.ref b1), .unset, .unset, .unset, .unset, .unset, .unset, .unset, .unset, .unset] [(.long (0 : Int64)), (.ref b1)])) rfl (by rw [hml]; rfl) (rest := []) (lenOf pd0_1 rfl) rfl (hb hby at_60) (W := 0) (by show 2 * 0 + _ ≤ _; exact Nat.le_of_eq rfl) (by decide) (by decide) (by decide) (by decide)
  obtain ⟨rfl, e9, rfl⟩ := hQ9
  have N9 := Fr.app N4 (Fr.nil n0)
  refine own_go (g' := (mkF m 63 #[.val (.int p0), .val (.int p1), .val (.long q2), .second, .val (.long q3), .second, .val (.int p4), .val (.int nn), .val (.int ia), .val (.int ib), .val (.ref b1), .unset, .unset, .unset, .unset, .unset, .unset, .unset, .unset, .unset] [(.long (own_o 0 (ib.toInt64) (own_o 0 (ia.toInt64) (0 : Int64))))])) (st9) ?_
  refine own_go (g' := (mkF m 65 #[.val (.int p0), .val (.int p1), .val (.long q2), .second, .val (.long q3), .second, .val (.int p4), .val (.int nn), .val (.int ia), .val (.int ib), .val (.ref b1), .unset, .unset, .unset, .unset, .unset, .unset, .unset, .unset, .unset] [(.int ia), (.long (own_o 0 (ib.toInt64) (own_o 0 (ia.toInt64) (0 : Int64))))])) (fun _ kgo => XS.iload X9.here hx rfl (hb hby at_63) rfl kgo) ?_
  refine own_go (g' := (mkF m 67 #[.val (.int p0), .val (.int p1), .val (.long q2), .second, .val (.long q3), .second, .val (.int p4), .val (.int nn), .val (.int ia), .val (.int ib), .val (.ref b1), .unset, .unset, .unset, .unset, .unset, .unset, .unset, .unset, .unset] [(.int ib), (.int ia), (.long (own_o 0 (ib.toInt64) (own_o 0 (ia.toInt64) (0 : Int64))))])) (fun _ kgo => XS.iload X9.here hx rfl (hb hby at_65) rfl kgo) ?_
  refine own_go (g' := (mkF m 68 #[.val (.int p0), .val (.int p1), .val (.long q2), .second, .val (.long q3), .second, .val (.int p4), .val (.int nn), .val (.int ia), .val (.int ib), .val (.ref b1), .unset, .unset, .unset, .unset, .unset, .unset, .unset, .unset, .unset] [(.int (0 : Int32)), (.int ib), (.int ia), (.long (own_o 0 (ib.toInt64) (own_o 0 (ia.toInt64) (0 : Int64))))])) (fun _ kgo => XS.iconst X9.here hx rfl (hb hby at_67) kgo) ?_
  obtain ⟨v14, T14, L14, hQ14, X14, st14⟩ := own_callS X9 hx hZ (y := (⟨"com/example/gist_sketch/gistsketch/format/BitArrayWordPinLaw", "expect", "(III)J"⟩ : MethodName)) hown (hw _ (List.mem_of_getElem? (i := 57) rfl)) (hw _ (List.mem_of_getElem? (i := 58) rfl)) (hw _ (List.mem_of_getElem? (i := 59) rfl)) (hw _ (List.mem_of_getElem? (i := 60) rfl)) ⟨by decide, by decide⟩ (argsL := [(.int ia), (.int ib), (.int (0 : Int32))]) (rm12 l Z a0 hw ia ib (0 : Int32) T4.heap) e9 (g := (mkF m 68 #[.val (.int p0), .val (.int p1), .val (.long q2), .second, .val (.long q3), .second, .val (.int p4), .val (.int nn), .val (.int ia), .val (.int ib), .val (.ref b1), .unset, .unset, .unset, .unset, .unset, .unset, .unset, .unset, .unset] [(.int (0 : Int32)), (.int ib), (.int ia), (.long (own_o 0 (ib.toInt64) (own_o 0 (ia.toInt64) (0 : Int64))))])) rfl (by rw [hml]; rfl) (rest := [(.long (own_o 0 (ib.toInt64) (own_o 0 (ia.toInt64) (0 : Int64))))]) (lenOf pd0_2 rfl) rfl (hb hby at_68) (W := 2) (by show 2 * 0 + _ ≤ _; exact Nat.le_of_eq rfl) (by decide) (by decide) (by decide) (by decide)
  obtain ⟨rfl, e14, rfl⟩ := hQ14
  have N14 := Fr.app N9 (Fr.nil n0)
  refine own_go (g' := (mkF m 71 #[.val (.int p0), .val (.int p1), .val (.long q2), .second, .val (.long q3), .second, .val (.int p4), .val (.int nn), .val (.int ia), .val (.int ib), .val (.ref b1), .unset, .unset, .unset, .unset, .unset, .unset, .unset, .unset, .unset] [(.long (own_e ib (0 : Int32) (own_e ia (0 : Int32) (0 : Int64)))), (.long (own_o 0 (ib.toInt64) (own_o 0 (ia.toInt64) (0 : Int64))))])) (st14) ?_
  refine own_go (g' := (mkF m 72 #[.val (.int p0), .val (.int p1), .val (.long q2), .second, .val (.long q3), .second, .val (.int p4), .val (.int nn), .val (.int ia), .val (.int ib), .val (.ref b1), .unset, .unset, .unset, .unset, .unset, .unset, .unset, .unset, .unset] [(.int (lcmpW (own_o 0 (ib.toInt64) (own_o 0 (ia.toInt64) (0 : Int64))) (own_e ib (0 : Int32) (own_e ia (0 : Int32) (0 : Int64)))))])) (fun _ kgo => XS.lcmp X14.here hx rfl (hb hby at_71) rfl kgo) ?_
  refine own_go (g' := (mkF m 75 #[.val (.int p0), .val (.int p1), .val (.long q2), .second, .val (.long q3), .second, .val (.int p4), .val (.int nn), .val (.int ia), .val (.int ib), .val (.ref b1), .unset, .unset, .unset, .unset, .unset, .unset, .unset, .unset, .unset] [])) (fun _ kgo => XS.ifNo X14.here hx rfl (hb hby at_72) rfl ((if0 _ _).trans (teq ((lw_eq _ _).mpr (by rw [own_oe ia (0 : Int32) 0 (by decide), own_oe ib (0 : Int32) 0 (by decide)]))).2) kgo) ?_
  refine own_go (g' := (mkF m 77 #[.val (.int p0), .val (.int p1), .val (.long q2), .second, .val (.long q3), .second, .val (.int p4), .val (.int nn), .val (.int ia), .val (.int ib), .val (.ref b1), .unset, .unset, .unset, .unset, .unset, .unset, .unset, .unset, .unset] [(.ref b1)])) (fun _ kgo => XS.aload X14.here hx rfl (hb hby at_75) rfl rfl kgo) ?_
  refine own_go (g' := (mkF m 78 #[.val (.int p0), .val (.int p1), .val (.long q2), .second, .val (.long q3), .second, .val (.int p4), .val (.int nn), .val (.int ia), .val (.int ib), .val (.ref b1), .unset, .unset, .unset, .unset, .unset, .unset, .unset, .unset, .unset] [(.long (1 : Int64)), (.ref b1)])) (fun _ kgo => XS.lconst X14.here hx rfl (hb hby at_77) kgo) ?_
  obtain ⟨v15, T15, L15, hQ15, X15, st15⟩ := own_callV X14 hx hZ (y := (⟨"com/example/gist_sketch/gistsketch/format/BitArray", "word", "(J)J"⟩ : MethodName)) (z := (⟨"com/example/gist_sketch/gistsketch/format/BitArray", "word", "(J)J"⟩ : MethodName)) hown (hw _ (List.mem_of_getElem? (i := 52) rfl)) (hw _ (List.mem_of_getElem? (i := 53) rfl)) (notFace_of_selects (args := #[]) (mvT hZ (hw _ (List.mem_of_getElem? (i := 55) rfl)))) (hw _ (List.mem_of_getElem? (i := 55) rfl)) (hw _ (List.mem_of_getElem? (i := 54) rfl)) (hw _ (List.mem_of_getElem? (i := 3) rfl)) (hw _ (List.mem_of_getElem? (i := 56) rfl)) ⟨by decide, by decide⟩ (a := b1) (argsL := [(.long (1 : Int64))]) (wd_1_1 l Z a0 hw b1 (nn.toInt64) pg2 kp2 w2 kw2 (own_o 0 (ib.toInt64) (own_o 0 (ia.toInt64) (0 : Int64))) (own_o 1 (ib.toInt64) (own_o 1 (ia.toInt64) (0 : Int64))) (own_o 2 (ib.toInt64) (own_o 2 (ia.toInt64) (0 : Int64))) (own_o 3 (ib.toInt64) (own_o 3 (ia.toInt64) (0 : Int64))) T4.heap fx10 fx11 fx12 q4_0) e14 fx13 (g := (mkF m 78 #[.val (.int p0), .val (.int p1), .val (.long q2), .second, .val (.long q3), .second, .val (.int p4), .val (.int nn), .val (.int ia), .val (.int ib), .val (.ref b1), .unset, .unset, .unset, .unset, .unset, .unset, .unset, .unset, .unset] [(.long (1 : Int64)), (.ref b1)])) rfl (by rw [hml]; rfl) (rest := []) (lenOf pd0_1 rfl) rfl (hb hby at_78) (W := 0) (by show 2 * 0 + _ ≤ _; exact Nat.le_of_eq rfl) (by decide) (by decide) (by decide) (by decide)
  obtain ⟨rfl, e15, rfl⟩ := hQ15
  have N15 := Fr.app N14 (Fr.nil n0)
  refine own_go (g' := (mkF m 81 #[.val (.int p0), .val (.int p1), .val (.long q2), .second, .val (.long q3), .second, .val (.int p4), .val (.int nn), .val (.int ia), .val (.int ib), .val (.ref b1), .unset, .unset, .unset, .unset, .unset, .unset, .unset, .unset, .unset] [(.long (own_o 1 (ib.toInt64) (own_o 1 (ia.toInt64) (0 : Int64))))])) (st15) ?_
  refine own_go (g' := (mkF m 83 #[.val (.int p0), .val (.int p1), .val (.long q2), .second, .val (.long q3), .second, .val (.int p4), .val (.int nn), .val (.int ia), .val (.int ib), .val (.ref b1), .unset, .unset, .unset, .unset, .unset, .unset, .unset, .unset, .unset] [(.int ia), (.long (own_o 1 (ib.toInt64) (own_o 1 (ia.toInt64) (0 : Int64))))])) (fun _ kgo => XS.iload X15.here hx rfl (hb hby at_81) rfl kgo) ?_
  refine own_go (g' := (mkF m 85 #[.val (.int p0), .val (.int p1), .val (.long q2), .second, .val (.long q3), .second, .val (.int p4), .val (.int nn), .val (.int ia), .val (.int ib), .val (.ref b1), .unset, .unset, .unset, .unset, .unset, .unset, .unset, .unset, .unset] [(.int ib), (.int ia), (.long (own_o 1 (ib.toInt64) (own_o 1 (ia.toInt64) (0 : Int64))))])) (fun _ kgo => XS.iload X15.here hx rfl (hb hby at_83) rfl kgo) ?_
  refine own_go (g' := (mkF m 86 #[.val (.int p0), .val (.int p1), .val (.long q2), .second, .val (.long q3), .second, .val (.int p4), .val (.int nn), .val (.int ia), .val (.int ib), .val (.ref b1), .unset, .unset, .unset, .unset, .unset, .unset, .unset, .unset, .unset] [(.int (1 : Int32)), (.int ib), (.int ia), (.long (own_o 1 (ib.toInt64) (own_o 1 (ia.toInt64) (0 : Int64))))])) (fun _ kgo => XS.iconst X15.here hx rfl (hb hby at_85) kgo) ?_
  obtain ⟨v16, T16, L16, hQ16, X16, st16⟩ := own_callS X15 hx hZ (y := (⟨"com/example/gist_sketch/gistsketch/format/BitArrayWordPinLaw", "expect", "(III)J"⟩ : MethodName)) hown (hw _ (List.mem_of_getElem? (i := 57) rfl)) (hw _ (List.mem_of_getElem? (i := 58) rfl)) (hw _ (List.mem_of_getElem? (i := 59) rfl)) (hw _ (List.mem_of_getElem? (i := 60) rfl)) ⟨by decide, by decide⟩ (argsL := [(.int ia), (.int ib), (.int (1 : Int32))]) (rm12 l Z a0 hw ia ib (1 : Int32) T4.heap) e15 (g := (mkF m 86 #[.val (.int p0), .val (.int p1), .val (.long q2), .second, .val (.long q3), .second, .val (.int p4), .val (.int nn), .val (.int ia), .val (.int ib), .val (.ref b1), .unset, .unset, .unset, .unset, .unset, .unset, .unset, .unset, .unset] [(.int (1 : Int32)), (.int ib), (.int ia), (.long (own_o 1 (ib.toInt64) (own_o 1 (ia.toInt64) (0 : Int64))))])) rfl (by rw [hml]; rfl) (rest := [(.long (own_o 1 (ib.toInt64) (own_o 1 (ia.toInt64) (0 : Int64))))]) (lenOf pd0_2 rfl) rfl (hb hby at_86) (W := 2) (by show 2 * 0 + _ ≤ _; exact Nat.le_of_eq rfl) (by decide) (by decide) (by decide) (by decide)
  obtain ⟨rfl, e16, rfl⟩ := hQ16
  have N16 := Fr.app N15 (Fr.nil n0)
  refine own_go (g' := (mkF m 89 #[.val (.int p0), .val (.int p1), .val (.long q2), .second, .val (.long q3), .second, .val (.int p4), .val (.int nn), .val (.int ia), .val (.int ib), .val (.ref b1), .unset, .unset, .unset, .unset, .unset, .unset, .unset, .unset, .unset] [(.long (own_e ib (1 : Int32) (own_e ia (1 : Int32) (0 : Int64)))), (.long (own_o 1 (ib.toInt64) (own_o 1 (ia.toInt64) (0 : Int64))))])) (st16) ?_
  refine own_go (g' := (mkF m 90 #[.val (.int p0), .val (.int p1), .val (.long q2), .second, .val (.long q3), .second, .val (.int p4), .val (.int nn), .val (.int ia), .val (.int ib), .val (.ref b1), .unset, .unset, .unset, .unset, .unset, .unset, .unset, .unset, .unset] [(.int (lcmpW (own_o 1 (ib.toInt64) (own_o 1 (ia.toInt64) (0 : Int64))) (own_e ib (1 : Int32) (own_e ia (1 : Int32) (0 : Int64)))))])) (fun _ kgo => XS.lcmp X16.here hx rfl (hb hby at_89) rfl kgo) ?_
  refine own_go (g' := (mkF m 93 #[.val (.int p0), .val (.int p1), .val (.long q2), .second, .val (.long q3), .second, .val (.int p4), .val (.int nn), .val (.int ia), .val (.int ib), .val (.ref b1), .unset, .unset, .unset, .unset, .unset, .unset, .unset, .unset, .unset] [])) (fun _ kgo => XS.ifNo X16.here hx rfl (hb hby at_90) rfl ((if0 _ _).trans (teq ((lw_eq _ _).mpr (by rw [own_oe ia (1 : Int32) 1 (by decide), own_oe ib (1 : Int32) 1 (by decide)]))).2) kgo) ?_
  refine own_go (g' := (mkF m 95 #[.val (.int p0), .val (.int p1), .val (.long q2), .second, .val (.long q3), .second, .val (.int p4), .val (.int nn), .val (.int ia), .val (.int ib), .val (.ref b1), .unset, .unset, .unset, .unset, .unset, .unset, .unset, .unset, .unset] [(.ref b1)])) (fun _ kgo => XS.aload X16.here hx rfl (hb hby at_93) rfl rfl kgo) ?_
  refine own_go (g' := (mkF m 98 #[.val (.int p0), .val (.int p1), .val (.long q2), .second, .val (.long q3), .second, .val (.int p4), .val (.int nn), .val (.int ia), .val (.int ib), .val (.ref b1), .unset, .unset, .unset, .unset, .unset, .unset, .unset, .unset, .unset] [(.long (2 : Int64)), (.ref b1)])) (X16.ldc2Long hx hown (mvT hZ (hw _ (List.mem_of_getElem? (i := 61) rfl))) (g := (mkF m 95 #[.val (.int p0), .val (.int p1), .val (.long q2), .second, .val (.long q3), .second, .val (.int p4), .val (.int nn), .val (.int ia), .val (.int ib), .val (.ref b1), .unset, .unset, .unset, .unset, .unset, .unset, .unset, .unset, .unset] [(.ref b1)])) rfl (hb hby at_95)) ?_
  obtain ⟨v17, T17, L17, hQ17, X17, st17⟩ := own_callV X16 hx hZ (y := (⟨"com/example/gist_sketch/gistsketch/format/BitArray", "word", "(J)J"⟩ : MethodName)) (z := (⟨"com/example/gist_sketch/gistsketch/format/BitArray", "word", "(J)J"⟩ : MethodName)) hown (hw _ (List.mem_of_getElem? (i := 52) rfl)) (hw _ (List.mem_of_getElem? (i := 53) rfl)) (notFace_of_selects (args := #[]) (mvT hZ (hw _ (List.mem_of_getElem? (i := 55) rfl)))) (hw _ (List.mem_of_getElem? (i := 55) rfl)) (hw _ (List.mem_of_getElem? (i := 54) rfl)) (hw _ (List.mem_of_getElem? (i := 3) rfl)) (hw _ (List.mem_of_getElem? (i := 56) rfl)) ⟨by decide, by decide⟩ (a := b1) (argsL := [(.long (2 : Int64))]) (wd_2_1 l Z a0 hw b1 (nn.toInt64) pg2 kp2 w2 kw2 (own_o 0 (ib.toInt64) (own_o 0 (ia.toInt64) (0 : Int64))) (own_o 1 (ib.toInt64) (own_o 1 (ia.toInt64) (0 : Int64))) (own_o 2 (ib.toInt64) (own_o 2 (ia.toInt64) (0 : Int64))) (own_o 3 (ib.toInt64) (own_o 3 (ia.toInt64) (0 : Int64))) T4.heap fx10 fx11 fx12 q4_0) e16 fx13 (g := (mkF m 98 #[.val (.int p0), .val (.int p1), .val (.long q2), .second, .val (.long q3), .second, .val (.int p4), .val (.int nn), .val (.int ia), .val (.int ib), .val (.ref b1), .unset, .unset, .unset, .unset, .unset, .unset, .unset, .unset, .unset] [(.long (2 : Int64)), (.ref b1)])) rfl (by rw [hml]; rfl) (rest := []) (lenOf pd0_1 rfl) rfl (hb hby at_98) (W := 0) (by show 2 * 0 + _ ≤ _; exact Nat.le_of_eq rfl) (by decide) (by decide) (by decide) (by decide)
  obtain ⟨rfl, e17, rfl⟩ := hQ17
  have N17 := Fr.app N16 (Fr.nil n0)
  refine own_go (g' := (mkF m 101 #[.val (.int p0), .val (.int p1), .val (.long q2), .second, .val (.long q3), .second, .val (.int p4), .val (.int nn), .val (.int ia), .val (.int ib), .val (.ref b1), .unset, .unset, .unset, .unset, .unset, .unset, .unset, .unset, .unset] [(.long (own_o 2 (ib.toInt64) (own_o 2 (ia.toInt64) (0 : Int64))))])) (st17) ?_
  refine own_go (g' := (mkF m 103 #[.val (.int p0), .val (.int p1), .val (.long q2), .second, .val (.long q3), .second, .val (.int p4), .val (.int nn), .val (.int ia), .val (.int ib), .val (.ref b1), .unset, .unset, .unset, .unset, .unset, .unset, .unset, .unset, .unset] [(.int ia), (.long (own_o 2 (ib.toInt64) (own_o 2 (ia.toInt64) (0 : Int64))))])) (fun _ kgo => XS.iload X17.here hx rfl (hb hby at_101) rfl kgo) ?_
  refine own_go (g' := (mkF m 105 #[.val (.int p0), .val (.int p1), .val (.long q2), .second, .val (.long q3), .second, .val (.int p4), .val (.int nn), .val (.int ia), .val (.int ib), .val (.ref b1), .unset, .unset, .unset, .unset, .unset, .unset, .unset, .unset, .unset] [(.int ib), (.int ia), (.long (own_o 2 (ib.toInt64) (own_o 2 (ia.toInt64) (0 : Int64))))])) (fun _ kgo => XS.iload X17.here hx rfl (hb hby at_103) rfl kgo) ?_
  refine own_go (g' := (mkF m 106 #[.val (.int p0), .val (.int p1), .val (.long q2), .second, .val (.long q3), .second, .val (.int p4), .val (.int nn), .val (.int ia), .val (.int ib), .val (.ref b1), .unset, .unset, .unset, .unset, .unset, .unset, .unset, .unset, .unset] [(.int (2 : Int32)), (.int ib), (.int ia), (.long (own_o 2 (ib.toInt64) (own_o 2 (ia.toInt64) (0 : Int64))))])) (fun _ kgo => XS.iconst X17.here hx rfl (hb hby at_105) kgo) ?_
  obtain ⟨v18, T18, L18, hQ18, X18, st18⟩ := own_callS X17 hx hZ (y := (⟨"com/example/gist_sketch/gistsketch/format/BitArrayWordPinLaw", "expect", "(III)J"⟩ : MethodName)) hown (hw _ (List.mem_of_getElem? (i := 57) rfl)) (hw _ (List.mem_of_getElem? (i := 58) rfl)) (hw _ (List.mem_of_getElem? (i := 59) rfl)) (hw _ (List.mem_of_getElem? (i := 60) rfl)) ⟨by decide, by decide⟩ (argsL := [(.int ia), (.int ib), (.int (2 : Int32))]) (rm12 l Z a0 hw ia ib (2 : Int32) T4.heap) e17 (g := (mkF m 106 #[.val (.int p0), .val (.int p1), .val (.long q2), .second, .val (.long q3), .second, .val (.int p4), .val (.int nn), .val (.int ia), .val (.int ib), .val (.ref b1), .unset, .unset, .unset, .unset, .unset, .unset, .unset, .unset, .unset] [(.int (2 : Int32)), (.int ib), (.int ia), (.long (own_o 2 (ib.toInt64) (own_o 2 (ia.toInt64) (0 : Int64))))])) rfl (by rw [hml]; rfl) (rest := [(.long (own_o 2 (ib.toInt64) (own_o 2 (ia.toInt64) (0 : Int64))))]) (lenOf pd0_2 rfl) rfl (hb hby at_106) (W := 2) (by show 2 * 0 + _ ≤ _; exact Nat.le_of_eq rfl) (by decide) (by decide) (by decide) (by decide)
  obtain ⟨rfl, e18, rfl⟩ := hQ18
  have N18 := Fr.app N17 (Fr.nil n0)
  refine own_go (g' := (mkF m 109 #[.val (.int p0), .val (.int p1), .val (.long q2), .second, .val (.long q3), .second, .val (.int p4), .val (.int nn), .val (.int ia), .val (.int ib), .val (.ref b1), .unset, .unset, .unset, .unset, .unset, .unset, .unset, .unset, .unset] [(.long (own_e ib (2 : Int32) (own_e ia (2 : Int32) (0 : Int64)))), (.long (own_o 2 (ib.toInt64) (own_o 2 (ia.toInt64) (0 : Int64))))])) (st18) ?_
  refine own_go (g' := (mkF m 110 #[.val (.int p0), .val (.int p1), .val (.long q2), .second, .val (.long q3), .second, .val (.int p4), .val (.int nn), .val (.int ia), .val (.int ib), .val (.ref b1), .unset, .unset, .unset, .unset, .unset, .unset, .unset, .unset, .unset] [(.int (lcmpW (own_o 2 (ib.toInt64) (own_o 2 (ia.toInt64) (0 : Int64))) (own_e ib (2 : Int32) (own_e ia (2 : Int32) (0 : Int64)))))])) (fun _ kgo => XS.lcmp X18.here hx rfl (hb hby at_109) rfl kgo) ?_
  refine own_go (g' := (mkF m 113 #[.val (.int p0), .val (.int p1), .val (.long q2), .second, .val (.long q3), .second, .val (.int p4), .val (.int nn), .val (.int ia), .val (.int ib), .val (.ref b1), .unset, .unset, .unset, .unset, .unset, .unset, .unset, .unset, .unset] [])) (fun _ kgo => XS.ifNo X18.here hx rfl (hb hby at_110) rfl ((if0 _ _).trans (teq ((lw_eq _ _).mpr (by rw [own_oe ia (2 : Int32) 2 (by decide), own_oe ib (2 : Int32) 2 (by decide)]))).2) kgo) ?_
  refine own_go (g' := (mkF m 115 #[.val (.int p0), .val (.int p1), .val (.long q2), .second, .val (.long q3), .second, .val (.int p4), .val (.int nn), .val (.int ia), .val (.int ib), .val (.ref b1), .unset, .unset, .unset, .unset, .unset, .unset, .unset, .unset, .unset] [(.ref b1)])) (fun _ kgo => XS.aload X18.here hx rfl (hb hby at_113) rfl rfl kgo) ?_
  refine own_go (g' := (mkF m 118 #[.val (.int p0), .val (.int p1), .val (.long q2), .second, .val (.long q3), .second, .val (.int p4), .val (.int nn), .val (.int ia), .val (.int ib), .val (.ref b1), .unset, .unset, .unset, .unset, .unset, .unset, .unset, .unset, .unset] [(.long (3 : Int64)), (.ref b1)])) (X18.ldc2Long hx hown (mvT hZ (hw _ (List.mem_of_getElem? (i := 62) rfl))) (g := (mkF m 115 #[.val (.int p0), .val (.int p1), .val (.long q2), .second, .val (.long q3), .second, .val (.int p4), .val (.int nn), .val (.int ia), .val (.int ib), .val (.ref b1), .unset, .unset, .unset, .unset, .unset, .unset, .unset, .unset, .unset] [(.ref b1)])) rfl (hb hby at_115)) ?_
  obtain ⟨v19, T19, L19, hQ19, X19, st19⟩ := own_callV X18 hx hZ (y := (⟨"com/example/gist_sketch/gistsketch/format/BitArray", "word", "(J)J"⟩ : MethodName)) (z := (⟨"com/example/gist_sketch/gistsketch/format/BitArray", "word", "(J)J"⟩ : MethodName)) hown (hw _ (List.mem_of_getElem? (i := 52) rfl)) (hw _ (List.mem_of_getElem? (i := 53) rfl)) (notFace_of_selects (args := #[]) (mvT hZ (hw _ (List.mem_of_getElem? (i := 55) rfl)))) (hw _ (List.mem_of_getElem? (i := 55) rfl)) (hw _ (List.mem_of_getElem? (i := 54) rfl)) (hw _ (List.mem_of_getElem? (i := 3) rfl)) (hw _ (List.mem_of_getElem? (i := 56) rfl)) ⟨by decide, by decide⟩ (a := b1) (argsL := [(.long (3 : Int64))]) (wd_3_1 l Z a0 hw b1 (nn.toInt64) pg2 kp2 w2 kw2 (own_o 0 (ib.toInt64) (own_o 0 (ia.toInt64) (0 : Int64))) (own_o 1 (ib.toInt64) (own_o 1 (ia.toInt64) (0 : Int64))) (own_o 2 (ib.toInt64) (own_o 2 (ia.toInt64) (0 : Int64))) (own_o 3 (ib.toInt64) (own_o 3 (ia.toInt64) (0 : Int64))) T4.heap fx10 fx11 fx12 q4_0) e18 fx13 (g := (mkF m 118 #[.val (.int p0), .val (.int p1), .val (.long q2), .second, .val (.long q3), .second, .val (.int p4), .val (.int nn), .val (.int ia), .val (.int ib), .val (.ref b1), .unset, .unset, .unset, .unset, .unset, .unset, .unset, .unset, .unset] [(.long (3 : Int64)), (.ref b1)])) rfl (by rw [hml]; rfl) (rest := []) (lenOf pd0_1 rfl) rfl (hb hby at_118) (W := 0) (by show 2 * 0 + _ ≤ _; exact Nat.le_of_eq rfl) (by decide) (by decide) (by decide) (by decide)
  obtain ⟨rfl, e19, rfl⟩ := hQ19
  have N19 := Fr.app N18 (Fr.nil n0)
  refine own_go (g' := (mkF m 121 #[.val (.int p0), .val (.int p1), .val (.long q2), .second, .val (.long q3), .second, .val (.int p4), .val (.int nn), .val (.int ia), .val (.int ib), .val (.ref b1), .unset, .unset, .unset, .unset, .unset, .unset, .unset, .unset, .unset] [(.long (own_o 3 (ib.toInt64) (own_o 3 (ia.toInt64) (0 : Int64))))])) (st19) ?_
  refine own_go (g' := (mkF m 123 #[.val (.int p0), .val (.int p1), .val (.long q2), .second, .val (.long q3), .second, .val (.int p4), .val (.int nn), .val (.int ia), .val (.int ib), .val (.ref b1), .unset, .unset, .unset, .unset, .unset, .unset, .unset, .unset, .unset] [(.int ia), (.long (own_o 3 (ib.toInt64) (own_o 3 (ia.toInt64) (0 : Int64))))])) (fun _ kgo => XS.iload X19.here hx rfl (hb hby at_121) rfl kgo) ?_
  refine own_go (g' := (mkF m 125 #[.val (.int p0), .val (.int p1), .val (.long q2), .second, .val (.long q3), .second, .val (.int p4), .val (.int nn), .val (.int ia), .val (.int ib), .val (.ref b1), .unset, .unset, .unset, .unset, .unset, .unset, .unset, .unset, .unset] [(.int ib), (.int ia), (.long (own_o 3 (ib.toInt64) (own_o 3 (ia.toInt64) (0 : Int64))))])) (fun _ kgo => XS.iload X19.here hx rfl (hb hby at_123) rfl kgo) ?_
  refine own_go (g' := (mkF m 126 #[.val (.int p0), .val (.int p1), .val (.long q2), .second, .val (.long q3), .second, .val (.int p4), .val (.int nn), .val (.int ia), .val (.int ib), .val (.ref b1), .unset, .unset, .unset, .unset, .unset, .unset, .unset, .unset, .unset] [(.int (3 : Int32)), (.int ib), (.int ia), (.long (own_o 3 (ib.toInt64) (own_o 3 (ia.toInt64) (0 : Int64))))])) (fun _ kgo => XS.iconst X19.here hx rfl (hb hby at_125) kgo) ?_
  obtain ⟨v20, T20, L20, hQ20, X20, st20⟩ := own_callS X19 hx hZ (y := (⟨"com/example/gist_sketch/gistsketch/format/BitArrayWordPinLaw", "expect", "(III)J"⟩ : MethodName)) hown (hw _ (List.mem_of_getElem? (i := 57) rfl)) (hw _ (List.mem_of_getElem? (i := 58) rfl)) (hw _ (List.mem_of_getElem? (i := 59) rfl)) (hw _ (List.mem_of_getElem? (i := 60) rfl)) ⟨by decide, by decide⟩ (argsL := [(.int ia), (.int ib), (.int (3 : Int32))]) (rm12 l Z a0 hw ia ib (3 : Int32) T4.heap) e19 (g := (mkF m 126 #[.val (.int p0), .val (.int p1), .val (.long q2), .second, .val (.long q3), .second, .val (.int p4), .val (.int nn), .val (.int ia), .val (.int ib), .val (.ref b1), .unset, .unset, .unset, .unset, .unset, .unset, .unset, .unset, .unset] [(.int (3 : Int32)), (.int ib), (.int ia), (.long (own_o 3 (ib.toInt64) (own_o 3 (ia.toInt64) (0 : Int64))))])) rfl (by rw [hml]; rfl) (rest := [(.long (own_o 3 (ib.toInt64) (own_o 3 (ia.toInt64) (0 : Int64))))]) (lenOf pd0_2 rfl) rfl (hb hby at_126) (W := 2) (by show 2 * 0 + _ ≤ _; exact Nat.le_of_eq rfl) (by decide) (by decide) (by decide) (by decide)
  obtain ⟨rfl, e20, rfl⟩ := hQ20
  have N20 := Fr.app N19 (Fr.nil n0)
  refine own_go (g' := (mkF m 129 #[.val (.int p0), .val (.int p1), .val (.long q2), .second, .val (.long q3), .second, .val (.int p4), .val (.int nn), .val (.int ia), .val (.int ib), .val (.ref b1), .unset, .unset, .unset, .unset, .unset, .unset, .unset, .unset, .unset] [(.long (own_e ib (3 : Int32) (own_e ia (3 : Int32) (0 : Int64)))), (.long (own_o 3 (ib.toInt64) (own_o 3 (ia.toInt64) (0 : Int64))))])) (st20) ?_
  refine own_go (g' := (mkF m 130 #[.val (.int p0), .val (.int p1), .val (.long q2), .second, .val (.long q3), .second, .val (.int p4), .val (.int nn), .val (.int ia), .val (.int ib), .val (.ref b1), .unset, .unset, .unset, .unset, .unset, .unset, .unset, .unset, .unset] [(.int (lcmpW (own_o 3 (ib.toInt64) (own_o 3 (ia.toInt64) (0 : Int64))) (own_e ib (3 : Int32) (own_e ia (3 : Int32) (0 : Int64)))))])) (fun _ kgo => XS.lcmp X20.here hx rfl (hb hby at_129) rfl kgo) ?_
  refine own_go (g' := (mkF m 133 #[.val (.int p0), .val (.int p1), .val (.long q2), .second, .val (.long q3), .second, .val (.int p4), .val (.int nn), .val (.int ia), .val (.int ib), .val (.ref b1), .unset, .unset, .unset, .unset, .unset, .unset, .unset, .unset, .unset] [])) (fun _ kgo => XS.ifNo X20.here hx rfl (hb hby at_130) rfl ((if0 _ _).trans (teq ((lw_eq _ _).mpr (by rw [own_oe ia (3 : Int32) 3 (by decide), own_oe ib (3 : Int32) 3 (by decide)]))).2) kgo) ?_
  refine own_go (g' := (mkF m 134 #[.val (.int p0), .val (.int p1), .val (.long q2), .second, .val (.long q3), .second, .val (.int p4), .val (.int nn), .val (.int ia), .val (.int ib), .val (.ref b1), .unset, .unset, .unset, .unset, .unset, .unset, .unset, .unset, .unset] [(.int (1 : Int32))])) (fun _ kgo => XS.iconst X20.here hx rfl (hb hby at_133) kgo) ?_
  refine own_go (g' := (mkF m 138 #[.val (.int p0), .val (.int p1), .val (.long q2), .second, .val (.long q3), .second, .val (.int p4), .val (.int nn), .val (.int ia), .val (.int ib), .val (.ref b1), .unset, .unset, .unset, .unset, .unset, .unset, .unset, .unset, .unset] [(.int (1 : Int32))])) (fun _ kgo => XS.goto X20.here hx rfl (pc0 := 134) (pc' := 138) rfl (hb hby at_134) (by decide) (by decide) kgo) ?_
  refine own_go (g' := (mkF m 140 #[.val (.int p0), .val (.int p1), .val (.long q2), .second, .val (.long q3), .second, .val (.int p4), .val (.int nn), .val (.int ia), .val (.int ib), .val (.ref b1), .val (.int (1 : Int32)), .unset, .unset, .unset, .unset, .unset, .unset, .unset, .unset] [])) (fun _ kgo => XS.istore X20.here hx rfl (hb hby at_138) rfl (l' := #[.val (.int p0), .val (.int p1), .val (.long q2), .second, .val (.long q3), .second, .val (.int p4), .val (.int nn), .val (.int ia), .val (.int ib), .val (.ref b1), .val (.int (1 : Int32)), .unset, .unset, .unset, .unset, .unset, .unset, .unset, .unset]) rfl kgo) ?_
  refine own_go (g' := (mkF m 142 #[.val (.int p0), .val (.int p1), .val (.long q2), .second, .val (.long q3), .second, .val (.int p4), .val (.int nn), .val (.int ia), .val (.int ib), .val (.ref b1), .val (.int (1 : Int32)), .unset, .unset, .unset, .unset, .unset, .unset, .unset, .unset] [(.int p4)])) (fun _ kgo => XS.iload X20.here hx rfl (hb hby at_140) rfl kgo) ?_
  refine own_go (g' := (mkF m 144 #[.val (.int p0), .val (.int p1), .val (.long q2), .second, .val (.long q3), .second, .val (.int p4), .val (.int nn), .val (.int ia), .val (.int ib), .val (.ref b1), .val (.int (1 : Int32)), .unset, .unset, .unset, .unset, .unset, .unset, .unset, .unset] [(.int (6 : Int32)), (.int p4)])) (fun _ kgo => XS.bipush X20.here hx rfl (hb hby at_142) kgo) ?_
  refine own_go (g' := (mkF m 145 #[.val (.int p0), .val (.int p1), .val (.long q2), .second, .val (.long q3), .second, .val (.int p4), .val (.int nn), .val (.int ia), .val (.int ib), .val (.ref b1), .val (.int (1 : Int32)), .unset, .unset, .unset, .unset, .unset, .unset, .unset, .unset] [(.int ((p4.toUInt32 >>> ((6 : Int32) &&& 31).toUInt32).toInt32))])) (fun _ kgo => XS.iushr X20.here hx rfl (hb hby at_144) rfl kgo) ?_
  refine own_go (g' := (mkF m 146 #[.val (.int p0), .val (.int p1), .val (.long q2), .second, .val (.long q3), .second, .val (.int p4), .val (.int nn), .val (.int ia), .val (.int ib), .val (.ref b1), .val (.int (1 : Int32)), .unset, .unset, .unset, .unset, .unset, .unset, .unset, .unset] [(.int (1 : Int32)), (.int ((p4.toUInt32 >>> ((6 : Int32) &&& 31).toUInt32).toInt32))])) (fun _ kgo => XS.iconst X20.here hx rfl (hb hby at_145) kgo) ?_
  refine own_go (g' := (mkF m 147 #[.val (.int p0), .val (.int p1), .val (.long q2), .second, .val (.long q3), .second, .val (.int p4), .val (.int nn), .val (.int ia), .val (.int ib), .val (.ref b1), .val (.int (1 : Int32)), .unset, .unset, .unset, .unset, .unset, .unset, .unset, .unset] [(.int (((p4.toUInt32 >>> ((6 : Int32) &&& 31).toUInt32).toInt32) &&& (1 : Int32)))])) (fun _ kgo => XS.iand X20.here hx rfl (hb hby at_146) rfl kgo) ?_
  suffices JNekx : ∀ kx : Int32, kx = (((p4.toUInt32 >>> ((6 : Int32) &&& 31).toUInt32).toInt32) &&& (1 : Int32)) → own_Go p e below (own_Post s QQ 24 128) T20 (mkF m 147 #[.val (.int p0), .val (.int p1), .val (.long q2), .second, .val (.long q3), .second, .val (.int p4), .val (.int nn), .val (.int ia), .val (.int ib), .val (.ref b1), .val (.int (1 : Int32)), .unset, .unset, .unset, .unset, .unset, .unset, .unset, .unset] [(.int kx)]) from JNekx _ (rfl)
  intro kx ekx
  refine own_go (g' := (mkF m 149 #[.val (.int p0), .val (.int p1), .val (.long q2), .second, .val (.long q3), .second, .val (.int p4), .val (.int nn), .val (.int ia), .val (.int ib), .val (.ref b1), .val (.int (1 : Int32)), .val (.int kx), .unset, .unset, .unset, .unset, .unset, .unset, .unset] [])) (fun _ kgo => XS.istore X20.here hx rfl (hb hby at_147) rfl (l' := #[.val (.int p0), .val (.int p1), .val (.long q2), .second, .val (.long q3), .second, .val (.int p4), .val (.int nn), .val (.int ia), .val (.int ib), .val (.ref b1), .val (.int (1 : Int32)), .val (.int kx), .unset, .unset, .unset, .unset, .unset, .unset, .unset]) rfl kgo) ?_
  have hk2 := and_one ((p4.toUInt32 >>> ((6 : Int32) &&& 31).toUInt32).toInt32)
  rw [← ekx] at hk2
  rcases hk2 with rfl | rfl
  ·
    refine own_go (g' := (mkF m 150 #[.val (.int p0), .val (.int p1), .val (.long q2), .second, .val (.long q3), .second, .val (.int p4), .val (.int nn), .val (.int ia), .val (.int ib), .val (.ref b1), .val (.int (1 : Int32)), .val (.int (0 : Int32)), .unset, .unset, .unset, .unset, .unset, .unset, .unset] [(.int (2 : Int32))])) (fun _ kgo => XS.iconst X20.here hx rfl (hb hby at_149) kgo) ?_
    obtain ⟨T21, h21, k21, X21, e21, E21, A21, Ax21, O21, st21⟩ := newRA X20 hx hZ hown (ty := .long) (C := "[J") (by decide) (hw _ (List.mem_of_getElem? (i := 63) rfl)) (hw _ (List.mem_of_getElem? (i := 17) rfl)) e20 (g := (mkF m 150 #[.val (.int p0), .val (.int p1), .val (.long q2), .second, .val (.long q3), .second, .val (.int p4), .val (.int nn), .val (.int ia), .val (.int ib), .val (.ref b1), .val (.int (1 : Int32)), .val (.int (0 : Int32)), .unset, .unset, .unset, .unset, .unset, .unset, .unset] [(.int (2 : Int32))])) rfl (hb hby at_150) rfl (by decide) (cap := 2) (by decide) (by decide) (by decide) (by decide) (ad := "[[J") (by decide)
    obtain ⟨b21, ad21⟩ : ∃ z, z = T4.heap.size := ⟨_, rfl⟩
    rw [← ad21] at A21 Ax21 st21
    have ne_b1_b21 : b1 ≠ b21 := Nat.ne_of_lt (by rw [ad21]; exact fx13.lt)
    have ne_pg2_b21 : pg2 ≠ b21 := Nat.ne_of_lt (by rw [ad21]; exact fx12.lt)
    have ne_w2_b21 : w2 ≠ b21 := Nat.ne_of_lt (by rw [ad21]; exact q4_0.lt)
    have ge_b21 : n0 ≤ b21 := by rw [ad21]; exact Z4
    have Z21 : n0 ≤ h21.size := Nat.le_trans Z4 E21.1
    have V21 : Arv Z h21 b21 k21 (.array .long) (2 : Int32) [.null, .null] .null := (Arv.new A21 (by decide)).pad (pad_rep [] .null 2)
    refine own_go (g' := (mkF m 153 #[.val (.int p0), .val (.int p1), .val (.long q2), .second, .val (.long q3), .second, .val (.int p4), .val (.int nn), .val (.int ia), .val (.int ib), .val (.ref b1), .val (.int (1 : Int32)), .val (.int (0 : Int32)), .unset, .unset, .unset, .unset, .unset, .unset, .unset] [(.ref b21)])) (st21) ?_
    refine own_go (g' := (mkF m 155 #[.val (.int p0), .val (.int p1), .val (.long q2), .second, .val (.long q3), .second, .val (.int p4), .val (.int nn), .val (.int ia), .val (.int ib), .val (.ref b1), .val (.int (1 : Int32)), .val (.int (0 : Int32)), .val (.ref b21), .unset, .unset, .unset, .unset, .unset, .unset] [])) (fun _ kgo => XS.astore X21.here hx rfl (hb hby at_153) rfl rfl (l' := #[.val (.int p0), .val (.int p1), .val (.long q2), .second, .val (.long q3), .second, .val (.int p4), .val (.int nn), .val (.int ia), .val (.int ib), .val (.ref b1), .val (.int (1 : Int32)), .val (.int (0 : Int32)), .val (.ref b21), .unset, .unset, .unset, .unset, .unset, .unset]) rfl kgo) ?_
    refine own_go (g' := (mkF m 157 #[.val (.int p0), .val (.int p1), .val (.long q2), .second, .val (.long q3), .second, .val (.int p4), .val (.int nn), .val (.int ia), .val (.int ib), .val (.ref b1), .val (.int (1 : Int32)), .val (.int (0 : Int32)), .val (.ref b21), .unset, .unset, .unset, .unset, .unset, .unset] [(.ref b21)])) (fun _ kgo => XS.aload X21.here hx rfl (hb hby at_155) rfl rfl kgo) ?_
    refine own_go (g' := (mkF m 158 #[.val (.int p0), .val (.int p1), .val (.long q2), .second, .val (.long q3), .second, .val (.int p4), .val (.int nn), .val (.int ia), .val (.int ib), .val (.ref b1), .val (.int (1 : Int32)), .val (.int (0 : Int32)), .val (.ref b21), .unset, .unset, .unset, .unset, .unset, .unset] [(.int (0 : Int32)), (.ref b21)])) (fun _ kgo => XS.iconst X21.here hx rfl (hb hby at_157) kgo) ?_
    refine own_go (g' := (mkF m 159 #[.val (.int p0), .val (.int p1), .val (.long q2), .second, .val (.long q3), .second, .val (.int p4), .val (.int nn), .val (.int ia), .val (.int ib), .val (.ref b1), .val (.int (1 : Int32)), .val (.int (0 : Int32)), .val (.ref b21), .unset, .unset, .unset, .unset, .unset, .unset] [(.int (2 : Int32)), (.int (0 : Int32)), (.ref b21)])) (fun _ kgo => XS.iconst X21.here hx rfl (hb hby at_158) kgo) ?_
    obtain ⟨T22, h22, k22, X22, e22, E22, A22, Ax22, st22⟩ := newPE X21 hx hZ (hw _ (List.mem_of_getElem? (i := 36) rfl)) e21 (g := (mkF m 159 #[.val (.int p0), .val (.int p1), .val (.long q2), .second, .val (.long q3), .second, .val (.int p4), .val (.int nn), .val (.int ia), .val (.int ib), .val (.ref b1), .val (.int (1 : Int32)), .val (.int (0 : Int32)), .val (.ref b21), .unset, .unset, .unset, .unset, .unset, .unset] [(.int (2 : Int32)), (.int (0 : Int32)), (.ref b21)])) rfl (hb hby at_159) rfl (by decide) (cap := 2) (by decide) (by decide) (by decide) (by decide) (ad := "[J") (by decide)
    obtain ⟨b22, ad22⟩ : ∃ z, z = h21.size := ⟨_, rfl⟩
    rw [← ad22] at A22 Ax22 st22
    have fx23 : Exa Z h21 b1 "com/example/gist_sketch/gistsketch/format/BitArray" := (Exa.ext E21 fx13)
    have ne_b1_b22 : b1 ≠ b22 := Nat.ne_of_lt (by rw [ad22]; exact fx23.lt)
    have fx24 : Arv Z h21 pg2 kp2 (.array .long) (1 : Int32) [(.ref w2)] .null := (Arv.ext fx12 E21)
    have ne_pg2_b22 : pg2 ≠ b22 := Nat.ne_of_lt (by rw [ad22]; exact fx24.lt)
    have fx25 : Arv Z h21 w2 kw2 .long (4 : Int32) [(.long (own_o 0 (ib.toInt64) (own_o 0 (ia.toInt64) (0 : Int64)))), (.long (own_o 1 (ib.toInt64) (own_o 1 (ia.toInt64) (0 : Int64)))), (.long (own_o 2 (ib.toInt64) (own_o 2 (ia.toInt64) (0 : Int64)))), (.long (own_o 3 (ib.toInt64) (own_o 3 (ia.toInt64) (0 : Int64))))] (.long (0 : Int64)) := (Arv.ext q4_0 E21)
    have ne_w2_b22 : w2 ≠ b22 := Nat.ne_of_lt (by rw [ad22]; exact fx25.lt)
    have ne_b21_b22 : b21 ≠ b22 := Nat.ne_of_lt (by rw [ad22]; exact V21.lt)
    have ge_b22 : n0 ≤ b22 := by rw [ad22]; exact Z21
    have Z22 : n0 ≤ h22.size := Nat.le_trans Z21 E22.1
    have V22 : Arv Z h22 b22 k22 .long (2 : Int32) [(.long (0 : Int64)), (.long (0 : Int64))] (.long (0 : Int64)) := (Arv.new A22 (by decide)).pad (pad_rep [] (.long (0 : Int64)) 2)
    refine own_go (g' := (mkF m 161 #[.val (.int p0), .val (.int p1), .val (.long q2), .second, .val (.long q3), .second, .val (.int p4), .val (.int nn), .val (.int ia), .val (.int ib), .val (.ref b1), .val (.int (1 : Int32)), .val (.int (0 : Int32)), .val (.ref b21), .unset, .unset, .unset, .unset, .unset, .unset] [(.ref b22), (.int (0 : Int32)), (.ref b21)])) (st22) ?_
    refine own_go (g' := (mkF m 162 #[.val (.int p0), .val (.int p1), .val (.long q2), .second, .val (.long q3), .second, .val (.int p4), .val (.int nn), .val (.int ia), .val (.int ib), .val (.ref b1), .val (.int (1 : Int32)), .val (.int (0 : Int32)), .val (.ref b21), .unset, .unset, .unset, .unset, .unset, .unset] [(.ref b22), (.ref b22), (.int (0 : Int32)), (.ref b21)])) (fun _ kgo => XS.dup X22.here hx rfl (hb hby at_161) rfl rfl kgo) ?_
    refine own_go (g' := (mkF m 163 #[.val (.int p0), .val (.int p1), .val (.long q2), .second, .val (.long q3), .second, .val (.int p4), .val (.int nn), .val (.int ia), .val (.int ib), .val (.ref b1), .val (.int (1 : Int32)), .val (.int (0 : Int32)), .val (.ref b21), .unset, .unset, .unset, .unset, .unset, .unset] [(.int (0 : Int32)), (.ref b22), (.ref b22), (.int (0 : Int32)), (.ref b21)])) (fun _ kgo => XS.iconst X22.here hx rfl (hb hby at_162) kgo) ?_
    refine own_go (g' := (mkF m 164 #[.val (.int p0), .val (.int p1), .val (.long q2), .second, .val (.long q3), .second, .val (.int p4), .val (.int nn), .val (.int ia), .val (.int ib), .val (.ref b1), .val (.int (1 : Int32)), .val (.int (0 : Int32)), .val (.ref b21), .unset, .unset, .unset, .unset, .unset, .unset] [(.long q2), (.int (0 : Int32)), (.ref b22), (.ref b22), (.int (0 : Int32)), (.ref b21)])) (fun _ kgo => XS.lloadN X22.here hx rfl (hb hby at_163) rfl kgo) ?_
    obtain ⟨cl26, Ar26, qk26, sz26, nn26, Hs26, Gs26⟩ := id V22
    have hin26 : ¬ ((0 : Int32) < 0 ∨ cl26.slots.size ≤ ((0 : Int32)).toNatClampNeg) := inb_of sz26 ⟨by decide, by decide⟩
    obtain ⟨T26, h26, X26, e26, W26, st26⟩ := stJ X22 hx hZ e22 Ar26 (j := (0 : Int32)) hin26 (g := (mkF m 164 #[.val (.int p0), .val (.int p1), .val (.long q2), .second, .val (.long q3), .second, .val (.int p4), .val (.int nn), .val (.int ia), .val (.int ib), .val (.ref b1), .val (.int (1 : Int32)), .val (.int (0 : Int32)), .val (.ref b21), .unset, .unset, .unset, .unset, .unset, .unset] [(.long q2), (.int (0 : Int32)), (.ref b22), (.ref b22), (.int (0 : Int32)), (.ref b21)])) rfl rfl (hb hby at_164)
    have V26 : Arv Z h26 b22 k22 .long (2 : Int32) [(.long q2), (.long (0 : Int64))] (.long (0 : Int64)) := Arv.set Ar26 qk26 sz26 nn26 Hs26 Gs26 rfl W26 0 rfl (Nat.le_of_ble_eq_true rfl)
    have N26 := Fr.snoc X26 N20 ge_b22
    have Z26 : n0 ≤ h26.size := by rw [W26.size]; exact Z22
    refine own_go (g' := (mkF m 165 #[.val (.int p0), .val (.int p1), .val (.long q2), .second, .val (.long q3), .second, .val (.int p4), .val (.int nn), .val (.int ia), .val (.int ib), .val (.ref b1), .val (.int (1 : Int32)), .val (.int (0 : Int32)), .val (.ref b21), .unset, .unset, .unset, .unset, .unset, .unset] [(.ref b22), (.int (0 : Int32)), (.ref b21)])) (st26) ?_
    refine own_go (g' := (mkF m 166 #[.val (.int p0), .val (.int p1), .val (.long q2), .second, .val (.long q3), .second, .val (.int p4), .val (.int nn), .val (.int ia), .val (.int ib), .val (.ref b1), .val (.int (1 : Int32)), .val (.int (0 : Int32)), .val (.ref b21), .unset, .unset, .unset, .unset, .unset, .unset] [(.ref b22), (.ref b22), (.int (0 : Int32)), (.ref b21)])) (fun _ kgo => XS.dup X26.here hx rfl (hb hby at_165) rfl rfl kgo) ?_
    refine own_go (g' := (mkF m 167 #[.val (.int p0), .val (.int p1), .val (.long q2), .second, .val (.long q3), .second, .val (.int p4), .val (.int nn), .val (.int ia), .val (.int ib), .val (.ref b1), .val (.int (1 : Int32)), .val (.int (0 : Int32)), .val (.ref b21), .unset, .unset, .unset, .unset, .unset, .unset] [(.int (1 : Int32)), (.ref b22), (.ref b22), (.int (0 : Int32)), (.ref b21)])) (fun _ kgo => XS.iconst X26.here hx rfl (hb hby at_166) kgo) ?_
    refine own_go (g' := (mkF m 169 #[.val (.int p0), .val (.int p1), .val (.long q2), .second, .val (.long q3), .second, .val (.int p4), .val (.int nn), .val (.int ia), .val (.int ib), .val (.ref b1), .val (.int (1 : Int32)), .val (.int (0 : Int32)), .val (.ref b21), .unset, .unset, .unset, .unset, .unset, .unset] [(.long q3), (.int (1 : Int32)), (.ref b22), (.ref b22), (.int (0 : Int32)), (.ref b21)])) (fun _ kgo => XS.lload X26.here hx rfl (hb hby at_167) rfl kgo) ?_
    obtain ⟨cl27, Ar27, qk27, sz27, nn27, Hs27, Gs27⟩ := id V26
    have hin27 : ¬ ((1 : Int32) < 0 ∨ cl27.slots.size ≤ ((1 : Int32)).toNatClampNeg) := inb_of sz27 ⟨by decide, by decide⟩
    obtain ⟨T27, h27, X27, e27, W27, st27⟩ := stJ X26 hx hZ e26 Ar27 (j := (1 : Int32)) hin27 (g := (mkF m 169 #[.val (.int p0), .val (.int p1), .val (.long q2), .second, .val (.long q3), .second, .val (.int p4), .val (.int nn), .val (.int ia), .val (.int ib), .val (.ref b1), .val (.int (1 : Int32)), .val (.int (0 : Int32)), .val (.ref b21), .unset, .unset, .unset, .unset, .unset, .unset] [(.long q3), (.int (1 : Int32)), (.ref b22), (.ref b22), (.int (0 : Int32)), (.ref b21)])) rfl rfl (hb hby at_169)
    have V27 : Arv Z h27 b22 k22 .long (2 : Int32) [(.long q2), (.long q3)] (.long (0 : Int64)) := Arv.set Ar27 qk27 sz27 nn27 Hs27 Gs27 rfl W27 1 rfl (Nat.le_of_ble_eq_true rfl)
    have N27 := Fr.snoc X27 N26 ge_b22
    have Z27 : n0 ≤ h27.size := by rw [W27.size]; exact Z26
    refine own_go (g' := (mkF m 170 #[.val (.int p0), .val (.int p1), .val (.long q2), .second, .val (.long q3), .second, .val (.int p4), .val (.int nn), .val (.int ia), .val (.int ib), .val (.ref b1), .val (.int (1 : Int32)), .val (.int (0 : Int32)), .val (.ref b21), .unset, .unset, .unset, .unset, .unset, .unset] [(.ref b22), (.int (0 : Int32)), (.ref b21)])) (st27) ?_
    have fx28 : Arv Z h27 b21 k21 (.array .long) (2 : Int32) [.null, .null] .null := (Arv.other (Arv.other (Arv.ext V21 E22) W26 ne_b21_b22) W27 ne_b21_b22)
    have fx29 : Exa Z h27 b22 "[J" := (Exa.wr W27 (Exa.wr W26 Ax22))
    obtain ⟨cl30, Ar30, qk30, sz30, nn30, Hs30, Gs30⟩ := id fx28
    have hin30 : ¬ ((0 : Int32) < 0 ∨ cl30.slots.size ≤ ((0 : Int32)).toNatClampNeg) := inb_of sz30 ⟨by decide, by decide⟩
    obtain ⟨T30, h30, X30, e30, W30, st30⟩ := stR X27 hx hZ e27 Ar30 (j := (0 : Int32)) hin30 rfl (Sto.ofVA Ar30 qk30 O21 (Ins.self fx29)) (g := (mkF m 170 #[.val (.int p0), .val (.int p1), .val (.long q2), .second, .val (.long q3), .second, .val (.int p4), .val (.int nn), .val (.int ia), .val (.int ib), .val (.ref b1), .val (.int (1 : Int32)), .val (.int (0 : Int32)), .val (.ref b21), .unset, .unset, .unset, .unset, .unset, .unset] [(.ref b22), (.int (0 : Int32)), (.ref b21)])) rfl rfl (hb hby at_170)
    have V30 : Arv Z h30 b21 k21 (.array .long) (2 : Int32) [(.ref b22), .null] .null := Arv.set Ar30 qk30 sz30 nn30 Hs30 Gs30 rfl W30 0 rfl (Nat.le_of_ble_eq_true rfl)
    have N30 := Fr.snoc X30 N27 ge_b21
    have Z30 : n0 ≤ h30.size := by rw [W30.size]; exact Z27
    refine own_go (g' := (mkF m 171 #[.val (.int p0), .val (.int p1), .val (.long q2), .second, .val (.long q3), .second, .val (.int p4), .val (.int nn), .val (.int ia), .val (.int ib), .val (.ref b1), .val (.int (1 : Int32)), .val (.int (0 : Int32)), .val (.ref b21), .unset, .unset, .unset, .unset, .unset, .unset] [])) (st30) ?_
    refine own_go (g' := (mkF m 173 #[.val (.int p0), .val (.int p1), .val (.long q2), .second, .val (.long q3), .second, .val (.int p4), .val (.int nn), .val (.int ia), .val (.int ib), .val (.ref b1), .val (.int (1 : Int32)), .val (.int (0 : Int32)), .val (.ref b21), .unset, .unset, .unset, .unset, .unset, .unset] [(.ref b21)])) (fun _ kgo => XS.aload X30.here hx rfl (hb hby at_171) rfl rfl kgo) ?_
    refine own_go (g' := (mkF m 174 #[.val (.int p0), .val (.int p1), .val (.long q2), .second, .val (.long q3), .second, .val (.int p4), .val (.int nn), .val (.int ia), .val (.int ib), .val (.ref b1), .val (.int (1 : Int32)), .val (.int (0 : Int32)), .val (.ref b21), .unset, .unset, .unset, .unset, .unset, .unset] [(.int (1 : Int32)), (.ref b21)])) (fun _ kgo => XS.iconst X30.here hx rfl (hb hby at_173) kgo) ?_
    refine own_go (g' := (mkF m 175 #[.val (.int p0), .val (.int p1), .val (.long q2), .second, .val (.long q3), .second, .val (.int p4), .val (.int nn), .val (.int ia), .val (.int ib), .val (.ref b1), .val (.int (1 : Int32)), .val (.int (0 : Int32)), .val (.ref b21), .unset, .unset, .unset, .unset, .unset, .unset] [(.int (2 : Int32)), (.int (1 : Int32)), (.ref b21)])) (fun _ kgo => XS.iconst X30.here hx rfl (hb hby at_174) kgo) ?_
    obtain ⟨T31, h31, k31, X31, e31, E31, A31, Ax31, st31⟩ := newPE X30 hx hZ (hw _ (List.mem_of_getElem? (i := 36) rfl)) e30 (g := (mkF m 175 #[.val (.int p0), .val (.int p1), .val (.long q2), .second, .val (.long q3), .second, .val (.int p4), .val (.int nn), .val (.int ia), .val (.int ib), .val (.ref b1), .val (.int (1 : Int32)), .val (.int (0 : Int32)), .val (.ref b21), .unset, .unset, .unset, .unset, .unset, .unset] [(.int (2 : Int32)), (.int (1 : Int32)), (.ref b21)])) rfl (hb hby at_175) rfl (by decide) (cap := 2) (by decide) (by decide) (by decide) (by decide) (ad := "[J") (by decide)
    obtain ⟨b31, ad31⟩ : ∃ z, z = h30.size := ⟨_, rfl⟩
    rw [← ad31] at A31 Ax31 st31
    have fx32 : Exa Z h30 b1 "com/example/gist_sketch/gistsketch/format/BitArray" := (Exa.wr W30 (Exa.wr W27 (Exa.wr W26 (Exa.ext E22 fx23))))
    have ne_b1_b31 : b1 ≠ b31 := Nat.ne_of_lt (by rw [ad31]; exact fx32.lt)
    have fx33 : Arv Z h30 pg2 kp2 (.array .long) (1 : Int32) [(.ref w2)] .null := (Arv.other (Arv.other (Arv.other (Arv.ext fx24 E22) W26 ne_pg2_b22) W27 ne_pg2_b22) W30 ne_pg2_b21)
    have ne_pg2_b31 : pg2 ≠ b31 := Nat.ne_of_lt (by rw [ad31]; exact fx33.lt)
    have fx34 : Arv Z h30 w2 kw2 .long (4 : Int32) [(.long (own_o 0 (ib.toInt64) (own_o 0 (ia.toInt64) (0 : Int64)))), (.long (own_o 1 (ib.toInt64) (own_o 1 (ia.toInt64) (0 : Int64)))), (.long (own_o 2 (ib.toInt64) (own_o 2 (ia.toInt64) (0 : Int64)))), (.long (own_o 3 (ib.toInt64) (own_o 3 (ia.toInt64) (0 : Int64))))] (.long (0 : Int64)) := (Arv.other (Arv.other (Arv.other (Arv.ext fx25 E22) W26 ne_w2_b22) W27 ne_w2_b22) W30 ne_w2_b21)
    have ne_w2_b31 : w2 ≠ b31 := Nat.ne_of_lt (by rw [ad31]; exact fx34.lt)
    have ne_b21_b31 : b21 ≠ b31 := Nat.ne_of_lt (by rw [ad31]; exact V30.lt)
    have fx35 : Arv Z h30 b22 k22 .long (2 : Int32) [(.long q2), (.long q3)] (.long (0 : Int64)) := (Arv.other V27 W30 (Ne.symm ne_b21_b22))
    have ne_b22_b31 : b22 ≠ b31 := Nat.ne_of_lt (by rw [ad31]; exact fx35.lt)
    have ge_b31 : n0 ≤ b31 := by rw [ad31]; exact Z30
    have Z31 : n0 ≤ h31.size := Nat.le_trans Z30 E31.1
    have V31 : Arv Z h31 b31 k31 .long (2 : Int32) [(.long (0 : Int64)), (.long (0 : Int64))] (.long (0 : Int64)) := (Arv.new A31 (by decide)).pad (pad_rep [] (.long (0 : Int64)) 2)
    refine own_go (g' := (mkF m 177 #[.val (.int p0), .val (.int p1), .val (.long q2), .second, .val (.long q3), .second, .val (.int p4), .val (.int nn), .val (.int ia), .val (.int ib), .val (.ref b1), .val (.int (1 : Int32)), .val (.int (0 : Int32)), .val (.ref b21), .unset, .unset, .unset, .unset, .unset, .unset] [(.ref b31), (.int (1 : Int32)), (.ref b21)])) (st31) ?_
    refine own_go (g' := (mkF m 178 #[.val (.int p0), .val (.int p1), .val (.long q2), .second, .val (.long q3), .second, .val (.int p4), .val (.int nn), .val (.int ia), .val (.int ib), .val (.ref b1), .val (.int (1 : Int32)), .val (.int (0 : Int32)), .val (.ref b21), .unset, .unset, .unset, .unset, .unset, .unset] [(.ref b31), (.ref b31), (.int (1 : Int32)), (.ref b21)])) (fun _ kgo => XS.dup X31.here hx rfl (hb hby at_177) rfl rfl kgo) ?_
    refine own_go (g' := (mkF m 179 #[.val (.int p0), .val (.int p1), .val (.long q2), .second, .val (.long q3), .second, .val (.int p4), .val (.int nn), .val (.int ia), .val (.int ib), .val (.ref b1), .val (.int (1 : Int32)), .val (.int (0 : Int32)), .val (.ref b21), .unset, .unset, .unset, .unset, .unset, .unset] [(.int (0 : Int32)), (.ref b31), (.ref b31), (.int (1 : Int32)), (.ref b21)])) (fun _ kgo => XS.iconst X31.here hx rfl (hb hby at_178) kgo) ?_
    refine own_go (g' := (mkF m 181 #[.val (.int p0), .val (.int p1), .val (.long q2), .second, .val (.long q3), .second, .val (.int p4), .val (.int nn), .val (.int ia), .val (.int ib), .val (.ref b1), .val (.int (1 : Int32)), .val (.int (0 : Int32)), .val (.ref b21), .unset, .unset, .unset, .unset, .unset, .unset] [(.long q3), (.int (0 : Int32)), (.ref b31), (.ref b31), (.int (1 : Int32)), (.ref b21)])) (fun _ kgo => XS.lload X31.here hx rfl (hb hby at_179) rfl kgo) ?_
    obtain ⟨cl36, Ar36, qk36, sz36, nn36, Hs36, Gs36⟩ := id V31
    have hin36 : ¬ ((0 : Int32) < 0 ∨ cl36.slots.size ≤ ((0 : Int32)).toNatClampNeg) := inb_of sz36 ⟨by decide, by decide⟩
    obtain ⟨T36, h36, X36, e36, W36, st36⟩ := stJ X31 hx hZ e31 Ar36 (j := (0 : Int32)) hin36 (g := (mkF m 181 #[.val (.int p0), .val (.int p1), .val (.long q2), .second, .val (.long q3), .second, .val (.int p4), .val (.int nn), .val (.int ia), .val (.int ib), .val (.ref b1), .val (.int (1 : Int32)), .val (.int (0 : Int32)), .val (.ref b21), .unset, .unset, .unset, .unset, .unset, .unset] [(.long q3), (.int (0 : Int32)), (.ref b31), (.ref b31), (.int (1 : Int32)), (.ref b21)])) rfl rfl (hb hby at_181)
    have V36 : Arv Z h36 b31 k31 .long (2 : Int32) [(.long q3), (.long (0 : Int64))] (.long (0 : Int64)) := Arv.set Ar36 qk36 sz36 nn36 Hs36 Gs36 rfl W36 0 rfl (Nat.le_of_ble_eq_true rfl)
    have N36 := Fr.snoc X36 N30 ge_b31
    have Z36 : n0 ≤ h36.size := by rw [W36.size]; exact Z31
    refine own_go (g' := (mkF m 182 #[.val (.int p0), .val (.int p1), .val (.long q2), .second, .val (.long q3), .second, .val (.int p4), .val (.int nn), .val (.int ia), .val (.int ib), .val (.ref b1), .val (.int (1 : Int32)), .val (.int (0 : Int32)), .val (.ref b21), .unset, .unset, .unset, .unset, .unset, .unset] [(.ref b31), (.int (1 : Int32)), (.ref b21)])) (st36) ?_
    refine own_go (g' := (mkF m 183 #[.val (.int p0), .val (.int p1), .val (.long q2), .second, .val (.long q3), .second, .val (.int p4), .val (.int nn), .val (.int ia), .val (.int ib), .val (.ref b1), .val (.int (1 : Int32)), .val (.int (0 : Int32)), .val (.ref b21), .unset, .unset, .unset, .unset, .unset, .unset] [(.ref b31), (.ref b31), (.int (1 : Int32)), (.ref b21)])) (fun _ kgo => XS.dup X36.here hx rfl (hb hby at_182) rfl rfl kgo) ?_
    refine own_go (g' := (mkF m 184 #[.val (.int p0), .val (.int p1), .val (.long q2), .second, .val (.long q3), .second, .val (.int p4), .val (.int nn), .val (.int ia), .val (.int ib), .val (.ref b1), .val (.int (1 : Int32)), .val (.int (0 : Int32)), .val (.ref b21), .unset, .unset, .unset, .unset, .unset, .unset] [(.int (1 : Int32)), (.ref b31), (.ref b31), (.int (1 : Int32)), (.ref b21)])) (fun _ kgo => XS.iconst X36.here hx rfl (hb hby at_183) kgo) ?_
    refine own_go (g' := (mkF m 185 #[.val (.int p0), .val (.int p1), .val (.long q2), .second, .val (.long q3), .second, .val (.int p4), .val (.int nn), .val (.int ia), .val (.int ib), .val (.ref b1), .val (.int (1 : Int32)), .val (.int (0 : Int32)), .val (.ref b21), .unset, .unset, .unset, .unset, .unset, .unset] [(.long q2), (.int (1 : Int32)), (.ref b31), (.ref b31), (.int (1 : Int32)), (.ref b21)])) (fun _ kgo => XS.lloadN X36.here hx rfl (hb hby at_184) rfl kgo) ?_
    obtain ⟨cl37, Ar37, qk37, sz37, nn37, Hs37, Gs37⟩ := id V36
    have hin37 : ¬ ((1 : Int32) < 0 ∨ cl37.slots.size ≤ ((1 : Int32)).toNatClampNeg) := inb_of sz37 ⟨by decide, by decide⟩
    obtain ⟨T37, h37, X37, e37, W37, st37⟩ := stJ X36 hx hZ e36 Ar37 (j := (1 : Int32)) hin37 (g := (mkF m 185 #[.val (.int p0), .val (.int p1), .val (.long q2), .second, .val (.long q3), .second, .val (.int p4), .val (.int nn), .val (.int ia), .val (.int ib), .val (.ref b1), .val (.int (1 : Int32)), .val (.int (0 : Int32)), .val (.ref b21), .unset, .unset, .unset, .unset, .unset, .unset] [(.long q2), (.int (1 : Int32)), (.ref b31), (.ref b31), (.int (1 : Int32)), (.ref b21)])) rfl rfl (hb hby at_185)
    have V37 : Arv Z h37 b31 k31 .long (2 : Int32) [(.long q3), (.long q2)] (.long (0 : Int64)) := Arv.set Ar37 qk37 sz37 nn37 Hs37 Gs37 rfl W37 1 rfl (Nat.le_of_ble_eq_true rfl)
    have N37 := Fr.snoc X37 N36 ge_b31
    have Z37 : n0 ≤ h37.size := by rw [W37.size]; exact Z36
    refine own_go (g' := (mkF m 186 #[.val (.int p0), .val (.int p1), .val (.long q2), .second, .val (.long q3), .second, .val (.int p4), .val (.int nn), .val (.int ia), .val (.int ib), .val (.ref b1), .val (.int (1 : Int32)), .val (.int (0 : Int32)), .val (.ref b21), .unset, .unset, .unset, .unset, .unset, .unset] [(.ref b31), (.int (1 : Int32)), (.ref b21)])) (st37) ?_
    have fx38 : Arv Z h37 b21 k21 (.array .long) (2 : Int32) [(.ref b22), .null] .null := (Arv.other (Arv.other (Arv.ext V30 E31) W36 ne_b21_b31) W37 ne_b21_b31)
    have fx39 : Exa Z h37 b31 "[J" := (Exa.wr W37 (Exa.wr W36 Ax31))
    obtain ⟨cl40, Ar40, qk40, sz40, nn40, Hs40, Gs40⟩ := id fx38
    have hin40 : ¬ ((1 : Int32) < 0 ∨ cl40.slots.size ≤ ((1 : Int32)).toNatClampNeg) := inb_of sz40 ⟨by decide, by decide⟩
    obtain ⟨T40, h40, X40, e40, W40, st40⟩ := stR X37 hx hZ e37 Ar40 (j := (1 : Int32)) hin40 rfl (Sto.ofVA Ar40 qk40 O21 (Ins.self fx39)) (g := (mkF m 186 #[.val (.int p0), .val (.int p1), .val (.long q2), .second, .val (.long q3), .second, .val (.int p4), .val (.int nn), .val (.int ia), .val (.int ib), .val (.ref b1), .val (.int (1 : Int32)), .val (.int (0 : Int32)), .val (.ref b21), .unset, .unset, .unset, .unset, .unset, .unset] [(.ref b31), (.int (1 : Int32)), (.ref b21)])) rfl rfl (hb hby at_186)
    have V40 : Arv Z h40 b21 k21 (.array .long) (2 : Int32) [(.ref b22), (.ref b31)] .null := Arv.set Ar40 qk40 sz40 nn40 Hs40 Gs40 rfl W40 1 rfl (Nat.le_of_ble_eq_true rfl)
    have N40 := Fr.snoc X40 N37 ge_b21
    have Z40 : n0 ≤ h40.size := by rw [W40.size]; exact Z37
    refine own_go (g' := (mkF m 187 #[.val (.int p0), .val (.int p1), .val (.long q2), .second, .val (.long q3), .second, .val (.int p4), .val (.int nn), .val (.int ia), .val (.int ib), .val (.ref b1), .val (.int (1 : Int32)), .val (.int (0 : Int32)), .val (.ref b21), .unset, .unset, .unset, .unset, .unset, .unset] [])) (st40) ?_
    obtain ⟨T41, h41, X41, e41, E41, A41, D41, -, st41⟩ := newO X40 hx hZ hown (hw _ (List.mem_of_getElem? (i := 1) rfl)) (hw _ (List.mem_of_getElem? (i := 2) rfl)) (hw _ (List.mem_of_getElem? (i := 3) rfl)) e40 (g := (mkF m 187 #[.val (.int p0), .val (.int p1), .val (.long q2), .second, .val (.long q3), .second, .val (.int p4), .val (.int nn), .val (.int ia), .val (.int ib), .val (.ref b1), .val (.int (1 : Int32)), .val (.int (0 : Int32)), .val (.ref b21), .unset, .unset, .unset, .unset, .unset, .unset] [])) rfl (hb hby at_187) (by decide) (by decide)
    obtain ⟨b41, ad41⟩ : ∃ z, z = h40.size := ⟨_, rfl⟩
    rw [← ad41] at A41 D41 st41
    have fx42 : Exa Z h40 b1 "com/example/gist_sketch/gistsketch/format/BitArray" := (Exa.wr W40 (Exa.wr W37 (Exa.wr W36 (Exa.ext E31 fx32))))
    have ne_b1_b41 : b1 ≠ b41 := Nat.ne_of_lt (by rw [ad41]; exact fx42.lt)
    have fx43 : Arv Z h40 pg2 kp2 (.array .long) (1 : Int32) [(.ref w2)] .null := (Arv.other (Arv.other (Arv.other (Arv.ext fx33 E31) W36 ne_pg2_b31) W37 ne_pg2_b31) W40 ne_pg2_b21)
    have ne_pg2_b41 : pg2 ≠ b41 := Nat.ne_of_lt (by rw [ad41]; exact fx43.lt)
    have fx44 : Arv Z h40 w2 kw2 .long (4 : Int32) [(.long (own_o 0 (ib.toInt64) (own_o 0 (ia.toInt64) (0 : Int64)))), (.long (own_o 1 (ib.toInt64) (own_o 1 (ia.toInt64) (0 : Int64)))), (.long (own_o 2 (ib.toInt64) (own_o 2 (ia.toInt64) (0 : Int64)))), (.long (own_o 3 (ib.toInt64) (own_o 3 (ia.toInt64) (0 : Int64))))] (.long (0 : Int64)) := (Arv.other (Arv.other (Arv.other (Arv.ext fx34 E31) W36 ne_w2_b31) W37 ne_w2_b31) W40 ne_w2_b21)
    have ne_w2_b41 : w2 ≠ b41 := Nat.ne_of_lt (by rw [ad41]; exact fx44.lt)
    have ne_b21_b41 : b21 ≠ b41 := Nat.ne_of_lt (by rw [ad41]; exact V40.lt)
    have fx45 : Arv Z h40 b22 k22 .long (2 : Int32) [(.long q2), (.long q3)] (.long (0 : Int64)) := (Arv.other (Arv.other (Arv.other (Arv.ext fx35 E31) W36 ne_b22_b31) W37 ne_b22_b31) W40 (Ne.symm ne_b21_b22))
    have ne_b22_b41 : b22 ≠ b41 := Nat.ne_of_lt (by rw [ad41]; exact fx45.lt)
    have fx46 : Arv Z h40 b31 k31 .long (2 : Int32) [(.long q3), (.long q2)] (.long (0 : Int64)) := (Arv.other V37 W40 (Ne.symm ne_b21_b31))
    have ne_b31_b41 : b31 ≠ b41 := Nat.ne_of_lt (by rw [ad41]; exact fx46.lt)
    have ge_b41 : n0 ≤ b41 := by rw [ad41]; exact Z40
    have Z41 : n0 ≤ h41.size := Nat.le_trans Z40 E41.1
    have F41_bits : Fld Z h41 b41 "com/example/gist_sketch/gistsketch/format/BitArray" "bits" "J" (.long (0 : Int64)) := D41 (Or.inr (hw _ (List.mem_of_getElem? (i := 25) rfl))) (ty := .long) (by decide)
    have F41_pages : Fld Z h41 b41 "com/example/gist_sketch/gistsketch/format/BitArray" "pages" "[[J" .null := D41 (Or.inr (hw _ (List.mem_of_getElem? (i := 27) rfl))) (ty := (.array (.array .long))) (by decide)
    refine own_go (g' := (mkF m 190 #[.val (.int p0), .val (.int p1), .val (.long q2), .second, .val (.long q3), .second, .val (.int p4), .val (.int nn), .val (.int ia), .val (.int ib), .val (.ref b1), .val (.int (1 : Int32)), .val (.int (0 : Int32)), .val (.ref b21), .unset, .unset, .unset, .unset, .unset, .unset] [(.ref b41)])) (st41) ?_
    refine own_go (g' := (mkF m 191 #[.val (.int p0), .val (.int p1), .val (.long q2), .second, .val (.long q3), .second, .val (.int p4), .val (.int nn), .val (.int ia), .val (.int ib), .val (.ref b1), .val (.int (1 : Int32)), .val (.int (0 : Int32)), .val (.ref b21), .unset, .unset, .unset, .unset, .unset, .unset] [(.ref b41), (.ref b41)])) (fun _ kgo => XS.dup X41.here hx rfl (hb hby at_190) rfl rfl kgo) ?_
    refine own_go (g' := (mkF m 194 #[.val (.int p0), .val (.int p1), .val (.long q2), .second, .val (.long q3), .second, .val (.int p4), .val (.int nn), .val (.int ia), .val (.int ib), .val (.ref b1), .val (.int (1 : Int32)), .val (.int (0 : Int32)), .val (.ref b21), .unset, .unset, .unset, .unset, .unset, .unset] [(.long (2147483776 : Int64)), (.ref b41), (.ref b41)])) (X41.ldc2Long hx hown (mvT hZ (hw _ (List.mem_of_getElem? (i := 64) rfl))) (g := (mkF m 191 #[.val (.int p0), .val (.int p1), .val (.long q2), .second, .val (.long q3), .second, .val (.int p4), .val (.int nn), .val (.int ia), .val (.int ib), .val (.ref b1), .val (.int (1 : Int32)), .val (.int (0 : Int32)), .val (.ref b21), .unset, .unset, .unset, .unset, .unset, .unset] [(.ref b41), (.ref b41)])) rfl (hb hby at_191)) ?_
    refine own_go (g' := (mkF m 196 #[.val (.int p0), .val (.int p1), .val (.long q2), .second, .val (.long q3), .second, .val (.int p4), .val (.int nn), .val (.int ia), .val (.int ib), .val (.ref b1), .val (.int (1 : Int32)), .val (.int (0 : Int32)), .val (.ref b21), .unset, .unset, .unset, .unset, .unset, .unset] [(.ref b21), (.long (2147483776 : Int64)), (.ref b41), (.ref b41)])) (fun _ kgo => XS.aload X41.here hx rfl (hb hby at_194) rfl rfl kgo) ?_
    obtain ⟨v47, T47, L47, hQ47, X47, st47⟩ := own_callI X41 hx hZ (y := (⟨"com/example/gist_sketch/gistsketch/format/BitArray", "<init>", "(J[[J)V"⟩ : MethodName)) rfl hown (hw _ (List.mem_of_getElem? (i := 65) rfl)) (hw _ (List.mem_of_getElem? (i := 19) rfl)) (hw _ (List.mem_of_getElem? (i := 3) rfl)) (hw _ (List.mem_of_getElem? (i := 20) rfl)) ⟨by decide, by decide⟩ (a := b41) (argsL := [(.long (2147483776 : Int64)), (.ref b21)]) (ct2 l Z a0 hw b41 (2147483776 : Int64) b21 h41 n0 Z41 ge_b41 A41 F41_bits F41_pages) e41 (g := (mkF m 196 #[.val (.int p0), .val (.int p1), .val (.long q2), .second, .val (.long q3), .second, .val (.int p4), .val (.int nn), .val (.int ia), .val (.int ib), .val (.ref b1), .val (.int (1 : Int32)), .val (.int (0 : Int32)), .val (.ref b21), .unset, .unset, .unset, .unset, .unset, .unset] [(.ref b21), (.long (2147483776 : Int64)), (.ref b41), (.ref b41)])) rfl (by rw [hml]; rfl) (rest := [(.ref b41)]) (lenOf pd0_3 rfl) rfl (hb hby at_196) (W := 1) (by show 2 * 0 + _ ≤ _; exact Nat.le_of_eq rfl) (by decide) (by decide) (by decide) (by decide)
    obtain ⟨rfl, Nq47, Kq47, q47_0, q47_1, q47_2⟩ := hQ47
    have N47 := Fr.app N40 Nq47
    have Z47 : n0 ≤ T47.heap.size := Nat.le_trans Z41 Kq47.1
    refine own_go (g' := (mkF m 199 #[.val (.int p0), .val (.int p1), .val (.long q2), .second, .val (.long q3), .second, .val (.int p4), .val (.int nn), .val (.int ia), .val (.int ib), .val (.ref b1), .val (.int (1 : Int32)), .val (.int (0 : Int32)), .val (.ref b21), .unset, .unset, .unset, .unset, .unset, .unset] [(.ref b41)])) (st47) ?_
    refine own_go (g' := (mkF m 201 #[.val (.int p0), .val (.int p1), .val (.long q2), .second, .val (.long q3), .second, .val (.int p4), .val (.int nn), .val (.int ia), .val (.int ib), .val (.ref b1), .val (.int (1 : Int32)), .val (.int (0 : Int32)), .val (.ref b21), .val (.ref b41), .unset, .unset, .unset, .unset, .unset] [])) (fun _ kgo => XS.astore X47.here hx rfl (hb hby at_199) rfl rfl (l' := #[.val (.int p0), .val (.int p1), .val (.long q2), .second, .val (.long q3), .second, .val (.int p4), .val (.int nn), .val (.int ia), .val (.int ib), .val (.ref b1), .val (.int (1 : Int32)), .val (.int (0 : Int32)), .val (.ref b21), .val (.ref b41), .unset, .unset, .unset, .unset, .unset]) rfl kgo) ?_
    refine own_go (g' := (mkF m 203 #[.val (.int p0), .val (.int p1), .val (.long q2), .second, .val (.long q3), .second, .val (.int p4), .val (.int nn), .val (.int ia), .val (.int ib), .val (.ref b1), .val (.int (1 : Int32)), .val (.int (0 : Int32)), .val (.ref b21), .val (.ref b41), .unset, .unset, .unset, .unset, .unset] [(.int (0 : Int32))])) (fun _ kgo => XS.iload X47.here hx rfl (hb hby at_201) rfl kgo) ?_
    refine own_go (g' := (mkF m 206 #[.val (.int p0), .val (.int p1), .val (.long q2), .second, .val (.long q3), .second, .val (.int p4), .val (.int nn), .val (.int ia), .val (.int ib), .val (.ref b1), .val (.int (1 : Int32)), .val (.int (0 : Int32)), .val (.ref b21), .val (.ref b41), .unset, .unset, .unset, .unset, .unset] [])) (fun _ kgo => XS.ifNo X47.here hx rfl (hb hby at_203) rfl ((if0 _ _).trans (teq (by decide)).2) kgo) ?_
    refine own_go (g' := (mkF m 207 #[.val (.int p0), .val (.int p1), .val (.long q2), .second, .val (.long q3), .second, .val (.int p4), .val (.int nn), .val (.int ia), .val (.int ib), .val (.ref b1), .val (.int (1 : Int32)), .val (.int (0 : Int32)), .val (.ref b21), .val (.ref b41), .unset, .unset, .unset, .unset, .unset] [(.long q2)])) (fun _ kgo => XS.lloadN X47.here hx rfl (hb hby at_206) rfl kgo) ?_
    refine own_go (g' := (mkF m 212 #[.val (.int p0), .val (.int p1), .val (.long q2), .second, .val (.long q3), .second, .val (.int p4), .val (.int nn), .val (.int ia), .val (.int ib), .val (.ref b1), .val (.int (1 : Int32)), .val (.int (0 : Int32)), .val (.ref b21), .val (.ref b41), .unset, .unset, .unset, .unset, .unset] [(.long q2)])) (fun _ kgo => XS.goto X47.here hx rfl (pc0 := 207) (pc' := 212) rfl (hb hby at_207) (by decide) (by decide) kgo) ?_
    refine own_go (g' := (mkF m 214 #[.val (.int p0), .val (.int p1), .val (.long q2), .second, .val (.long q3), .second, .val (.int p4), .val (.int nn), .val (.int ia), .val (.int ib), .val (.ref b1), .val (.int (1 : Int32)), .val (.int (0 : Int32)), .val (.ref b21), .val (.ref b41), .val (.long q2), .second, .unset, .unset, .unset] [])) (fun _ kgo => XS.lstore X47.here hx rfl (hb hby at_212) rfl (l' := #[.val (.int p0), .val (.int p1), .val (.long q2), .second, .val (.long q3), .second, .val (.int p4), .val (.int nn), .val (.int ia), .val (.int ib), .val (.ref b1), .val (.int (1 : Int32)), .val (.int (0 : Int32)), .val (.ref b21), .val (.ref b41), .val (.long q2), .second, .unset, .unset, .unset]) rfl kgo) ?_
    refine own_go (g' := (mkF m 216 #[.val (.int p0), .val (.int p1), .val (.long q2), .second, .val (.long q3), .second, .val (.int p4), .val (.int nn), .val (.int ia), .val (.int ib), .val (.ref b1), .val (.int (1 : Int32)), .val (.int (0 : Int32)), .val (.ref b21), .val (.ref b41), .val (.long q2), .second, .unset, .unset, .unset] [(.int (0 : Int32))])) (fun _ kgo => XS.iload X47.here hx rfl (hb hby at_214) rfl kgo) ?_
    refine own_go (g' := (mkF m 219 #[.val (.int p0), .val (.int p1), .val (.long q2), .second, .val (.long q3), .second, .val (.int p4), .val (.int nn), .val (.int ia), .val (.int ib), .val (.ref b1), .val (.int (1 : Int32)), .val (.int (0 : Int32)), .val (.ref b21), .val (.ref b41), .val (.long q2), .second, .unset, .unset, .unset] [])) (fun _ kgo => XS.ifNo X47.here hx rfl (hb hby at_216) rfl ((if0 _ _).trans (teq (by decide)).2) kgo) ?_
    refine own_go (g' := (mkF m 221 #[.val (.int p0), .val (.int p1), .val (.long q2), .second, .val (.long q3), .second, .val (.int p4), .val (.int nn), .val (.int ia), .val (.int ib), .val (.ref b1), .val (.int (1 : Int32)), .val (.int (0 : Int32)), .val (.ref b21), .val (.ref b41), .val (.long q2), .second, .unset, .unset, .unset] [(.long q3)])) (fun _ kgo => XS.lload X47.here hx rfl (hb hby at_219) rfl kgo) ?_
    refine own_go (g' := (mkF m 225 #[.val (.int p0), .val (.int p1), .val (.long q2), .second, .val (.long q3), .second, .val (.int p4), .val (.int nn), .val (.int ia), .val (.int ib), .val (.ref b1), .val (.int (1 : Int32)), .val (.int (0 : Int32)), .val (.ref b21), .val (.ref b41), .val (.long q2), .second, .unset, .unset, .unset] [(.long q3)])) (fun _ kgo => XS.goto X47.here hx rfl (pc0 := 221) (pc' := 225) rfl (hb hby at_221) (by decide) (by decide) kgo) ?_
    refine own_go (g' := (mkF m 227 #[.val (.int p0), .val (.int p1), .val (.long q2), .second, .val (.long q3), .second, .val (.int p4), .val (.int nn), .val (.int ia), .val (.int ib), .val (.ref b1), .val (.int (1 : Int32)), .val (.int (0 : Int32)), .val (.ref b21), .val (.ref b41), .val (.long q2), .second, .val (.long q3), .second, .unset] [])) (fun _ kgo => XS.lstore X47.here hx rfl (hb hby at_225) rfl (l' := #[.val (.int p0), .val (.int p1), .val (.long q2), .second, .val (.long q3), .second, .val (.int p4), .val (.int nn), .val (.int ia), .val (.int ib), .val (.ref b1), .val (.int (1 : Int32)), .val (.int (0 : Int32)), .val (.ref b21), .val (.ref b41), .val (.long q2), .second, .val (.long q3), .second, .unset]) rfl kgo) ?_
    refine own_go (g' := (mkF m 229 #[.val (.int p0), .val (.int p1), .val (.long q2), .second, .val (.long q3), .second, .val (.int p4), .val (.int nn), .val (.int ia), .val (.int ib), .val (.ref b1), .val (.int (1 : Int32)), .val (.int (0 : Int32)), .val (.ref b21), .val (.ref b41), .val (.long q2), .second, .val (.long q3), .second, .unset] [(.ref b41)])) (fun _ kgo => XS.aload X47.here hx rfl (hb hby at_227) rfl rfl kgo) ?_
    refine own_go (g' := (mkF m 231 #[.val (.int p0), .val (.int p1), .val (.long q2), .second, .val (.long q3), .second, .val (.int p4), .val (.int nn), .val (.int ia), .val (.int ib), .val (.ref b1), .val (.int (1 : Int32)), .val (.int (0 : Int32)), .val (.ref b21), .val (.ref b41), .val (.long q2), .second, .val (.long q3), .second, .unset] [(.int (0 : Int32)), (.ref b41)])) (fun _ kgo => XS.iload X47.here hx rfl (hb hby at_229) rfl kgo) ?_
    refine own_go (g' := (mkF m 232 #[.val (.int p0), .val (.int p1), .val (.long q2), .second, .val (.long q3), .second, .val (.int p4), .val (.int nn), .val (.int ia), .val (.int ib), .val (.ref b1), .val (.int (1 : Int32)), .val (.int (0 : Int32)), .val (.ref b21), .val (.ref b41), .val (.long q2), .second, .val (.long q3), .second, .unset] [(.long (0 : Int64)), (.ref b41)])) (fun _ kgo => XS.i2l X47.here hx rfl (hb hby at_231) rfl kgo) ?_
    have fx49 : Arv Z T47.heap b21 k21 (.array .long) (2 : Int32) [(.ref b22), (.ref b31)] .null := (Arv.keep (Arv.ext V40 E41) Kq47 (ninS ne_b21_b41 nin0))
    have fx50 : Arv Z T47.heap b22 k22 .long (2 : Int32) [(.long q2), (.long q3)] (.long (0 : Int64)) := (Arv.keep (Arv.ext fx45 E41) Kq47 (ninS ne_b22_b41 nin0))
    have fx51 : Arv Z T47.heap b31 k31 .long (2 : Int32) [(.long q3), (.long q2)] (.long (0 : Int64)) := (Arv.keep (Arv.ext fx46 E41) Kq47 (ninS ne_b31_b41 nin0))
    obtain ⟨v48, T48, L48, hQ48, X48, st48⟩ := own_callV X47 hx hZ (y := (⟨"com/example/gist_sketch/gistsketch/format/BitArray", "word", "(J)J"⟩ : MethodName)) (z := (⟨"com/example/gist_sketch/gistsketch/format/BitArray", "word", "(J)J"⟩ : MethodName)) hown (hw _ (List.mem_of_getElem? (i := 52) rfl)) (hw _ (List.mem_of_getElem? (i := 53) rfl)) (notFace_of_selects (args := #[]) (mvT hZ (hw _ (List.mem_of_getElem? (i := 55) rfl)))) (hw _ (List.mem_of_getElem? (i := 55) rfl)) (hw _ (List.mem_of_getElem? (i := 54) rfl)) (hw _ (List.mem_of_getElem? (i := 3) rfl)) (hw _ (List.mem_of_getElem? (i := 56) rfl)) ⟨by decide, by decide⟩ (a := b41) (argsL := [(.long (0 : Int64))]) (wd_0_2 l Z a0 hw b41 (2147483776 : Int64) b21 k21 b22 b31 k22 k31 q2 q3 q3 q2 T47.heap q47_1 q47_2 fx49 fx50 fx51) rfl q47_0 (g := (mkF m 232 #[.val (.int p0), .val (.int p1), .val (.long q2), .second, .val (.long q3), .second, .val (.int p4), .val (.int nn), .val (.int ia), .val (.int ib), .val (.ref b1), .val (.int (1 : Int32)), .val (.int (0 : Int32)), .val (.ref b21), .val (.ref b41), .val (.long q2), .second, .val (.long q3), .second, .unset] [(.long (0 : Int64)), (.ref b41)])) rfl (by rw [hml]; rfl) (rest := []) (lenOf pd0_1 rfl) rfl (hb hby at_232) (W := 0) (by show 2 * 0 + _ ≤ _; exact Nat.le_of_eq rfl) (by decide) (by decide) (by decide) (by decide)
    obtain ⟨rfl, e48, rfl⟩ := hQ48
    have N48 := Fr.app N47 (Fr.nil n0)
    refine own_go (g' := (mkF m 235 #[.val (.int p0), .val (.int p1), .val (.long q2), .second, .val (.long q3), .second, .val (.int p4), .val (.int nn), .val (.int ia), .val (.int ib), .val (.ref b1), .val (.int (1 : Int32)), .val (.int (0 : Int32)), .val (.ref b21), .val (.ref b41), .val (.long q2), .second, .val (.long q3), .second, .unset] [(.long q2)])) (st48) ?_
    refine own_go (g' := (mkF m 237 #[.val (.int p0), .val (.int p1), .val (.long q2), .second, .val (.long q3), .second, .val (.int p4), .val (.int nn), .val (.int ia), .val (.int ib), .val (.ref b1), .val (.int (1 : Int32)), .val (.int (0 : Int32)), .val (.ref b21), .val (.ref b41), .val (.long q2), .second, .val (.long q3), .second, .unset] [(.long q2), (.long q2)])) (fun _ kgo => XS.lload X48.here hx rfl (hb hby at_235) rfl kgo) ?_
    refine own_go (g' := (mkF m 238 #[.val (.int p0), .val (.int p1), .val (.long q2), .second, .val (.long q3), .second, .val (.int p4), .val (.int nn), .val (.int ia), .val (.int ib), .val (.ref b1), .val (.int (1 : Int32)), .val (.int (0 : Int32)), .val (.ref b21), .val (.ref b41), .val (.long q2), .second, .val (.long q3), .second, .unset] [(.int (lcmpW q2 q2))])) (fun _ kgo => XS.lcmp X48.here hx rfl (hb hby at_237) rfl kgo) ?_
    refine own_go (g' := (mkF m 241 #[.val (.int p0), .val (.int p1), .val (.long q2), .second, .val (.long q3), .second, .val (.int p4), .val (.int nn), .val (.int ia), .val (.int ib), .val (.ref b1), .val (.int (1 : Int32)), .val (.int (0 : Int32)), .val (.ref b21), .val (.ref b41), .val (.long q2), .second, .val (.long q3), .second, .unset] [])) (fun _ kgo => XS.ifNo X48.here hx rfl (hb hby at_238) rfl ((if0 _ _).trans (teq ((lw_eq _ _).mpr rfl)).2) kgo) ?_
    refine own_go (g' := (mkF m 243 #[.val (.int p0), .val (.int p1), .val (.long q2), .second, .val (.long q3), .second, .val (.int p4), .val (.int nn), .val (.int ia), .val (.int ib), .val (.ref b1), .val (.int (1 : Int32)), .val (.int (0 : Int32)), .val (.ref b21), .val (.ref b41), .val (.long q2), .second, .val (.long q3), .second, .unset] [(.ref b41)])) (fun _ kgo => XS.aload X48.here hx rfl (hb hby at_241) rfl rfl kgo) ?_
    refine own_go (g' := (mkF m 246 #[.val (.int p0), .val (.int p1), .val (.long q2), .second, .val (.long q3), .second, .val (.int p4), .val (.int nn), .val (.int ia), .val (.int ib), .val (.ref b1), .val (.int (1 : Int32)), .val (.int (0 : Int32)), .val (.ref b21), .val (.ref b41), .val (.long q2), .second, .val (.long q3), .second, .unset] [(.long (33554432 : Int64)), (.ref b41)])) (X48.ldc2Long hx hown (mvT hZ (hw _ (List.mem_of_getElem? (i := 66) rfl))) (g := (mkF m 243 #[.val (.int p0), .val (.int p1), .val (.long q2), .second, .val (.long q3), .second, .val (.int p4), .val (.int nn), .val (.int ia), .val (.int ib), .val (.ref b1), .val (.int (1 : Int32)), .val (.int (0 : Int32)), .val (.ref b21), .val (.ref b41), .val (.long q2), .second, .val (.long q3), .second, .unset] [(.ref b41)])) rfl (hb hby at_243)) ?_
    refine own_go (g' := (mkF m 248 #[.val (.int p0), .val (.int p1), .val (.long q2), .second, .val (.long q3), .second, .val (.int p4), .val (.int nn), .val (.int ia), .val (.int ib), .val (.ref b1), .val (.int (1 : Int32)), .val (.int (0 : Int32)), .val (.ref b21), .val (.ref b41), .val (.long q2), .second, .val (.long q3), .second, .unset] [(.int (0 : Int32)), (.long (33554432 : Int64)), (.ref b41)])) (fun _ kgo => XS.iload X48.here hx rfl (hb hby at_246) rfl kgo) ?_
    refine own_go (g' := (mkF m 249 #[.val (.int p0), .val (.int p1), .val (.long q2), .second, .val (.long q3), .second, .val (.int p4), .val (.int nn), .val (.int ia), .val (.int ib), .val (.ref b1), .val (.int (1 : Int32)), .val (.int (0 : Int32)), .val (.ref b21), .val (.ref b41), .val (.long q2), .second, .val (.long q3), .second, .unset] [(.long (0 : Int64)), (.long (33554432 : Int64)), (.ref b41)])) (fun _ kgo => XS.i2l X48.here hx rfl (hb hby at_248) rfl kgo) ?_
    refine own_go (g' := (mkF m 250 #[.val (.int p0), .val (.int p1), .val (.long q2), .second, .val (.long q3), .second, .val (.int p4), .val (.int nn), .val (.int ia), .val (.int ib), .val (.ref b1), .val (.int (1 : Int32)), .val (.int (0 : Int32)), .val (.ref b21), .val (.ref b41), .val (.long q2), .second, .val (.long q3), .second, .unset] [(.long (33554432 : Int64)), (.ref b41)])) (fun _ kgo => XS.ladd X48.here hx rfl (hb hby at_249) rfl kgo) ?_
    obtain ⟨v52, T52, L52, hQ52, X52, st52⟩ := own_callV X48 hx hZ (y := (⟨"com/example/gist_sketch/gistsketch/format/BitArray", "word", "(J)J"⟩ : MethodName)) (z := (⟨"com/example/gist_sketch/gistsketch/format/BitArray", "word", "(J)J"⟩ : MethodName)) hown (hw _ (List.mem_of_getElem? (i := 52) rfl)) (hw _ (List.mem_of_getElem? (i := 53) rfl)) (notFace_of_selects (args := #[]) (mvT hZ (hw _ (List.mem_of_getElem? (i := 55) rfl)))) (hw _ (List.mem_of_getElem? (i := 55) rfl)) (hw _ (List.mem_of_getElem? (i := 54) rfl)) (hw _ (List.mem_of_getElem? (i := 3) rfl)) (hw _ (List.mem_of_getElem? (i := 56) rfl)) ⟨by decide, by decide⟩ (a := b41) (argsL := [(.long (33554432 : Int64))]) (wd_33554432_2 l Z a0 hw b41 (2147483776 : Int64) b21 k21 b22 b31 k22 k31 q2 q3 q3 q2 T47.heap q47_1 q47_2 fx49 fx50 fx51) e48 q47_0 (g := (mkF m 250 #[.val (.int p0), .val (.int p1), .val (.long q2), .second, .val (.long q3), .second, .val (.int p4), .val (.int nn), .val (.int ia), .val (.int ib), .val (.ref b1), .val (.int (1 : Int32)), .val (.int (0 : Int32)), .val (.ref b21), .val (.ref b41), .val (.long q2), .second, .val (.long q3), .second, .unset] [(.long (33554432 : Int64)), (.ref b41)])) rfl (by rw [hml]; rfl) (rest := []) (lenOf pd0_1 rfl) rfl (hb hby at_250) (W := 0) (by show 2 * 0 + _ ≤ _; exact Nat.le_of_eq rfl) (by decide) (by decide) (by decide) (by decide)
    obtain ⟨rfl, e52, rfl⟩ := hQ52
    have N52 := Fr.app N48 (Fr.nil n0)
    refine own_go (g' := (mkF m 253 #[.val (.int p0), .val (.int p1), .val (.long q2), .second, .val (.long q3), .second, .val (.int p4), .val (.int nn), .val (.int ia), .val (.int ib), .val (.ref b1), .val (.int (1 : Int32)), .val (.int (0 : Int32)), .val (.ref b21), .val (.ref b41), .val (.long q2), .second, .val (.long q3), .second, .unset] [(.long q3)])) (st52) ?_
    refine own_go (g' := (mkF m 255 #[.val (.int p0), .val (.int p1), .val (.long q2), .second, .val (.long q3), .second, .val (.int p4), .val (.int nn), .val (.int ia), .val (.int ib), .val (.ref b1), .val (.int (1 : Int32)), .val (.int (0 : Int32)), .val (.ref b21), .val (.ref b41), .val (.long q2), .second, .val (.long q3), .second, .unset] [(.long q3), (.long q3)])) (fun _ kgo => XS.lload X52.here hx rfl (hb hby at_253) rfl kgo) ?_
    refine own_go (g' := (mkF m 256 #[.val (.int p0), .val (.int p1), .val (.long q2), .second, .val (.long q3), .second, .val (.int p4), .val (.int nn), .val (.int ia), .val (.int ib), .val (.ref b1), .val (.int (1 : Int32)), .val (.int (0 : Int32)), .val (.ref b21), .val (.ref b41), .val (.long q2), .second, .val (.long q3), .second, .unset] [(.int (lcmpW q3 q3))])) (fun _ kgo => XS.lcmp X52.here hx rfl (hb hby at_255) rfl kgo) ?_
    refine own_go (g' := (mkF m 259 #[.val (.int p0), .val (.int p1), .val (.long q2), .second, .val (.long q3), .second, .val (.int p4), .val (.int nn), .val (.int ia), .val (.int ib), .val (.ref b1), .val (.int (1 : Int32)), .val (.int (0 : Int32)), .val (.ref b21), .val (.ref b41), .val (.long q2), .second, .val (.long q3), .second, .unset] [])) (fun _ kgo => XS.ifNo X52.here hx rfl (hb hby at_256) rfl ((if0 _ _).trans (teq ((lw_eq _ _).mpr rfl)).2) kgo) ?_
    refine own_go (g' := (mkF m 260 #[.val (.int p0), .val (.int p1), .val (.long q2), .second, .val (.long q3), .second, .val (.int p4), .val (.int nn), .val (.int ia), .val (.int ib), .val (.ref b1), .val (.int (1 : Int32)), .val (.int (0 : Int32)), .val (.ref b21), .val (.ref b41), .val (.long q2), .second, .val (.long q3), .second, .unset] [(.int (1 : Int32))])) (fun _ kgo => XS.iconst X52.here hx rfl (hb hby at_259) kgo) ?_
    refine own_go (g' := (mkF m 264 #[.val (.int p0), .val (.int p1), .val (.long q2), .second, .val (.long q3), .second, .val (.int p4), .val (.int nn), .val (.int ia), .val (.int ib), .val (.ref b1), .val (.int (1 : Int32)), .val (.int (0 : Int32)), .val (.ref b21), .val (.ref b41), .val (.long q2), .second, .val (.long q3), .second, .unset] [(.int (1 : Int32))])) (fun _ kgo => XS.goto X52.here hx rfl (pc0 := 260) (pc' := 264) rfl (hb hby at_260) (by decide) (by decide) kgo) ?_
    refine own_go (g' := (mkF m 266 #[.val (.int p0), .val (.int p1), .val (.long q2), .second, .val (.long q3), .second, .val (.int p4), .val (.int nn), .val (.int ia), .val (.int ib), .val (.ref b1), .val (.int (1 : Int32)), .val (.int (0 : Int32)), .val (.ref b21), .val (.ref b41), .val (.long q2), .second, .val (.long q3), .second, .val (.int (1 : Int32))] [])) (fun _ kgo => XS.istore X52.here hx rfl (hb hby at_264) rfl (l' := #[.val (.int p0), .val (.int p1), .val (.long q2), .second, .val (.long q3), .second, .val (.int p4), .val (.int nn), .val (.int ia), .val (.int ib), .val (.ref b1), .val (.int (1 : Int32)), .val (.int (0 : Int32)), .val (.ref b21), .val (.ref b41), .val (.long q2), .second, .val (.long q3), .second, .val (.int (1 : Int32))]) rfl kgo) ?_
    refine own_go (g' := (mkF m 268 #[.val (.int p0), .val (.int p1), .val (.long q2), .second, .val (.long q3), .second, .val (.int p4), .val (.int nn), .val (.int ia), .val (.int ib), .val (.ref b1), .val (.int (1 : Int32)), .val (.int (0 : Int32)), .val (.ref b21), .val (.ref b41), .val (.long q2), .second, .val (.long q3), .second, .val (.int (1 : Int32))] [(.int (1 : Int32))])) (fun _ kgo => XS.iload X52.here hx rfl (hb hby at_266) rfl kgo) ?_
    refine own_go (g' := (mkF m 271 #[.val (.int p0), .val (.int p1), .val (.long q2), .second, .val (.long q3), .second, .val (.int p4), .val (.int nn), .val (.int ia), .val (.int ib), .val (.ref b1), .val (.int (1 : Int32)), .val (.int (0 : Int32)), .val (.ref b21), .val (.ref b41), .val (.long q2), .second, .val (.long q3), .second, .val (.int (1 : Int32))] [])) (fun _ kgo => XS.ifNo X52.here hx rfl (hb hby at_268) rfl ((if0 _ _).trans (feq (by decide)).1) kgo) ?_
    refine own_go (g' := (mkF m 273 #[.val (.int p0), .val (.int p1), .val (.long q2), .second, .val (.long q3), .second, .val (.int p4), .val (.int nn), .val (.int ia), .val (.int ib), .val (.ref b1), .val (.int (1 : Int32)), .val (.int (0 : Int32)), .val (.ref b21), .val (.ref b41), .val (.long q2), .second, .val (.long q3), .second, .val (.int (1 : Int32))] [(.int (1 : Int32))])) (fun _ kgo => XS.iload X52.here hx rfl (hb hby at_271) rfl kgo) ?_
    refine own_go (g' := (mkF m 276 #[.val (.int p0), .val (.int p1), .val (.long q2), .second, .val (.long q3), .second, .val (.int p4), .val (.int nn), .val (.int ia), .val (.int ib), .val (.ref b1), .val (.int (1 : Int32)), .val (.int (0 : Int32)), .val (.ref b21), .val (.ref b41), .val (.long q2), .second, .val (.long q3), .second, .val (.int (1 : Int32))] [])) (fun _ kgo => XS.ifNo X52.here hx rfl (hb hby at_273) rfl ((if0 _ _).trans (feq (by decide)).1) kgo) ?_
    refine own_go (g' := (mkF m 277 #[.val (.int p0), .val (.int p1), .val (.long q2), .second, .val (.long q3), .second, .val (.int p4), .val (.int nn), .val (.int ia), .val (.int ib), .val (.ref b1), .val (.int (1 : Int32)), .val (.int (0 : Int32)), .val (.ref b21), .val (.ref b41), .val (.long q2), .second, .val (.long q3), .second, .val (.int (1 : Int32))] [(.int (1 : Int32))])) (fun _ kgo => XS.iconst X52.here hx rfl (hb hby at_276) kgo) ?_
    refine own_go (g' := (mkF m 281 #[.val (.int p0), .val (.int p1), .val (.long q2), .second, .val (.long q3), .second, .val (.int p4), .val (.int nn), .val (.int ia), .val (.int ib), .val (.ref b1), .val (.int (1 : Int32)), .val (.int (0 : Int32)), .val (.ref b21), .val (.ref b41), .val (.long q2), .second, .val (.long q3), .second, .val (.int (1 : Int32))] [(.int (1 : Int32))])) (fun _ kgo => XS.goto X52.here hx rfl (pc0 := 277) (pc' := 281) rfl (hb hby at_277) (by decide) (by decide) kgo) ?_
    refine own_retN X52 hx .boolean Bd.returns Bd.notSynchronized (by simp) (hb hby at_281) (by decide) (by decide) ?_
    show QQ _ T52.heap _
    rw [e52]
    rw [← hQQ]
    exact ⟨rfl, N52⟩
  ·
    refine own_go (g' := (mkF m 150 #[.val (.int p0), .val (.int p1), .val (.long q2), .second, .val (.long q3), .second, .val (.int p4), .val (.int nn), .val (.int ia), .val (.int ib), .val (.ref b1), .val (.int (1 : Int32)), .val (.int (1 : Int32)), .unset, .unset, .unset, .unset, .unset, .unset, .unset] [(.int (2 : Int32))])) (fun _ kgo => XS.iconst X20.here hx rfl (hb hby at_149) kgo) ?_
    obtain ⟨T53, h53, k53, X53, e53, E53, A53, Ax53, O53, st53⟩ := newRA X20 hx hZ hown (ty := .long) (C := "[J") (by decide) (hw _ (List.mem_of_getElem? (i := 63) rfl)) (hw _ (List.mem_of_getElem? (i := 17) rfl)) e20 (g := (mkF m 150 #[.val (.int p0), .val (.int p1), .val (.long q2), .second, .val (.long q3), .second, .val (.int p4), .val (.int nn), .val (.int ia), .val (.int ib), .val (.ref b1), .val (.int (1 : Int32)), .val (.int (1 : Int32)), .unset, .unset, .unset, .unset, .unset, .unset, .unset] [(.int (2 : Int32))])) rfl (hb hby at_150) rfl (by decide) (cap := 2) (by decide) (by decide) (by decide) (by decide) (ad := "[[J") (by decide)
    obtain ⟨b53, ad53⟩ : ∃ z, z = T4.heap.size := ⟨_, rfl⟩
    rw [← ad53] at A53 Ax53 st53
    have ne_b1_b53 : b1 ≠ b53 := Nat.ne_of_lt (by rw [ad53]; exact fx13.lt)
    have ne_pg2_b53 : pg2 ≠ b53 := Nat.ne_of_lt (by rw [ad53]; exact fx12.lt)
    have ne_w2_b53 : w2 ≠ b53 := Nat.ne_of_lt (by rw [ad53]; exact q4_0.lt)
    have ge_b53 : n0 ≤ b53 := by rw [ad53]; exact Z4
    have Z53 : n0 ≤ h53.size := Nat.le_trans Z4 E53.1
    have V53 : Arv Z h53 b53 k53 (.array .long) (2 : Int32) [.null, .null] .null := (Arv.new A53 (by decide)).pad (pad_rep [] .null 2)
    refine own_go (g' := (mkF m 153 #[.val (.int p0), .val (.int p1), .val (.long q2), .second, .val (.long q3), .second, .val (.int p4), .val (.int nn), .val (.int ia), .val (.int ib), .val (.ref b1), .val (.int (1 : Int32)), .val (.int (1 : Int32)), .unset, .unset, .unset, .unset, .unset, .unset, .unset] [(.ref b53)])) (st53) ?_
    refine own_go (g' := (mkF m 155 #[.val (.int p0), .val (.int p1), .val (.long q2), .second, .val (.long q3), .second, .val (.int p4), .val (.int nn), .val (.int ia), .val (.int ib), .val (.ref b1), .val (.int (1 : Int32)), .val (.int (1 : Int32)), .val (.ref b53), .unset, .unset, .unset, .unset, .unset, .unset] [])) (fun _ kgo => XS.astore X53.here hx rfl (hb hby at_153) rfl rfl (l' := #[.val (.int p0), .val (.int p1), .val (.long q2), .second, .val (.long q3), .second, .val (.int p4), .val (.int nn), .val (.int ia), .val (.int ib), .val (.ref b1), .val (.int (1 : Int32)), .val (.int (1 : Int32)), .val (.ref b53), .unset, .unset, .unset, .unset, .unset, .unset]) rfl kgo) ?_
    refine own_go (g' := (mkF m 157 #[.val (.int p0), .val (.int p1), .val (.long q2), .second, .val (.long q3), .second, .val (.int p4), .val (.int nn), .val (.int ia), .val (.int ib), .val (.ref b1), .val (.int (1 : Int32)), .val (.int (1 : Int32)), .val (.ref b53), .unset, .unset, .unset, .unset, .unset, .unset] [(.ref b53)])) (fun _ kgo => XS.aload X53.here hx rfl (hb hby at_155) rfl rfl kgo) ?_
    refine own_go (g' := (mkF m 158 #[.val (.int p0), .val (.int p1), .val (.long q2), .second, .val (.long q3), .second, .val (.int p4), .val (.int nn), .val (.int ia), .val (.int ib), .val (.ref b1), .val (.int (1 : Int32)), .val (.int (1 : Int32)), .val (.ref b53), .unset, .unset, .unset, .unset, .unset, .unset] [(.int (0 : Int32)), (.ref b53)])) (fun _ kgo => XS.iconst X53.here hx rfl (hb hby at_157) kgo) ?_
    refine own_go (g' := (mkF m 159 #[.val (.int p0), .val (.int p1), .val (.long q2), .second, .val (.long q3), .second, .val (.int p4), .val (.int nn), .val (.int ia), .val (.int ib), .val (.ref b1), .val (.int (1 : Int32)), .val (.int (1 : Int32)), .val (.ref b53), .unset, .unset, .unset, .unset, .unset, .unset] [(.int (2 : Int32)), (.int (0 : Int32)), (.ref b53)])) (fun _ kgo => XS.iconst X53.here hx rfl (hb hby at_158) kgo) ?_
    obtain ⟨T54, h54, k54, X54, e54, E54, A54, Ax54, st54⟩ := newPE X53 hx hZ (hw _ (List.mem_of_getElem? (i := 36) rfl)) e53 (g := (mkF m 159 #[.val (.int p0), .val (.int p1), .val (.long q2), .second, .val (.long q3), .second, .val (.int p4), .val (.int nn), .val (.int ia), .val (.int ib), .val (.ref b1), .val (.int (1 : Int32)), .val (.int (1 : Int32)), .val (.ref b53), .unset, .unset, .unset, .unset, .unset, .unset] [(.int (2 : Int32)), (.int (0 : Int32)), (.ref b53)])) rfl (hb hby at_159) rfl (by decide) (cap := 2) (by decide) (by decide) (by decide) (by decide) (ad := "[J") (by decide)
    obtain ⟨b54, ad54⟩ : ∃ z, z = h53.size := ⟨_, rfl⟩
    rw [← ad54] at A54 Ax54 st54
    have fx55 : Exa Z h53 b1 "com/example/gist_sketch/gistsketch/format/BitArray" := (Exa.ext E53 fx13)
    have ne_b1_b54 : b1 ≠ b54 := Nat.ne_of_lt (by rw [ad54]; exact fx55.lt)
    have fx56 : Arv Z h53 pg2 kp2 (.array .long) (1 : Int32) [(.ref w2)] .null := (Arv.ext fx12 E53)
    have ne_pg2_b54 : pg2 ≠ b54 := Nat.ne_of_lt (by rw [ad54]; exact fx56.lt)
    have fx57 : Arv Z h53 w2 kw2 .long (4 : Int32) [(.long (own_o 0 (ib.toInt64) (own_o 0 (ia.toInt64) (0 : Int64)))), (.long (own_o 1 (ib.toInt64) (own_o 1 (ia.toInt64) (0 : Int64)))), (.long (own_o 2 (ib.toInt64) (own_o 2 (ia.toInt64) (0 : Int64)))), (.long (own_o 3 (ib.toInt64) (own_o 3 (ia.toInt64) (0 : Int64))))] (.long (0 : Int64)) := (Arv.ext q4_0 E53)
    have ne_w2_b54 : w2 ≠ b54 := Nat.ne_of_lt (by rw [ad54]; exact fx57.lt)
    have ne_b53_b54 : b53 ≠ b54 := Nat.ne_of_lt (by rw [ad54]; exact V53.lt)
    have ge_b54 : n0 ≤ b54 := by rw [ad54]; exact Z53
    have Z54 : n0 ≤ h54.size := Nat.le_trans Z53 E54.1
    have V54 : Arv Z h54 b54 k54 .long (2 : Int32) [(.long (0 : Int64)), (.long (0 : Int64))] (.long (0 : Int64)) := (Arv.new A54 (by decide)).pad (pad_rep [] (.long (0 : Int64)) 2)
    refine own_go (g' := (mkF m 161 #[.val (.int p0), .val (.int p1), .val (.long q2), .second, .val (.long q3), .second, .val (.int p4), .val (.int nn), .val (.int ia), .val (.int ib), .val (.ref b1), .val (.int (1 : Int32)), .val (.int (1 : Int32)), .val (.ref b53), .unset, .unset, .unset, .unset, .unset, .unset] [(.ref b54), (.int (0 : Int32)), (.ref b53)])) (st54) ?_
    refine own_go (g' := (mkF m 162 #[.val (.int p0), .val (.int p1), .val (.long q2), .second, .val (.long q3), .second, .val (.int p4), .val (.int nn), .val (.int ia), .val (.int ib), .val (.ref b1), .val (.int (1 : Int32)), .val (.int (1 : Int32)), .val (.ref b53), .unset, .unset, .unset, .unset, .unset, .unset] [(.ref b54), (.ref b54), (.int (0 : Int32)), (.ref b53)])) (fun _ kgo => XS.dup X54.here hx rfl (hb hby at_161) rfl rfl kgo) ?_
    refine own_go (g' := (mkF m 163 #[.val (.int p0), .val (.int p1), .val (.long q2), .second, .val (.long q3), .second, .val (.int p4), .val (.int nn), .val (.int ia), .val (.int ib), .val (.ref b1), .val (.int (1 : Int32)), .val (.int (1 : Int32)), .val (.ref b53), .unset, .unset, .unset, .unset, .unset, .unset] [(.int (0 : Int32)), (.ref b54), (.ref b54), (.int (0 : Int32)), (.ref b53)])) (fun _ kgo => XS.iconst X54.here hx rfl (hb hby at_162) kgo) ?_
    refine own_go (g' := (mkF m 164 #[.val (.int p0), .val (.int p1), .val (.long q2), .second, .val (.long q3), .second, .val (.int p4), .val (.int nn), .val (.int ia), .val (.int ib), .val (.ref b1), .val (.int (1 : Int32)), .val (.int (1 : Int32)), .val (.ref b53), .unset, .unset, .unset, .unset, .unset, .unset] [(.long q2), (.int (0 : Int32)), (.ref b54), (.ref b54), (.int (0 : Int32)), (.ref b53)])) (fun _ kgo => XS.lloadN X54.here hx rfl (hb hby at_163) rfl kgo) ?_
    obtain ⟨cl58, Ar58, qk58, sz58, nn58, Hs58, Gs58⟩ := id V54
    have hin58 : ¬ ((0 : Int32) < 0 ∨ cl58.slots.size ≤ ((0 : Int32)).toNatClampNeg) := inb_of sz58 ⟨by decide, by decide⟩
    obtain ⟨T58, h58, X58, e58, W58, st58⟩ := stJ X54 hx hZ e54 Ar58 (j := (0 : Int32)) hin58 (g := (mkF m 164 #[.val (.int p0), .val (.int p1), .val (.long q2), .second, .val (.long q3), .second, .val (.int p4), .val (.int nn), .val (.int ia), .val (.int ib), .val (.ref b1), .val (.int (1 : Int32)), .val (.int (1 : Int32)), .val (.ref b53), .unset, .unset, .unset, .unset, .unset, .unset] [(.long q2), (.int (0 : Int32)), (.ref b54), (.ref b54), (.int (0 : Int32)), (.ref b53)])) rfl rfl (hb hby at_164)
    have V58 : Arv Z h58 b54 k54 .long (2 : Int32) [(.long q2), (.long (0 : Int64))] (.long (0 : Int64)) := Arv.set Ar58 qk58 sz58 nn58 Hs58 Gs58 rfl W58 0 rfl (Nat.le_of_ble_eq_true rfl)
    have N58 := Fr.snoc X58 N20 ge_b54
    have Z58 : n0 ≤ h58.size := by rw [W58.size]; exact Z54
    refine own_go (g' := (mkF m 165 #[.val (.int p0), .val (.int p1), .val (.long q2), .second, .val (.long q3), .second, .val (.int p4), .val (.int nn), .val (.int ia), .val (.int ib), .val (.ref b1), .val (.int (1 : Int32)), .val (.int (1 : Int32)), .val (.ref b53), .unset, .unset, .unset, .unset, .unset, .unset] [(.ref b54), (.int (0 : Int32)), (.ref b53)])) (st58) ?_
    refine own_go (g' := (mkF m 166 #[.val (.int p0), .val (.int p1), .val (.long q2), .second, .val (.long q3), .second, .val (.int p4), .val (.int nn), .val (.int ia), .val (.int ib), .val (.ref b1), .val (.int (1 : Int32)), .val (.int (1 : Int32)), .val (.ref b53), .unset, .unset, .unset, .unset, .unset, .unset] [(.ref b54), (.ref b54), (.int (0 : Int32)), (.ref b53)])) (fun _ kgo => XS.dup X58.here hx rfl (hb hby at_165) rfl rfl kgo) ?_
    refine own_go (g' := (mkF m 167 #[.val (.int p0), .val (.int p1), .val (.long q2), .second, .val (.long q3), .second, .val (.int p4), .val (.int nn), .val (.int ia), .val (.int ib), .val (.ref b1), .val (.int (1 : Int32)), .val (.int (1 : Int32)), .val (.ref b53), .unset, .unset, .unset, .unset, .unset, .unset] [(.int (1 : Int32)), (.ref b54), (.ref b54), (.int (0 : Int32)), (.ref b53)])) (fun _ kgo => XS.iconst X58.here hx rfl (hb hby at_166) kgo) ?_
    refine own_go (g' := (mkF m 169 #[.val (.int p0), .val (.int p1), .val (.long q2), .second, .val (.long q3), .second, .val (.int p4), .val (.int nn), .val (.int ia), .val (.int ib), .val (.ref b1), .val (.int (1 : Int32)), .val (.int (1 : Int32)), .val (.ref b53), .unset, .unset, .unset, .unset, .unset, .unset] [(.long q3), (.int (1 : Int32)), (.ref b54), (.ref b54), (.int (0 : Int32)), (.ref b53)])) (fun _ kgo => XS.lload X58.here hx rfl (hb hby at_167) rfl kgo) ?_
    obtain ⟨cl59, Ar59, qk59, sz59, nn59, Hs59, Gs59⟩ := id V58
    have hin59 : ¬ ((1 : Int32) < 0 ∨ cl59.slots.size ≤ ((1 : Int32)).toNatClampNeg) := inb_of sz59 ⟨by decide, by decide⟩
    obtain ⟨T59, h59, X59, e59, W59, st59⟩ := stJ X58 hx hZ e58 Ar59 (j := (1 : Int32)) hin59 (g := (mkF m 169 #[.val (.int p0), .val (.int p1), .val (.long q2), .second, .val (.long q3), .second, .val (.int p4), .val (.int nn), .val (.int ia), .val (.int ib), .val (.ref b1), .val (.int (1 : Int32)), .val (.int (1 : Int32)), .val (.ref b53), .unset, .unset, .unset, .unset, .unset, .unset] [(.long q3), (.int (1 : Int32)), (.ref b54), (.ref b54), (.int (0 : Int32)), (.ref b53)])) rfl rfl (hb hby at_169)
    have V59 : Arv Z h59 b54 k54 .long (2 : Int32) [(.long q2), (.long q3)] (.long (0 : Int64)) := Arv.set Ar59 qk59 sz59 nn59 Hs59 Gs59 rfl W59 1 rfl (Nat.le_of_ble_eq_true rfl)
    have N59 := Fr.snoc X59 N58 ge_b54
    have Z59 : n0 ≤ h59.size := by rw [W59.size]; exact Z58
    refine own_go (g' := (mkF m 170 #[.val (.int p0), .val (.int p1), .val (.long q2), .second, .val (.long q3), .second, .val (.int p4), .val (.int nn), .val (.int ia), .val (.int ib), .val (.ref b1), .val (.int (1 : Int32)), .val (.int (1 : Int32)), .val (.ref b53), .unset, .unset, .unset, .unset, .unset, .unset] [(.ref b54), (.int (0 : Int32)), (.ref b53)])) (st59) ?_
    have fx60 : Arv Z h59 b53 k53 (.array .long) (2 : Int32) [.null, .null] .null := (Arv.other (Arv.other (Arv.ext V53 E54) W58 ne_b53_b54) W59 ne_b53_b54)
    have fx61 : Exa Z h59 b54 "[J" := (Exa.wr W59 (Exa.wr W58 Ax54))
    obtain ⟨cl62, Ar62, qk62, sz62, nn62, Hs62, Gs62⟩ := id fx60
    have hin62 : ¬ ((0 : Int32) < 0 ∨ cl62.slots.size ≤ ((0 : Int32)).toNatClampNeg) := inb_of sz62 ⟨by decide, by decide⟩
    obtain ⟨T62, h62, X62, e62, W62, st62⟩ := stR X59 hx hZ e59 Ar62 (j := (0 : Int32)) hin62 rfl (Sto.ofVA Ar62 qk62 O53 (Ins.self fx61)) (g := (mkF m 170 #[.val (.int p0), .val (.int p1), .val (.long q2), .second, .val (.long q3), .second, .val (.int p4), .val (.int nn), .val (.int ia), .val (.int ib), .val (.ref b1), .val (.int (1 : Int32)), .val (.int (1 : Int32)), .val (.ref b53), .unset, .unset, .unset, .unset, .unset, .unset] [(.ref b54), (.int (0 : Int32)), (.ref b53)])) rfl rfl (hb hby at_170)
    have V62 : Arv Z h62 b53 k53 (.array .long) (2 : Int32) [(.ref b54), .null] .null := Arv.set Ar62 qk62 sz62 nn62 Hs62 Gs62 rfl W62 0 rfl (Nat.le_of_ble_eq_true rfl)
    have N62 := Fr.snoc X62 N59 ge_b53
    have Z62 : n0 ≤ h62.size := by rw [W62.size]; exact Z59
    refine own_go (g' := (mkF m 171 #[.val (.int p0), .val (.int p1), .val (.long q2), .second, .val (.long q3), .second, .val (.int p4), .val (.int nn), .val (.int ia), .val (.int ib), .val (.ref b1), .val (.int (1 : Int32)), .val (.int (1 : Int32)), .val (.ref b53), .unset, .unset, .unset, .unset, .unset, .unset] [])) (st62) ?_
    refine own_go (g' := (mkF m 173 #[.val (.int p0), .val (.int p1), .val (.long q2), .second, .val (.long q3), .second, .val (.int p4), .val (.int nn), .val (.int ia), .val (.int ib), .val (.ref b1), .val (.int (1 : Int32)), .val (.int (1 : Int32)), .val (.ref b53), .unset, .unset, .unset, .unset, .unset, .unset] [(.ref b53)])) (fun _ kgo => XS.aload X62.here hx rfl (hb hby at_171) rfl rfl kgo) ?_
    refine own_go (g' := (mkF m 174 #[.val (.int p0), .val (.int p1), .val (.long q2), .second, .val (.long q3), .second, .val (.int p4), .val (.int nn), .val (.int ia), .val (.int ib), .val (.ref b1), .val (.int (1 : Int32)), .val (.int (1 : Int32)), .val (.ref b53), .unset, .unset, .unset, .unset, .unset, .unset] [(.int (1 : Int32)), (.ref b53)])) (fun _ kgo => XS.iconst X62.here hx rfl (hb hby at_173) kgo) ?_
    refine own_go (g' := (mkF m 175 #[.val (.int p0), .val (.int p1), .val (.long q2), .second, .val (.long q3), .second, .val (.int p4), .val (.int nn), .val (.int ia), .val (.int ib), .val (.ref b1), .val (.int (1 : Int32)), .val (.int (1 : Int32)), .val (.ref b53), .unset, .unset, .unset, .unset, .unset, .unset] [(.int (2 : Int32)), (.int (1 : Int32)), (.ref b53)])) (fun _ kgo => XS.iconst X62.here hx rfl (hb hby at_174) kgo) ?_
    obtain ⟨T63, h63, k63, X63, e63, E63, A63, Ax63, st63⟩ := newPE X62 hx hZ (hw _ (List.mem_of_getElem? (i := 36) rfl)) e62 (g := (mkF m 175 #[.val (.int p0), .val (.int p1), .val (.long q2), .second, .val (.long q3), .second, .val (.int p4), .val (.int nn), .val (.int ia), .val (.int ib), .val (.ref b1), .val (.int (1 : Int32)), .val (.int (1 : Int32)), .val (.ref b53), .unset, .unset, .unset, .unset, .unset, .unset] [(.int (2 : Int32)), (.int (1 : Int32)), (.ref b53)])) rfl (hb hby at_175) rfl (by decide) (cap := 2) (by decide) (by decide) (by decide) (by decide) (ad := "[J") (by decide)
    obtain ⟨b63, ad63⟩ : ∃ z, z = h62.size := ⟨_, rfl⟩
    rw [← ad63] at A63 Ax63 st63
    have fx64 : Exa Z h62 b1 "com/example/gist_sketch/gistsketch/format/BitArray" := (Exa.wr W62 (Exa.wr W59 (Exa.wr W58 (Exa.ext E54 fx55))))
    have ne_b1_b63 : b1 ≠ b63 := Nat.ne_of_lt (by rw [ad63]; exact fx64.lt)
    have fx65 : Arv Z h62 pg2 kp2 (.array .long) (1 : Int32) [(.ref w2)] .null := (Arv.other (Arv.other (Arv.other (Arv.ext fx56 E54) W58 ne_pg2_b54) W59 ne_pg2_b54) W62 ne_pg2_b53)
    have ne_pg2_b63 : pg2 ≠ b63 := Nat.ne_of_lt (by rw [ad63]; exact fx65.lt)
    have fx66 : Arv Z h62 w2 kw2 .long (4 : Int32) [(.long (own_o 0 (ib.toInt64) (own_o 0 (ia.toInt64) (0 : Int64)))), (.long (own_o 1 (ib.toInt64) (own_o 1 (ia.toInt64) (0 : Int64)))), (.long (own_o 2 (ib.toInt64) (own_o 2 (ia.toInt64) (0 : Int64)))), (.long (own_o 3 (ib.toInt64) (own_o 3 (ia.toInt64) (0 : Int64))))] (.long (0 : Int64)) := (Arv.other (Arv.other (Arv.other (Arv.ext fx57 E54) W58 ne_w2_b54) W59 ne_w2_b54) W62 ne_w2_b53)
    have ne_w2_b63 : w2 ≠ b63 := Nat.ne_of_lt (by rw [ad63]; exact fx66.lt)
    have ne_b53_b63 : b53 ≠ b63 := Nat.ne_of_lt (by rw [ad63]; exact V62.lt)
    have fx67 : Arv Z h62 b54 k54 .long (2 : Int32) [(.long q2), (.long q3)] (.long (0 : Int64)) := (Arv.other V59 W62 (Ne.symm ne_b53_b54))
    have ne_b54_b63 : b54 ≠ b63 := Nat.ne_of_lt (by rw [ad63]; exact fx67.lt)
    have ge_b63 : n0 ≤ b63 := by rw [ad63]; exact Z62
    have Z63 : n0 ≤ h63.size := Nat.le_trans Z62 E63.1
    have V63 : Arv Z h63 b63 k63 .long (2 : Int32) [(.long (0 : Int64)), (.long (0 : Int64))] (.long (0 : Int64)) := (Arv.new A63 (by decide)).pad (pad_rep [] (.long (0 : Int64)) 2)
    refine own_go (g' := (mkF m 177 #[.val (.int p0), .val (.int p1), .val (.long q2), .second, .val (.long q3), .second, .val (.int p4), .val (.int nn), .val (.int ia), .val (.int ib), .val (.ref b1), .val (.int (1 : Int32)), .val (.int (1 : Int32)), .val (.ref b53), .unset, .unset, .unset, .unset, .unset, .unset] [(.ref b63), (.int (1 : Int32)), (.ref b53)])) (st63) ?_
    refine own_go (g' := (mkF m 178 #[.val (.int p0), .val (.int p1), .val (.long q2), .second, .val (.long q3), .second, .val (.int p4), .val (.int nn), .val (.int ia), .val (.int ib), .val (.ref b1), .val (.int (1 : Int32)), .val (.int (1 : Int32)), .val (.ref b53), .unset, .unset, .unset, .unset, .unset, .unset] [(.ref b63), (.ref b63), (.int (1 : Int32)), (.ref b53)])) (fun _ kgo => XS.dup X63.here hx rfl (hb hby at_177) rfl rfl kgo) ?_
    refine own_go (g' := (mkF m 179 #[.val (.int p0), .val (.int p1), .val (.long q2), .second, .val (.long q3), .second, .val (.int p4), .val (.int nn), .val (.int ia), .val (.int ib), .val (.ref b1), .val (.int (1 : Int32)), .val (.int (1 : Int32)), .val (.ref b53), .unset, .unset, .unset, .unset, .unset, .unset] [(.int (0 : Int32)), (.ref b63), (.ref b63), (.int (1 : Int32)), (.ref b53)])) (fun _ kgo => XS.iconst X63.here hx rfl (hb hby at_178) kgo) ?_
    refine own_go (g' := (mkF m 181 #[.val (.int p0), .val (.int p1), .val (.long q2), .second, .val (.long q3), .second, .val (.int p4), .val (.int nn), .val (.int ia), .val (.int ib), .val (.ref b1), .val (.int (1 : Int32)), .val (.int (1 : Int32)), .val (.ref b53), .unset, .unset, .unset, .unset, .unset, .unset] [(.long q3), (.int (0 : Int32)), (.ref b63), (.ref b63), (.int (1 : Int32)), (.ref b53)])) (fun _ kgo => XS.lload X63.here hx rfl (hb hby at_179) rfl kgo) ?_
    obtain ⟨cl68, Ar68, qk68, sz68, nn68, Hs68, Gs68⟩ := id V63
    have hin68 : ¬ ((0 : Int32) < 0 ∨ cl68.slots.size ≤ ((0 : Int32)).toNatClampNeg) := inb_of sz68 ⟨by decide, by decide⟩
    obtain ⟨T68, h68, X68, e68, W68, st68⟩ := stJ X63 hx hZ e63 Ar68 (j := (0 : Int32)) hin68 (g := (mkF m 181 #[.val (.int p0), .val (.int p1), .val (.long q2), .second, .val (.long q3), .second, .val (.int p4), .val (.int nn), .val (.int ia), .val (.int ib), .val (.ref b1), .val (.int (1 : Int32)), .val (.int (1 : Int32)), .val (.ref b53), .unset, .unset, .unset, .unset, .unset, .unset] [(.long q3), (.int (0 : Int32)), (.ref b63), (.ref b63), (.int (1 : Int32)), (.ref b53)])) rfl rfl (hb hby at_181)
    have V68 : Arv Z h68 b63 k63 .long (2 : Int32) [(.long q3), (.long (0 : Int64))] (.long (0 : Int64)) := Arv.set Ar68 qk68 sz68 nn68 Hs68 Gs68 rfl W68 0 rfl (Nat.le_of_ble_eq_true rfl)
    have N68 := Fr.snoc X68 N62 ge_b63
    have Z68 : n0 ≤ h68.size := by rw [W68.size]; exact Z63
    refine own_go (g' := (mkF m 182 #[.val (.int p0), .val (.int p1), .val (.long q2), .second, .val (.long q3), .second, .val (.int p4), .val (.int nn), .val (.int ia), .val (.int ib), .val (.ref b1), .val (.int (1 : Int32)), .val (.int (1 : Int32)), .val (.ref b53), .unset, .unset, .unset, .unset, .unset, .unset] [(.ref b63), (.int (1 : Int32)), (.ref b53)])) (st68) ?_
    refine own_go (g' := (mkF m 183 #[.val (.int p0), .val (.int p1), .val (.long q2), .second, .val (.long q3), .second, .val (.int p4), .val (.int nn), .val (.int ia), .val (.int ib), .val (.ref b1), .val (.int (1 : Int32)), .val (.int (1 : Int32)), .val (.ref b53), .unset, .unset, .unset, .unset, .unset, .unset] [(.ref b63), (.ref b63), (.int (1 : Int32)), (.ref b53)])) (fun _ kgo => XS.dup X68.here hx rfl (hb hby at_182) rfl rfl kgo) ?_
    refine own_go (g' := (mkF m 184 #[.val (.int p0), .val (.int p1), .val (.long q2), .second, .val (.long q3), .second, .val (.int p4), .val (.int nn), .val (.int ia), .val (.int ib), .val (.ref b1), .val (.int (1 : Int32)), .val (.int (1 : Int32)), .val (.ref b53), .unset, .unset, .unset, .unset, .unset, .unset] [(.int (1 : Int32)), (.ref b63), (.ref b63), (.int (1 : Int32)), (.ref b53)])) (fun _ kgo => XS.iconst X68.here hx rfl (hb hby at_183) kgo) ?_
    refine own_go (g' := (mkF m 185 #[.val (.int p0), .val (.int p1), .val (.long q2), .second, .val (.long q3), .second, .val (.int p4), .val (.int nn), .val (.int ia), .val (.int ib), .val (.ref b1), .val (.int (1 : Int32)), .val (.int (1 : Int32)), .val (.ref b53), .unset, .unset, .unset, .unset, .unset, .unset] [(.long q2), (.int (1 : Int32)), (.ref b63), (.ref b63), (.int (1 : Int32)), (.ref b53)])) (fun _ kgo => XS.lloadN X68.here hx rfl (hb hby at_184) rfl kgo) ?_
    obtain ⟨cl69, Ar69, qk69, sz69, nn69, Hs69, Gs69⟩ := id V68
    have hin69 : ¬ ((1 : Int32) < 0 ∨ cl69.slots.size ≤ ((1 : Int32)).toNatClampNeg) := inb_of sz69 ⟨by decide, by decide⟩
    obtain ⟨T69, h69, X69, e69, W69, st69⟩ := stJ X68 hx hZ e68 Ar69 (j := (1 : Int32)) hin69 (g := (mkF m 185 #[.val (.int p0), .val (.int p1), .val (.long q2), .second, .val (.long q3), .second, .val (.int p4), .val (.int nn), .val (.int ia), .val (.int ib), .val (.ref b1), .val (.int (1 : Int32)), .val (.int (1 : Int32)), .val (.ref b53), .unset, .unset, .unset, .unset, .unset, .unset] [(.long q2), (.int (1 : Int32)), (.ref b63), (.ref b63), (.int (1 : Int32)), (.ref b53)])) rfl rfl (hb hby at_185)
    have V69 : Arv Z h69 b63 k63 .long (2 : Int32) [(.long q3), (.long q2)] (.long (0 : Int64)) := Arv.set Ar69 qk69 sz69 nn69 Hs69 Gs69 rfl W69 1 rfl (Nat.le_of_ble_eq_true rfl)
    have N69 := Fr.snoc X69 N68 ge_b63
    have Z69 : n0 ≤ h69.size := by rw [W69.size]; exact Z68
    refine own_go (g' := (mkF m 186 #[.val (.int p0), .val (.int p1), .val (.long q2), .second, .val (.long q3), .second, .val (.int p4), .val (.int nn), .val (.int ia), .val (.int ib), .val (.ref b1), .val (.int (1 : Int32)), .val (.int (1 : Int32)), .val (.ref b53), .unset, .unset, .unset, .unset, .unset, .unset] [(.ref b63), (.int (1 : Int32)), (.ref b53)])) (st69) ?_
    have fx70 : Arv Z h69 b53 k53 (.array .long) (2 : Int32) [(.ref b54), .null] .null := (Arv.other (Arv.other (Arv.ext V62 E63) W68 ne_b53_b63) W69 ne_b53_b63)
    have fx71 : Exa Z h69 b63 "[J" := (Exa.wr W69 (Exa.wr W68 Ax63))
    obtain ⟨cl72, Ar72, qk72, sz72, nn72, Hs72, Gs72⟩ := id fx70
    have hin72 : ¬ ((1 : Int32) < 0 ∨ cl72.slots.size ≤ ((1 : Int32)).toNatClampNeg) := inb_of sz72 ⟨by decide, by decide⟩
    obtain ⟨T72, h72, X72, e72, W72, st72⟩ := stR X69 hx hZ e69 Ar72 (j := (1 : Int32)) hin72 rfl (Sto.ofVA Ar72 qk72 O53 (Ins.self fx71)) (g := (mkF m 186 #[.val (.int p0), .val (.int p1), .val (.long q2), .second, .val (.long q3), .second, .val (.int p4), .val (.int nn), .val (.int ia), .val (.int ib), .val (.ref b1), .val (.int (1 : Int32)), .val (.int (1 : Int32)), .val (.ref b53), .unset, .unset, .unset, .unset, .unset, .unset] [(.ref b63), (.int (1 : Int32)), (.ref b53)])) rfl rfl (hb hby at_186)
    have V72 : Arv Z h72 b53 k53 (.array .long) (2 : Int32) [(.ref b54), (.ref b63)] .null := Arv.set Ar72 qk72 sz72 nn72 Hs72 Gs72 rfl W72 1 rfl (Nat.le_of_ble_eq_true rfl)
    have N72 := Fr.snoc X72 N69 ge_b53
    have Z72 : n0 ≤ h72.size := by rw [W72.size]; exact Z69
    refine own_go (g' := (mkF m 187 #[.val (.int p0), .val (.int p1), .val (.long q2), .second, .val (.long q3), .second, .val (.int p4), .val (.int nn), .val (.int ia), .val (.int ib), .val (.ref b1), .val (.int (1 : Int32)), .val (.int (1 : Int32)), .val (.ref b53), .unset, .unset, .unset, .unset, .unset, .unset] [])) (st72) ?_
    obtain ⟨T73, h73, X73, e73, E73, A73, D73, -, st73⟩ := newO X72 hx hZ hown (hw _ (List.mem_of_getElem? (i := 1) rfl)) (hw _ (List.mem_of_getElem? (i := 2) rfl)) (hw _ (List.mem_of_getElem? (i := 3) rfl)) e72 (g := (mkF m 187 #[.val (.int p0), .val (.int p1), .val (.long q2), .second, .val (.long q3), .second, .val (.int p4), .val (.int nn), .val (.int ia), .val (.int ib), .val (.ref b1), .val (.int (1 : Int32)), .val (.int (1 : Int32)), .val (.ref b53), .unset, .unset, .unset, .unset, .unset, .unset] [])) rfl (hb hby at_187) (by decide) (by decide)
    obtain ⟨b73, ad73⟩ : ∃ z, z = h72.size := ⟨_, rfl⟩
    rw [← ad73] at A73 D73 st73
    have fx74 : Exa Z h72 b1 "com/example/gist_sketch/gistsketch/format/BitArray" := (Exa.wr W72 (Exa.wr W69 (Exa.wr W68 (Exa.ext E63 fx64))))
    have ne_b1_b73 : b1 ≠ b73 := Nat.ne_of_lt (by rw [ad73]; exact fx74.lt)
    have fx75 : Arv Z h72 pg2 kp2 (.array .long) (1 : Int32) [(.ref w2)] .null := (Arv.other (Arv.other (Arv.other (Arv.ext fx65 E63) W68 ne_pg2_b63) W69 ne_pg2_b63) W72 ne_pg2_b53)
    have ne_pg2_b73 : pg2 ≠ b73 := Nat.ne_of_lt (by rw [ad73]; exact fx75.lt)
    have fx76 : Arv Z h72 w2 kw2 .long (4 : Int32) [(.long (own_o 0 (ib.toInt64) (own_o 0 (ia.toInt64) (0 : Int64)))), (.long (own_o 1 (ib.toInt64) (own_o 1 (ia.toInt64) (0 : Int64)))), (.long (own_o 2 (ib.toInt64) (own_o 2 (ia.toInt64) (0 : Int64)))), (.long (own_o 3 (ib.toInt64) (own_o 3 (ia.toInt64) (0 : Int64))))] (.long (0 : Int64)) := (Arv.other (Arv.other (Arv.other (Arv.ext fx66 E63) W68 ne_w2_b63) W69 ne_w2_b63) W72 ne_w2_b53)
    have ne_w2_b73 : w2 ≠ b73 := Nat.ne_of_lt (by rw [ad73]; exact fx76.lt)
    have ne_b53_b73 : b53 ≠ b73 := Nat.ne_of_lt (by rw [ad73]; exact V72.lt)
    have fx77 : Arv Z h72 b54 k54 .long (2 : Int32) [(.long q2), (.long q3)] (.long (0 : Int64)) := (Arv.other (Arv.other (Arv.other (Arv.ext fx67 E63) W68 ne_b54_b63) W69 ne_b54_b63) W72 (Ne.symm ne_b53_b54))
    have ne_b54_b73 : b54 ≠ b73 := Nat.ne_of_lt (by rw [ad73]; exact fx77.lt)
    have fx78 : Arv Z h72 b63 k63 .long (2 : Int32) [(.long q3), (.long q2)] (.long (0 : Int64)) := (Arv.other V69 W72 (Ne.symm ne_b53_b63))
    have ne_b63_b73 : b63 ≠ b73 := Nat.ne_of_lt (by rw [ad73]; exact fx78.lt)
    have ge_b73 : n0 ≤ b73 := by rw [ad73]; exact Z72
    have Z73 : n0 ≤ h73.size := Nat.le_trans Z72 E73.1
    have F73_bits : Fld Z h73 b73 "com/example/gist_sketch/gistsketch/format/BitArray" "bits" "J" (.long (0 : Int64)) := D73 (Or.inr (hw _ (List.mem_of_getElem? (i := 25) rfl))) (ty := .long) (by decide)
    have F73_pages : Fld Z h73 b73 "com/example/gist_sketch/gistsketch/format/BitArray" "pages" "[[J" .null := D73 (Or.inr (hw _ (List.mem_of_getElem? (i := 27) rfl))) (ty := (.array (.array .long))) (by decide)
    refine own_go (g' := (mkF m 190 #[.val (.int p0), .val (.int p1), .val (.long q2), .second, .val (.long q3), .second, .val (.int p4), .val (.int nn), .val (.int ia), .val (.int ib), .val (.ref b1), .val (.int (1 : Int32)), .val (.int (1 : Int32)), .val (.ref b53), .unset, .unset, .unset, .unset, .unset, .unset] [(.ref b73)])) (st73) ?_
    refine own_go (g' := (mkF m 191 #[.val (.int p0), .val (.int p1), .val (.long q2), .second, .val (.long q3), .second, .val (.int p4), .val (.int nn), .val (.int ia), .val (.int ib), .val (.ref b1), .val (.int (1 : Int32)), .val (.int (1 : Int32)), .val (.ref b53), .unset, .unset, .unset, .unset, .unset, .unset] [(.ref b73), (.ref b73)])) (fun _ kgo => XS.dup X73.here hx rfl (hb hby at_190) rfl rfl kgo) ?_
    refine own_go (g' := (mkF m 194 #[.val (.int p0), .val (.int p1), .val (.long q2), .second, .val (.long q3), .second, .val (.int p4), .val (.int nn), .val (.int ia), .val (.int ib), .val (.ref b1), .val (.int (1 : Int32)), .val (.int (1 : Int32)), .val (.ref b53), .unset, .unset, .unset, .unset, .unset, .unset] [(.long (2147483776 : Int64)), (.ref b73), (.ref b73)])) (X73.ldc2Long hx hown (mvT hZ (hw _ (List.mem_of_getElem? (i := 64) rfl))) (g := (mkF m 191 #[.val (.int p0), .val (.int p1), .val (.long q2), .second, .val (.long q3), .second, .val (.int p4), .val (.int nn), .val (.int ia), .val (.int ib), .val (.ref b1), .val (.int (1 : Int32)), .val (.int (1 : Int32)), .val (.ref b53), .unset, .unset, .unset, .unset, .unset, .unset] [(.ref b73), (.ref b73)])) rfl (hb hby at_191)) ?_
    refine own_go (g' := (mkF m 196 #[.val (.int p0), .val (.int p1), .val (.long q2), .second, .val (.long q3), .second, .val (.int p4), .val (.int nn), .val (.int ia), .val (.int ib), .val (.ref b1), .val (.int (1 : Int32)), .val (.int (1 : Int32)), .val (.ref b53), .unset, .unset, .unset, .unset, .unset, .unset] [(.ref b53), (.long (2147483776 : Int64)), (.ref b73), (.ref b73)])) (fun _ kgo => XS.aload X73.here hx rfl (hb hby at_194) rfl rfl kgo) ?_
    obtain ⟨v79, T79, L79, hQ79, X79, st79⟩ := own_callI X73 hx hZ (y := (⟨"com/example/gist_sketch/gistsketch/format/BitArray", "<init>", "(J[[J)V"⟩ : MethodName)) rfl hown (hw _ (List.mem_of_getElem? (i := 65) rfl)) (hw _ (List.mem_of_getElem? (i := 19) rfl)) (hw _ (List.mem_of_getElem? (i := 3) rfl)) (hw _ (List.mem_of_getElem? (i := 20) rfl)) ⟨by decide, by decide⟩ (a := b73) (argsL := [(.long (2147483776 : Int64)), (.ref b53)]) (ct2 l Z a0 hw b73 (2147483776 : Int64) b53 h73 n0 Z73 ge_b73 A73 F73_bits F73_pages) e73 (g := (mkF m 196 #[.val (.int p0), .val (.int p1), .val (.long q2), .second, .val (.long q3), .second, .val (.int p4), .val (.int nn), .val (.int ia), .val (.int ib), .val (.ref b1), .val (.int (1 : Int32)), .val (.int (1 : Int32)), .val (.ref b53), .unset, .unset, .unset, .unset, .unset, .unset] [(.ref b53), (.long (2147483776 : Int64)), (.ref b73), (.ref b73)])) rfl (by rw [hml]; rfl) (rest := [(.ref b73)]) (lenOf pd0_3 rfl) rfl (hb hby at_196) (W := 1) (by show 2 * 0 + _ ≤ _; exact Nat.le_of_eq rfl) (by decide) (by decide) (by decide) (by decide)
    obtain ⟨rfl, Nq79, Kq79, q79_0, q79_1, q79_2⟩ := hQ79
    have N79 := Fr.app N72 Nq79
    have Z79 : n0 ≤ T79.heap.size := Nat.le_trans Z73 Kq79.1
    refine own_go (g' := (mkF m 199 #[.val (.int p0), .val (.int p1), .val (.long q2), .second, .val (.long q3), .second, .val (.int p4), .val (.int nn), .val (.int ia), .val (.int ib), .val (.ref b1), .val (.int (1 : Int32)), .val (.int (1 : Int32)), .val (.ref b53), .unset, .unset, .unset, .unset, .unset, .unset] [(.ref b73)])) (st79) ?_
    refine own_go (g' := (mkF m 201 #[.val (.int p0), .val (.int p1), .val (.long q2), .second, .val (.long q3), .second, .val (.int p4), .val (.int nn), .val (.int ia), .val (.int ib), .val (.ref b1), .val (.int (1 : Int32)), .val (.int (1 : Int32)), .val (.ref b53), .val (.ref b73), .unset, .unset, .unset, .unset, .unset] [])) (fun _ kgo => XS.astore X79.here hx rfl (hb hby at_199) rfl rfl (l' := #[.val (.int p0), .val (.int p1), .val (.long q2), .second, .val (.long q3), .second, .val (.int p4), .val (.int nn), .val (.int ia), .val (.int ib), .val (.ref b1), .val (.int (1 : Int32)), .val (.int (1 : Int32)), .val (.ref b53), .val (.ref b73), .unset, .unset, .unset, .unset, .unset]) rfl kgo) ?_
    refine own_go (g' := (mkF m 203 #[.val (.int p0), .val (.int p1), .val (.long q2), .second, .val (.long q3), .second, .val (.int p4), .val (.int nn), .val (.int ia), .val (.int ib), .val (.ref b1), .val (.int (1 : Int32)), .val (.int (1 : Int32)), .val (.ref b53), .val (.ref b73), .unset, .unset, .unset, .unset, .unset] [(.int (1 : Int32))])) (fun _ kgo => XS.iload X79.here hx rfl (hb hby at_201) rfl kgo) ?_
    refine own_go (g' := (mkF m 210 #[.val (.int p0), .val (.int p1), .val (.long q2), .second, .val (.long q3), .second, .val (.int p4), .val (.int nn), .val (.int ia), .val (.int ib), .val (.ref b1), .val (.int (1 : Int32)), .val (.int (1 : Int32)), .val (.ref b53), .val (.ref b73), .unset, .unset, .unset, .unset, .unset] [])) (fun _ kgo => XS.ifYes X79.here hx rfl (pc0 := 203) (pc' := 210) rfl (hb hby at_203) rfl ((if0 _ _).trans (feq (by decide)).2) (by decide) (by decide) kgo) ?_
    refine own_go (g' := (mkF m 212 #[.val (.int p0), .val (.int p1), .val (.long q2), .second, .val (.long q3), .second, .val (.int p4), .val (.int nn), .val (.int ia), .val (.int ib), .val (.ref b1), .val (.int (1 : Int32)), .val (.int (1 : Int32)), .val (.ref b53), .val (.ref b73), .unset, .unset, .unset, .unset, .unset] [(.long q3)])) (fun _ kgo => XS.lload X79.here hx rfl (hb hby at_210) rfl kgo) ?_
    refine own_go (g' := (mkF m 214 #[.val (.int p0), .val (.int p1), .val (.long q2), .second, .val (.long q3), .second, .val (.int p4), .val (.int nn), .val (.int ia), .val (.int ib), .val (.ref b1), .val (.int (1 : Int32)), .val (.int (1 : Int32)), .val (.ref b53), .val (.ref b73), .val (.long q3), .second, .unset, .unset, .unset] [])) (fun _ kgo => XS.lstore X79.here hx rfl (hb hby at_212) rfl (l' := #[.val (.int p0), .val (.int p1), .val (.long q2), .second, .val (.long q3), .second, .val (.int p4), .val (.int nn), .val (.int ia), .val (.int ib), .val (.ref b1), .val (.int (1 : Int32)), .val (.int (1 : Int32)), .val (.ref b53), .val (.ref b73), .val (.long q3), .second, .unset, .unset, .unset]) rfl kgo) ?_
    refine own_go (g' := (mkF m 216 #[.val (.int p0), .val (.int p1), .val (.long q2), .second, .val (.long q3), .second, .val (.int p4), .val (.int nn), .val (.int ia), .val (.int ib), .val (.ref b1), .val (.int (1 : Int32)), .val (.int (1 : Int32)), .val (.ref b53), .val (.ref b73), .val (.long q3), .second, .unset, .unset, .unset] [(.int (1 : Int32))])) (fun _ kgo => XS.iload X79.here hx rfl (hb hby at_214) rfl kgo) ?_
    refine own_go (g' := (mkF m 224 #[.val (.int p0), .val (.int p1), .val (.long q2), .second, .val (.long q3), .second, .val (.int p4), .val (.int nn), .val (.int ia), .val (.int ib), .val (.ref b1), .val (.int (1 : Int32)), .val (.int (1 : Int32)), .val (.ref b53), .val (.ref b73), .val (.long q3), .second, .unset, .unset, .unset] [])) (fun _ kgo => XS.ifYes X79.here hx rfl (pc0 := 216) (pc' := 224) rfl (hb hby at_216) rfl ((if0 _ _).trans (feq (by decide)).2) (by decide) (by decide) kgo) ?_
    refine own_go (g' := (mkF m 225 #[.val (.int p0), .val (.int p1), .val (.long q2), .second, .val (.long q3), .second, .val (.int p4), .val (.int nn), .val (.int ia), .val (.int ib), .val (.ref b1), .val (.int (1 : Int32)), .val (.int (1 : Int32)), .val (.ref b53), .val (.ref b73), .val (.long q3), .second, .unset, .unset, .unset] [(.long q2)])) (fun _ kgo => XS.lloadN X79.here hx rfl (hb hby at_224) rfl kgo) ?_
    refine own_go (g' := (mkF m 227 #[.val (.int p0), .val (.int p1), .val (.long q2), .second, .val (.long q3), .second, .val (.int p4), .val (.int nn), .val (.int ia), .val (.int ib), .val (.ref b1), .val (.int (1 : Int32)), .val (.int (1 : Int32)), .val (.ref b53), .val (.ref b73), .val (.long q3), .second, .val (.long q2), .second, .unset] [])) (fun _ kgo => XS.lstore X79.here hx rfl (hb hby at_225) rfl (l' := #[.val (.int p0), .val (.int p1), .val (.long q2), .second, .val (.long q3), .second, .val (.int p4), .val (.int nn), .val (.int ia), .val (.int ib), .val (.ref b1), .val (.int (1 : Int32)), .val (.int (1 : Int32)), .val (.ref b53), .val (.ref b73), .val (.long q3), .second, .val (.long q2), .second, .unset]) rfl kgo) ?_
    refine own_go (g' := (mkF m 229 #[.val (.int p0), .val (.int p1), .val (.long q2), .second, .val (.long q3), .second, .val (.int p4), .val (.int nn), .val (.int ia), .val (.int ib), .val (.ref b1), .val (.int (1 : Int32)), .val (.int (1 : Int32)), .val (.ref b53), .val (.ref b73), .val (.long q3), .second, .val (.long q2), .second, .unset] [(.ref b73)])) (fun _ kgo => XS.aload X79.here hx rfl (hb hby at_227) rfl rfl kgo) ?_
    refine own_go (g' := (mkF m 231 #[.val (.int p0), .val (.int p1), .val (.long q2), .second, .val (.long q3), .second, .val (.int p4), .val (.int nn), .val (.int ia), .val (.int ib), .val (.ref b1), .val (.int (1 : Int32)), .val (.int (1 : Int32)), .val (.ref b53), .val (.ref b73), .val (.long q3), .second, .val (.long q2), .second, .unset] [(.int (1 : Int32)), (.ref b73)])) (fun _ kgo => XS.iload X79.here hx rfl (hb hby at_229) rfl kgo) ?_
    refine own_go (g' := (mkF m 232 #[.val (.int p0), .val (.int p1), .val (.long q2), .second, .val (.long q3), .second, .val (.int p4), .val (.int nn), .val (.int ia), .val (.int ib), .val (.ref b1), .val (.int (1 : Int32)), .val (.int (1 : Int32)), .val (.ref b53), .val (.ref b73), .val (.long q3), .second, .val (.long q2), .second, .unset] [(.long (1 : Int64)), (.ref b73)])) (fun _ kgo => XS.i2l X79.here hx rfl (hb hby at_231) rfl kgo) ?_
    have fx81 : Arv Z T79.heap b53 k53 (.array .long) (2 : Int32) [(.ref b54), (.ref b63)] .null := (Arv.keep (Arv.ext V72 E73) Kq79 (ninS ne_b53_b73 nin0))
    have fx82 : Arv Z T79.heap b54 k54 .long (2 : Int32) [(.long q2), (.long q3)] (.long (0 : Int64)) := (Arv.keep (Arv.ext fx77 E73) Kq79 (ninS ne_b54_b73 nin0))
    have fx83 : Arv Z T79.heap b63 k63 .long (2 : Int32) [(.long q3), (.long q2)] (.long (0 : Int64)) := (Arv.keep (Arv.ext fx78 E73) Kq79 (ninS ne_b63_b73 nin0))
    obtain ⟨v80, T80, L80, hQ80, X80, st80⟩ := own_callV X79 hx hZ (y := (⟨"com/example/gist_sketch/gistsketch/format/BitArray", "word", "(J)J"⟩ : MethodName)) (z := (⟨"com/example/gist_sketch/gistsketch/format/BitArray", "word", "(J)J"⟩ : MethodName)) hown (hw _ (List.mem_of_getElem? (i := 52) rfl)) (hw _ (List.mem_of_getElem? (i := 53) rfl)) (notFace_of_selects (args := #[]) (mvT hZ (hw _ (List.mem_of_getElem? (i := 55) rfl)))) (hw _ (List.mem_of_getElem? (i := 55) rfl)) (hw _ (List.mem_of_getElem? (i := 54) rfl)) (hw _ (List.mem_of_getElem? (i := 3) rfl)) (hw _ (List.mem_of_getElem? (i := 56) rfl)) ⟨by decide, by decide⟩ (a := b73) (argsL := [(.long (1 : Int64))]) (wd_1_2 l Z a0 hw b73 (2147483776 : Int64) b53 k53 b54 b63 k54 k63 q2 q3 q3 q2 T79.heap q79_1 q79_2 fx81 fx82 fx83) rfl q79_0 (g := (mkF m 232 #[.val (.int p0), .val (.int p1), .val (.long q2), .second, .val (.long q3), .second, .val (.int p4), .val (.int nn), .val (.int ia), .val (.int ib), .val (.ref b1), .val (.int (1 : Int32)), .val (.int (1 : Int32)), .val (.ref b53), .val (.ref b73), .val (.long q3), .second, .val (.long q2), .second, .unset] [(.long (1 : Int64)), (.ref b73)])) rfl (by rw [hml]; rfl) (rest := []) (lenOf pd0_1 rfl) rfl (hb hby at_232) (W := 0) (by show 2 * 0 + _ ≤ _; exact Nat.le_of_eq rfl) (by decide) (by decide) (by decide) (by decide)
    obtain ⟨rfl, e80, rfl⟩ := hQ80
    have N80 := Fr.app N79 (Fr.nil n0)
    refine own_go (g' := (mkF m 235 #[.val (.int p0), .val (.int p1), .val (.long q2), .second, .val (.long q3), .second, .val (.int p4), .val (.int nn), .val (.int ia), .val (.int ib), .val (.ref b1), .val (.int (1 : Int32)), .val (.int (1 : Int32)), .val (.ref b53), .val (.ref b73), .val (.long q3), .second, .val (.long q2), .second, .unset] [(.long q3)])) (st80) ?_
    refine own_go (g' := (mkF m 237 #[.val (.int p0), .val (.int p1), .val (.long q2), .second, .val (.long q3), .second, .val (.int p4), .val (.int nn), .val (.int ia), .val (.int ib), .val (.ref b1), .val (.int (1 : Int32)), .val (.int (1 : Int32)), .val (.ref b53), .val (.ref b73), .val (.long q3), .second, .val (.long q2), .second, .unset] [(.long q3), (.long q3)])) (fun _ kgo => XS.lload X80.here hx rfl (hb hby at_235) rfl kgo) ?_
    refine own_go (g' := (mkF m 238 #[.val (.int p0), .val (.int p1), .val (.long q2), .second, .val (.long q3), .second, .val (.int p4), .val (.int nn), .val (.int ia), .val (.int ib), .val (.ref b1), .val (.int (1 : Int32)), .val (.int (1 : Int32)), .val (.ref b53), .val (.ref b73), .val (.long q3), .second, .val (.long q2), .second, .unset] [(.int (lcmpW q3 q3))])) (fun _ kgo => XS.lcmp X80.here hx rfl (hb hby at_237) rfl kgo) ?_
    refine own_go (g' := (mkF m 241 #[.val (.int p0), .val (.int p1), .val (.long q2), .second, .val (.long q3), .second, .val (.int p4), .val (.int nn), .val (.int ia), .val (.int ib), .val (.ref b1), .val (.int (1 : Int32)), .val (.int (1 : Int32)), .val (.ref b53), .val (.ref b73), .val (.long q3), .second, .val (.long q2), .second, .unset] [])) (fun _ kgo => XS.ifNo X80.here hx rfl (hb hby at_238) rfl ((if0 _ _).trans (teq ((lw_eq _ _).mpr rfl)).2) kgo) ?_
    refine own_go (g' := (mkF m 243 #[.val (.int p0), .val (.int p1), .val (.long q2), .second, .val (.long q3), .second, .val (.int p4), .val (.int nn), .val (.int ia), .val (.int ib), .val (.ref b1), .val (.int (1 : Int32)), .val (.int (1 : Int32)), .val (.ref b53), .val (.ref b73), .val (.long q3), .second, .val (.long q2), .second, .unset] [(.ref b73)])) (fun _ kgo => XS.aload X80.here hx rfl (hb hby at_241) rfl rfl kgo) ?_
    refine own_go (g' := (mkF m 246 #[.val (.int p0), .val (.int p1), .val (.long q2), .second, .val (.long q3), .second, .val (.int p4), .val (.int nn), .val (.int ia), .val (.int ib), .val (.ref b1), .val (.int (1 : Int32)), .val (.int (1 : Int32)), .val (.ref b53), .val (.ref b73), .val (.long q3), .second, .val (.long q2), .second, .unset] [(.long (33554432 : Int64)), (.ref b73)])) (X80.ldc2Long hx hown (mvT hZ (hw _ (List.mem_of_getElem? (i := 66) rfl))) (g := (mkF m 243 #[.val (.int p0), .val (.int p1), .val (.long q2), .second, .val (.long q3), .second, .val (.int p4), .val (.int nn), .val (.int ia), .val (.int ib), .val (.ref b1), .val (.int (1 : Int32)), .val (.int (1 : Int32)), .val (.ref b53), .val (.ref b73), .val (.long q3), .second, .val (.long q2), .second, .unset] [(.ref b73)])) rfl (hb hby at_243)) ?_
    refine own_go (g' := (mkF m 248 #[.val (.int p0), .val (.int p1), .val (.long q2), .second, .val (.long q3), .second, .val (.int p4), .val (.int nn), .val (.int ia), .val (.int ib), .val (.ref b1), .val (.int (1 : Int32)), .val (.int (1 : Int32)), .val (.ref b53), .val (.ref b73), .val (.long q3), .second, .val (.long q2), .second, .unset] [(.int (1 : Int32)), (.long (33554432 : Int64)), (.ref b73)])) (fun _ kgo => XS.iload X80.here hx rfl (hb hby at_246) rfl kgo) ?_
    refine own_go (g' := (mkF m 249 #[.val (.int p0), .val (.int p1), .val (.long q2), .second, .val (.long q3), .second, .val (.int p4), .val (.int nn), .val (.int ia), .val (.int ib), .val (.ref b1), .val (.int (1 : Int32)), .val (.int (1 : Int32)), .val (.ref b53), .val (.ref b73), .val (.long q3), .second, .val (.long q2), .second, .unset] [(.long (1 : Int64)), (.long (33554432 : Int64)), (.ref b73)])) (fun _ kgo => XS.i2l X80.here hx rfl (hb hby at_248) rfl kgo) ?_
    refine own_go (g' := (mkF m 250 #[.val (.int p0), .val (.int p1), .val (.long q2), .second, .val (.long q3), .second, .val (.int p4), .val (.int nn), .val (.int ia), .val (.int ib), .val (.ref b1), .val (.int (1 : Int32)), .val (.int (1 : Int32)), .val (.ref b53), .val (.ref b73), .val (.long q3), .second, .val (.long q2), .second, .unset] [(.long (33554433 : Int64)), (.ref b73)])) (fun _ kgo => XS.ladd X80.here hx rfl (hb hby at_249) rfl kgo) ?_
    obtain ⟨v84, T84, L84, hQ84, X84, st84⟩ := own_callV X80 hx hZ (y := (⟨"com/example/gist_sketch/gistsketch/format/BitArray", "word", "(J)J"⟩ : MethodName)) (z := (⟨"com/example/gist_sketch/gistsketch/format/BitArray", "word", "(J)J"⟩ : MethodName)) hown (hw _ (List.mem_of_getElem? (i := 52) rfl)) (hw _ (List.mem_of_getElem? (i := 53) rfl)) (notFace_of_selects (args := #[]) (mvT hZ (hw _ (List.mem_of_getElem? (i := 55) rfl)))) (hw _ (List.mem_of_getElem? (i := 55) rfl)) (hw _ (List.mem_of_getElem? (i := 54) rfl)) (hw _ (List.mem_of_getElem? (i := 3) rfl)) (hw _ (List.mem_of_getElem? (i := 56) rfl)) ⟨by decide, by decide⟩ (a := b73) (argsL := [(.long (33554433 : Int64))]) (wd_33554433_2 l Z a0 hw b73 (2147483776 : Int64) b53 k53 b54 b63 k54 k63 q2 q3 q3 q2 T79.heap q79_1 q79_2 fx81 fx82 fx83) e80 q79_0 (g := (mkF m 250 #[.val (.int p0), .val (.int p1), .val (.long q2), .second, .val (.long q3), .second, .val (.int p4), .val (.int nn), .val (.int ia), .val (.int ib), .val (.ref b1), .val (.int (1 : Int32)), .val (.int (1 : Int32)), .val (.ref b53), .val (.ref b73), .val (.long q3), .second, .val (.long q2), .second, .unset] [(.long (33554433 : Int64)), (.ref b73)])) rfl (by rw [hml]; rfl) (rest := []) (lenOf pd0_1 rfl) rfl (hb hby at_250) (W := 0) (by show 2 * 0 + _ ≤ _; exact Nat.le_of_eq rfl) (by decide) (by decide) (by decide) (by decide)
    obtain ⟨rfl, e84, rfl⟩ := hQ84
    have N84 := Fr.app N80 (Fr.nil n0)
    refine own_go (g' := (mkF m 253 #[.val (.int p0), .val (.int p1), .val (.long q2), .second, .val (.long q3), .second, .val (.int p4), .val (.int nn), .val (.int ia), .val (.int ib), .val (.ref b1), .val (.int (1 : Int32)), .val (.int (1 : Int32)), .val (.ref b53), .val (.ref b73), .val (.long q3), .second, .val (.long q2), .second, .unset] [(.long q2)])) (st84) ?_
    refine own_go (g' := (mkF m 255 #[.val (.int p0), .val (.int p1), .val (.long q2), .second, .val (.long q3), .second, .val (.int p4), .val (.int nn), .val (.int ia), .val (.int ib), .val (.ref b1), .val (.int (1 : Int32)), .val (.int (1 : Int32)), .val (.ref b53), .val (.ref b73), .val (.long q3), .second, .val (.long q2), .second, .unset] [(.long q2), (.long q2)])) (fun _ kgo => XS.lload X84.here hx rfl (hb hby at_253) rfl kgo) ?_
    refine own_go (g' := (mkF m 256 #[.val (.int p0), .val (.int p1), .val (.long q2), .second, .val (.long q3), .second, .val (.int p4), .val (.int nn), .val (.int ia), .val (.int ib), .val (.ref b1), .val (.int (1 : Int32)), .val (.int (1 : Int32)), .val (.ref b53), .val (.ref b73), .val (.long q3), .second, .val (.long q2), .second, .unset] [(.int (lcmpW q2 q2))])) (fun _ kgo => XS.lcmp X84.here hx rfl (hb hby at_255) rfl kgo) ?_
    refine own_go (g' := (mkF m 259 #[.val (.int p0), .val (.int p1), .val (.long q2), .second, .val (.long q3), .second, .val (.int p4), .val (.int nn), .val (.int ia), .val (.int ib), .val (.ref b1), .val (.int (1 : Int32)), .val (.int (1 : Int32)), .val (.ref b53), .val (.ref b73), .val (.long q3), .second, .val (.long q2), .second, .unset] [])) (fun _ kgo => XS.ifNo X84.here hx rfl (hb hby at_256) rfl ((if0 _ _).trans (teq ((lw_eq _ _).mpr rfl)).2) kgo) ?_
    refine own_go (g' := (mkF m 260 #[.val (.int p0), .val (.int p1), .val (.long q2), .second, .val (.long q3), .second, .val (.int p4), .val (.int nn), .val (.int ia), .val (.int ib), .val (.ref b1), .val (.int (1 : Int32)), .val (.int (1 : Int32)), .val (.ref b53), .val (.ref b73), .val (.long q3), .second, .val (.long q2), .second, .unset] [(.int (1 : Int32))])) (fun _ kgo => XS.iconst X84.here hx rfl (hb hby at_259) kgo) ?_
    refine own_go (g' := (mkF m 264 #[.val (.int p0), .val (.int p1), .val (.long q2), .second, .val (.long q3), .second, .val (.int p4), .val (.int nn), .val (.int ia), .val (.int ib), .val (.ref b1), .val (.int (1 : Int32)), .val (.int (1 : Int32)), .val (.ref b53), .val (.ref b73), .val (.long q3), .second, .val (.long q2), .second, .unset] [(.int (1 : Int32))])) (fun _ kgo => XS.goto X84.here hx rfl (pc0 := 260) (pc' := 264) rfl (hb hby at_260) (by decide) (by decide) kgo) ?_
    refine own_go (g' := (mkF m 266 #[.val (.int p0), .val (.int p1), .val (.long q2), .second, .val (.long q3), .second, .val (.int p4), .val (.int nn), .val (.int ia), .val (.int ib), .val (.ref b1), .val (.int (1 : Int32)), .val (.int (1 : Int32)), .val (.ref b53), .val (.ref b73), .val (.long q3), .second, .val (.long q2), .second, .val (.int (1 : Int32))] [])) (fun _ kgo => XS.istore X84.here hx rfl (hb hby at_264) rfl (l' := #[.val (.int p0), .val (.int p1), .val (.long q2), .second, .val (.long q3), .second, .val (.int p4), .val (.int nn), .val (.int ia), .val (.int ib), .val (.ref b1), .val (.int (1 : Int32)), .val (.int (1 : Int32)), .val (.ref b53), .val (.ref b73), .val (.long q3), .second, .val (.long q2), .second, .val (.int (1 : Int32))]) rfl kgo) ?_
    refine own_go (g' := (mkF m 268 #[.val (.int p0), .val (.int p1), .val (.long q2), .second, .val (.long q3), .second, .val (.int p4), .val (.int nn), .val (.int ia), .val (.int ib), .val (.ref b1), .val (.int (1 : Int32)), .val (.int (1 : Int32)), .val (.ref b53), .val (.ref b73), .val (.long q3), .second, .val (.long q2), .second, .val (.int (1 : Int32))] [(.int (1 : Int32))])) (fun _ kgo => XS.iload X84.here hx rfl (hb hby at_266) rfl kgo) ?_
    refine own_go (g' := (mkF m 271 #[.val (.int p0), .val (.int p1), .val (.long q2), .second, .val (.long q3), .second, .val (.int p4), .val (.int nn), .val (.int ia), .val (.int ib), .val (.ref b1), .val (.int (1 : Int32)), .val (.int (1 : Int32)), .val (.ref b53), .val (.ref b73), .val (.long q3), .second, .val (.long q2), .second, .val (.int (1 : Int32))] [])) (fun _ kgo => XS.ifNo X84.here hx rfl (hb hby at_268) rfl ((if0 _ _).trans (feq (by decide)).1) kgo) ?_
    refine own_go (g' := (mkF m 273 #[.val (.int p0), .val (.int p1), .val (.long q2), .second, .val (.long q3), .second, .val (.int p4), .val (.int nn), .val (.int ia), .val (.int ib), .val (.ref b1), .val (.int (1 : Int32)), .val (.int (1 : Int32)), .val (.ref b53), .val (.ref b73), .val (.long q3), .second, .val (.long q2), .second, .val (.int (1 : Int32))] [(.int (1 : Int32))])) (fun _ kgo => XS.iload X84.here hx rfl (hb hby at_271) rfl kgo) ?_
    refine own_go (g' := (mkF m 276 #[.val (.int p0), .val (.int p1), .val (.long q2), .second, .val (.long q3), .second, .val (.int p4), .val (.int nn), .val (.int ia), .val (.int ib), .val (.ref b1), .val (.int (1 : Int32)), .val (.int (1 : Int32)), .val (.ref b53), .val (.ref b73), .val (.long q3), .second, .val (.long q2), .second, .val (.int (1 : Int32))] [])) (fun _ kgo => XS.ifNo X84.here hx rfl (hb hby at_273) rfl ((if0 _ _).trans (feq (by decide)).1) kgo) ?_
    refine own_go (g' := (mkF m 277 #[.val (.int p0), .val (.int p1), .val (.long q2), .second, .val (.long q3), .second, .val (.int p4), .val (.int nn), .val (.int ia), .val (.int ib), .val (.ref b1), .val (.int (1 : Int32)), .val (.int (1 : Int32)), .val (.ref b53), .val (.ref b73), .val (.long q3), .second, .val (.long q2), .second, .val (.int (1 : Int32))] [(.int (1 : Int32))])) (fun _ kgo => XS.iconst X84.here hx rfl (hb hby at_276) kgo) ?_
    refine own_go (g' := (mkF m 281 #[.val (.int p0), .val (.int p1), .val (.long q2), .second, .val (.long q3), .second, .val (.int p4), .val (.int nn), .val (.int ia), .val (.int ib), .val (.ref b1), .val (.int (1 : Int32)), .val (.int (1 : Int32)), .val (.ref b53), .val (.ref b73), .val (.long q3), .second, .val (.long q2), .second, .val (.int (1 : Int32))] [(.int (1 : Int32))])) (fun _ kgo => XS.goto X84.here hx rfl (pc0 := 277) (pc' := 281) rfl (hb hby at_277) (by decide) (by decide) kgo) ?_
    refine own_retN X84 hx .boolean Bd.returns Bd.notSynchronized (by simp) (hb hby at_281) (by decide) (by decide) ?_
    show QQ _ T84.heap _
    rw [e84]
    rw [← hQQ]
    exact ⟨rfl, N84⟩
set_option maxRecDepth 65536 in
set_option maxHeartbeats 40000000 in
theorem comes_1 {Post : Tables → Env → Array Value → State → Outcome → State → Prop} (hpost : ∀ tb e args s v u, (limb_1_1.after args s (.returned v) u = true ∧ limb_1_2.after args s (.returned v) u = true ∧ True) → FrameEnd s (.returned v) u (Jvm.fieldLocs frame_1_writes args s ++ Jvm.arrayLocs frame_1_arrays args s ++ Jvm.staticLocs frame_1_statics s) 24 128 → Post tb e args s (.returned v) u) :
    ArmFor flags0 classFile x code maxLocals ret World_1 tables_1 room_1 Calls_1 rest_1 Pre_1 Post := by
  intro l hfl _ _ p e ha hc hk s m args below hf hA hF happ hP
  obtain ⟨hcalls, hrest, hpre⟩ := hP
  obtain ⟨-, -, -, hnamed, -, -, -, hat⟩ := (Spec.applies_iff hf).mp happ
  obtain ⟨hg, hn⟩ := and_e (Cond.before_iff.mp (show (Jvm.Cond.and given_1 narrow_1).before args s = true from hpre))
  obtain ⟨g1, g2⟩ := and_e hg
  obtain ⟨g3, g4⟩ := and_e g2
  obtain ⟨g5, g6⟩ := and_e g4
  obtain ⟨g7, g8⟩ := and_e g6
  obtain ⟨g9, g10⟩ := and_e g8
  obtain ⟨w0, w1, w2, w3, w4, rfl⟩ : ∃ w0 w1 w2 w3 w4 : Value, args = #[w0, w1, w2, w3, w4] := by
    have hs : args.size = 5 := by simpa [Cond.value, given_1] using g1
    obtain ⟨L⟩ := args
    match L, hs with
    | [w0, w1, w2, w3, w4], _ => exact ⟨w0, w1, w2, w3, w4, rfl⟩
  have hw := fun d (hd : d ∈ tables_1) => atoms_spec (ws := Jvm.Cond.code x code maxLocals ret :: tables_1) hat d (List.mem_cons_of_mem _ hd)
  obtain ⟨i0, ei0⟩ := is_v g3
  obtain rfl : w0 = (.int i0) := Option.some.inj ei0
  obtain ⟨i1, ei1⟩ := is_v g5
  obtain rfl : w1 = (.int i1) := Option.some.inj ei1
  obtain ⟨i2, ei2⟩ := isL_v g7
  obtain rfl : w2 = (.long i2) := Option.some.inj ei2
  obtain ⟨i3, ei3⟩ := isL_v g9
  obtain rfl : w3 = (.long i3) := Option.some.inj ei3
  obtain ⟨i4, ei4⟩ := is_v g10
  obtain rfl : w4 = (.int i4) := Option.some.inj ei4
  obtain ⟨n, o, h1, h2, h3, _, L, rfl, ⟨rfl, N⟩, hq⟩ := rm0 l s _ hw i0 i1 i2 i3 i4 s.heap s.heap.size (Nat.le_refl _) p e ha hc hk s m _ below hf ((Spec.applies_iff_loose hf).mp happ).1 ⟨rfl, State.Warmed39.refl s, rfl⟩ trivial
  refine ⟨n, _, h1, h2, h3, hpost _ _ _ _ _ _ ⟨Cond.after_iff.mpr rfl, Cond.after_iff.mpr (eq_i res_at (Term.int_eval (1)) rfl), trivial⟩ ⟨hq.1, hq.2.1, (hq.2.2.sift fun y hy => Or.inr (N y hy)).mono (by decide) (by decide)⟩⟩
theorem main_1_1 : Claimed_1_1 := comes_1 fun _ _ _ _ _ _ h hF => ⟨h.1, hF⟩
theorem main_1_2 : Claimed_1_2 := comes_1 fun _ _ _ _ _ _ h hF => ⟨h.2.1, hF⟩
end Jvm.Pilot.@@N@@
namespace Jvm.Pilot.@@N@@
open Jvm Jvm.ClassFile Sem Op Lib Jvm.Free Jvm.Stand Jvm.Pilot.@@N@@.Jvm.D
/-! MADE BY PROGRAM (witnessworld.py) out of the Statement's table words and the real class files: 14 classes; the members and pool entries that the words name. The judged class is class 1, her method 2. -/
namespace start1
open Jvm.ClassFile
def u (s : String) : CpInfo := .utf8 (stringToUtf16 s)
/-- a pool by its gaps: so many unusable entries, then the entry; so many at the end -/
def gap : Nat → List CpInfo → List CpInfo
  | 0, r => r
  | n + 1, r => .unusable :: gap n r
def poolList (es : List (Nat × CpInfo)) (last : Nat) : List CpInfo := es.foldr (fun e r => gap e.1 (e.2 :: r)) (gap last [])
def pool (es : List (Nat × CpInfo)) (last : Nat) : Array CpInfo := ⟨poolList es last⟩
def fileOf (pool : Array CpInfo) (this : Nat) (attrs : Array Attribute := #[]) (ms : Array MethodInfo := #[]) (fl : Nat := 33) (sup : Nat := 0) (ifs : Array Nat := #[]) (fds : Array FieldInfo := #[]) : ClassFile where
  minorVersion := 0
  majorVersion := 65
  constantPool := pool
  accessFlags := fl
  thisClass := this
  superClass := sup
  interfaces := ifs
  fields := fds
  methods := ms
  attributes := attrs
def plain (name : String) (sup : Option ClassId) : Class where
  name := name
  kind := .ordinary
  loader := none
  accessFlags := 33
  super := sup
  interfaces := #[]
  cf := none
  fields := #[]
  methods := #[]
  instanceTypes := #[]
  staticTypes := #[]
  resolved := #[]
  callSites := []
  init := .initialized
  statics := none
  mirror := none

def pool0 : Array CpInfo := pool [(5, u "<init>"), (0, u "()V"), (1, .class_ 10), (1, u "java/lang/Object")] 113

def k0c0 : Code := { maxStack := 0, maxLocals := 1, code := object_method_1_code, exceptionTable := #[], attributes := #[] }
def k0m0 : Method := { name := "<init>", desc := "()V", sig := { parameters := [], returnType := none }, accessFlags := 1, code := some k0c0 }
/-- java/lang/Object -/
def k0 : Class := { plain "java/lang/Object" none with
  accessFlags := 33
  interfaces := #[]
  cf := some (fileOf pool0 8 #[] #[{ accessFlags := 1, nameIndex := 5, descriptorIndex := 6, attributes := #[] }] 33 0 #[] #[])
  fields := #[]
  methods := #[k0m0]
  instanceTypes := #[]
  staticTypes := #[]
  resolved := Array.replicate 124 none
  statics := none }

def pool1 : Array CpInfo := pool [(2, .class_ 4), (1, u "java/lang/Object"), (0, u "<init>"), (0, u "()V"), (0, .integer 2147483647), (0, .class_ 9), (0, u "com/example/gist_sketch/gistsketch/format/BitArray"), (0, .methodref 8 11), (0, .nameAndType 5 12), (0, u "(J)V"), (0, .methodref 8 14), (0, .nameAndType 15 12), (0, u "set"), (0, .methodref 8 17), (0, .nameAndType 18 19), (0, u "word"), (0, u "(J)J"), (0, .methodref 21 22), (0, .class_ 23), (0, .nameAndType 24 25), (0, u "com/example/gist_sketch/gistsketch/format/BitArrayWordPinLaw"), (0, u "expect"), (0, u "(III)J"), (0, .long 2), (1, .long 3), (1, .class_ 31), (0, u "[J"), (0, .long 2147483776), (1, .methodref 8 35), (0, .nameAndType 5 36), (0, u "(J[[J)V"), (0, .long 33554432), (4, u "law"), (0, u "(IIJJI)Z")] 4

def k1m0 : Method := { name := "<init>", desc := "()V", sig := { parameters := [], returnType := none }, accessFlags := 1, code := none }
def k1c1 : Code := { maxStack := 6, maxLocals := 5, code := method_2_code, exceptionTable := #[], attributes := #[] }
def k1m1 : Method := { name := "expect", desc := "(III)J", sig := { parameters := [.int, .int, .int], returnType := some .long }, accessFlags := 10, code := some k1c1 }
def k1c2 : Code := { maxStack := 7, maxLocals := 20, code := code, exceptionTable := #[], attributes := #[] }
def k1m2 : Method := { name := "law", desc := "(IIJJI)Z", sig := { parameters := [.int, .int, .long, .long, .int], returnType := some .boolean }, accessFlags := 9, code := some k1c2 }
/-- com/example/gist_sketch/gistsketch/format/BitArrayWordPinLaw -/
def k1 : Class := { plain "com/example/gist_sketch/gistsketch/format/BitArrayWordPinLaw" (some 0) with
  accessFlags := 49
  interfaces := #[]
  cf := some (fileOf pool1 21 #[] #[{ accessFlags := 1, nameIndex := 5, descriptorIndex := 6, attributes := #[] }, { accessFlags := 10, nameIndex := 24, descriptorIndex := 25, attributes := #[] }, { accessFlags := 9, nameIndex := 42, descriptorIndex := 43, attributes := #[] }] 49 2 #[] #[])
  fields := #[]
  methods := #[k1m0, k1m1, k1m2]
  instanceTypes := #[]
  staticTypes := #[]
  resolved := Array.replicate 48 none
  statics := none }

def pool2 : Array CpInfo := pool [(5, .class_ 6), (0, u "com/example/gist_sketch/gistsketch/format/BitArray"), (0, .methodref 5 8), (0, .nameAndType 9 10), (0, u "pageCount"), (0, u "(J)I"), (0, .class_ 12), (0, u "[J"), (0, .methodref 5 14), (0, .nameAndType 15 16), (0, u "<init>"), (0, u "(J[[J)V"), (0, .fieldref 5 18), (0, .nameAndType 19 20), (0, u "pages"), (0, u "[[J"), (0, .methodref 5 22), (0, .nameAndType 23 24), (0, u "pageWords"), (0, u "(JI)I"), (0, .methodref 26 27), (0, .class_ 28), (0, .nameAndType 15 29), (0, u "java/lang/Object"), (0, u "()V"), (0, .fieldref 5 31), (0, .nameAndType 32 33), (0, u "bits"), (0, u "J"), (0, .methodref 35 36), (0, .class_ 37), (0, .nameAndType 38 39), (0, u "java/util/Objects"), (0, u "checkIndex"), (0, u "(JJ)J"), (0, .integer 33554431), (4, .long 63), (3, u "word"), (0, u "(J)J"), (38, .long 137438952896), (3, .methodref 5 94), (0, .nameAndType 95 50), (0, u "words"), (0, .long 33554431), (1, .long 33554432), (1, .methodref 101 102), (0, .class_ 103), (0, .nameAndType 104 39), (0, u "java/lang/Math"), (0, u "min"), (0, u "MAX_BITS"), (1, u "MAX_FIELD_BITS"), (0, u "I"), (1, u "PAGE_SHIFT"), (1, u "PAGE_WORDS"), (1, u "PAGE_MASK"), (0, u "(J)V"), (4, u "set")] 36

def k2c0 : Code := { maxStack := 5, maxLocals := 4, code := prog_31_method_1_code, exceptionTable := #[], attributes := #[] }
def k2m0 : Method := { name := "<init>", desc := "(J)V", sig := { parameters := [.long], returnType := none }, accessFlags := 1, code := some k2c0 }
def k2c1 : Code := { maxStack := 3, maxLocals := 4, code := prog_31_method_2_code, exceptionTable := #[], attributes := #[] }
def k2m1 : Method := { name := "<init>", desc := "(J[[J)V", sig := { parameters := [.long, (.array (.array .long))], returnType := none }, accessFlags := 0, code := some k2c1 }
def k2c2 : Code := { maxStack := 8, maxLocals := 3, code := prog_31_method_4_code, exceptionTable := #[], attributes := #[] }
def k2m2 : Method := { name := "set", desc := "(J)V", sig := { parameters := [.long], returnType := none }, accessFlags := 1, code := some k2c2 }
def k2c3 : Code := { maxStack := 4, maxLocals := 3, code := prog_31_method_11_code, exceptionTable := #[], attributes := #[] }
def k2m3 : Method := { name := "word", desc := "(J)J", sig := { parameters := [.long], returnType := some .long }, accessFlags := 0, code := some k2c3 }
def k2c4 : Code := { maxStack := 4, maxLocals := 2, code := prog_31_method_15_code, exceptionTable := #[], attributes := #[] }
def k2m4 : Method := { name := "pageCount", desc := "(J)I", sig := { parameters := [.long], returnType := some .int }, accessFlags := 8, code := some k2c4 }
def k2c5 : Code := { maxStack := 7, maxLocals := 3, code := prog_31_method_16_code, exceptionTable := #[], attributes := #[] }
def k2m5 : Method := { name := "pageWords", desc := "(JI)I", sig := { parameters := [.long, .int], returnType := some .int }, accessFlags := 8, code := some k2c5 }
def k2c6 : Code := { maxStack := 4, maxLocals := 2, code := prog_31_method_17_code, exceptionTable := #[], attributes := #[] }
def k2m6 : Method := { name := "words", desc := "(J)J", sig := { parameters := [.long], returnType := some .long }, accessFlags := 8, code := some k2c6 }
/-- com/example/gist_sketch/gistsketch/format/BitArray -/
def k2 : Class := { plain "com/example/gist_sketch/gistsketch/format/BitArray" (some 0) with
  accessFlags := 49
  interfaces := #[]
  cf := some (fileOf pool2 5 #[] #[{ accessFlags := 1, nameIndex := 15, descriptorIndex := 115, attributes := #[] }, { accessFlags := 0, nameIndex := 15, descriptorIndex := 16, attributes := #[] }, { accessFlags := 1, nameIndex := 120, descriptorIndex := 115, attributes := #[] }, { accessFlags := 0, nameIndex := 49, descriptorIndex := 50, attributes := #[] }, { accessFlags := 8, nameIndex := 9, descriptorIndex := 10, attributes := #[] }, { accessFlags := 8, nameIndex := 23, descriptorIndex := 24, attributes := #[] }, { accessFlags := 8, nameIndex := 95, descriptorIndex := 50, attributes := #[] }] 49 26 #[] #[{ accessFlags := 25, nameIndex := 105, descriptorIndex := 33, attributes := #[] }, { accessFlags := 25, nameIndex := 107, descriptorIndex := 108, attributes := #[] }, { accessFlags := 24, nameIndex := 110, descriptorIndex := 108, attributes := #[] }, { accessFlags := 24, nameIndex := 112, descriptorIndex := 108, attributes := #[] }, { accessFlags := 26, nameIndex := 114, descriptorIndex := 108, attributes := #[] }, { accessFlags := 18, nameIndex := 32, descriptorIndex := 33, attributes := #[] }, { accessFlags := 18, nameIndex := 19, descriptorIndex := 20, attributes := #[] }])
  fields := #[{ name := "MAX_BITS", type := .long, accessFlags := 25, slot := 0, constantValue := 0 }, { name := "MAX_FIELD_BITS", type := .int, accessFlags := 25, slot := 1, constantValue := 0 }, { name := "PAGE_SHIFT", type := .int, accessFlags := 24, slot := 2, constantValue := 0 }, { name := "PAGE_WORDS", type := .int, accessFlags := 24, slot := 3, constantValue := 0 }, { name := "PAGE_MASK", type := .int, accessFlags := 26, slot := 4, constantValue := 0 }, { name := "bits", type := .long, accessFlags := 18, slot := 0, constantValue := 0 }, { name := "pages", type := (.array (.array .long)), accessFlags := 18, slot := 1, constantValue := 0 }]
  methods := #[k2m0, k2m1, k2m2, k2m3, k2m4, k2m5, k2m6]
  instanceTypes := #[.long, (.array (.array .long))]
  staticTypes := #[.long, .int, .int, .int, .int]
  resolved := Array.replicate 157 none
  statics := none }

def pool3 : Array CpInfo := pool [(1, .class_ 2), (0, u "java/lang/Math"), (1, .class_ 6), (1, u "java/lang/Object"), (0, u "<init>"), (0, u "()V"), (89, .class_ 100), (1, u "java/lang/Math$RandomNumberGeneratorHolder"), (20, u "(JJ)J"), (50, u "negativeZeroFloatBits"), (0, u "J"), (2, u "negativeZeroDoubleBits"), (24, u "min"), (43, u "$assertionsDisabled"), (0, u "Z"), (91, u "twoToTheDoubleScaleDown"), (0, u "D"), (4, u "twoToTheDoubleScaleUp"), (9, u "E"), (3, u "PI"), (2, u "TAU"), (2, u "DEGREES_TO_RADIANS"), (0, u "RADIANS_TO_DEGREES")] 94

def k3m0 : Method := { name := "<init>", desc := "()V", sig := { parameters := [], returnType := none }, accessFlags := 2, code := none }
def k3c1 : Code := { maxStack := 4, maxLocals := 4, code := jdk_29_method_70_code, exceptionTable := #[], attributes := #[] }
def k3m1 : Method := { name := "min", desc := "(JJ)J", sig := { parameters := [.long, .long], returnType := some .long }, accessFlags := 9, code := some k3c1 }
/-- java/lang/Math -/
def k3 : Class := { plain "java/lang/Math" (some 0) with
  accessFlags := 49
  interfaces := #[]
  cf := some (fileOf pool3 1 #[.nestMembers #[98]] #[{ accessFlags := 2, nameIndex := 7, descriptorIndex := 8, attributes := #[] }, { accessFlags := 9, nameIndex := 201, descriptorIndex := 121, attributes := #[] }] 49 4 #[] #[{ accessFlags := 25, nameIndex := 354, descriptorIndex := 339, attributes := #[] }, { accessFlags := 25, nameIndex := 358, descriptorIndex := 339, attributes := #[] }, { accessFlags := 25, nameIndex := 361, descriptorIndex := 339, attributes := #[] }, { accessFlags := 26, nameIndex := 364, descriptorIndex := 339, attributes := #[] }, { accessFlags := 26, nameIndex := 365, descriptorIndex := 339, attributes := #[] }, { accessFlags := 26, nameIndex := 172, descriptorIndex := 173, attributes := #[] }, { accessFlags := 26, nameIndex := 176, descriptorIndex := 173, attributes := #[] }, { accessFlags := 8, nameIndex := 344, descriptorIndex := 339, attributes := #[] }, { accessFlags := 8, nameIndex := 338, descriptorIndex := 339, attributes := #[] }, { accessFlags := 4120, nameIndex := 245, descriptorIndex := 246, attributes := #[] }])
  fields := #[{ name := "E", type := .double, accessFlags := 25, slot := 0, constantValue := 0 }, { name := "PI", type := .double, accessFlags := 25, slot := 1, constantValue := 0 }, { name := "TAU", type := .double, accessFlags := 25, slot := 2, constantValue := 0 }, { name := "DEGREES_TO_RADIANS", type := .double, accessFlags := 26, slot := 3, constantValue := 0 }, { name := "RADIANS_TO_DEGREES", type := .double, accessFlags := 26, slot := 4, constantValue := 0 }, { name := "negativeZeroFloatBits", type := .long, accessFlags := 26, slot := 5, constantValue := 0 }, { name := "negativeZeroDoubleBits", type := .long, accessFlags := 26, slot := 6, constantValue := 0 }, { name := "twoToTheDoubleScaleUp", type := .double, accessFlags := 8, slot := 7, constantValue := 0 }, { name := "twoToTheDoubleScaleDown", type := .double, accessFlags := 8, slot := 8, constantValue := 0 }, { name := "$assertionsDisabled", type := .boolean, accessFlags := 4120, slot := 9, constantValue := 0 }]
  methods := #[k3m0, k3m1]
  instanceTypes := #[]
  staticTypes := #[.double, .double, .double, .double, .double, .long, .long, .double, .double, .boolean]
  resolved := Array.replicate 460 none
  statics := none }

def pool4 : Array CpInfo := pool [(2, .class_ 4), (1, u "java/lang/Object"), (0, u "<init>"), (0, u "()V"), (35, .class_ 44), (1, u "java/util/Objects"), (61, .class_ 108), (1, u "jdk/internal/util/Preconditions"), (0, u "checkIndex"), (8, .methodref 106 119), (0, .nameAndType 109 120), (0, u "(JJLjava/util/function/BiFunction;)J"), (58, u "(JJ)J")] 4

def k4m0 : Method := { name := "<init>", desc := "()V", sig := { parameters := [], returnType := none }, accessFlags := 2, code := none }
def k4c1 : Code := { maxStack := 5, maxLocals := 4, code := jdk_31_method_20_code, exceptionTable := #[], attributes := #[] }
def k4m1 : Method := { name := "checkIndex", desc := "(JJ)J", sig := { parameters := [.long, .long], returnType := some .long }, accessFlags := 9, code := some k4c1 }
/-- java/util/Objects -/
def k4 : Class := { plain "java/util/Objects" (some 0) with
  accessFlags := 49
  interfaces := #[]
  cf := some (fileOf pool4 42 #[] #[{ accessFlags := 2, nameIndex := 5, descriptorIndex := 6, attributes := #[] }, { accessFlags := 9, nameIndex := 109, descriptorIndex := 179, attributes := #[] }] 49 2 #[] #[])
  fields := #[]
  methods := #[k4m0, k4m1]
  instanceTypes := #[]
  staticTypes := #[]
  resolved := Array.replicate 184 none
  statics := none }

def pool5 : Array CpInfo := pool [(2, .class_ 4), (1, u "java/lang/Object"), (0, u "<init>"), (0, u "()V"), (17, .class_ 26), (1, u "jdk/internal/util/Preconditions"), (6, u "checkIndex"), (21, .class_ 56), (0, u "jdk/internal/util/Preconditions$4"), (57, .class_ 115), (0, u "jdk/internal/util/Preconditions$1"), (7, u "SIOOBE_FORMATTER"), (0, u "Ljava/util/function/BiFunction;"), (0, .class_ 126), (0, u "jdk/internal/util/Preconditions$2"), (3, u "AIOOBE_FORMATTER"), (0, .class_ 132), (0, u "jdk/internal/util/Preconditions$3"), (3, u "IOOBE_FORMATTER"), (48, u "(JJLjava/util/function/BiFunction;)J")] 8

def k5m0 : Method := { name := "<init>", desc := "()V", sig := { parameters := [], returnType := none }, accessFlags := 1, code := none }
def k5c1 : Code := { maxStack := 5, maxLocals := 5, code := jdk_41_method_14_code, exceptionTable := #[], attributes := #[] }
def k5m1 : Method := { name := "checkIndex", desc := "(JJLjava/util/function/BiFunction;)J", sig := { parameters := [.long, .long, (.object "java/util/function/BiFunction")], returnType := some .long }, accessFlags := 9, code := some k5c1 }
/-- jdk/internal/util/Preconditions -/
def k5 : Class := { plain "jdk/internal/util/Preconditions" (some 0) with
  accessFlags := 33
  interfaces := #[]
  cf := some (fileOf pool5 24 #[.nestMembers #[55, 131, 125, 114]] #[{ accessFlags := 1, nameIndex := 5, descriptorIndex := 6, attributes := #[] }, { accessFlags := 9, nameIndex := 33, descriptorIndex := 185, attributes := #[] }] 33 2 #[] #[{ accessFlags := 25, nameIndex := 123, descriptorIndex := 124, attributes := #[] }, { accessFlags := 25, nameIndex := 130, descriptorIndex := 124, attributes := #[] }, { accessFlags := 25, nameIndex := 136, descriptorIndex := 124, attributes := #[] }])
  fields := #[{ name := "SIOOBE_FORMATTER", type := (.object "java/util/function/BiFunction"), accessFlags := 25, slot := 0, constantValue := 0 }, { name := "AIOOBE_FORMATTER", type := (.object "java/util/function/BiFunction"), accessFlags := 25, slot := 1, constantValue := 0 }, { name := "IOOBE_FORMATTER", type := (.object "java/util/function/BiFunction"), accessFlags := 25, slot := 2, constantValue := 0 }]
  methods := #[k5m0, k5m1]
  instanceTypes := #[]
  staticTypes := #[(.object "java/util/function/BiFunction"), (.object "java/util/function/BiFunction"), (.object "java/util/function/BiFunction")]
  resolved := Array.replicate 194 none
  statics := none }

def pool6 : Array CpInfo := pool [(1, u "java/lang/Cloneable"), (0, .class_ 1), (0, u "java/lang/Object"), (0, .class_ 3)] 3

/-- java/lang/Cloneable -/
def k6 : Class := { plain "java/lang/Cloneable" (some 0) with
  accessFlags := 1537
  interfaces := #[]
  cf := some (fileOf pool6 2 #[] #[] 1537 4 #[] #[])
  fields := #[]
  methods := #[]
  instanceTypes := #[]
  staticTypes := #[]
  resolved := Array.replicate 8 none
  statics := none }

def pool7 : Array CpInfo := pool [(1, u "java/io/Serializable"), (0, .class_ 1), (0, u "java/lang/Object"), (0, .class_ 3)] 3

/-- java/io/Serializable -/
def k7 : Class := { plain "java/io/Serializable" (some 0) with
  accessFlags := 1537
  interfaces := #[]
  cf := some (fileOf pool7 2 #[] #[] 1537 4 #[] #[])
  fields := #[]
  methods := #[]
  instanceTypes := #[]
  staticTypes := #[]
  resolved := Array.replicate 8 none
  statics := none }

/-- the primitive byte -/
def k8 : Class := { plain "byte" none with kind := .primitive 'B', accessFlags := 0x411 }
/-- [B -/
def k9 : Class := { plain "[B" (some 0) with kind := .array 8 .byte, interfaces := #[6, 7], accessFlags := 1041 }

/-- the primitive int -/
def k10 : Class := { plain "int" none with kind := .primitive 'I', accessFlags := 0x411 }
/-- [I -/
def k11 : Class := { plain "[I" (some 0) with kind := .array 10 .int, interfaces := #[6, 7], accessFlags := 1041 }

/-- the primitive long -/
def k12 : Class := { plain "long" none with kind := .primitive 'J', accessFlags := 0x411 }
/-- [J -/
def k13 : Class := { plain "[J" (some 0) with kind := .array 12 .long, interfaces := #[6, 7], accessFlags := 1041 }

def heap : Heap := #[]
def k14 : Class := { plain "[[J" (some 0) with kind := .array 13 (.array .long), interfaces := #[6, 7], accessFlags := 1041 }
def classes : Array Class := #[k0, k1, k2, k3, k4, k5, k6, k7, k8, k9, k10, k11, k12, k13, k14]
def interned : List (Array UInt16 × Addr) := []
def slotsUsed : Nat := 0
def theMethod : MethodId := ⟨1, 2⟩
def args0 : Array Value := #[.int 5, .int 7, .long 8, .long 9, .int 3]
def aboutOver (below : List Frame) : State where
  vm := { classes := classes, interned := interned.toArray }
  heap := heap
  slotsUsed := slotsUsed
  threads := #[{ frames := .invoking theMethod args0 :: below }]
def below0 : List Frame := [.native { method := ⟨0, 0⟩, args := #[] }]
def about1 : State := aboutOver below0
def p0 : Program := .bare "" "" ""
def e0 : Env := launch0.env 0 0 0
theorem w_frames : about1.frames = Frame.invoking theMethod args0 :: below0 := rfl
set_option maxRecDepth 65536 in
theorem w_args : argsFit about1.vm theMethod args0 = true := by decide +kernel
set_option maxRecDepth 65536 in
theorem w_heap : heapFits about1 = true := by decide +kernel
set_option maxRecDepth 65536 in
theorem w_runnable : about1.curStatus? = some .runnable := by decide +kernel
set_option maxRecDepth 65536 in
theorem w_alone : about1.alone = true := by decide +kernel
set_option maxRecDepth 65536 in
theorem w_named : about1.methodNamed? x = some theMethod := by decide +kernel
set_option maxRecDepth 65536 in
theorem w_hears : about1.hears theMethod below0 = true := by decide +kernel
set_option maxRecDepth 65536 in
theorem w_ripe : about1.ripe theMethod args0 below0 = true := by decide +kernel
theorem w_running : about1.status = .running := rfl
set_option maxRecDepth 65536 in
theorem w_room : about1.hasRoom e0.platform room_1 = true :=
  launch0.hasRoom_least _ room_1 (by decide +kernel) (by decide +kernel) (by decide +kernel) (by decide +kernel) (by decide +kernel) (by decide +kernel)
theorem allAtoms_all (ts : List Jvm.Cond) (a : Array Jvm.Value) (st : Jvm.State) : (allAtoms ts).before a st = ts.all (fun c => c.before a st) := by
  induction ts with
  | nil => rfl
  | cons c t ih =>
    show (Jvm.Cond.and c (allAtoms t)).before a st = _
    rw [Jvm.Cond.before_and, ih, List.all_cons]
def words1 : List Jvm.Cond := Jvm.Cond.code x code maxLocals ret :: tables_1
/-- a 'code' word, met by the world's own term for the bytes: nothing is compared byte by byte -/
theorem code_word {y : MethodName} {bytes : ByteArray} {mx : Nat} {rt : Option FieldType} {a : Array Value} {s : State} {m : MethodId} {meth : Method} {c : Code} (h1 : s.methodNamed? y = some m) (h2 : s.vm.method? m = some meth) (h3 : meth.code = some c) (h4 : c.code = bytes)
    (h5 : (c.maxLocals == mx && c.exceptionTable.isEmpty && decide (c.maxStack ≤ mostOperands) && decide (meth.sig.returnType = rt) && !meth.locks && decide (parseMethodDescriptor y.desc = some meth.sig)) = true) : (Jvm.Cond.code y bytes mx rt).before a s = true := by
  simp only [Bool.and_eq_true, beq_iff_eq, Bool.not_eq_true', decide_eq_true_eq] at h5
  obtain ⟨⟨⟨⟨⟨g1, g2⟩, g3⟩, g4⟩, g5⟩, g6⟩ := h5
  simp [Cond.before, Cond.holds, Cond.value, h1, h2, h3, h4, g1, g2, g3, g4, g5, g6]
def isCode : Jvm.Cond → Bool
  | .code _ _ _ _ => true
  | _ => false
theorem all_split {L : List Jvm.Cond} {P : Jvm.Cond → Bool} (h1 : L.all (fun c => isCode c || P c) = true) (h2 : ∀ c ∈ L.filter isCode, P c = true) : L.all P = true := by
  refine List.all_eq_true.mpr fun c hc => ?_
  have h := List.all_eq_true.mp h1 c hc
  rcases Bool.eq_false_or_eq_true (isCode c) with hi | hi
  · exact h2 c (List.mem_filter.mpr ⟨hc, hi⟩)
  · simpa [hi] using h
set_option maxRecDepth 65536 in
theorem w_c0 : (Jvm.Cond.code x code maxLocals ret).before args0 about1 = true := code_word (m := ⟨1, 2⟩) (meth := k1m2) (c := k1c2) (by decide +kernel) rfl rfl rfl (by decide +kernel)
set_option maxRecDepth 65536 in
theorem w_c1 : (Jvm.Cond.code ({ cls := "com/example/gist_sketch/gistsketch/format/BitArray", name := "<init>", desc := "(J)V" } : Jvm.MethodName) prog_31_method_1_code (4 : Nat) (Option.none : Option Jvm.ClassFile.FieldType)).before args0 about1 = true := code_word (m := ⟨2, 0⟩) (meth := k2m0) (c := k2c0) (by decide +kernel) rfl rfl rfl (by decide +kernel)
set_option maxRecDepth 65536 in
theorem w_c2 : (Jvm.Cond.code ({ cls := "com/example/gist_sketch/gistsketch/format/BitArray", name := "pageCount", desc := "(J)I" } : Jvm.MethodName) prog_31_method_15_code (2 : Nat) (Option.some Jvm.ClassFile.FieldType.int)).before args0 about1 = true := code_word (m := ⟨2, 4⟩) (meth := k2m4) (c := k2c4) (by decide +kernel) rfl rfl rfl (by decide +kernel)
set_option maxRecDepth 65536 in
theorem w_c3 : (Jvm.Cond.code ({ cls := "com/example/gist_sketch/gistsketch/format/BitArray", name := "words", desc := "(J)J" } : Jvm.MethodName) prog_31_method_17_code (2 : Nat) (Option.some Jvm.ClassFile.FieldType.long)).before args0 about1 = true := code_word (m := ⟨2, 6⟩) (meth := k2m6) (c := k2c6) (by decide +kernel) rfl rfl rfl (by decide +kernel)
set_option maxRecDepth 65536 in
theorem w_c4 : (Jvm.Cond.code ({ cls := "com/example/gist_sketch/gistsketch/format/BitArray", name := "<init>", desc := "(J[[J)V" } : Jvm.MethodName) prog_31_method_2_code (4 : Nat) (Option.none : Option Jvm.ClassFile.FieldType)).before args0 about1 = true := code_word (m := ⟨2, 1⟩) (meth := k2m1) (c := k2c1) (by decide +kernel) rfl rfl rfl (by decide +kernel)
set_option maxRecDepth 65536 in
theorem w_c5 : (Jvm.Cond.code ({ cls := "java/lang/Object", name := "<init>", desc := "()V" } : Jvm.MethodName) object_method_1_code (1 : Nat) (Option.none : Option Jvm.ClassFile.FieldType)).before args0 about1 = true := code_word (m := ⟨0, 0⟩) (meth := k0m0) (c := k0c0) (by decide +kernel) rfl rfl rfl (by decide +kernel)
set_option maxRecDepth 65536 in
theorem w_c6 : (Jvm.Cond.code ({ cls := "com/example/gist_sketch/gistsketch/format/BitArray", name := "pageWords", desc := "(JI)I" } : Jvm.MethodName) prog_31_method_16_code (3 : Nat) (Option.some Jvm.ClassFile.FieldType.int)).before args0 about1 = true := code_word (m := ⟨2, 5⟩) (meth := k2m5) (c := k2c5) (by decide +kernel) rfl rfl rfl (by decide +kernel)
set_option maxRecDepth 65536 in
theorem w_c7 : (Jvm.Cond.code ({ cls := "java/lang/Math", name := "min", desc := "(JJ)J" } : Jvm.MethodName) jdk_29_method_70_code (4 : Nat) (Option.some Jvm.ClassFile.FieldType.long)).before args0 about1 = true := code_word (m := ⟨3, 1⟩) (meth := k3m1) (c := k3c1) (by decide +kernel) rfl rfl rfl (by decide +kernel)
set_option maxRecDepth 65536 in
theorem w_c8 : (Jvm.Cond.code ({ cls := "com/example/gist_sketch/gistsketch/format/BitArray", name := "set", desc := "(J)V" } : Jvm.MethodName) prog_31_method_4_code (3 : Nat) (Option.none : Option Jvm.ClassFile.FieldType)).before args0 about1 = true := code_word (m := ⟨2, 2⟩) (meth := k2m2) (c := k2c2) (by decide +kernel) rfl rfl rfl (by decide +kernel)
set_option maxRecDepth 65536 in
theorem w_c9 : (Jvm.Cond.code ({ cls := "java/util/Objects", name := "checkIndex", desc := "(JJ)J" } : Jvm.MethodName) jdk_31_method_20_code (4 : Nat) (Option.some Jvm.ClassFile.FieldType.long)).before args0 about1 = true := code_word (m := ⟨4, 1⟩) (meth := k4m1) (c := k4c1) (by decide +kernel) rfl rfl rfl (by decide +kernel)
set_option maxRecDepth 65536 in
theorem w_c10 : (Jvm.Cond.code ({ cls := "jdk/internal/util/Preconditions", name := "checkIndex", desc := "(JJLjava/util/function/BiFunction;)J" } : Jvm.MethodName) jdk_41_method_14_code (5 : Nat) (Option.some Jvm.ClassFile.FieldType.long)).before args0 about1 = true := code_word (m := ⟨5, 1⟩) (meth := k5m1) (c := k5c1) (by decide +kernel) rfl rfl rfl (by decide +kernel)
set_option maxRecDepth 65536 in
theorem w_c11 : (Jvm.Cond.code ({ cls := "com/example/gist_sketch/gistsketch/format/BitArray", name := "word", desc := "(J)J" } : Jvm.MethodName) prog_31_method_11_code (3 : Nat) (Option.some Jvm.ClassFile.FieldType.long)).before args0 about1 = true := code_word (m := ⟨2, 3⟩) (meth := k2m3) (c := k2c3) (by decide +kernel) rfl rfl rfl (by decide +kernel)
set_option maxRecDepth 65536 in
theorem w_c12 : (Jvm.Cond.code ({ cls := "com/example/gist_sketch/gistsketch/format/BitArrayWordPinLaw", name := "expect", desc := "(III)J" } : Jvm.MethodName) method_2_code (5 : Nat) (Option.some Jvm.ClassFile.FieldType.long)).before args0 about1 = true := code_word (m := ⟨1, 1⟩) (meth := k1m1) (c := k1c1) (by decide +kernel) rfl rfl rfl (by decide +kernel)
def codes1 : List Jvm.Cond := [Jvm.Cond.code x code maxLocals ret, Jvm.Cond.code ({ cls := "com/example/gist_sketch/gistsketch/format/BitArray", name := "<init>", desc := "(J)V" } : Jvm.MethodName) prog_31_method_1_code (4 : Nat) (Option.none : Option Jvm.ClassFile.FieldType), Jvm.Cond.code ({ cls := "com/example/gist_sketch/gistsketch/format/BitArray", name := "pageCount", desc := "(J)I" } : Jvm.MethodName) prog_31_method_15_code (2 : Nat) (Option.some Jvm.ClassFile.FieldType.int), Jvm.Cond.code ({ cls := "com/example/gist_sketch/gistsketch/format/BitArray", name := "words", desc := "(J)J" } : Jvm.MethodName) prog_31_method_17_code (2 : Nat) (Option.some Jvm.ClassFile.FieldType.long), Jvm.Cond.code ({ cls := "com/example/gist_sketch/gistsketch/format/BitArray", name := "<init>", desc := "(J[[J)V" } : Jvm.MethodName) prog_31_method_2_code (4 : Nat) (Option.none : Option Jvm.ClassFile.FieldType), Jvm.Cond.code ({ cls := "java/lang/Object", name := "<init>", desc := "()V" } : Jvm.MethodName) object_method_1_code (1 : Nat) (Option.none : Option Jvm.ClassFile.FieldType), Jvm.Cond.code ({ cls := "com/example/gist_sketch/gistsketch/format/BitArray", name := "pageWords", desc := "(JI)I" } : Jvm.MethodName) prog_31_method_16_code (3 : Nat) (Option.some Jvm.ClassFile.FieldType.int), Jvm.Cond.code ({ cls := "java/lang/Math", name := "min", desc := "(JJ)J" } : Jvm.MethodName) jdk_29_method_70_code (4 : Nat) (Option.some Jvm.ClassFile.FieldType.long), Jvm.Cond.code ({ cls := "com/example/gist_sketch/gistsketch/format/BitArray", name := "set", desc := "(J)V" } : Jvm.MethodName) prog_31_method_4_code (3 : Nat) (Option.none : Option Jvm.ClassFile.FieldType), Jvm.Cond.code ({ cls := "java/util/Objects", name := "checkIndex", desc := "(JJ)J" } : Jvm.MethodName) jdk_31_method_20_code (4 : Nat) (Option.some Jvm.ClassFile.FieldType.long), Jvm.Cond.code ({ cls := "jdk/internal/util/Preconditions", name := "checkIndex", desc := "(JJLjava/util/function/BiFunction;)J" } : Jvm.MethodName) jdk_41_method_14_code (5 : Nat) (Option.some Jvm.ClassFile.FieldType.long), Jvm.Cond.code ({ cls := "com/example/gist_sketch/gistsketch/format/BitArray", name := "word", desc := "(J)J" } : Jvm.MethodName) prog_31_method_11_code (3 : Nat) (Option.some Jvm.ClassFile.FieldType.long), Jvm.Cond.code ({ cls := "com/example/gist_sketch/gistsketch/format/BitArrayWordPinLaw", name := "expect", desc := "(III)J" } : Jvm.MethodName) method_2_code (5 : Nat) (Option.some Jvm.ClassFile.FieldType.long)]
set_option maxRecDepth 65536 in
theorem codes_eq : words1.filter isCode = codes1 := rfl
theorem w_codes : ∀ c ∈ words1.filter isCode, c.before args0 about1 = true := by
  rw [codes_eq]
  intro c hc
  simp only [codes1, List.mem_cons, List.not_mem_nil, or_false] at hc
  rcases hc with rfl | rfl | rfl | rfl | rfl | rfl | rfl | rfl | rfl | rfl | rfl | rfl | rfl
  · exact w_c0
  · exact w_c1
  · exact w_c2
  · exact w_c3
  · exact w_c4
  · exact w_c5
  · exact w_c6
  · exact w_c7
  · exact w_c8
  · exact w_c9
  · exact w_c10
  · exact w_c11
  · exact w_c12
set_option maxRecDepth 65536 in
theorem w_t1 : (words1.take 24).all (fun c => isCode c || c.before args0 about1) = true := by decide +kernel
set_option maxRecDepth 65536 in
theorem w_t2 : ((words1.drop 24).take 24).all (fun c => isCode c || c.before args0 about1) = true := by decide +kernel
set_option maxRecDepth 65536 in
theorem w_t3 : ((words1.drop 24).drop 24).all (fun c => isCode c || c.before args0 about1) = true := by decide +kernel
theorem w_tables : (allAtoms (Jvm.Cond.code x code maxLocals ret :: tables_1)).before args0 about1 = true := by
  rw [allAtoms_all]
  show words1.all (fun c => c.before args0 about1) = true
  refine all_split ?_ w_codes
  rw [← List.take_append_drop 24 words1, List.all_append, w_t1, ← List.take_append_drop 24 (words1.drop 24), List.all_append, w_t2, w_t3]
  rfl
set_option maxRecDepth 65536 in
theorem w_case : (Jvm.Cond.and given_1 narrow_1).before args0 about1 = true := by decide +kernel
theorem w_applies : (headSpec (Jvm.Cond.code x code maxLocals ret :: tables_1) room_1).applies x e0.platform about1 = true :=
  (Spec.applies_iff w_frames).mpr ⟨w_running, w_runnable, w_alone, w_named, w_hears, w_ripe, w_room, w_tables⟩
theorem atStart : AtStart classFile x code maxLocals ret World_1 tables_1 room_1 Calls_1 rest_1 Pre_1 launch0 p0 e0 about1 theMethod args0 below0 :=
  ⟨lists_1, trivial, launch0.admits_env _ _ _, launch0.least_env, fairChoices_fair.cas, fairChoices_fair.clock, w_frames, w_args, w_heap, w_applies, trivial, trivial, w_case⟩
end start1
theorem witness_1 : WitnessClaimed_1 := ⟨start1.p0, start1.e0, start1.about1, start1.theMethod, start1.args0, start1.below0, start1.atStart⟩
end Jvm.Pilot.@@N@@
