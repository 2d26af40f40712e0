import JvmDerived
import JvmDerived.Pilot.@@N@@Statement
import JvmDerived.Pilot.@@N@@Code
set_option linter.unusedVariables false
set_option linter.unusedSimpArgs false
namespace Jvm.Pilot.@@N@@
open Jvm Jvm.ClassFile Sem Op Lib Jvm.Free Jvm.Stand Jvm.LawKit Jvm.RoadKit Bundle Jvm.Pilot.@@N@@.Jvm.D
/-! own_..: the walk in goal form: own_Go says that from a frame on the run comes to its end as the contract says; every step turns the goal for one frame into the goal for the next, so a branch is a case split and a join a 'have'. -/
def own_Post (s : State) (Q : Option Value → Heap → List Loc → Prop) (cs ss : Nat) (o : Outcome) (u : State) : Prop := ∃ v L, o = .returned v ∧ Q v u.heap L ∧ FrameEnd s o u L cs ss
def own_Go (p : Program) (e : Env) (below : List Frame) (Qf : Outcome → State → Prop) (T : State) (g : JFrame) : Prop := ∃ s₂ o, Steps p.tables e below (T.setTop g) s₂ ∧ s₂.status = .running ∧ Ended s₂ below o ∧ Qf o s₂
abbrev own_Met (l : Launch) (Z : State) (y : MethodName) (bytes : ByteArray) (maxL : Nat) (ret : Option FieldType) (ws : List Jvm.Cond) (rm : Room) (as' : Array Value) (h0 : Heap) (cs ss : Nat) (Q : Option Value → Heap → List Loc → Prop) : Prop :=
  MetFree l y (head1 (Jvm.Cond.code y bytes maxL ret :: ws) rm) (fun a U => a = as' ∧ Z.Warmed39 U.vm ∧ U.heap = h0) (fun _ _ _ _ _ => True) (fun _ U o U' => ∃ v L, o = .returned v ∧ Q v U'.heap L ∧ FrameEnd U o U' L cs ss)
def own_b (b : Bool) : Int32 := if b then 1 else 0
theorem own_b_t {b : Bool} (h : b = true) : own_b b = 1 := by subst h; rfl
theorem own_b_f {b : Bool} (h : ¬ b = true) : own_b b = 0 := by rw [Bool.eq_false_iff.mpr h]; rfl
theorem own_b_n {b : Bool} (h : b = true) : ¬ own_b b = 0 := by subst h; decide
theorem own_b_nar (b : Bool) : nar .boolean (own_b b) = own_b b := by cases b <;> rfl
theorem own_b_fits (b : Bool) : fits .boolean (.int (own_b b)) = true := by cases b <;> rfl
theorem own_b_inj {a b : Bool} (h : own_b a = own_b b) : a = b := by cases a <;> cases b <;> first | rfl | exact absurd h (by decide)
section Own
variable {p : Program} {l : Launch} {e : Env} {R : Room} {s : State} {m : MethodId} {args : Array Value} {below : List Frame} {meth : Method} {c : Code} {T T' : State} {locs : List Loc} {cells slots : Nat} {Z : State} {a0 : Array Value} {h : Heap}
theorem own_go {Qf : Outcome → State → Prop} {g g' : JFrame} (h : ∀ t, Steps p.tables e below (T'.setTop g') t → Steps p.tables e below (T.setTop g) t) (k : own_Go p e below Qf T' g') : own_Go p e below Qf T g := by
  obtain ⟨s₂, o, h1, h2⟩ := k
  exact ⟨s₂, o, h _ h1, h2⟩
theorem own_cast {Qf : Outcome → State → Prop} {g g' : JFrame} (q : g = g') (k : own_Go p e below Qf T g') : own_Go p e below Qf T g := q ▸ k
theorem own_met {y : MethodName} {bytes : ByteArray} {maxL : Nat} {ret : Option FieldType} {ws : List Jvm.Cond} {rm : Room} {as' : Array Value} {h0 : Heap} {cs ss : Nat} {Q : Option Value → Heap → List Loc → Prop} (hp : plainFor y = true)
    (body : ∀ (p : Program) (e : Env) (s : State) (m : MethodId) (below : List Frame) (meth : Method) (c : Code) (s₁ : State), BodyLoose p l y (head1 (Jvm.Cond.code y bytes maxL ret :: ws) rm) bytes maxL ret e s m as' below meth c s₁ → c.maxLocals = maxL → Z.Warmed39 s.vm →
      Stand p l e rm s m as' below meth c s₁ [] 0 0 → s₁.heap = h0 → own_Go p e below (own_Post s Q cs ss) s₁ (entryFrame m as' maxL)) : own_Met l Z y bytes maxL ret ws rm as' h0 cs ss Q := by
  refine MetFree.of_bodySF hp hisR ?_
  intro p e s m args below meth c s₁ Bd hml0 hP hK
  obtain ⟨rfl, hZ, hh⟩ := hP
  exact body p e s m below meth c s₁ Bd hml0 hZ (Stand.of_body Bd) (by rw [← hh, Bd.state]; rfl)
theorem own_retN (X : Stand p l e R s m args below meth c T locs cells slots) (hx : p.tables.exec = Jvm.exec) (t : FieldType) (hret : meth.sig.returnType = some t) (hlk : meth.locks = false) (ht : t = .boolean ∨ t = .byte ∨ t = .char ∨ t = .short) {pc : Nat} {Ls : Array Slot} {z : Int32} {rest : List Value} (hd : decode c.code pc = .ok (.ireturn, 1))
    {Q : Option Value → Heap → List Loc → Prop} {cs ss : Nat} (hc : cells ≤ cs) (hs : slots ≤ ss) (hQ : Q (some (.int (nar t z))) T.heap locs) : own_Go p e below (own_Post s Q cs ss) T (mkF m pc Ls (.int z :: rest)) := by
  obtain ⟨fs, hr, hrun, hended, hW, hsame⟩ := X.leave (v := some (.int (nar t z))) (fun h => by rw [hret] at h; cases h) hlk
  exact ⟨_, _, retN X hx hret ht hd hr, hrun, hended, _, _, rfl, hQ, ⟨_, rfl⟩, hW, hsame.mono hc hs⟩
theorem own_retI (X : Stand p l e R s m args below meth c T locs cells slots) (hx : p.tables.exec = Jvm.exec) (hret : meth.sig.returnType = some .int) (hlk : meth.locks = false) {pc : Nat} {Ls : Array Slot} {z : Int32} {rest : List Value} (hd : decode c.code pc = .ok (.ireturn, 1))
    {Q : Option Value → Heap → List Loc → Prop} {cs ss : Nat} (hc : cells ≤ cs) (hs : slots ≤ ss) (hQ : Q (some (.int z)) T.heap locs) : own_Go p e below (own_Post s Q cs ss) T (mkF m pc Ls (.int z :: rest)) := by
  obtain ⟨fs, hr, hrun, hended, hW, hsame⟩ := X.leave (v := some (.int z)) (fun h => by rw [hret] at h; cases h) hlk
  exact ⟨_, _, retOut X hx hret rfl (Or.inl ⟨rfl, Or.inl rfl, _, rfl⟩) hd hr, hrun, hended, _, _, rfl, hQ, ⟨_, rfl⟩, hW, hsame.mono hc hs⟩
theorem own_retJ (X : Stand p l e R s m args below meth c T locs cells slots) (hx : p.tables.exec = Jvm.exec) (hret : meth.sig.returnType = some .long) (hlk : meth.locks = false) {pc : Nat} {Ls : Array Slot} {z : Int64} {rest : List Value} (hd : decode c.code pc = .ok (.lreturn, 1))
    {Q : Option Value → Heap → List Loc → Prop} {cs ss : Nat} (hc : cells ≤ cs) (hs : slots ≤ ss) (hQ : Q (some (.long z)) T.heap locs) : own_Go p e below (own_Post s Q cs ss) T (mkF m pc Ls (.long z :: rest)) := by
  obtain ⟨fs, hr, hrun, hended, hW, hsame⟩ := X.leave (v := some (.long z)) (fun h => by rw [hret] at h; cases h) hlk
  exact ⟨_, _, retOut X hx hret rfl (Or.inr (Or.inl ⟨rfl, rfl, _, rfl⟩)) hd hr, hrun, hended, _, _, rfl, hQ, ⟨_, rfl⟩, hW, hsame.mono hc hs⟩
theorem own_retA (X : Stand p l e R s m args below meth c T locs cells slots) (hx : p.tables.exec = Jvm.exec) {t : FieldType} (hret : meth.sig.returnType = some t) (hlk : meth.locks = false) (ht : t.isReference = true) {pc : Nat} {Ls : Array Slot} {w : Value} {rest : List Value} (hw : w.isRef = true) (hd : decode c.code pc = .ok (.areturn, 1))
    {Q : Option Value → Heap → List Loc → Prop} {cs ss : Nat} (hc : cells ≤ cs) (hs : slots ≤ ss) (hQ : Q (some w) T.heap locs) : own_Go p e below (own_Post s Q cs ss) T (mkF m pc Ls (w :: rest)) := by
  obtain ⟨fs, hr, hrun, hended, hW, hsame⟩ := X.leave (v := some w) (fun h => by rw [hret] at h; cases h) hlk
  have hn : narrow t w = w := by rcases ref_cases hw with rfl | ⟨a, rfl⟩ <;> cases t <;> first | rfl | cases ht
  exact ⟨_, _, retOut X hx hret hn (Or.inr (Or.inr (Or.inr (Or.inr ⟨rfl, ht, hw⟩)))) hd hr, hrun, hended, _, _, rfl, hQ, ⟨_, rfl⟩, hW, hsame.mono hc hs⟩
theorem own_retV (X : Stand p l e R s m args below meth c T locs cells slots) (hx : p.tables.exec = Jvm.exec) (hret : meth.sig.returnType = none) (hlk : meth.locks = false) {pc : Nat} {Ls : Array Slot} (hd : decode c.code pc = .ok (.return_, 1))
    {Q : Option Value → Heap → List Loc → Prop} {cs ss : Nat} (hc : cells ≤ cs) (hs : slots ≤ ss) (hQ : Q none T.heap locs) : own_Go p e below (own_Post s Q cs ss) T (mkF m pc Ls []) := by
  obtain ⟨fs, hr, hrun, hended, hW, hsame⟩ := X.leave (v := none) (fun _ => rfl) hlk
  exact ⟨_, _, X.returnOut hx hret hd hr, hrun, hended, _, _, rfl, hQ, ⟨_, rfl⟩, hW, hsame.mono hc hs⟩
theorem own_callS (X : Stand p l e R s m args below meth c T locs cells slots) (hx : p.tables.exec = Jvm.exec) (hZ : Z.Warmed39 s.vm) {own : String} {index : Nat} {y : MethodName} {bytes : ByteArray} {maxL : Nat} {ret : Option FieldType} (hown : s.vm.findClass own = some m.cls)
    (w1 : (Jvm.Cond.methodLink own index y).before a0 Z = true) (w2 : (Jvm.Cond.static y).before a0 Z = true) (w3 : (Jvm.Cond.initialized y.cls).before a0 Z = true) (w4 : (Jvm.Cond.code y bytes maxL ret).before a0 Z = true)
    (hy : y.cls ≠ "java/lang/invoke/MethodHandle" ∧ y.cls ≠ "java/lang/invoke/VarHandle") {rm : Room} {argsL : List Value} {Q : Option Value → Heap → List Loc → Prop} (hM : own_Met l Z y bytes maxL ret [] rm argsL.toArray h rm.cells rm.slots Q) (eT : T.heap = h)
    {g : JFrame} (hg : g.method = m) (hsize : g.locals.size = c.maxLocals) {rest : List Value} (hlen : ∀ sig, parseMethodDescriptor y.desc = some sig → argsL.length = sig.parameters.length) (hstack : g.stack = argsL.reverse ++ rest)
    (hdg : decode c.code g.pc = .ok (.invokestatic index, 3)) {W : Nat} (hW : 2 * g.monitorRoom + (rest.map fun v => v.category).sum ≤ W) (hf : rm.frames + 1 ≤ R.frames) (hl : W + (maxL + 11) + rm.locals ≤ R.locals) (hc : cells + rm.cells ≤ R.cells) (hs : slots + rm.slots ≤ R.slots) :
    ∃ (v : Option Value) (T' : State) (L : List Loc), Q v T'.heap L ∧ Stand p l e R s m args below meth c T' (locs ++ L) (cells + rm.cells) (slots + rm.slots) ∧
      ∀ t, Steps p.tables e below (T'.setTop { g with pc := g.pc + 3, stack := v.toList ++ rest }) t → Steps p.tables e below (T.setTop g) t := by
  obtain ⟨v, _, ⟨T', L', k', n'⟩, -, X', ⟨L, hQ, l1, l2, l3⟩, st⟩ := Jvm.LawKit.callS X hx hown (mvT hZ w1) (mvT hZ w2) (mvT hZ w3) (mvT hZ w4) hy (backOf (W := W) hM hZ w4 w3 hf hl) hg hsize hlen hstack hW hdg (fun _ _ => ⟨rfl, eT, hc, hs⟩)
  dsimp only [Pt.U, Pt.locs, Pt.cells, Pt.slots] at X' l1 l2 l3 st hQ
  subst l1 l2 l3
  exact ⟨v, T', L, hQ, X', st⟩
theorem own_callI (X : Stand p l e R s m args below meth c T locs cells slots) (hx : p.tables.exec = Jvm.exec) (hZ : Z.Warmed39 s.vm) {own : String} {index : Nat} {y : MethodName} {bytes : ByteArray} {maxL : Nat} (hy1 : y.name = "<init>") (hown : s.vm.findClass own = some m.cls)
    (w1 : (Jvm.Cond.methodLink own index y).before a0 Z = true) (w2 : (Jvm.Cond.instanceMethod y).before a0 Z = true) (w3 : (Jvm.Cond.initialized y.cls).before a0 Z = true) (w4 : (Jvm.Cond.code y bytes maxL none).before a0 Z = true)
    (hy : y.cls ≠ "java/lang/invoke/MethodHandle" ∧ y.cls ≠ "java/lang/invoke/VarHandle") {rm : Room} {a : Addr} {argsL : List Value} {Q : Option Value → Heap → List Loc → Prop} (hM : own_Met l Z y bytes maxL none [] rm (.ref a :: argsL).toArray h rm.cells rm.slots Q) (eT : T.heap = h)
    {g : JFrame} (hg : g.method = m) (hsize : g.locals.size = c.maxLocals) {rest : List Value} (hlen : ∀ sig, parseMethodDescriptor y.desc = some sig → argsL.length = sig.parameters.length) (hstack : g.stack = argsL.reverse ++ .ref a :: rest)
    (hdg : decode c.code g.pc = .ok (.invokespecial index, 3)) {W : Nat} (hW : 2 * g.monitorRoom + (rest.map fun v => v.category).sum ≤ W) (hf : rm.frames + 1 ≤ R.frames) (hl : W + (maxL + 11) + rm.locals ≤ R.locals) (hc : cells + rm.cells ≤ R.cells) (hs : slots + rm.slots ≤ R.slots) :
    ∃ (v : Option Value) (T' : State) (L : List Loc), Q v T'.heap L ∧ Stand p l e R s m args below meth c T' (locs ++ L) (cells + rm.cells) (slots + rm.slots) ∧
      ∀ t, Steps p.tables e below (T'.setTop { g with pc := g.pc + 3, stack := v.toList ++ rest }) t → Steps p.tables e below (T.setTop g) t := by
  obtain ⟨v, _, ⟨T', L', k', n'⟩, -, X', ⟨L, hQ, l1, l2, l3⟩, st⟩ := X.specialBack hx hy1 hown (mvT hZ w1) (mvT hZ w2) (mvT hZ w4) hy (backOf (W := W) hM hZ w4 w3 hf hl) hg hsize (Steps.refl _) hlen hstack hW hdg (fun _ _ => ⟨rfl, eT, hc, hs⟩)
  dsimp only [Pt.U, Pt.locs, Pt.cells, Pt.slots] at X' l1 l2 l3 st hQ
  subst l1 l2 l3
  exact ⟨v, T', L, hQ, X', fun _ k => st.trans k⟩
theorem own_callV (X : Stand p l e R s m args below meth c T locs cells slots) (hx : p.tables.exec = Jvm.exec) (hZ : Z.Warmed39 s.vm) {own C : String} {index : Nat} {y z : MethodName} {bytes : ByteArray} {maxL : Nat} {ret : Option FieldType} (hown : s.vm.findClass own = some m.cls)
    (w1 : (Jvm.Cond.methodLink own index y).before a0 Z = true) (w2 : (Jvm.Cond.declares y).before a0 Z = true) (hnf : NotFace s y) (ws : (Jvm.Cond.selects C y z).before a0 Z = true) (wi : (Jvm.Cond.instanceMethod z).before a0 Z = true) (w3 : (Jvm.Cond.initialized z.cls).before a0 Z = true) (w4 : (Jvm.Cond.code z bytes maxL ret).before a0 Z = true)
    (hy : y.cls ≠ "java/lang/invoke/MethodHandle" ∧ y.cls ≠ "java/lang/invoke/VarHandle") {rm : Room} {a : Addr} {argsL : List Value} {Q : Option Value → Heap → List Loc → Prop} (hM : own_Met l Z z bytes maxL ret [] rm (.ref a :: argsL).toArray h rm.cells rm.slots Q) (eT : T.heap = h) (E : Exa Z h a C)
    {g : JFrame} (hg : g.method = m) (hsize : g.locals.size = c.maxLocals) {rest : List Value} (hlen : ∀ sig, parseMethodDescriptor y.desc = some sig → argsL.length = sig.parameters.length) (hstack : g.stack = argsL.reverse ++ .ref a :: rest)
    (hdg : decode c.code g.pc = .ok (.invokevirtual index, 3)) {W : Nat} (hW : 2 * g.monitorRoom + (rest.map fun v => v.category).sum ≤ W) (hf : rm.frames + 1 ≤ R.frames) (hl : W + (maxL + 11) + rm.locals ≤ R.locals) (hc : cells + rm.cells ≤ R.cells) (hs : slots + rm.slots ≤ R.slots) :
    ∃ (v : Option Value) (T' : State) (L : List Loc), Q v T'.heap L ∧ Stand p l e R s m args below meth c T' (locs ++ L) (cells + rm.cells) (slots + rm.slots) ∧
      ∀ t, Steps p.tables e below (T'.setTop { g with pc := g.pc + 3, stack := v.toList ++ rest }) t → Steps p.tables e below (T.setTop g) t := by
  obtain ⟨cq, kq, qa, qb, qc⟩ := isOf hZ eT E
  obtain ⟨v, _, ⟨T', L', k', n'⟩, -, X', ⟨L, hQ, l1, l2, l3⟩, st⟩ := X.virtualBack hx hown (mvT hZ w1) (mvT hZ w2) hnf (mvT hZ ws) (mvT hZ wi) hy (backOf (W := W) hM hZ w4 w3 hf hl) qa qc hg hsize (Steps.refl _) hlen hstack hW hdg (fun _ _ => ⟨rfl, eT, hc, hs⟩)
  dsimp only [Pt.U, Pt.locs, Pt.cells, Pt.slots] at X' l1 l2 l3 st hQ
  subst l1 l2 l3
  exact ⟨v, T', L, hQ, X', fun _ k => st.trans k⟩
theorem own_irem {g : JFrame} {target : State} (X : Stand p l e R s m args below meth c T locs cells slots) (hx : p.tables.exec = Jvm.exec) (hg : g.method = m) {x y : Int32} {rest : List Value} (hd : decode c.code g.pc = .ok (.irem, 1)) (hs : g.stack = .int y :: .int x :: rest) (hy : y ≠ 0)
    (hr : Steps p.tables e below (T.setTop { g with pc := g.pc + 1, stack := .int (x % y) :: rest }) target) : Steps p.tables e below (T.setTop g) target := iremM X hx hg hd hs hy hr
theorem own_lrem {g : JFrame} {target : State} (X : Stand p l e R s m args below meth c T locs cells slots) (hx : p.tables.exec = Jvm.exec) (hg : g.method = m) {x y : Int64} {rest : List Value} (hd : decode c.code g.pc = .ok (.lrem, 1)) (hs : g.stack = .long y :: .long x :: rest) (hy : y ≠ 0)
    (hr : Steps p.tables e below (T.setTop { g with pc := g.pc + 1, stack := .long (x % y) :: rest }) target) : Steps p.tables e below (T.setTop g) target :=
  XS.lrem X.here hx hg hd hs hy (by rw [lrem_mod]; exact hr)
theorem own_fldJ {t : Term} {C n d : String} {a : Addr} {z : Int64} (ht : t.eval args s none [] s = some (.ref a)) (q : (Jvm.Cond.eq (.field t C n d) (.long z)).value args s none s [] = some true) : Fld s s.heap a C n d (.long z) := by
  obtain ⟨x, y, ha, hb, -, k2⟩ := cmp_v (Or.inl q)
  obtain rfl : y = .long z := Option.some.inj (hb.symm.trans (long_at z))
  obtain ⟨w, rfl⟩ := k2
  have e : w = z := gotT (eq_L ha hb) q
  subst e
  exact Fld.start ((fld_at ht).symm.trans ha)
theorem own_ns_exa {a : Addr} {C : String} (E : Exa Z h a C) : ∃ c : Cell, h[a]? = some c ∧ c.vm.isStatics = false := by
  obtain ⟨c, k, h1, -, -, h4, -⟩ := E
  exact ⟨c, h1, h4⟩
theorem own_ns_arv {a : Addr} {k : ClassId} {ty : FieldType} {z : Int32} {vs : List Value} {dv : Value} (F : Arv Z h a k ty z vs dv) : ∃ c : Cell, h[a]? = some c ∧ c.vm.isStatics = false := by
  obtain ⟨c, A, -⟩ := F
  exact ⟨c, A.1, A.plain⟩
theorem own_sta_keep {h' : Heap} {C n d : String} {w : Value} {ws : List Addr} (F : Sta Z h C n d w) (K : Keep h h' ws) (hn : ∀ x ∈ ws, ∃ c : Cell, h[x]? = some c ∧ c.vm.isStatics = false) : Sta Z h' C n d w := by
  obtain ⟨cf, i, k, f, st, cell, h1, h2, h3, h4, h5, h6, h7⟩ := F
  exact ⟨cf, i, k, f, st, cell, h1, h2, h3, h4, K.2.1 st cell h5 (fun q => by obtain ⟨c, e1, e2⟩ := hn st q; cases h5.symm.trans e1; rw [e2] at h6; cases h6), h6, h7⟩
end Own
theorem own_i16 (x : Int32) : ¬ (((x.toUInt32 >>> ((1 : Int32) &&& 31).toUInt32).toInt32) % (16 : Int32)) < 0 ∧ (((x.toUInt32 >>> ((1 : Int32) &&& 31).toUInt32).toInt32) % (16 : Int32)) < (16 : Int32) := by
  have h1 := c_iushr x (1 : Int32) 1 (by decide) (by decide)
  have h2 := (c_irem ((x.toUInt32 >>> ((1 : Int32) &&& 31).toUInt32).toInt32) (16 : Int32) 16 (by decide)).1
  simp only [Int32.lt_iff_toInt_lt, Int32.reduceToInt]
  omega
theorem own_get16 (f : Nat → Value) (hf : ∀ k, ∃ z, f k = .int z) (k : Nat) : ∃ z, f k = .int z := hf k
def own_edge (vs : List Int32) (k : Nat) : Int32 := vs.getD k 0
theorem own_edge_at (vs : List Int32) (k : Nat) : (vs.map Value.int).getD k (.int 0) = .int (own_edge vs k) := by
  simp only [own_edge, List.getD_eq_getElem?_getD, List.getElem?_map]
  cases vs[k]? <;> rfl
theorem d1_0 : decode prog_93_method_4_code 0 = .ok (.iload_n 0, 1) := by decide +kernel
theorem d1_1 : decode prog_93_method_4_code 1 = .ok (.bipush 9, 2) := by decide +kernel
theorem d1_3 : decode prog_93_method_4_code 3 = .ok (.if_icmp .eq 45, 3) := by decide +kernel
theorem d1_6 : decode prog_93_method_4_code 6 = .ok (.iload_n 0, 1) := by decide +kernel
theorem d1_7 : decode prog_93_method_4_code 7 = .ok (.bipush 10, 2) := by decide +kernel
theorem d1_9 : decode prog_93_method_4_code 9 = .ok (.if_icmp .eq 39, 3) := by decide +kernel
theorem d1_12 : decode prog_93_method_4_code 12 = .ok (.iload_n 0, 1) := by decide +kernel
theorem d1_13 : decode prog_93_method_4_code 13 = .ok (.bipush 13, 2) := by decide +kernel
theorem d1_15 : decode prog_93_method_4_code 15 = .ok (.if_icmp .eq 33, 3) := by decide +kernel
theorem d1_18 : decode prog_93_method_4_code 18 = .ok (.iload_n 0, 1) := by decide +kernel
theorem d1_19 : decode prog_93_method_4_code 19 = .ok (.bipush 32, 2) := by decide +kernel
theorem d1_21 : decode prog_93_method_4_code 21 = .ok (.if_icmp .lt 9, 3) := by decide +kernel
theorem d1_24 : decode prog_93_method_4_code 24 = .ok (.iload_n 0, 1) := by decide +kernel
theorem d1_25 : decode prog_93_method_4_code 25 = .ok (.ldc 109, 2) := by decide +kernel
theorem d1_27 : decode prog_93_method_4_code 27 = .ok (.if_icmp .le 21, 3) := by decide +kernel
theorem d1_30 : decode prog_93_method_4_code 30 = .ok (.iload_n 0, 1) := by decide +kernel
theorem d1_31 : decode prog_93_method_4_code 31 = .ok (.ldc 110, 2) := by decide +kernel
theorem d1_33 : decode prog_93_method_4_code 33 = .ok (.if_icmp .lt 9, 3) := by decide +kernel
theorem d1_36 : decode prog_93_method_4_code 36 = .ok (.iload_n 0, 1) := by decide +kernel
theorem d1_37 : decode prog_93_method_4_code 37 = .ok (.ldc 111, 2) := by decide +kernel
theorem d1_39 : decode prog_93_method_4_code 39 = .ok (.if_icmp .le 9, 3) := by decide +kernel
theorem d1_42 : decode prog_93_method_4_code 42 = .ok (.iload_n 0, 1) := by decide +kernel
theorem d1_43 : decode prog_93_method_4_code 43 = .ok (.ldc 112, 2) := by decide +kernel
theorem d1_45 : decode prog_93_method_4_code 45 = .ok (.if_icmp .lt 7, 3) := by decide +kernel
theorem d1_48 : decode prog_93_method_4_code 48 = .ok (.iconst 1, 1) := by decide +kernel
theorem d1_49 : decode prog_93_method_4_code 49 = .ok (.goto 4, 3) := by decide +kernel
theorem d1_52 : decode prog_93_method_4_code 52 = .ok (.iconst 0, 1) := by decide +kernel
theorem d1_53 : decode prog_93_method_4_code 53 = .ok (.ireturn, 1) := by decide +kernel
theorem pn_rm1 : plainName "com/example/notewright/notewright/XmlLines" = true := by first | (simp [plainName, overriddenIn]; done) | decide +kernel
theorem ef_rm1 (m : MethodId) (p0 : Int32) : entryFrame m #[(.int p0)] 1 = mkF m 0 #[.val (.int p0)] [] := by first | (simp [entryFrame, mkF, argsToLocals, Value.category]; done) | rfl
set_option maxRecDepth 65536 in
set_option maxHeartbeats 40000000 in
theorem rm1 (l : Launch) (Z : State) (a0 : Array Value) (hw : ∀ d ∈ tables_1, d.before a0 Z = true) (p0 : Int32)  (h0 : Heap) :
    own_Met l Z (⟨"com/example/notewright/notewright/XmlLines", "carries", "(I)Z"⟩ : MethodName) prog_93_method_4_code 1 (some .boolean) [] ({ frames := 0, cells := 0, slots := 0, locals := 0 } : Room) #[(.int p0)] h0 0 0 (fun v h L => v = some (.int (own_b (decide (p0 = (9 : Int32) ∨ p0 = (10 : Int32) ∨ p0 = (13 : Int32) ∨ (¬ p0 < (32 : Int32) ∧ ¬ (55295 : Int32) < p0) ∨ (¬ p0 < (57344 : Int32) ∧ ¬ (65533 : Int32) < p0) ∨ ¬ p0 < (65536 : Int32))))) ∧ h = h0 ∧ L = []) := by
  refine own_met (plainFor_of_name pn_rm1) ?_
  intro p e s m below meth c s₁ Bd hml0 hZ X0 e0
  have hx := Bd.exec
  have hby := Bd.bytes
  have hml : c.maxLocals = 1 := hml0
  have hown : s.vm.findClass "com/example/notewright/notewright/XmlLines" = some m.cls := findClass_of_methodNamed Bd.named
  have hnm := (name_of_methodNamed Bd.named Bd.method).1
  refine own_cast (ef_rm1 m p0) ?_
  generalize hQQ : (fun (v : Option Value) (h : Heap) (L : List Loc) => v = some (.int (own_b (decide (p0 = (9 : Int32) ∨ p0 = (10 : Int32) ∨ p0 = (13 : Int32) ∨ (¬ p0 < (32 : Int32) ∧ ¬ (55295 : Int32) < p0) ∨ (¬ p0 < (57344 : Int32) ∧ ¬ (65533 : Int32) < p0) ∨ ¬ p0 < (65536 : Int32))))) ∧ h = h0 ∧ L = []) = QQ
  refine own_go (g' := (mkF m 1 #[.val (.int p0)] [(.int p0)])) (fun _ k => XS.iloadN X0.here hx rfl (hb hby d1_0) rfl k) ?_
  refine own_go (g' := (mkF m 3 #[.val (.int p0)] [(.int (9 : Int32)), (.int p0)])) (fun _ k => XS.bipush X0.here hx rfl (hb hby d1_1) k) ?_
  by_cases hc1 : p0 = (9 : Int32)
  ·
    refine own_go (g' := (mkF m 48 #[.val (.int p0)] [])) (fun _ k => XS.icmpYes X0.here hx rfl (pc0 := 3) (pc' := 48) rfl (hb hby d1_3) rfl (teq hc1).1 (by decide) (by decide) k) ?_
    refine own_go (g' := (mkF m 49 #[.val (.int p0)] [(.int (1 : Int32))])) (fun _ k => XS.iconst X0.here hx rfl (hb hby d1_48) k) ?_
    refine own_go (g' := (mkF m 53 #[.val (.int p0)] [(.int (1 : Int32))])) (fun _ k => XS.goto X0.here hx rfl (pc0 := 49) (pc' := 53) rfl (hb hby d1_49) (by decide) (by decide) k) ?_
    refine own_retN X0 hx .boolean Bd.returns Bd.notSynchronized (by simp) (hb hby d1_53) (by decide) (by decide) ?_
    show QQ _ s₁.heap _
    rw [e0]
    rw [← hQQ]
    have hv : own_b (decide (p0 = (9 : Int32) ∨ p0 = (10 : Int32) ∨ p0 = (13 : Int32) ∨ (¬ p0 < (32 : Int32) ∧ ¬ (55295 : Int32) < p0) ∨ (¬ p0 < (57344 : Int32) ∧ ¬ (65533 : Int32) < p0) ∨ ¬ p0 < (65536 : Int32))) = 1 := own_b_t (by simp only [decide_eq_true_eq, ← Int32.toInt_inj, ← Int64.toInt_inj, Int32.lt_iff_toInt_lt, Int64.lt_iff_toInt_lt, Int32.le_iff_toInt_le, Int64.le_iff_toInt_le, Int32.reduceToInt, Int64.reduceToInt] at hc1 ⊢; omega)
    exact ⟨by rw [hv]; rfl, rfl, rfl⟩
  ·
    refine own_go (g' := (mkF m 6 #[.val (.int p0)] [])) (fun _ k => XS.icmpNo X0.here hx rfl (hb hby d1_3) rfl (feq hc1).1 k) ?_
    refine own_go (g' := (mkF m 7 #[.val (.int p0)] [(.int p0)])) (fun _ k => XS.iloadN X0.here hx rfl (hb hby d1_6) rfl k) ?_
    refine own_go (g' := (mkF m 9 #[.val (.int p0)] [(.int (10 : Int32)), (.int p0)])) (fun _ k => XS.bipush X0.here hx rfl (hb hby d1_7) k) ?_
    by_cases hc2 : p0 = (10 : Int32)
    ·
      refine own_go (g' := (mkF m 48 #[.val (.int p0)] [])) (fun _ k => XS.icmpYes X0.here hx rfl (pc0 := 9) (pc' := 48) rfl (hb hby d1_9) rfl (teq hc2).1 (by decide) (by decide) k) ?_
      refine own_go (g' := (mkF m 49 #[.val (.int p0)] [(.int (1 : Int32))])) (fun _ k => XS.iconst X0.here hx rfl (hb hby d1_48) k) ?_
      refine own_go (g' := (mkF m 53 #[.val (.int p0)] [(.int (1 : Int32))])) (fun _ k => XS.goto X0.here hx rfl (pc0 := 49) (pc' := 53) rfl (hb hby d1_49) (by decide) (by decide) k) ?_
      refine own_retN X0 hx .boolean Bd.returns Bd.notSynchronized (by simp) (hb hby d1_53) (by decide) (by decide) ?_
      show QQ _ s₁.heap _
      rw [e0]
      rw [← hQQ]
      have hv : own_b (decide (p0 = (9 : Int32) ∨ p0 = (10 : Int32) ∨ p0 = (13 : Int32) ∨ (¬ p0 < (32 : Int32) ∧ ¬ (55295 : Int32) < p0) ∨ (¬ p0 < (57344 : Int32) ∧ ¬ (65533 : Int32) < p0) ∨ ¬ p0 < (65536 : Int32))) = 1 := own_b_t (by simp only [decide_eq_true_eq, ← Int32.toInt_inj, ← Int64.toInt_inj, Int32.lt_iff_toInt_lt, Int64.lt_iff_toInt_lt, Int32.le_iff_toInt_le, Int64.le_iff_toInt_le, Int32.reduceToInt, Int64.reduceToInt] at hc1 hc2 ⊢; omega)
      exact ⟨by rw [hv]; rfl, rfl, rfl⟩
    ·
      refine own_go (g' := (mkF m 12 #[.val (.int p0)] [])) (fun _ k => XS.icmpNo X0.here hx rfl (hb hby d1_9) rfl (feq hc2).1 k) ?_
      refine own_go (g' := (mkF m 13 #[.val (.int p0)] [(.int p0)])) (fun _ k => XS.iloadN X0.here hx rfl (hb hby d1_12) rfl k) ?_
      refine own_go (g' := (mkF m 15 #[.val (.int p0)] [(.int (13 : Int32)), (.int p0)])) (fun _ k => XS.bipush X0.here hx rfl (hb hby d1_13) k) ?_
      by_cases hc3 : p0 = (13 : Int32)
      ·
        refine own_go (g' := (mkF m 48 #[.val (.int p0)] [])) (fun _ k => XS.icmpYes X0.here hx rfl (pc0 := 15) (pc' := 48) rfl (hb hby d1_15) rfl (teq hc3).1 (by decide) (by decide) k) ?_
        refine own_go (g' := (mkF m 49 #[.val (.int p0)] [(.int (1 : Int32))])) (fun _ k => XS.iconst X0.here hx rfl (hb hby d1_48) k) ?_
        refine own_go (g' := (mkF m 53 #[.val (.int p0)] [(.int (1 : Int32))])) (fun _ k => XS.goto X0.here hx rfl (pc0 := 49) (pc' := 53) rfl (hb hby d1_49) (by decide) (by decide) k) ?_
        refine own_retN X0 hx .boolean Bd.returns Bd.notSynchronized (by simp) (hb hby d1_53) (by decide) (by decide) ?_
        show QQ _ s₁.heap _
        rw [e0]
        rw [← hQQ]
        have hv : own_b (decide (p0 = (9 : Int32) ∨ p0 = (10 : Int32) ∨ p0 = (13 : Int32) ∨ (¬ p0 < (32 : Int32) ∧ ¬ (55295 : Int32) < p0) ∨ (¬ p0 < (57344 : Int32) ∧ ¬ (65533 : Int32) < p0) ∨ ¬ p0 < (65536 : Int32))) = 1 := own_b_t (by simp only [decide_eq_true_eq, ← Int32.toInt_inj, ← Int64.toInt_inj, Int32.lt_iff_toInt_lt, Int64.lt_iff_toInt_lt, Int32.le_iff_toInt_le, Int64.le_iff_toInt_le, Int32.reduceToInt, Int64.reduceToInt] at hc1 hc2 hc3 ⊢; omega)
        exact ⟨by rw [hv]; rfl, rfl, rfl⟩
      ·
        refine own_go (g' := (mkF m 18 #[.val (.int p0)] [])) (fun _ k => XS.icmpNo X0.here hx rfl (hb hby d1_15) rfl (feq hc3).1 k) ?_
        refine own_go (g' := (mkF m 19 #[.val (.int p0)] [(.int p0)])) (fun _ k => XS.iloadN X0.here hx rfl (hb hby d1_18) rfl k) ?_
        refine own_go (g' := (mkF m 21 #[.val (.int p0)] [(.int (32 : Int32)), (.int p0)])) (fun _ k => XS.bipush X0.here hx rfl (hb hby d1_19) k) ?_
        by_cases hc4 : p0 < (32 : Int32)
        ·
          refine own_go (g' := (mkF m 30 #[.val (.int p0)] [])) (fun _ k => XS.icmpYes X0.here hx rfl (pc0 := 21) (pc' := 30) rfl (hb hby d1_21) rfl (tlt hc4).1 (by decide) (by decide) k) ?_
          refine own_go (g' := (mkF m 31 #[.val (.int p0)] [(.int p0)])) (fun _ k => XS.iloadN X0.here hx rfl (hb hby d1_30) rfl k) ?_
          refine own_go (g' := (mkF m 33 #[.val (.int p0)] [(.int (57344 : Int32)), (.int p0)])) (X0.ldcInt hx hown (mvT hZ (hw _ (List.mem_of_getElem? (i := 20) rfl))) (g := (mkF m 31 #[.val (.int p0)] [(.int p0)])) rfl (hb hby d1_31)) ?_
          by_cases hc5 : p0 < (57344 : Int32)
          ·
            refine own_go (g' := (mkF m 42 #[.val (.int p0)] [])) (fun _ k => XS.icmpYes X0.here hx rfl (pc0 := 33) (pc' := 42) rfl (hb hby d1_33) rfl (tlt hc5).1 (by decide) (by decide) k) ?_
            refine own_go (g' := (mkF m 43 #[.val (.int p0)] [(.int p0)])) (fun _ k => XS.iloadN X0.here hx rfl (hb hby d1_42) rfl k) ?_
            refine own_go (g' := (mkF m 45 #[.val (.int p0)] [(.int (65536 : Int32)), (.int p0)])) (X0.ldcInt hx hown (mvT hZ (hw _ (List.mem_of_getElem? (i := 21) rfl))) (g := (mkF m 43 #[.val (.int p0)] [(.int p0)])) rfl (hb hby d1_43)) ?_
            by_cases hc6 : p0 < (65536 : Int32)
            ·
              refine own_go (g' := (mkF m 52 #[.val (.int p0)] [])) (fun _ k => XS.icmpYes X0.here hx rfl (pc0 := 45) (pc' := 52) rfl (hb hby d1_45) rfl (tlt hc6).1 (by decide) (by decide) k) ?_
              refine own_go (g' := (mkF m 53 #[.val (.int p0)] [(.int (0 : Int32))])) (fun _ k => XS.iconst X0.here hx rfl (hb hby d1_52) k) ?_
              refine own_retN X0 hx .boolean Bd.returns Bd.notSynchronized (by simp) (hb hby d1_53) (by decide) (by decide) ?_
              show QQ _ s₁.heap _
              rw [e0]
              rw [← hQQ]
              have hv : own_b (decide (p0 = (9 : Int32) ∨ p0 = (10 : Int32) ∨ p0 = (13 : Int32) ∨ (¬ p0 < (32 : Int32) ∧ ¬ (55295 : Int32) < p0) ∨ (¬ p0 < (57344 : Int32) ∧ ¬ (65533 : Int32) < p0) ∨ ¬ p0 < (65536 : Int32))) = 0 := own_b_f (by simp only [decide_eq_true_eq, ← Int32.toInt_inj, ← Int64.toInt_inj, Int32.lt_iff_toInt_lt, Int64.lt_iff_toInt_lt, Int32.le_iff_toInt_le, Int64.le_iff_toInt_le, Int32.reduceToInt, Int64.reduceToInt] at hc1 hc2 hc3 hc4 hc5 hc6 ⊢; omega)
              exact ⟨by rw [hv]; rfl, rfl, rfl⟩
            ·
              refine own_go (g' := (mkF m 48 #[.val (.int p0)] [])) (fun _ k => XS.icmpNo X0.here hx rfl (hb hby d1_45) rfl (flt hc6).1 k) ?_
              refine own_go (g' := (mkF m 49 #[.val (.int p0)] [(.int (1 : Int32))])) (fun _ k => XS.iconst X0.here hx rfl (hb hby d1_48) k) ?_
              refine own_go (g' := (mkF m 53 #[.val (.int p0)] [(.int (1 : Int32))])) (fun _ k => XS.goto X0.here hx rfl (pc0 := 49) (pc' := 53) rfl (hb hby d1_49) (by decide) (by decide) k) ?_
              refine own_retN X0 hx .boolean Bd.returns Bd.notSynchronized (by simp) (hb hby d1_53) (by decide) (by decide) ?_
              show QQ _ s₁.heap _
              rw [e0]
              rw [← hQQ]
              have hv : own_b (decide (p0 = (9 : Int32) ∨ p0 = (10 : Int32) ∨ p0 = (13 : Int32) ∨ (¬ p0 < (32 : Int32) ∧ ¬ (55295 : Int32) < p0) ∨ (¬ p0 < (57344 : Int32) ∧ ¬ (65533 : Int32) < p0) ∨ ¬ p0 < (65536 : Int32))) = 1 := own_b_t (by simp only [decide_eq_true_eq, ← Int32.toInt_inj, ← Int64.toInt_inj, Int32.lt_iff_toInt_lt, Int64.lt_iff_toInt_lt, Int32.le_iff_toInt_le, Int64.le_iff_toInt_le, Int32.reduceToInt, Int64.reduceToInt] at hc1 hc2 hc3 hc4 hc5 hc6 ⊢; omega)
              exact ⟨by rw [hv]; rfl, rfl, rfl⟩
          ·
            refine own_go (g' := (mkF m 36 #[.val (.int p0)] [])) (fun _ k => XS.icmpNo X0.here hx rfl (hb hby d1_33) rfl (flt hc5).1 k) ?_
            refine own_go (g' := (mkF m 37 #[.val (.int p0)] [(.int p0)])) (fun _ k => XS.iloadN X0.here hx rfl (hb hby d1_36) rfl k) ?_
            refine own_go (g' := (mkF m 39 #[.val (.int p0)] [(.int (65533 : Int32)), (.int p0)])) (X0.ldcInt hx hown (mvT hZ (hw _ (List.mem_of_getElem? (i := 23) rfl))) (g := (mkF m 37 #[.val (.int p0)] [(.int p0)])) rfl (hb hby d1_37)) ?_
            by_cases hc7 : (65533 : Int32) < p0
            ·
              refine own_go (g' := (mkF m 42 #[.val (.int p0)] [])) (fun _ k => XS.icmpNo X0.here hx rfl (hb hby d1_39) rfl (tlt hc7).2.2.2 k) ?_
              refine own_go (g' := (mkF m 43 #[.val (.int p0)] [(.int p0)])) (fun _ k => XS.iloadN X0.here hx rfl (hb hby d1_42) rfl k) ?_
              refine own_go (g' := (mkF m 45 #[.val (.int p0)] [(.int (65536 : Int32)), (.int p0)])) (X0.ldcInt hx hown (mvT hZ (hw _ (List.mem_of_getElem? (i := 21) rfl))) (g := (mkF m 43 #[.val (.int p0)] [(.int p0)])) rfl (hb hby d1_43)) ?_
              by_cases hc8 : p0 < (65536 : Int32)
              ·
                refine own_go (g' := (mkF m 52 #[.val (.int p0)] [])) (fun _ k => XS.icmpYes X0.here hx rfl (pc0 := 45) (pc' := 52) rfl (hb hby d1_45) rfl (tlt hc8).1 (by decide) (by decide) k) ?_
                refine own_go (g' := (mkF m 53 #[.val (.int p0)] [(.int (0 : Int32))])) (fun _ k => XS.iconst X0.here hx rfl (hb hby d1_52) k) ?_
                refine own_retN X0 hx .boolean Bd.returns Bd.notSynchronized (by simp) (hb hby d1_53) (by decide) (by decide) ?_
                show QQ _ s₁.heap _
                rw [e0]
                rw [← hQQ]
                have hv : own_b (decide (p0 = (9 : Int32) ∨ p0 = (10 : Int32) ∨ p0 = (13 : Int32) ∨ (¬ p0 < (32 : Int32) ∧ ¬ (55295 : Int32) < p0) ∨ (¬ p0 < (57344 : Int32) ∧ ¬ (65533 : Int32) < p0) ∨ ¬ p0 < (65536 : Int32))) = 0 := own_b_f (by simp only [decide_eq_true_eq, ← Int32.toInt_inj, ← Int64.toInt_inj, Int32.lt_iff_toInt_lt, Int64.lt_iff_toInt_lt, Int32.le_iff_toInt_le, Int64.le_iff_toInt_le, Int32.reduceToInt, Int64.reduceToInt] at hc1 hc2 hc3 hc4 hc5 hc7 hc8 ⊢; omega)
                exact ⟨by rw [hv]; rfl, rfl, rfl⟩
              ·
                refine own_go (g' := (mkF m 48 #[.val (.int p0)] [])) (fun _ k => XS.icmpNo X0.here hx rfl (hb hby d1_45) rfl (flt hc8).1 k) ?_
                refine own_go (g' := (mkF m 49 #[.val (.int p0)] [(.int (1 : Int32))])) (fun _ k => XS.iconst X0.here hx rfl (hb hby d1_48) k) ?_
                refine own_go (g' := (mkF m 53 #[.val (.int p0)] [(.int (1 : Int32))])) (fun _ k => XS.goto X0.here hx rfl (pc0 := 49) (pc' := 53) rfl (hb hby d1_49) (by decide) (by decide) k) ?_
                refine own_retN X0 hx .boolean Bd.returns Bd.notSynchronized (by simp) (hb hby d1_53) (by decide) (by decide) ?_
                show QQ _ s₁.heap _
                rw [e0]
                rw [← hQQ]
                have hv : own_b (decide (p0 = (9 : Int32) ∨ p0 = (10 : Int32) ∨ p0 = (13 : Int32) ∨ (¬ p0 < (32 : Int32) ∧ ¬ (55295 : Int32) < p0) ∨ (¬ p0 < (57344 : Int32) ∧ ¬ (65533 : Int32) < p0) ∨ ¬ p0 < (65536 : Int32))) = 1 := own_b_t (by simp only [decide_eq_true_eq, ← Int32.toInt_inj, ← Int64.toInt_inj, Int32.lt_iff_toInt_lt, Int64.lt_iff_toInt_lt, Int32.le_iff_toInt_le, Int64.le_iff_toInt_le, Int32.reduceToInt, Int64.reduceToInt] at hc1 hc2 hc3 hc4 hc5 hc7 hc8 ⊢; omega)
                exact ⟨by rw [hv]; rfl, rfl, rfl⟩
            ·
              refine own_go (g' := (mkF m 48 #[.val (.int p0)] [])) (fun _ k => XS.icmpYes X0.here hx rfl (pc0 := 39) (pc' := 48) rfl (hb hby d1_39) rfl (flt hc7).2.2.2 (by decide) (by decide) k) ?_
              refine own_go (g' := (mkF m 49 #[.val (.int p0)] [(.int (1 : Int32))])) (fun _ k => XS.iconst X0.here hx rfl (hb hby d1_48) k) ?_
              refine own_go (g' := (mkF m 53 #[.val (.int p0)] [(.int (1 : Int32))])) (fun _ k => XS.goto X0.here hx rfl (pc0 := 49) (pc' := 53) rfl (hb hby d1_49) (by decide) (by decide) k) ?_
              refine own_retN X0 hx .boolean Bd.returns Bd.notSynchronized (by simp) (hb hby d1_53) (by decide) (by decide) ?_
              show QQ _ s₁.heap _
              rw [e0]
              rw [← hQQ]
              have hv : own_b (decide (p0 = (9 : Int32) ∨ p0 = (10 : Int32) ∨ p0 = (13 : Int32) ∨ (¬ p0 < (32 : Int32) ∧ ¬ (55295 : Int32) < p0) ∨ (¬ p0 < (57344 : Int32) ∧ ¬ (65533 : Int32) < p0) ∨ ¬ p0 < (65536 : Int32))) = 1 := own_b_t (by simp only [decide_eq_true_eq, ← Int32.toInt_inj, ← Int64.toInt_inj, Int32.lt_iff_toInt_lt, Int64.lt_iff_toInt_lt, Int32.le_iff_toInt_le, Int64.le_iff_toInt_le, Int32.reduceToInt, Int64.reduceToInt] at hc1 hc2 hc3 hc4 hc5 hc7 ⊢; omega)
              exact ⟨by rw [hv]; rfl, rfl, rfl⟩
        ·
          refine own_go (g' := (mkF m 24 #[.val (.int p0)] [])) (fun _ k => XS.icmpNo X0.here hx rfl (hb hby d1_21) rfl (flt hc4).1 k) ?_
          refine own_go (g' := (mkF m 25 #[.val (.int p0)] [(.int p0)])) (fun _ k => XS.iloadN X0.here hx rfl (hb hby d1_24) rfl k) ?_
          refine own_go (g' := (mkF m 27 #[.val (.int p0)] [(.int (55295 : Int32)), (.int p0)])) (X0.ldcInt hx hown (mvT hZ (hw _ (List.mem_of_getElem? (i := 22) rfl))) (g := (mkF m 25 #[.val (.int p0)] [(.int p0)])) rfl (hb hby d1_25)) ?_
          by_cases hc9 : (55295 : Int32) < p0
          ·
            refine own_go (g' := (mkF m 30 #[.val (.int p0)] [])) (fun _ k => XS.icmpNo X0.here hx rfl (hb hby d1_27) rfl (tlt hc9).2.2.2 k) ?_
            refine own_go (g' := (mkF m 31 #[.val (.int p0)] [(.int p0)])) (fun _ k => XS.iloadN X0.here hx rfl (hb hby d1_30) rfl k) ?_
            refine own_go (g' := (mkF m 33 #[.val (.int p0)] [(.int (57344 : Int32)), (.int p0)])) (X0.ldcInt hx hown (mvT hZ (hw _ (List.mem_of_getElem? (i := 20) rfl))) (g := (mkF m 31 #[.val (.int p0)] [(.int p0)])) rfl (hb hby d1_31)) ?_
            by_cases hc10 : p0 < (57344 : Int32)
            ·
              refine own_go (g' := (mkF m 42 #[.val (.int p0)] [])) (fun _ k => XS.icmpYes X0.here hx rfl (pc0 := 33) (pc' := 42) rfl (hb hby d1_33) rfl (tlt hc10).1 (by decide) (by decide) k) ?_
              refine own_go (g' := (mkF m 43 #[.val (.int p0)] [(.int p0)])) (fun _ k => XS.iloadN X0.here hx rfl (hb hby d1_42) rfl k) ?_
              refine own_go (g' := (mkF m 45 #[.val (.int p0)] [(.int (65536 : Int32)), (.int p0)])) (X0.ldcInt hx hown (mvT hZ (hw _ (List.mem_of_getElem? (i := 21) rfl))) (g := (mkF m 43 #[.val (.int p0)] [(.int p0)])) rfl (hb hby d1_43)) ?_
              by_cases hc11 : p0 < (65536 : Int32)
              ·
                refine own_go (g' := (mkF m 52 #[.val (.int p0)] [])) (fun _ k => XS.icmpYes X0.here hx rfl (pc0 := 45) (pc' := 52) rfl (hb hby d1_45) rfl (tlt hc11).1 (by decide) (by decide) k) ?_
                refine own_go (g' := (mkF m 53 #[.val (.int p0)] [(.int (0 : Int32))])) (fun _ k => XS.iconst X0.here hx rfl (hb hby d1_52) k) ?_
                refine own_retN X0 hx .boolean Bd.returns Bd.notSynchronized (by simp) (hb hby d1_53) (by decide) (by decide) ?_
                show QQ _ s₁.heap _
                rw [e0]
                rw [← hQQ]
                have hv : own_b (decide (p0 = (9 : Int32) ∨ p0 = (10 : Int32) ∨ p0 = (13 : Int32) ∨ (¬ p0 < (32 : Int32) ∧ ¬ (55295 : Int32) < p0) ∨ (¬ p0 < (57344 : Int32) ∧ ¬ (65533 : Int32) < p0) ∨ ¬ p0 < (65536 : Int32))) = 0 := own_b_f (by simp only [decide_eq_true_eq, ← Int32.toInt_inj, ← Int64.toInt_inj, Int32.lt_iff_toInt_lt, Int64.lt_iff_toInt_lt, Int32.le_iff_toInt_le, Int64.le_iff_toInt_le, Int32.reduceToInt, Int64.reduceToInt] at hc1 hc2 hc3 hc4 hc9 hc10 hc11 ⊢; omega)
                exact ⟨by rw [hv]; rfl, rfl, rfl⟩
              ·
                refine own_go (g' := (mkF m 48 #[.val (.int p0)] [])) (fun _ k => XS.icmpNo X0.here hx rfl (hb hby d1_45) rfl (flt hc11).1 k) ?_
                refine own_go (g' := (mkF m 49 #[.val (.int p0)] [(.int (1 : Int32))])) (fun _ k => XS.iconst X0.here hx rfl (hb hby d1_48) k) ?_
                refine own_go (g' := (mkF m 53 #[.val (.int p0)] [(.int (1 : Int32))])) (fun _ k => XS.goto X0.here hx rfl (pc0 := 49) (pc' := 53) rfl (hb hby d1_49) (by decide) (by decide) k) ?_
                refine own_retN X0 hx .boolean Bd.returns Bd.notSynchronized (by simp) (hb hby d1_53) (by decide) (by decide) ?_
                show QQ _ s₁.heap _
                rw [e0]
                rw [← hQQ]
                have hv : own_b (decide (p0 = (9 : Int32) ∨ p0 = (10 : Int32) ∨ p0 = (13 : Int32) ∨ (¬ p0 < (32 : Int32) ∧ ¬ (55295 : Int32) < p0) ∨ (¬ p0 < (57344 : Int32) ∧ ¬ (65533 : Int32) < p0) ∨ ¬ p0 < (65536 : Int32))) = 1 := own_b_t (by simp only [decide_eq_true_eq, ← Int32.toInt_inj, ← Int64.toInt_inj, Int32.lt_iff_toInt_lt, Int64.lt_iff_toInt_lt, Int32.le_iff_toInt_le, Int64.le_iff_toInt_le, Int32.reduceToInt, Int64.reduceToInt] at hc1 hc2 hc3 hc4 hc9 hc10 hc11 ⊢; omega)
                exact ⟨by rw [hv]; rfl, rfl, rfl⟩
            ·
              refine own_go (g' := (mkF m 36 #[.val (.int p0)] [])) (fun _ k => XS.icmpNo X0.here hx rfl (hb hby d1_33) rfl (flt hc10).1 k) ?_
              refine own_go (g' := (mkF m 37 #[.val (.int p0)] [(.int p0)])) (fun _ k => XS.iloadN X0.here hx rfl (hb hby d1_36) rfl k) ?_
              refine own_go (g' := (mkF m 39 #[.val (.int p0)] [(.int (65533 : Int32)), (.int p0)])) (X0.ldcInt hx hown (mvT hZ (hw _ (List.mem_of_getElem? (i := 23) rfl))) (g := (mkF m 37 #[.val (.int p0)] [(.int p0)])) rfl (hb hby d1_37)) ?_
              by_cases hc12 : (65533 : Int32) < p0
              ·
                refine own_go (g' := (mkF m 42 #[.val (.int p0)] [])) (fun _ k => XS.icmpNo X0.here hx rfl (hb hby d1_39) rfl (tlt hc12).2.2.2 k) ?_
                refine own_go (g' := (mkF m 43 #[.val (.int p0)] [(.int p0)])) (fun _ k => XS.iloadN X0.here hx rfl (hb hby d1_42) rfl k) ?_
                refine own_go (g' := (mkF m 45 #[.val (.int p0)] [(.int (65536 : Int32)), (.int p0)])) (X0.ldcInt hx hown (mvT hZ (hw _ (List.mem_of_getElem? (i := 21) rfl))) (g := (mkF m 43 #[.val (.int p0)] [(.int p0)])) rfl (hb hby d1_43)) ?_
                by_cases hc13 : p0 < (65536 : Int32)
                ·
                  refine own_go (g' := (mkF m 52 #[.val (.int p0)] [])) (fun _ k => XS.icmpYes X0.here hx rfl (pc0 := 45) (pc' := 52) rfl (hb hby d1_45) rfl (tlt hc13).1 (by decide) (by decide) k) ?_
                  refine own_go (g' := (mkF m 53 #[.val (.int p0)] [(.int (0 : Int32))])) (fun _ k => XS.iconst X0.here hx rfl (hb hby d1_52) k) ?_
                  refine own_retN X0 hx .boolean Bd.returns Bd.notSynchronized (by simp) (hb hby d1_53) (by decide) (by decide) ?_
                  show QQ _ s₁.heap _
                  rw [e0]
                  rw [← hQQ]
                  have hv : own_b (decide (p0 = (9 : Int32) ∨ p0 = (10 : Int32) ∨ p0 = (13 : Int32) ∨ (¬ p0 < (32 : Int32) ∧ ¬ (55295 : Int32) < p0) ∨ (¬ p0 < (57344 : Int32) ∧ ¬ (65533 : Int32) < p0) ∨ ¬ p0 < (65536 : Int32))) = 0 := own_b_f (by simp only [decide_eq_true_eq, ← Int32.toInt_inj, ← Int64.toInt_inj, Int32.lt_iff_toInt_lt, Int64.lt_iff_toInt_lt, Int32.le_iff_toInt_le, Int64.le_iff_toInt_le, Int32.reduceToInt, Int64.reduceToInt] at hc1 hc2 hc3 hc4 hc9 hc10 hc12 hc13 ⊢; omega)
                  exact ⟨by rw [hv]; rfl, rfl, rfl⟩
                ·
                  refine own_go (g' := (mkF m 48 #[.val (.int p0)] [])) (fun _ k => XS.icmpNo X0.here hx rfl (hb hby d1_45) rfl (flt hc13).1 k) ?_
                  refine own_go (g' := (mkF m 49 #[.val (.int p0)] [(.int (1 : Int32))])) (fun _ k => XS.iconst X0.here hx rfl (hb hby d1_48) k) ?_
                  refine own_go (g' := (mkF m 53 #[.val (.int p0)] [(.int (1 : Int32))])) (fun _ k => XS.goto X0.here hx rfl (pc0 := 49) (pc' := 53) rfl (hb hby d1_49) (by decide) (by decide) k) ?_
                  refine own_retN X0 hx .boolean Bd.returns Bd.notSynchronized (by simp) (hb hby d1_53) (by decide) (by decide) ?_
                  show QQ _ s₁.heap _
                  rw [e0]
                  rw [← hQQ]
                  have hv : own_b (decide (p0 = (9 : Int32) ∨ p0 = (10 : Int32) ∨ p0 = (13 : Int32) ∨ (¬ p0 < (32 : Int32) ∧ ¬ (55295 : Int32) < p0) ∨ (¬ p0 < (57344 : Int32) ∧ ¬ (65533 : Int32) < p0) ∨ ¬ p0 < (65536 : Int32))) = 1 := own_b_t (by simp only [decide_eq_true_eq, ← Int32.toInt_inj, ← Int64.toInt_inj, Int32.lt_iff_toInt_lt, Int64.lt_iff_toInt_lt, Int32.le_iff_toInt_le, Int64.le_iff_toInt_le, Int32.reduceToInt, Int64.reduceToInt] at hc1 hc2 hc3 hc4 hc9 hc10 hc12 hc13 ⊢; omega)
                  exact ⟨by rw [hv]; rfl, rfl, rfl⟩
              ·
                refine own_go (g' := (mkF m 48 #[.val (.int p0)] [])) (fun _ k => XS.icmpYes X0.here hx rfl (pc0 := 39) (pc' := 48) rfl (hb hby d1_39) rfl (flt hc12).2.2.2 (by decide) (by decide) k) ?_
                refine own_go (g' := (mkF m 49 #[.val (.int p0)] [(.int (1 : Int32))])) (fun _ k => XS.iconst X0.here hx rfl (hb hby d1_48) k) ?_
                refine own_go (g' := (mkF m 53 #[.val (.int p0)] [(.int (1 : Int32))])) (fun _ k => XS.goto X0.here hx rfl (pc0 := 49) (pc' := 53) rfl (hb hby d1_49) (by decide) (by decide) k) ?_
                refine own_retN X0 hx .boolean Bd.returns Bd.notSynchronized (by simp) (hb hby d1_53) (by decide) (by decide) ?_
                show QQ _ s₁.heap _
                rw [e0]
                rw [← hQQ]
                have hv : own_b (decide (p0 = (9 : Int32) ∨ p0 = (10 : Int32) ∨ p0 = (13 : Int32) ∨ (¬ p0 < (32 : Int32) ∧ ¬ (55295 : Int32) < p0) ∨ (¬ p0 < (57344 : Int32) ∧ ¬ (65533 : Int32) < p0) ∨ ¬ p0 < (65536 : Int32))) = 1 := own_b_t (by simp only [decide_eq_true_eq, ← Int32.toInt_inj, ← Int64.toInt_inj, Int32.lt_iff_toInt_lt, Int64.lt_iff_toInt_lt, Int32.le_iff_toInt_le, Int64.le_iff_toInt_le, Int32.reduceToInt, Int64.reduceToInt] at hc1 hc2 hc3 hc4 hc9 hc10 hc12 ⊢; omega)
                exact ⟨by rw [hv]; rfl, rfl, rfl⟩
          ·
            refine own_go (g' := (mkF m 48 #[.val (.int p0)] [])) (fun _ k => XS.icmpYes X0.here hx rfl (pc0 := 27) (pc' := 48) rfl (hb hby d1_27) rfl (flt hc9).2.2.2 (by decide) (by decide) k) ?_
            refine own_go (g' := (mkF m 49 #[.val (.int p0)] [(.int (1 : Int32))])) (fun _ k => XS.iconst X0.here hx rfl (hb hby d1_48) k) ?_
            refine own_go (g' := (mkF m 53 #[.val (.int p0)] [(.int (1 : Int32))])) (fun _ k => XS.goto X0.here hx rfl (pc0 := 49) (pc' := 53) rfl (hb hby d1_49) (by decide) (by decide) k) ?_
            refine own_retN X0 hx .boolean Bd.returns Bd.notSynchronized (by simp) (hb hby d1_53) (by decide) (by decide) ?_
            show QQ _ s₁.heap _
            rw [e0]
            rw [← hQQ]
            have hv : own_b (decide (p0 = (9 : Int32) ∨ p0 = (10 : Int32) ∨ p0 = (13 : Int32) ∨ (¬ p0 < (32 : Int32) ∧ ¬ (55295 : Int32) < p0) ∨ (¬ p0 < (57344 : Int32) ∧ ¬ (65533 : Int32) < p0) ∨ ¬ p0 < (65536 : Int32))) = 1 := own_b_t (by simp only [decide_eq_true_eq, ← Int32.toInt_inj, ← Int64.toInt_inj, Int32.lt_iff_toInt_lt, Int64.lt_iff_toInt_lt, Int32.le_iff_toInt_le, Int64.le_iff_toInt_le, Int32.reduceToInt, Int64.reduceToInt] at hc1 hc2 hc3 hc4 hc9 ⊢; omega)
            exact ⟨by rw [hv]; rfl, rfl, rfl⟩
theorem d2_0 : decode method_3_code 0 = .ok (.iload_n 0, 1) := by decide +kernel
theorem d2_1 : decode method_3_code 1 = .ok (.bipush 9, 2) := by decide +kernel
theorem d2_3 : decode method_3_code 3 = .ok (.if_icmp .eq 15, 3) := by decide +kernel
theorem d2_6 : decode method_3_code 6 = .ok (.iload_n 0, 1) := by decide +kernel
theorem d2_7 : decode method_3_code 7 = .ok (.bipush 10, 2) := by decide +kernel
theorem d2_9 : decode method_3_code 9 = .ok (.if_icmp .eq 9, 3) := by decide +kernel
theorem d2_12 : decode method_3_code 12 = .ok (.iload_n 0, 1) := by decide +kernel
theorem d2_13 : decode method_3_code 13 = .ok (.bipush 13, 2) := by decide +kernel
theorem d2_15 : decode method_3_code 15 = .ok (.if_icmp .ne 5, 3) := by decide +kernel
theorem d2_18 : decode method_3_code 18 = .ok (.iconst 1, 1) := by decide +kernel
theorem d2_19 : decode method_3_code 19 = .ok (.ireturn, 1) := by decide +kernel
theorem d2_20 : decode method_3_code 20 = .ok (.iload_n 0, 1) := by decide +kernel
theorem d2_21 : decode method_3_code 21 = .ok (.bipush 32, 2) := by decide +kernel
theorem d2_23 : decode method_3_code 23 = .ok (.if_icmp .ge 5, 3) := by decide +kernel
theorem d2_26 : decode method_3_code 26 = .ok (.iconst 0, 1) := by decide +kernel
theorem d2_27 : decode method_3_code 27 = .ok (.ireturn, 1) := by decide +kernel
theorem d2_28 : decode method_3_code 28 = .ok (.iload_n 0, 1) := by decide +kernel
theorem d2_29 : decode method_3_code 29 = .ok (.ldc 8, 2) := by decide +kernel
theorem d2_31 : decode method_3_code 31 = .ok (.if_icmp .lt 11, 3) := by decide +kernel
theorem d2_34 : decode method_3_code 34 = .ok (.iload_n 0, 1) := by decide +kernel
theorem d2_35 : decode method_3_code 35 = .ok (.ldc 9, 2) := by decide +kernel
theorem d2_37 : decode method_3_code 37 = .ok (.if_icmp .gt 5, 3) := by decide +kernel
theorem d2_40 : decode method_3_code 40 = .ok (.iconst 0, 1) := by decide +kernel
theorem d2_41 : decode method_3_code 41 = .ok (.ireturn, 1) := by decide +kernel
theorem d2_42 : decode method_3_code 42 = .ok (.iload_n 0, 1) := by decide +kernel
theorem d2_43 : decode method_3_code 43 = .ok (.ldc 12, 2) := by decide +kernel
theorem d2_45 : decode method_3_code 45 = .ok (.if_icmp .eq 9, 3) := by decide +kernel
theorem d2_48 : decode method_3_code 48 = .ok (.iload_n 0, 1) := by decide +kernel
theorem d2_49 : decode method_3_code 49 = .ok (.ldc 13, 2) := by decide +kernel
theorem d2_51 : decode method_3_code 51 = .ok (.if_icmp .ne 5, 3) := by decide +kernel
theorem d2_54 : decode method_3_code 54 = .ok (.iconst 0, 1) := by decide +kernel
theorem d2_55 : decode method_3_code 55 = .ok (.ireturn, 1) := by decide +kernel
theorem d2_56 : decode method_3_code 56 = .ok (.iconst 1, 1) := by decide +kernel
theorem d2_57 : decode method_3_code 57 = .ok (.ireturn, 1) := by decide +kernel
theorem pn_rm2 : plainName "com/example/notewright/notewright/XmlLinesCarriesPinLaw" = true := by first | (simp [plainName, overriddenIn]; done) | decide +kernel
theorem ef_rm2 (m : MethodId) (p0 : Int32) : entryFrame m #[(.int p0)] 1 = mkF m 0 #[.val (.int p0)] [] := by first | (simp [entryFrame, mkF, argsToLocals, Value.category]; done) | rfl
set_option maxRecDepth 65536 in
set_option maxHeartbeats 40000000 in
theorem rm2 (l : Launch) (Z : State) (a0 : Array Value) (hw : ∀ d ∈ tables_1, d.before a0 Z = true) (p0 : Int32)  (h0 : Heap) :
    own_Met l Z (⟨"com/example/notewright/notewright/XmlLinesCarriesPinLaw", "expected", "(I)Z"⟩ : MethodName) method_3_code 1 (some .boolean) [] ({ frames := 0, cells := 0, slots := 0, locals := 0 } : Room) #[(.int p0)] h0 0 0 (fun v h L => v = some (.int (own_b (decide (p0 = (9 : Int32) ∨ p0 = (10 : Int32) ∨ p0 = (13 : Int32) ∨ (¬ p0 < (32 : Int32) ∧ ¬ (55295 : Int32) < p0) ∨ (¬ p0 < (57344 : Int32) ∧ ¬ (65533 : Int32) < p0) ∨ ¬ p0 < (65536 : Int32))))) ∧ h = h0 ∧ L = []) := by
  refine own_met (plainFor_of_name pn_rm2) ?_
  intro p e s m below meth c s₁ Bd hml0 hZ X0 e0
  have hx := Bd.exec
  have hby := Bd.bytes
  have hml : c.maxLocals = 1 := hml0
  have hown : s.vm.findClass "com/example/notewright/notewright/XmlLinesCarriesPinLaw" = some m.cls := findClass_of_methodNamed Bd.named
  have hnm := (name_of_methodNamed Bd.named Bd.method).1
  refine own_cast (ef_rm2 m p0) ?_
  generalize hQQ : (fun (v : Option Value) (h : Heap) (L : List Loc) => v = some (.int (own_b (decide (p0 = (9 : Int32) ∨ p0 = (10 : Int32) ∨ p0 = (13 : Int32) ∨ (¬ p0 < (32 : Int32) ∧ ¬ (55295 : Int32) < p0) ∨ (¬ p0 < (57344 : Int32) ∧ ¬ (65533 : Int32) < p0) ∨ ¬ p0 < (65536 : Int32))))) ∧ h = h0 ∧ L = []) = QQ
  refine own_go (g' := (mkF m 1 #[.val (.int p0)] [(.int p0)])) (fun _ k => XS.iloadN X0.here hx rfl (hb hby d2_0) rfl k) ?_
  refine own_go (g' := (mkF m 3 #[.val (.int p0)] [(.int (9 : Int32)), (.int p0)])) (fun _ k => XS.bipush X0.here hx rfl (hb hby d2_1) k) ?_
  by_cases hc1 : p0 = (9 : Int32)
  ·
    refine own_go (g' := (mkF m 18 #[.val (.int p0)] [])) (fun _ k => XS.icmpYes X0.here hx rfl (pc0 := 3) (pc' := 18) rfl (hb hby d2_3) rfl (teq hc1).1 (by decide) (by decide) k) ?_
    refine own_go (g' := (mkF m 19 #[.val (.int p0)] [(.int (1 : Int32))])) (fun _ k => XS.iconst X0.here hx rfl (hb hby d2_18) k) ?_
    refine own_retN X0 hx .boolean Bd.returns Bd.notSynchronized (by simp) (hb hby d2_19) (by decide) (by decide) ?_
    show QQ _ s₁.heap _
    rw [e0]
    rw [← hQQ]
    have hv : own_b (decide (p0 = (9 : Int32) ∨ p0 = (10 : Int32) ∨ p0 = (13 : Int32) ∨ (¬ p0 < (32 : Int32) ∧ ¬ (55295 : Int32) < p0) ∨ (¬ p0 < (57344 : Int32) ∧ ¬ (65533 : Int32) < p0) ∨ ¬ p0 < (65536 : Int32))) = 1 := own_b_t (by simp only [decide_eq_true_eq, ← Int32.toInt_inj, ← Int64.toInt_inj, Int32.lt_iff_toInt_lt, Int64.lt_iff_toInt_lt, Int32.le_iff_toInt_le, Int64.le_iff_toInt_le, Int32.reduceToInt, Int64.reduceToInt] at hc1 ⊢; omega)
    exact ⟨by rw [hv]; rfl, rfl, rfl⟩
  ·
    refine own_go (g' := (mkF m 6 #[.val (.int p0)] [])) (fun _ k => XS.icmpNo X0.here hx rfl (hb hby d2_3) rfl (feq hc1).1 k) ?_
    refine own_go (g' := (mkF m 7 #[.val (.int p0)] [(.int p0)])) (fun _ k => XS.iloadN X0.here hx rfl (hb hby d2_6) rfl k) ?_
    refine own_go (g' := (mkF m 9 #[.val (.int p0)] [(.int (10 : Int32)), (.int p0)])) (fun _ k => XS.bipush X0.here hx rfl (hb hby d2_7) k) ?_
    by_cases hc2 : p0 = (10 : Int32)
    ·
      refine own_go (g' := (mkF m 18 #[.val (.int p0)] [])) (fun _ k => XS.icmpYes X0.here hx rfl (pc0 := 9) (pc' := 18) rfl (hb hby d2_9) rfl (teq hc2).1 (by decide) (by decide) k) ?_
      refine own_go (g' := (mkF m 19 #[.val (.int p0)] [(.int (1 : Int32))])) (fun _ k => XS.iconst X0.here hx rfl (hb hby d2_18) k) ?_
      refine own_retN X0 hx .boolean Bd.returns Bd.notSynchronized (by simp) (hb hby d2_19) (by decide) (by decide) ?_
      show QQ _ s₁.heap _
      rw [e0]
      rw [← hQQ]
      have hv : own_b (decide (p0 = (9 : Int32) ∨ p0 = (10 : Int32) ∨ p0 = (13 : Int32) ∨ (¬ p0 < (32 : Int32) ∧ ¬ (55295 : Int32) < p0) ∨ (¬ p0 < (57344 : Int32) ∧ ¬ (65533 : Int32) < p0) ∨ ¬ p0 < (65536 : Int32))) = 1 := own_b_t (by simp only [decide_eq_true_eq, ← Int32.toInt_inj, ← Int64.toInt_inj, Int32.lt_iff_toInt_lt, Int64.lt_iff_toInt_lt, Int32.le_iff_toInt_le, Int64.le_iff_toInt_le, Int32.reduceToInt, Int64.reduceToInt] at hc1 hc2 ⊢; omega)
      exact ⟨by rw [hv]; rfl, rfl, rfl⟩
    ·
      refine own_go (g' := (mkF m 12 #[.val (.int p0)] [])) (fun _ k => XS.icmpNo X0.here hx rfl (hb hby d2_9) rfl (feq hc2).1 k) ?_
      refine own_go (g' := (mkF m 13 #[.val (.int p0)] [(.int p0)])) (fun _ k => XS.iloadN X0.here hx rfl (hb hby d2_12) rfl k) ?_
      refine own_go (g' := (mkF m 15 #[.val (.int p0)] [(.int (13 : Int32)), (.int p0)])) (fun _ k => XS.bipush X0.here hx rfl (hb hby d2_13) k) ?_
      by_cases hc3 : p0 = (13 : Int32)
      ·
        refine own_go (g' := (mkF m 18 #[.val (.int p0)] [])) (fun _ k => XS.icmpNo X0.here hx rfl (hb hby d2_15) rfl (teq hc3).2 k) ?_
        refine own_go (g' := (mkF m 19 #[.val (.int p0)] [(.int (1 : Int32))])) (fun _ k => XS.iconst X0.here hx rfl (hb hby d2_18) k) ?_
        refine own_retN X0 hx .boolean Bd.returns Bd.notSynchronized (by simp) (hb hby d2_19) (by decide) (by decide) ?_
        show QQ _ s₁.heap _
        rw [e0]
        rw [← hQQ]
        have hv : own_b (decide (p0 = (9 : Int32) ∨ p0 = (10 : Int32) ∨ p0 = (13 : Int32) ∨ (¬ p0 < (32 : Int32) ∧ ¬ (55295 : Int32) < p0) ∨ (¬ p0 < (57344 : Int32) ∧ ¬ (65533 : Int32) < p0) ∨ ¬ p0 < (65536 : Int32))) = 1 := own_b_t (by simp only [decide_eq_true_eq, ← Int32.toInt_inj, ← Int64.toInt_inj, Int32.lt_iff_toInt_lt, Int64.lt_iff_toInt_lt, Int32.le_iff_toInt_le, Int64.le_iff_toInt_le, Int32.reduceToInt, Int64.reduceToInt] at hc1 hc2 hc3 ⊢; omega)
        exact ⟨by rw [hv]; rfl, rfl, rfl⟩
      ·
        refine own_go (g' := (mkF m 20 #[.val (.int p0)] [])) (fun _ k => XS.icmpYes X0.here hx rfl (pc0 := 15) (pc' := 20) rfl (hb hby d2_15) rfl (feq hc3).2 (by decide) (by decide) k) ?_
        refine own_go (g' := (mkF m 21 #[.val (.int p0)] [(.int p0)])) (fun _ k => XS.iloadN X0.here hx rfl (hb hby d2_20) rfl k) ?_
        refine own_go (g' := (mkF m 23 #[.val (.int p0)] [(.int (32 : Int32)), (.int p0)])) (fun _ k => XS.bipush X0.here hx rfl (hb hby d2_21) k) ?_
        by_cases hc4 : p0 < (32 : Int32)
        ·
          refine own_go (g' := (mkF m 26 #[.val (.int p0)] [])) (fun _ k => XS.icmpNo X0.here hx rfl (hb hby d2_23) rfl (tlt hc4).2.1 k) ?_
          refine own_go (g' := (mkF m 27 #[.val (.int p0)] [(.int (0 : Int32))])) (fun _ k => XS.iconst X0.here hx rfl (hb hby d2_26) k) ?_
          refine own_retN X0 hx .boolean Bd.returns Bd.notSynchronized (by simp) (hb hby d2_27) (by decide) (by decide) ?_
          show QQ _ s₁.heap _
          rw [e0]
          rw [← hQQ]
          have hv : own_b (decide (p0 = (9 : Int32) ∨ p0 = (10 : Int32) ∨ p0 = (13 : Int32) ∨ (¬ p0 < (32 : Int32) ∧ ¬ (55295 : Int32) < p0) ∨ (¬ p0 < (57344 : Int32) ∧ ¬ (65533 : Int32) < p0) ∨ ¬ p0 < (65536 : Int32))) = 0 := own_b_f (by simp only [decide_eq_true_eq, ← Int32.toInt_inj, ← Int64.toInt_inj, Int32.lt_iff_toInt_lt, Int64.lt_iff_toInt_lt, Int32.le_iff_toInt_le, Int64.le_iff_toInt_le, Int32.reduceToInt, Int64.reduceToInt] at hc1 hc2 hc3 hc4 ⊢; omega)
          exact ⟨by rw [hv]; rfl, rfl, rfl⟩
        ·
          refine own_go (g' := (mkF m 28 #[.val (.int p0)] [])) (fun _ k => XS.icmpYes X0.here hx rfl (pc0 := 23) (pc' := 28) rfl (hb hby d2_23) rfl (flt hc4).2.1 (by decide) (by decide) k) ?_
          refine own_go (g' := (mkF m 29 #[.val (.int p0)] [(.int p0)])) (fun _ k => XS.iloadN X0.here hx rfl (hb hby d2_28) rfl k) ?_
          refine own_go (g' := (mkF m 31 #[.val (.int p0)] [(.int (55296 : Int32)), (.int p0)])) (X0.ldcInt hx hown (mvT hZ (hw _ (List.mem_of_getElem? (i := 2) rfl))) (g := (mkF m 29 #[.val (.int p0)] [(.int p0)])) rfl (hb hby d2_29)) ?_
          by_cases hc5 : p0 < (55296 : Int32)
          ·
            refine own_go (g' := (mkF m 42 #[.val (.int p0)] [])) (fun _ k => XS.icmpYes X0.here hx rfl (pc0 := 31) (pc' := 42) rfl (hb hby d2_31) rfl (tlt hc5).1 (by decide) (by decide) k) ?_
            refine own_go (g' := (mkF m 43 #[.val (.int p0)] [(.int p0)])) (fun _ k => XS.iloadN X0.here hx rfl (hb hby d2_42) rfl k) ?_
            refine own_go (g' := (mkF m 45 #[.val (.int p0)] [(.int (65534 : Int32)), (.int p0)])) (X0.ldcInt hx hown (mvT hZ (hw _ (List.mem_of_getElem? (i := 6) rfl))) (g := (mkF m 43 #[.val (.int p0)] [(.int p0)])) rfl (hb hby d2_43)) ?_
            by_cases hc6 : p0 = (65534 : Int32)
            ·
              refine own_go (g' := (mkF m 54 #[.val (.int p0)] [])) (fun _ k => XS.icmpYes X0.here hx rfl (pc0 := 45) (pc' := 54) rfl (hb hby d2_45) rfl (teq hc6).1 (by decide) (by decide) k) ?_
              refine own_go (g' := (mkF m 55 #[.val (.int p0)] [(.int (0 : Int32))])) (fun _ k => XS.iconst X0.here hx rfl (hb hby d2_54) k) ?_
              refine own_retN X0 hx .boolean Bd.returns Bd.notSynchronized (by simp) (hb hby d2_55) (by decide) (by decide) ?_
              show QQ _ s₁.heap _
              rw [e0]
              rw [← hQQ]
              have hv : own_b (decide (p0 = (9 : Int32) ∨ p0 = (10 : Int32) ∨ p0 = (13 : Int32) ∨ (¬ p0 < (32 : Int32) ∧ ¬ (55295 : Int32) < p0) ∨ (¬ p0 < (57344 : Int32) ∧ ¬ (65533 : Int32) < p0) ∨ ¬ p0 < (65536 : Int32))) = 0 := own_b_f (by simp only [decide_eq_true_eq, ← Int32.toInt_inj, ← Int64.toInt_inj, Int32.lt_iff_toInt_lt, Int64.lt_iff_toInt_lt, Int32.le_iff_toInt_le, Int64.le_iff_toInt_le, Int32.reduceToInt, Int64.reduceToInt] at hc1 hc2 hc3 hc4 hc5 hc6 ⊢; omega)
              exact ⟨by rw [hv]; rfl, rfl, rfl⟩
            ·
              refine own_go (g' := (mkF m 48 #[.val (.int p0)] [])) (fun _ k => XS.icmpNo X0.here hx rfl (hb hby d2_45) rfl (feq hc6).1 k) ?_
              refine own_go (g' := (mkF m 49 #[.val (.int p0)] [(.int p0)])) (fun _ k => XS.iloadN X0.here hx rfl (hb hby d2_48) rfl k) ?_
              refine own_go (g' := (mkF m 51 #[.val (.int p0)] [(.int (65535 : Int32)), (.int p0)])) (X0.ldcInt hx hown (mvT hZ (hw _ (List.mem_of_getElem? (i := 7) rfl))) (g := (mkF m 49 #[.val (.int p0)] [(.int p0)])) rfl (hb hby d2_49)) ?_
              by_cases hc7 : p0 = (65535 : Int32)
              ·
                refine own_go (g' := (mkF m 54 #[.val (.int p0)] [])) (fun _ k => XS.icmpNo X0.here hx rfl (hb hby d2_51) rfl (teq hc7).2 k) ?_
                refine own_go (g' := (mkF m 55 #[.val (.int p0)] [(.int (0 : Int32))])) (fun _ k => XS.iconst X0.here hx rfl (hb hby d2_54) k) ?_
                refine own_retN X0 hx .boolean Bd.returns Bd.notSynchronized (by simp) (hb hby d2_55) (by decide) (by decide) ?_
                show QQ _ s₁.heap _
                rw [e0]
                rw [← hQQ]
                have hv : own_b (decide (p0 = (9 : Int32) ∨ p0 = (10 : Int32) ∨ p0 = (13 : Int32) ∨ (¬ p0 < (32 : Int32) ∧ ¬ (55295 : Int32) < p0) ∨ (¬ p0 < (57344 : Int32) ∧ ¬ (65533 : Int32) < p0) ∨ ¬ p0 < (65536 : Int32))) = 0 := own_b_f (by simp only [decide_eq_true_eq, ← Int32.toInt_inj, ← Int64.toInt_inj, Int32.lt_iff_toInt_lt, Int64.lt_iff_toInt_lt, Int32.le_iff_toInt_le, Int64.le_iff_toInt_le, Int32.reduceToInt, Int64.reduceToInt] at hc1 hc2 hc3 hc4 hc5 hc6 hc7 ⊢; omega)
                exact ⟨by rw [hv]; rfl, rfl, rfl⟩
              ·
                refine own_go (g' := (mkF m 56 #[.val (.int p0)] [])) (fun _ k => XS.icmpYes X0.here hx rfl (pc0 := 51) (pc' := 56) rfl (hb hby d2_51) rfl (feq hc7).2 (by decide) (by decide) k) ?_
                refine own_go (g' := (mkF m 57 #[.val (.int p0)] [(.int (1 : Int32))])) (fun _ k => XS.iconst X0.here hx rfl (hb hby d2_56) k) ?_
                refine own_retN X0 hx .boolean Bd.returns Bd.notSynchronized (by simp) (hb hby d2_57) (by decide) (by decide) ?_
                show QQ _ s₁.heap _
                rw [e0]
                rw [← hQQ]
                have hv : own_b (decide (p0 = (9 : Int32) ∨ p0 = (10 : Int32) ∨ p0 = (13 : Int32) ∨ (¬ p0 < (32 : Int32) ∧ ¬ (55295 : Int32) < p0) ∨ (¬ p0 < (57344 : Int32) ∧ ¬ (65533 : Int32) < p0) ∨ ¬ p0 < (65536 : Int32))) = 1 := own_b_t (by simp only [decide_eq_true_eq, ← Int32.toInt_inj, ← Int64.toInt_inj, Int32.lt_iff_toInt_lt, Int64.lt_iff_toInt_lt, Int32.le_iff_toInt_le, Int64.le_iff_toInt_le, Int32.reduceToInt, Int64.reduceToInt] at hc1 hc2 hc3 hc4 hc5 hc6 hc7 ⊢; omega)
                exact ⟨by rw [hv]; rfl, rfl, rfl⟩
          ·
            refine own_go (g' := (mkF m 34 #[.val (.int p0)] [])) (fun _ k => XS.icmpNo X0.here hx rfl (hb hby d2_31) rfl (flt hc5).1 k) ?_
            refine own_go (g' := (mkF m 35 #[.val (.int p0)] [(.int p0)])) (fun _ k => XS.iloadN X0.here hx rfl (hb hby d2_34) rfl k) ?_
            refine own_go (g' := (mkF m 37 #[.val (.int p0)] [(.int (57343 : Int32)), (.int p0)])) (X0.ldcInt hx hown (mvT hZ (hw _ (List.mem_of_getElem? (i := 3) rfl))) (g := (mkF m 35 #[.val (.int p0)] [(.int p0)])) rfl (hb hby d2_35)) ?_
            by_cases hc8 : (57343 : Int32) < p0
            ·
              refine own_go (g' := (mkF m 42 #[.val (.int p0)] [])) (fun _ k => XS.icmpYes X0.here hx rfl (pc0 := 37) (pc' := 42) rfl (hb hby d2_37) rfl (tlt hc8).2.2.1 (by decide) (by decide) k) ?_
              refine own_go (g' := (mkF m 43 #[.val (.int p0)] [(.int p0)])) (fun _ k => XS.iloadN X0.here hx rfl (hb hby d2_42) rfl k) ?_
              refine own_go (g' := (mkF m 45 #[.val (.int p0)] [(.int (65534 : Int32)), (.int p0)])) (X0.ldcInt hx hown (mvT hZ (hw _ (List.mem_of_getElem? (i := 6) rfl))) (g := (mkF m 43 #[.val (.int p0)] [(.int p0)])) rfl (hb hby d2_43)) ?_
              by_cases hc9 : p0 = (65534 : Int32)
              ·
                refine own_go (g' := (mkF m 54 #[.val (.int p0)] [])) (fun _ k => XS.icmpYes X0.here hx rfl (pc0 := 45) (pc' := 54) rfl (hb hby d2_45) rfl (teq hc9).1 (by decide) (by decide) k) ?_
                refine own_go (g' := (mkF m 55 #[.val (.int p0)] [(.int (0 : Int32))])) (fun _ k => XS.iconst X0.here hx rfl (hb hby d2_54) k) ?_
                refine own_retN X0 hx .boolean Bd.returns Bd.notSynchronized (by simp) (hb hby d2_55) (by decide) (by decide) ?_
                show QQ _ s₁.heap _
                rw [e0]
                rw [← hQQ]
                have hv : own_b (decide (p0 = (9 : Int32) ∨ p0 = (10 : Int32) ∨ p0 = (13 : Int32) ∨ (¬ p0 < (32 : Int32) ∧ ¬ (55295 : Int32) < p0) ∨ (¬ p0 < (57344 : Int32) ∧ ¬ (65533 : Int32) < p0) ∨ ¬ p0 < (65536 : Int32))) = 0 := own_b_f (by simp only [decide_eq_true_eq, ← Int32.toInt_inj, ← Int64.toInt_inj, Int32.lt_iff_toInt_lt, Int64.lt_iff_toInt_lt, Int32.le_iff_toInt_le, Int64.le_iff_toInt_le, Int32.reduceToInt, Int64.reduceToInt] at hc1 hc2 hc3 hc4 hc5 hc8 hc9 ⊢; omega)
                exact ⟨by rw [hv]; rfl, rfl, rfl⟩
              ·
                refine own_go (g' := (mkF m 48 #[.val (.int p0)] [])) (fun _ k => XS.icmpNo X0.here hx rfl (hb hby d2_45) rfl (feq hc9).1 k) ?_
                refine own_go (g' := (mkF m 49 #[.val (.int p0)] [(.int p0)])) (fun _ k => XS.iloadN X0.here hx rfl (hb hby d2_48) rfl k) ?_
                refine own_go (g' := (mkF m 51 #[.val (.int p0)] [(.int (65535 : Int32)), (.int p0)])) (X0.ldcInt hx hown (mvT hZ (hw _ (List.mem_of_getElem? (i := 7) rfl))) (g := (mkF m 49 #[.val (.int p0)] [(.int p0)])) rfl (hb hby d2_49)) ?_
                by_cases hc10 : p0 = (65535 : Int32)
                ·
                  refine own_go (g' := (mkF m 54 #[.val (.int p0)] [])) (fun _ k => XS.icmpNo X0.here hx rfl (hb hby d2_51) rfl (teq hc10).2 k) ?_
                  refine own_go (g' := (mkF m 55 #[.val (.int p0)] [(.int (0 : Int32))])) (fun _ k => XS.iconst X0.here hx rfl (hb hby d2_54) k) ?_
                  refine own_retN X0 hx .boolean Bd.returns Bd.notSynchronized (by simp) (hb hby d2_55) (by decide) (by decide) ?_
                  show QQ _ s₁.heap _
                  rw [e0]
                  rw [← hQQ]
                  have hv : own_b (decide (p0 = (9 : Int32) ∨ p0 = (10 : Int32) ∨ p0 = (13 : Int32) ∨ (¬ p0 < (32 : Int32) ∧ ¬ (55295 : Int32) < p0) ∨ (¬ p0 < (57344 : Int32) ∧ ¬ (65533 : Int32) < p0) ∨ ¬ p0 < (65536 : Int32))) = 0 := own_b_f (by simp only [decide_eq_true_eq, ← Int32.toInt_inj, ← Int64.toInt_inj, Int32.lt_iff_toInt_lt, Int64.lt_iff_toInt_lt, Int32.le_iff_toInt_le, Int64.le_iff_toInt_le, Int32.reduceToInt, Int64.reduceToInt] at hc1 hc2 hc3 hc4 hc5 hc8 hc9 hc10 ⊢; omega)
                  exact ⟨by rw [hv]; rfl, rfl, rfl⟩
                ·
                  refine own_go (g' := (mkF m 56 #[.val (.int p0)] [])) (fun _ k => XS.icmpYes X0.here hx rfl (pc0 := 51) (pc' := 56) rfl (hb hby d2_51) rfl (feq hc10).2 (by decide) (by decide) k) ?_
                  refine own_go (g' := (mkF m 57 #[.val (.int p0)] [(.int (1 : Int32))])) (fun _ k => XS.iconst X0.here hx rfl (hb hby d2_56) k) ?_
                  refine own_retN X0 hx .boolean Bd.returns Bd.notSynchronized (by simp) (hb hby d2_57) (by decide) (by decide) ?_
                  show QQ _ s₁.heap _
                  rw [e0]
                  rw [← hQQ]
                  have hv : own_b (decide (p0 = (9 : Int32) ∨ p0 = (10 : Int32) ∨ p0 = (13 : Int32) ∨ (¬ p0 < (32 : Int32) ∧ ¬ (55295 : Int32) < p0) ∨ (¬ p0 < (57344 : Int32) ∧ ¬ (65533 : Int32) < p0) ∨ ¬ p0 < (65536 : Int32))) = 1 := own_b_t (by simp only [decide_eq_true_eq, ← Int32.toInt_inj, ← Int64.toInt_inj, Int32.lt_iff_toInt_lt, Int64.lt_iff_toInt_lt, Int32.le_iff_toInt_le, Int64.le_iff_toInt_le, Int32.reduceToInt, Int64.reduceToInt] at hc1 hc2 hc3 hc4 hc5 hc8 hc9 hc10 ⊢; omega)
                  exact ⟨by rw [hv]; rfl, rfl, rfl⟩
            ·
              refine own_go (g' := (mkF m 40 #[.val (.int p0)] [])) (fun _ k => XS.icmpNo X0.here hx rfl (hb hby d2_37) rfl (flt hc8).2.2.1 k) ?_
              refine own_go (g' := (mkF m 41 #[.val (.int p0)] [(.int (0 : Int32))])) (fun _ k => XS.iconst X0.here hx rfl (hb hby d2_40) k) ?_
              refine own_retN X0 hx .boolean Bd.returns Bd.notSynchronized (by simp) (hb hby d2_41) (by decide) (by decide) ?_
              show QQ _ s₁.heap _
              rw [e0]
              rw [← hQQ]
              have hv : own_b (decide (p0 = (9 : Int32) ∨ p0 = (10 : Int32) ∨ p0 = (13 : Int32) ∨ (¬ p0 < (32 : Int32) ∧ ¬ (55295 : Int32) < p0) ∨ (¬ p0 < (57344 : Int32) ∧ ¬ (65533 : Int32) < p0) ∨ ¬ p0 < (65536 : Int32))) = 0 := own_b_f (by simp only [decide_eq_true_eq, ← Int32.toInt_inj, ← Int64.toInt_inj, Int32.lt_iff_toInt_lt, Int64.lt_iff_toInt_lt, Int32.le_iff_toInt_le, Int64.le_iff_toInt_le, Int32.reduceToInt, Int64.reduceToInt] at hc1 hc2 hc3 hc4 hc5 hc8 ⊢; omega)
              exact ⟨by rw [hv]; rfl, rfl, rfl⟩
theorem pn_rm0 : plainName "com/example/notewright/notewright/XmlLinesCarriesPinLaw" = true := by first | (simp [plainName, overriddenIn]; done) | decide +kernel
theorem pd0_0 : parseMethodDescriptor "(I)Z" = some ⟨[.int], some .boolean⟩ := by decide +kernel
theorem ef_rm0 (m : MethodId) (p0 : Int32) (p1 : Int32) (p2 : Int32) : entryFrame m #[(.int p0), (.int p1), (.int p2)] maxLocals = mkF m 0 #[.val (.int p0), .val (.int p1), .val (.int p2), .unset, .unset, .unset, .unset] [] := by first | (simp [entryFrame, mkF, argsToLocals, Value.category, maxLocals]; done) | rfl
set_option maxRecDepth 65536 in
set_option maxHeartbeats 40000000 in
theorem rm0 (l : Launch) (Z : State) (a0 : Array Value) (hw : ∀ d ∈ tables_1, d.before a0 Z = true) (p0 : Int32) (p1 : Int32) (p2 : Int32)  (h0 : Heap) (n0 : Nat) (Z0 : n0 ≤ h0.size) :
    own_Met l Z x code maxLocals ret tables_1 room_1 #[(.int p0), (.int p1), (.int p2)] h0 16 128 (fun v h L => v = some (.int 1) ∧ Fr n0 L) := by
  refine own_met (plainFor_of_name pn_rm0) ?_
  intro p e s m below meth c s₁ Bd hml0 hZ X0 e0
  have hx := Bd.exec
  have hby := Bd.bytes
  have hml : c.maxLocals = 7 := hml0
  have hown : s.vm.findClass "com/example/notewright/notewright/XmlLinesCarriesPinLaw" = some m.cls := findClass_of_methodNamed Bd.named
  have hnm := (name_of_methodNamed Bd.named Bd.method).1
  refine own_cast (ef_rm0 m p0 p1 p2) ?_
  generalize hQQ : (fun (v : Option Value) (h : Heap) (L : List Loc) => v = some (.int 1) ∧ Fr n0 L) = QQ
  have N0 := Fr.nil n0
  refine own_go (g' := (mkF m 2 #[.val (.int p0), .val (.int p1), .val (.int p2), .unset, .unset, .unset, .unset] [(.int (16 : Int32))])) (fun _ k => XS.bipush X0.here hx rfl (hb hby at_0) k) ?_
  obtain ⟨T1, h1, k1, X1, e1, E1, A1, st1⟩ := newP X0 hx hZ (hw _ (List.mem_of_getElem? (i := 0) rfl)) e0 (g := (mkF m 2 #[.val (.int p0), .val (.int p1), .val (.int p2), .unset, .unset, .unset, .unset] [(.int (16 : Int32))])) rfl (hb hby at_2) rfl (by decide) (cap := 16) (by decide) (by decide) (by decide) (by decide)
  obtain ⟨b1, g1⟩ : ∃ z, z = h0.size := ⟨_, rfl⟩
  rw [← g1] at A1 st1
  have ge_b1 : n0 ≤ b1 := by rw [g1]; exact Z0
  have Z1 : n0 ≤ h1.size := Nat.le_trans Z0 E1.1
  have V1 : Arv Z h1 b1 k1 .int (16 : Int32) [(.int (0 : Int32)), (.int (0 : Int32)), (.int (0 : Int32)), (.int (0 : Int32)), (.int (0 : Int32)), (.int (0 : Int32)), (.int (0 : Int32)), (.int (0 : Int32)), (.int (0 : Int32)), (.int (0 : Int32)), (.int (0 : Int32)), (.int (0 : Int32)), (.int (0 : Int32)), (.int (0 : Int32)), (.int (0 : Int32)), (.int (0 : Int32))] (.int (0 : Int32)) := (Arv.new A1 (by decide)).pad (pad_rep [] (.int (0 : Int32)) 16)
  refine own_go (g' := (mkF m 4 #[.val (.int p0), .val (.int p1), .val (.int p2), .unset, .unset, .unset, .unset] [(.ref b1)])) (st1) ?_
  refine own_go (g' := (mkF m 5 #[.val (.int p0), .val (.int p1), .val (.int p2), .unset, .unset, .unset, .unset] [(.ref b1), (.ref b1)])) (fun _ k => XS.dup X1.here hx rfl (hb hby at_4) rfl rfl k) ?_
  refine own_go (g' := (mkF m 6 #[.val (.int p0), .val (.int p1), .val (.int p2), .unset, .unset, .unset, .unset] [(.int (0 : Int32)), (.ref b1), (.ref b1)])) (fun _ k => XS.iconst X1.here hx rfl (hb hby at_5) k) ?_
  refine own_go (g' := (mkF m 7 #[.val (.int p0), .val (.int p1), .val (.int p2), .unset, .unset, .unset, .unset] [(.int (0 : Int32)), (.int (0 : Int32)), (.ref b1), (.ref b1)])) (fun _ k => XS.iconst X1.here hx rfl (hb hby at_6) k) ?_
  obtain ⟨cl2, Ar2, qk2, sz2, nn2, Hs2, Gs2⟩ := id V1
  have hin2 : ¬ ((0 : Int32) < 0 ∨ cl2.slots.size ≤ ((0 : Int32)).toNatClampNeg) := inb_of sz2 ⟨by decide, by decide⟩
  obtain ⟨T2, h2, X2, e2, W2, st2⟩ := stI X1 hx hZ e1 Ar2 (j := (0 : Int32)) hin2 (g := (mkF m 7 #[.val (.int p0), .val (.int p1), .val (.int p2), .unset, .unset, .unset, .unset] [(.int (0 : Int32)), (.int (0 : Int32)), (.ref b1), (.ref b1)])) rfl rfl (hb hby at_7)
  have V2 : Arv Z h2 b1 k1 .int (16 : Int32) [(.int (0 : Int32)), (.int (0 : Int32)), (.int (0 : Int32)), (.int (0 : Int32)), (.int (0 : Int32)), (.int (0 : Int32)), (.int (0 : Int32)), (.int (0 : Int32)), (.int (0 : Int32)), (.int (0 : Int32)), (.int (0 : Int32)), (.int (0 : Int32)), (.int (0 : Int32)), (.int (0 : Int32)), (.int (0 : Int32)), (.int (0 : Int32))] (.int (0 : Int32)) := Arv.set Ar2 qk2 sz2 nn2 Hs2 Gs2 rfl W2 0 rfl (Nat.le_of_ble_eq_true rfl)
  have N2 := Fr.snoc X2 N0 ge_b1
  have Z2 : n0 ≤ h2.size := by rw [W2.size]; exact Z1
  refine own_go (g' := (mkF m 8 #[.val (.int p0), .val (.int p1), .val (.int p2), .unset, .unset, .unset, .unset] [(.ref b1)])) (st2) ?_
  refine own_go (g' := (mkF m 9 #[.val (.int p0), .val (.int p1), .val (.int p2), .unset, .unset, .unset, .unset] [(.ref b1), (.ref b1)])) (fun _ k => XS.dup X2.here hx rfl (hb hby at_8) rfl rfl k) ?_
  refine own_go (g' := (mkF m 10 #[.val (.int p0), .val (.int p1), .val (.int p2), .unset, .unset, .unset, .unset] [(.int (1 : Int32)), (.ref b1), (.ref b1)])) (fun _ k => XS.iconst X2.here hx rfl (hb hby at_9) k) ?_
  refine own_go (g' := (mkF m 12 #[.val (.int p0), .val (.int p1), .val (.int p2), .unset, .unset, .unset, .unset] [(.int (9 : Int32)), (.int (1 : Int32)), (.ref b1), (.ref b1)])) (fun _ k => XS.bipush X2.here hx rfl (hb hby at_10) k) ?_
  obtain ⟨cl3, Ar3, qk3, sz3, nn3, Hs3, Gs3⟩ := id V2
  have hin3 : ¬ ((1 : Int32) < 0 ∨ cl3.slots.size ≤ ((1 : Int32)).toNatClampNeg) := inb_of sz3 ⟨by decide, by decide⟩
  obtain ⟨T3, h3, X3, e3, W3, st3⟩ := stI X2 hx hZ e2 Ar3 (j := (1 : Int32)) hin3 (g := (mkF m 12 #[.val (.int p0), .val (.int p1), .val (.int p2), .unset, .unset, .unset, .unset] [(.int (9 : Int32)), (.int (1 : Int32)), (.ref b1), (.ref b1)])) rfl rfl (hb hby at_12)
  have V3 : Arv Z h3 b1 k1 .int (16 : Int32) [(.int (0 : Int32)), (.int (9 : Int32)), (.int (0 : Int32)), (.int (0 : Int32)), (.int (0 : Int32)), (.int (0 : Int32)), (.int (0 : Int32)), (.int (0 : Int32)), (.int (0 : Int32)), (.int (0 : Int32)), (.int (0 : Int32)), (.int (0 : Int32)), (.int (0 : Int32)), (.int (0 : Int32)), (.int (0 : Int32)), (.int (0 : Int32))] (.int (0 : Int32)) := Arv.set Ar3 qk3 sz3 nn3 Hs3 Gs3 rfl W3 1 rfl (Nat.le_of_ble_eq_true rfl)
  have N3 := Fr.snoc X3 N2 ge_b1
  have Z3 : n0 ≤ h3.size := by rw [W3.size]; exact Z2
  refine own_go (g' := (mkF m 13 #[.val (.int p0), .val (.int p1), .val (.int p2), .unset, .unset, .unset, .unset] [(.ref b1)])) (st3) ?_
  refine own_go (g' := (mkF m 14 #[.val (.int p0), .val (.int p1), .val (.int p2), .unset, .unset, .unset, .unset] [(.ref b1), (.ref b1)])) (fun _ k => XS.dup X3.here hx rfl (hb hby at_13) rfl rfl k) ?_
  refine own_go (g' := (mkF m 15 #[.val (.int p0), .val (.int p1), .val (.int p2), .unset, .unset, .unset, .unset] [(.int (2 : Int32)), (.ref b1), (.ref b1)])) (fun _ k => XS.iconst X3.here hx rfl (hb hby at_14) k) ?_
  refine own_go (g' := (mkF m 17 #[.val (.int p0), .val (.int p1), .val (.int p2), .unset, .unset, .unset, .unset] [(.int (10 : Int32)), (.int (2 : Int32)), (.ref b1), (.ref b1)])) (fun _ k => XS.bipush X3.here hx rfl (hb hby at_15) k) ?_
  obtain ⟨cl4, Ar4, qk4, sz4, nn4, Hs4, Gs4⟩ := id V3
  have hin4 : ¬ ((2 : Int32) < 0 ∨ cl4.slots.size ≤ ((2 : Int32)).toNatClampNeg) := inb_of sz4 ⟨by decide, by decide⟩
  obtain ⟨T4, h4, X4, e4, W4, st4⟩ := stI X3 hx hZ e3 Ar4 (j := (2 : Int32)) hin4 (g := (mkF m 17 #[.val (.int p0), .val (.int p1), .val (.int p2), .unset, .unset, .unset, .unset] [(.int (10 : Int32)), (.int (2 : Int32)), (.ref b1), (.ref b1)])) rfl rfl (hb hby at_17)
  have V4 : Arv Z h4 b1 k1 .int (16 : Int32) [(.int (0 : Int32)), (.int (9 : Int32)), (.int (10 : Int32)), (.int (0 : Int32)), (.int (0 : Int32)), (.int (0 : Int32)), (.int (0 : Int32)), (.int (0 : Int32)), (.int (0 : Int32)), (.int (0 : Int32)), (.int (0 : Int32)), (.int (0 : Int32)), (.int (0 : Int32)), (.int (0 : Int32)), (.int (0 : Int32)), (.int (0 : Int32))] (.int (0 : Int32)) := Arv.set Ar4 qk4 sz4 nn4 Hs4 Gs4 rfl W4 2 rfl (Nat.le_of_ble_eq_true rfl)
  have N4 := Fr.snoc X4 N3 ge_b1
  have Z4 : n0 ≤ h4.size := by rw [W4.size]; exact Z3
  refine own_go (g' := (mkF m 18 #[.val (.int p0), .val (.int p1), .val (.int p2), .unset, .unset, .unset, .unset] [(.ref b1)])) (st4) ?_
  refine own_go (g' := (mkF m 19 #[.val (.int p0), .val (.int p1), .val (.int p2), .unset, .unset, .unset, .unset] [(.ref b1), (.ref b1)])) (fun _ k => XS.dup X4.here hx rfl (hb hby at_18) rfl rfl k) ?_
  refine own_go (g' := (mkF m 20 #[.val (.int p0), .val (.int p1), .val (.int p2), .unset, .unset, .unset, .unset] [(.int (3 : Int32)), (.ref b1), (.ref b1)])) (fun _ k => XS.iconst X4.here hx rfl (hb hby at_19) k) ?_
  refine own_go (g' := (mkF m 22 #[.val (.int p0), .val (.int p1), .val (.int p2), .unset, .unset, .unset, .unset] [(.int (13 : Int32)), (.int (3 : Int32)), (.ref b1), (.ref b1)])) (fun _ k => XS.bipush X4.here hx rfl (hb hby at_20) k) ?_
  obtain ⟨cl5, Ar5, qk5, sz5, nn5, Hs5, Gs5⟩ := id V4
  have hin5 : ¬ ((3 : Int32) < 0 ∨ cl5.slots.size ≤ ((3 : Int32)).toNatClampNeg) := inb_of sz5 ⟨by decide, by decide⟩
  obtain ⟨T5, h5, X5, e5, W5, st5⟩ := stI X4 hx hZ e4 Ar5 (j := (3 : Int32)) hin5 (g := (mkF m 22 #[.val (.int p0), .val (.int p1), .val (.int p2), .unset, .unset, .unset, .unset] [(.int (13 : Int32)), (.int (3 : Int32)), (.ref b1), (.ref b1)])) rfl rfl (hb hby at_22)
  have V5 : Arv Z h5 b1 k1 .int (16 : Int32) [(.int (0 : Int32)), (.int (9 : Int32)), (.int (10 : Int32)), (.int (13 : Int32)), (.int (0 : Int32)), (.int (0 : Int32)), (.int (0 : Int32)), (.int (0 : Int32)), (.int (0 : Int32)), (.int (0 : Int32)), (.int (0 : Int32)), (.int (0 : Int32)), (.int (0 : Int32)), (.int (0 : Int32)), (.int (0 : Int32)), (.int (0 : Int32))] (.int (0 : Int32)) := Arv.set Ar5 qk5 sz5 nn5 Hs5 Gs5 rfl W5 3 rfl (Nat.le_of_ble_eq_true rfl)
  have N5 := Fr.snoc X5 N4 ge_b1
  have Z5 : n0 ≤ h5.size := by rw [W5.size]; exact Z4
  refine own_go (g' := (mkF m 23 #[.val (.int p0), .val (.int p1), .val (.int p2), .unset, .unset, .unset, .unset] [(.ref b1)])) (st5) ?_
  refine own_go (g' := (mkF m 24 #[.val (.int p0), .val (.int p1), .val (.int p2), .unset, .unset, .unset, .unset] [(.ref b1), (.ref b1)])) (fun _ k => XS.dup X5.here hx rfl (hb hby at_23) rfl rfl k) ?_
  refine own_go (g' := (mkF m 25 #[.val (.int p0), .val (.int p1), .val (.int p2), .unset, .unset, .unset, .unset] [(.int (4 : Int32)), (.ref b1), (.ref b1)])) (fun _ k => XS.iconst X5.here hx rfl (hb hby at_24) k) ?_
  refine own_go (g' := (mkF m 27 #[.val (.int p0), .val (.int p1), .val (.int p2), .unset, .unset, .unset, .unset] [(.int (32 : Int32)), (.int (4 : Int32)), (.ref b1), (.ref b1)])) (fun _ k => XS.bipush X5.here hx rfl (hb hby at_25) k) ?_
  obtain ⟨cl6, Ar6, qk6, sz6, nn6, Hs6, Gs6⟩ := id V5
  have hin6 : ¬ ((4 : Int32) < 0 ∨ cl6.slots.size ≤ ((4 : Int32)).toNatClampNeg) := inb_of sz6 ⟨by decide, by decide⟩
  obtain ⟨T6, h6, X6, e6, W6, st6⟩ := stI X5 hx hZ e5 Ar6 (j := (4 : Int32)) hin6 (g := (mkF m 27 #[.val (.int p0), .val (.int p1), .val (.int p2), .unset, .unset, .unset, .unset] [(.int (32 : Int32)), (.int (4 : Int32)), (.ref b1), (.ref b1)])) rfl rfl (hb hby at_27)
  have V6 : Arv Z h6 b1 k1 .int (16 : Int32) [(.int (0 : Int32)), (.int (9 : Int32)), (.int (10 : Int32)), (.int (13 : Int32)), (.int (32 : Int32)), (.int (0 : Int32)), (.int (0 : Int32)), (.int (0 : Int32)), (.int (0 : Int32)), (.int (0 : Int32)), (.int (0 : Int32)), (.int (0 : Int32)), (.int (0 : Int32)), (.int (0 : Int32)), (.int (0 : Int32)), (.int (0 : Int32))] (.int (0 : Int32)) := Arv.set Ar6 qk6 sz6 nn6 Hs6 Gs6 rfl W6 4 rfl (Nat.le_of_ble_eq_true rfl)
  have N6 := Fr.snoc X6 N5 ge_b1
  have Z6 : n0 ≤ h6.size := by rw [W6.size]; exact Z5
  refine own_go (g' := (mkF m 28 #[.val (.int p0), .val (.int p1), .val (.int p2), .unset, .unset, .unset, .unset] [(.ref b1)])) (st6) ?_
  refine own_go (g' := (mkF m 29 #[.val (.int p0), .val (.int p1), .val (.int p2), .unset, .unset, .unset, .unset] [(.ref b1), (.ref b1)])) (fun _ k => XS.dup X6.here hx rfl (hb hby at_28) rfl rfl k) ?_
  refine own_go (g' := (mkF m 30 #[.val (.int p0), .val (.int p1), .val (.int p2), .unset, .unset, .unset, .unset] [(.int (5 : Int32)), (.ref b1), (.ref b1)])) (fun _ k => XS.iconst X6.here hx rfl (hb hby at_29) k) ?_
  refine own_go (g' := (mkF m 32 #[.val (.int p0), .val (.int p1), .val (.int p2), .unset, .unset, .unset, .unset] [(.int (55295 : Int32)), (.int (5 : Int32)), (.ref b1), (.ref b1)])) (X6.ldcInt hx hown (mvT hZ (hw _ (List.mem_of_getElem? (i := 1) rfl))) (g := (mkF m 30 #[.val (.int p0), .val (.int p1), .val (.int p2), .unset, .unset, .unset, .unset] [(.int (5 : Int32)), (.ref b1), (.ref b1)])) rfl (hb hby at_30)) ?_
  obtain ⟨cl7, Ar7, qk7, sz7, nn7, Hs7, Gs7⟩ := id V6
  have hin7 : ¬ ((5 : Int32) < 0 ∨ cl7.slots.size ≤ ((5 : Int32)).toNatClampNeg) := inb_of sz7 ⟨by decide, by decide⟩
  obtain ⟨T7, h7, X7, e7, W7, st7⟩ := stI X6 hx hZ e6 Ar7 (j := (5 : Int32)) hin7 (g := (mkF m 32 #[.val (.int p0), .val (.int p1), .val (.int p2), .unset, .unset, .unset, .unset] [(.int (55295 : Int32)), (.int (5 : Int32)), (.ref b1), (.ref b1)])) rfl rfl (hb hby at_32)
  have V7 : Arv Z h7 b1 k1 .int (16 : Int32) [(.int (0 : Int32)), (.int (9 : Int32)), (.int (10 : Int32)), (.int (13 : Int32)), (.int (32 : Int32)), (.int (55295 : Int32)), (.int (0 : Int32)), (.int (0 : Int32)), (.int (0 : Int32)), (.int (0 : Int32)), (.int (0 : Int32)), (.int (0 : Int32)), (.int (0 : Int32)), (.int (0 : Int32)), (.int (0 : Int32)), (.int (0 : Int32))] (.int (0 : Int32)) := Arv.set Ar7 qk7 sz7 nn7 Hs7 Gs7 rfl W7 5 rfl (Nat.le_of_ble_eq_true rfl)
  have N7 := Fr.snoc X7 N6 ge_b1
  have Z7 : n0 ≤ h7.size := by rw [W7.size]; exact Z6
  refine own_go (g' := (mkF m 33 #[.val (.int p0), .val (.int p1), .val (.int p2), .unset, .unset, .unset, .unset] [(.ref b1)])) (st7) ?_
  refine own_go (g' := (mkF m 34 #[.val (.int p0), .val (.int p1), .val (.int p2), .unset, .unset, .unset, .unset] [(.ref b1), (.ref b1)])) (fun _ k => XS.dup X7.here hx rfl (hb hby at_33) rfl rfl k) ?_
  refine own_go (g' := (mkF m 36 #[.val (.int p0), .val (.int p1), .val (.int p2), .unset, .unset, .unset, .unset] [(.int (6 : Int32)), (.ref b1), (.ref b1)])) (fun _ k => XS.bipush X7.here hx rfl (hb hby at_34) k) ?_
  refine own_go (g' := (mkF m 38 #[.val (.int p0), .val (.int p1), .val (.int p2), .unset, .unset, .unset, .unset] [(.int (55296 : Int32)), (.int (6 : Int32)), (.ref b1), (.ref b1)])) (X7.ldcInt hx hown (mvT hZ (hw _ (List.mem_of_getElem? (i := 2) rfl))) (g := (mkF m 36 #[.val (.int p0), .val (.int p1), .val (.int p2), .unset, .unset, .unset, .unset] [(.int (6 : Int32)), (.ref b1), (.ref b1)])) rfl (hb hby at_36)) ?_
  obtain ⟨cl8, Ar8, qk8, sz8, nn8, Hs8, Gs8⟩ := id V7
  have hin8 : ¬ ((6 : Int32) < 0 ∨ cl8.slots.size ≤ ((6 : Int32)).toNatClampNeg) := inb_of sz8 ⟨by decide, by decide⟩
  obtain ⟨T8, h8, X8, e8, W8, st8⟩ := stI X7 hx hZ e7 Ar8 (j := (6 : Int32)) hin8 (g := (mkF m 38 #[.val (.int p0), .val (.int p1), .val (.int p2), .unset, .unset, .unset, .unset] [(.int (55296 : Int32)), (.int (6 : Int32)), (.ref b1), (.ref b1)])) rfl rfl (hb hby at_38)
  have V8 : Arv Z h8 b1 k1 .int (16 : Int32) [(.int (0 : Int32)), (.int (9 : Int32)), (.int (10 : Int32)), (.int (13 : Int32)), (.int (32 : Int32)), (.int (55295 : Int32)), (.int (55296 : Int32)), (.int (0 : Int32)), (.int (0 : Int32)), (.int (0 : Int32)), (.int (0 : Int32)), (.int (0 : Int32)), (.int (0 : Int32)), (.int (0 : Int32)), (.int (0 : Int32)), (.int (0 : Int32))] (.int (0 : Int32)) := Arv.set Ar8 qk8 sz8 nn8 Hs8 Gs8 rfl W8 6 rfl (Nat.le_of_ble_eq_true rfl)
  have N8 := Fr.snoc X8 N7 ge_b1
  have Z8 : n0 ≤ h8.size := by rw [W8.size]; exact Z7
  refine own_go (g' := (mkF m 39 #[.val (.int p0), .val (.int p1), .val (.int p2), .unset, .unset, .unset, .unset] [(.ref b1)])) (st8) ?_
  refine own_go (g' := (mkF m 40 #[.val (.int p0), .val (.int p1), .val (.int p2), .unset, .unset, .unset, .unset] [(.ref b1), (.ref b1)])) (fun _ k => XS.dup X8.here hx rfl (hb hby at_39) rfl rfl k) ?_
  refine own_go (g' := (mkF m 42 #[.val (.int p0), .val (.int p1), .val (.int p2), .unset, .unset, .unset, .unset] [(.int (7 : Int32)), (.ref b1), (.ref b1)])) (fun _ k => XS.bipush X8.here hx rfl (hb hby at_40) k) ?_
  refine own_go (g' := (mkF m 44 #[.val (.int p0), .val (.int p1), .val (.int p2), .unset, .unset, .unset, .unset] [(.int (57343 : Int32)), (.int (7 : Int32)), (.ref b1), (.ref b1)])) (X8.ldcInt hx hown (mvT hZ (hw _ (List.mem_of_getElem? (i := 3) rfl))) (g := (mkF m 42 #[.val (.int p0), .val (.int p1), .val (.int p2), .unset, .unset, .unset, .unset] [(.int (7 : Int32)), (.ref b1), (.ref b1)])) rfl (hb hby at_42)) ?_
  obtain ⟨cl9, Ar9, qk9, sz9, nn9, Hs9, Gs9⟩ := id V8
  have hin9 : ¬ ((7 : Int32) < 0 ∨ cl9.slots.size ≤ ((7 : Int32)).toNatClampNeg) := inb_of sz9 ⟨by decide, by decide⟩
  obtain ⟨T9, h9, X9, e9, W9, st9⟩ := stI X8 hx hZ e8 Ar9 (j := (7 : Int32)) hin9 (g := (mkF m 44 #[.val (.int p0), .val (.int p1), .val (.int p2), .unset, .unset, .unset, .unset] [(.int (57343 : Int32)), (.int (7 : Int32)), (.ref b1), (.ref b1)])) rfl rfl (hb hby at_44)
  have V9 : Arv Z h9 b1 k1 .int (16 : Int32) [(.int (0 : Int32)), (.int (9 : Int32)), (.int (10 : Int32)), (.int (13 : Int32)), (.int (32 : Int32)), (.int (55295 : Int32)), (.int (55296 : Int32)), (.int (57343 : Int32)), (.int (0 : Int32)), (.int (0 : Int32)), (.int (0 : Int32)), (.int (0 : Int32)), (.int (0 : Int32)), (.int (0 : Int32)), (.int (0 : Int32)), (.int (0 : Int32))] (.int (0 : Int32)) := Arv.set Ar9 qk9 sz9 nn9 Hs9 Gs9 rfl W9 7 rfl (Nat.le_of_ble_eq_true rfl)
  have N9 := Fr.snoc X9 N8 ge_b1
  have Z9 : n0 ≤ h9.size := by rw [W9.size]; exact Z8
  refine own_go (g' := (mkF m 45 #[.val (.int p0), .val (.int p1), .val (.int p2), .unset, .unset, .unset, .unset] [(.ref b1)])) (st9) ?_
  refine own_go (g' := (mkF m 46 #[.val (.int p0), .val (.int p1), .val (.int p2), .unset, .unset, .unset, .unset] [(.ref b1), (.ref b1)])) (fun _ k => XS.dup X9.here hx rfl (hb hby at_45) rfl rfl k) ?_
  refine own_go (g' := (mkF m 48 #[.val (.int p0), .val (.int p1), .val (.int p2), .unset, .unset, .unset, .unset] [(.int (8 : Int32)), (.ref b1), (.ref b1)])) (fun _ k => XS.bipush X9.here hx rfl (hb hby at_46) k) ?_
  refine own_go (g' := (mkF m 50 #[.val (.int p0), .val (.int p1), .val (.int p2), .unset, .unset, .unset, .unset] [(.int (57344 : Int32)), (.int (8 : Int32)), (.ref b1), (.ref b1)])) (X9.ldcInt hx hown (mvT hZ (hw _ (List.mem_of_getElem? (i := 4) rfl))) (g := (mkF m 48 #[.val (.int p0), .val (.int p1), .val (.int p2), .unset, .unset, .unset, .unset] [(.int (8 : Int32)), (.ref b1), (.ref b1)])) rfl (hb hby at_48)) ?_
  obtain ⟨cl10, Ar10, qk10, sz10, nn10, Hs10, Gs10⟩ := id V9
  have hin10 : ¬ ((8 : Int32) < 0 ∨ cl10.slots.size ≤ ((8 : Int32)).toNatClampNeg) := inb_of sz10 ⟨by decide, by decide⟩
  obtain ⟨T10, h10, X10, e10, W10, st10⟩ := stI X9 hx hZ e9 Ar10 (j := (8 : Int32)) hin10 (g := (mkF m 50 #[.val (.int p0), .val (.int p1), .val (.int p2), .unset, .unset, .unset, .unset] [(.int (57344 : Int32)), (.int (8 : Int32)), (.ref b1), (.ref b1)])) rfl rfl (hb hby at_50)
  have V10 : Arv Z h10 b1 k1 .int (16 : Int32) [(.int (0 : Int32)), (.int (9 : Int32)), (.int (10 : Int32)), (.int (13 : Int32)), (.int (32 : Int32)), (.int (55295 : Int32)), (.int (55296 : Int32)), (.int (57343 : Int32)), (.int (57344 : Int32)), (.int (0 : Int32)), (.int (0 : Int32)), (.int (0 : Int32)), (.int (0 : Int32)), (.int (0 : Int32)), (.int (0 : Int32)), (.int (0 : Int32))] (.int (0 : Int32)) := Arv.set Ar10 qk10 sz10 nn10 Hs10 Gs10 rfl W10 8 rfl (Nat.le_of_ble_eq_true rfl)
  have N10 := Fr.snoc X10 N9 ge_b1
  have Z10 : n0 ≤ h10.size := by rw [W10.size]; exact Z9
  refine own_go (g' := (mkF m 51 #[.val (.int p0), .val (.int p1), .val (.int p2), .unset, .unset, .unset, .unset] [(.ref b1)])) (st10) ?_
  refine own_go (g' := (mkF m 52 #[.val (.int p0), .val (.int p1), .val (.int p2), .unset, .unset, .unset, .unset] [(.ref b1), (.ref b1)])) (fun _ k => XS.dup X10.here hx rfl (hb hby at_51) rfl rfl k) ?_
  refine own_go (g' := (mkF m 54 #[.val (.int p0), .val (.int p1), .val (.int p2), .unset, .unset, .unset, .unset] [(.int (9 : Int32)), (.ref b1), (.ref b1)])) (fun _ k => XS.bipush X10.here hx rfl (hb hby at_52) k) ?_
  refine own_go (g' := (mkF m 56 #[.val (.int p0), .val (.int p1), .val (.int p2), .unset, .unset, .unset, .unset] [(.int (65533 : Int32)), (.int (9 : Int32)), (.ref b1), (.ref b1)])) (X10.ldcInt hx hown (mvT hZ (hw _ (List.mem_of_getElem? (i := 5) rfl))) (g := (mkF m 54 #[.val (.int p0), .val (.int p1), .val (.int p2), .unset, .unset, .unset, .unset] [(.int (9 : Int32)), (.ref b1), (.ref b1)])) rfl (hb hby at_54)) ?_
  obtain ⟨cl11, Ar11, qk11, sz11, nn11, Hs11, Gs11⟩ := id V10
  have hin11 : ¬ ((9 : Int32) < 0 ∨ cl11.slots.size ≤ ((9 : Int32)).toNatClampNeg) := inb_of sz11 ⟨by decide, by decide⟩
  obtain ⟨T11, h11, X11, e11, W11, st11⟩ := stI X10 hx hZ e10 Ar11 (j := (9 : Int32)) hin11 (g := (mkF m 56 #[.val (.int p0), .val (.int p1), .val (.int p2), .unset, .unset, .unset, .unset] [(.int (65533 : Int32)), (.int (9 : Int32)), (.ref b1), (.ref b1)])) rfl rfl (hb hby at_56)
  have V11 : Arv Z h11 b1 k1 .int (16 : Int32) [(.int (0 : Int32)), (.int (9 : Int32)), (.int (10 : Int32)), (.int (13 : Int32)), (.int (32 : Int32)), (.int (55295 : Int32)), (.int (55296 : Int32)), (.int (57343 : Int32)), (.int (57344 : Int32)), (.int (65533 : Int32)), (.int (0 : Int32)), (.int (0 : Int32)), (.int (0 : Int32)), (.int (0 : Int32)), (.int (0 : Int32)), (.int (0 : Int32))] (.int (0 : Int32)) := Arv.set Ar11 qk11 sz11 nn11 Hs11 Gs11 rfl W11 9 rfl (Nat.le_of_ble_eq_true rfl)
  have N11 := Fr.snoc X11 N10 ge_b1
  have Z11 : n0 ≤ h11.size := by rw [W11.size]; exact Z10
  refine own_go (g' := (mkF m 57 #[.val (.int p0), .val (.int p1), .val (.int p2), .unset, .unset, .unset, .unset] [(.ref b1)])) (st11) ?_
  refine own_go (g' := (mkF m 58 #[.val (.int p0), .val (.int p1), .val (.int p2), .unset, .unset, .unset, .unset] [(.ref b1), (.ref b1)])) (fun _ k => XS.dup X11.here hx rfl (hb hby at_57) rfl rfl k) ?_
  refine own_go (g' := (mkF m 60 #[.val (.int p0), .val (.int p1), .val (.int p2), .unset, .unset, .unset, .unset] [(.int (10 : Int32)), (.ref b1), (.ref b1)])) (fun _ k => XS.bipush X11.here hx rfl (hb hby at_58) k) ?_
  refine own_go (g' := (mkF m 62 #[.val (.int p0), .val (.int p1), .val (.int p2), .unset, .unset, .unset, .unset] [(.int (65534 : Int32)), (.int (10 : Int32)), (.ref b1), (.ref b1)])) (X11.ldcInt hx hown (mvT hZ (hw _ (List.mem_of_getElem? (i := 6) rfl))) (g := (mkF m 60 #[.val (.int p0), .val (.int p1), .val (.int p2), .unset, .unset, .unset, .unset] [(.int (10 : Int32)), (.ref b1), (.ref b1)])) rfl (hb hby at_60)) ?_
  obtain ⟨cl12, Ar12, qk12, sz12, nn12, Hs12, Gs12⟩ := id V11
  have hin12 : ¬ ((10 : Int32) < 0 ∨ cl12.slots.size ≤ ((10 : Int32)).toNatClampNeg) := inb_of sz12 ⟨by decide, by decide⟩
  obtain ⟨T12, h12, X12, e12, W12, st12⟩ := stI X11 hx hZ e11 Ar12 (j := (10 : Int32)) hin12 (g := (mkF m 62 #[.val (.int p0), .val (.int p1), .val (.int p2), .unset, .unset, .unset, .unset] [(.int (65534 : Int32)), (.int (10 : Int32)), (.ref b1), (.ref b1)])) rfl rfl (hb hby at_62)
  have V12 : Arv Z h12 b1 k1 .int (16 : Int32) [(.int (0 : Int32)), (.int (9 : Int32)), (.int (10 : Int32)), (.int (13 : Int32)), (.int (32 : Int32)), (.int (55295 : Int32)), (.int (55296 : Int32)), (.int (57343 : Int32)), (.int (57344 : Int32)), (.int (65533 : Int32)), (.int (65534 : Int32)), (.int (0 : Int32)), (.int (0 : Int32)), (.int (0 : Int32)), (.int (0 : Int32)), (.int (0 : Int32))] (.int (0 : Int32)) := Arv.set Ar12 qk12 sz12 nn12 Hs12 Gs12 rfl W12 10 rfl (Nat.le_of_ble_eq_true rfl)
  have N12 := Fr.snoc X12 N11 ge_b1
  have Z12 : n0 ≤ h12.size := by rw [W12.size]; exact Z11
  refine own_go (g' := (mkF m 63 #[.val (.int p0), .val (.int p1), .val (.int p2), .unset, .unset, .unset, .unset] [(.ref b1)])) (st12) ?_
  refine own_go (g' := (mkF m 64 #[.val (.int p0), .val (.int p1), .val (.int p2), .unset, .unset, .unset, .unset] [(.ref b1), (.ref b1)])) (fun _ k => XS.dup X12.here hx rfl (hb hby at_63) rfl rfl k) ?_
  refine own_go (g' := (mkF m 66 #[.val (.int p0), .val (.int p1), .val (.int p2), .unset, .unset, .unset, .unset] [(.int (11 : Int32)), (.ref b1), (.ref b1)])) (fun _ k => XS.bipush X12.here hx rfl (hb hby at_64) k) ?_
  refine own_go (g' := (mkF m 68 #[.val (.int p0), .val (.int p1), .val (.int p2), .unset, .unset, .unset, .unset] [(.int (65535 : Int32)), (.int (11 : Int32)), (.ref b1), (.ref b1)])) (X12.ldcInt hx hown (mvT hZ (hw _ (List.mem_of_getElem? (i := 7) rfl))) (g := (mkF m 66 #[.val (.int p0), .val (.int p1), .val (.int p2), .unset, .unset, .unset, .unset] [(.int (11 : Int32)), (.ref b1), (.ref b1)])) rfl (hb hby at_66)) ?_
  obtain ⟨cl13, Ar13, qk13, sz13, nn13, Hs13, Gs13⟩ := id V12
  have hin13 : ¬ ((11 : Int32) < 0 ∨ cl13.slots.size ≤ ((11 : Int32)).toNatClampNeg) := inb_of sz13 ⟨by decide, by decide⟩
  obtain ⟨T13, h13, X13, e13, W13, st13⟩ := stI X12 hx hZ e12 Ar13 (j := (11 : Int32)) hin13 (g := (mkF m 68 #[.val (.int p0), .val (.int p1), .val (.int p2), .unset, .unset, .unset, .unset] [(.int (65535 : Int32)), (.int (11 : Int32)), (.ref b1), (.ref b1)])) rfl rfl (hb hby at_68)
  have V13 : Arv Z h13 b1 k1 .int (16 : Int32) [(.int (0 : Int32)), (.int (9 : Int32)), (.int (10 : Int32)), (.int (13 : Int32)), (.int (32 : Int32)), (.int (55295 : Int32)), (.int (55296 : Int32)), (.int (57343 : Int32)), (.int (57344 : Int32)), (.int (65533 : Int32)), (.int (65534 : Int32)), (.int (65535 : Int32)), (.int (0 : Int32)), (.int (0 : Int32)), (.int (0 : Int32)), (.int (0 : Int32))] (.int (0 : Int32)) := Arv.set Ar13 qk13 sz13 nn13 Hs13 Gs13 rfl W13 11 rfl (Nat.le_of_ble_eq_true rfl)
  have N13 := Fr.snoc X13 N12 ge_b1
  have Z13 : n0 ≤ h13.size := by rw [W13.size]; exact Z12
  refine own_go (g' := (mkF m 69 #[.val (.int p0), .val (.int p1), .val (.int p2), .unset, .unset, .unset, .unset] [(.ref b1)])) (st13) ?_
  refine own_go (g' := (mkF m 70 #[.val (.int p0), .val (.int p1), .val (.int p2), .unset, .unset, .unset, .unset] [(.ref b1), (.ref b1)])) (fun _ k => XS.dup X13.here hx rfl (hb hby at_69) rfl rfl k) ?_
  refine own_go (g' := (mkF m 72 #[.val (.int p0), .val (.int p1), .val (.int p2), .unset, .unset, .unset, .unset] [(.int (12 : Int32)), (.ref b1), (.ref b1)])) (fun _ k => XS.bipush X13.here hx rfl (hb hby at_70) k) ?_
  refine own_go (g' := (mkF m 74 #[.val (.int p0), .val (.int p1), .val (.int p2), .unset, .unset, .unset, .unset] [(.int (65536 : Int32)), (.int (12 : Int32)), (.ref b1), (.ref b1)])) (X13.ldcInt hx hown (mvT hZ (hw _ (List.mem_of_getElem? (i := 8) rfl))) (g := (mkF m 72 #[.val (.int p0), .val (.int p1), .val (.int p2), .unset, .unset, .unset, .unset] [(.int (12 : Int32)), (.ref b1), (.ref b1)])) rfl (hb hby at_72)) ?_
  obtain ⟨cl14, Ar14, qk14, sz14, nn14, Hs14, Gs14⟩ := id V13
  have hin14 : ¬ ((12 : Int32) < 0 ∨ cl14.slots.size ≤ ((12 : Int32)).toNatClampNeg) := inb_of sz14 ⟨by decide, by decide⟩
  obtain ⟨T14, h14, X14, e14, W14, st14⟩ := stI X13 hx hZ e13 Ar14 (j := (12 : Int32)) hin14 (g := (mkF m 74 #[.val (.int p0), .val (.int p1), .val (.int p2), .unset, .unset, .unset, .unset] [(.int (65536 : Int32)), (.int (12 : Int32)), (.ref b1), (.ref b1)])) rfl rfl (hb hby at_74)
  have V14 : Arv Z h14 b1 k1 .int (16 : Int32) [(.int (0 : Int32)), (.int (9 : Int32)), (.int (10 : Int32)), (.int (13 : Int32)), (.int (32 : Int32)), (.int (55295 : Int32)), (.int (55296 : Int32)), (.int (57343 : Int32)), (.int (57344 : Int32)), (.int (65533 : Int32)), (.int (65534 : Int32)), (.int (65535 : Int32)), (.int (65536 : Int32)), (.int (0 : Int32)), (.int (0 : Int32)), (.int (0 : Int32))] (.int (0 : Int32)) := Arv.set Ar14 qk14 sz14 nn14 Hs14 Gs14 rfl W14 12 rfl (Nat.le_of_ble_eq_true rfl)
  have N14 := Fr.snoc X14 N13 ge_b1
  have Z14 : n0 ≤ h14.size := by rw [W14.size]; exact Z13
  refine own_go (g' := (mkF m 75 #[.val (.int p0), .val (.int p1), .val (.int p2), .unset, .unset, .unset, .unset] [(.ref b1)])) (st14) ?_
  refine own_go (g' := (mkF m 76 #[.val (.int p0), .val (.int p1), .val (.int p2), .unset, .unset, .unset, .unset] [(.ref b1), (.ref b1)])) (fun _ k => XS.dup X14.here hx rfl (hb hby at_75) rfl rfl k) ?_
  refine own_go (g' := (mkF m 78 #[.val (.int p0), .val (.int p1), .val (.int p2), .unset, .unset, .unset, .unset] [(.int (13 : Int32)), (.ref b1), (.ref b1)])) (fun _ k => XS.bipush X14.here hx rfl (hb hby at_76) k) ?_
  refine own_go (g' := (mkF m 80 #[.val (.int p0), .val (.int p1), .val (.int p2), .unset, .unset, .unset, .unset] [(.int (1114111 : Int32)), (.int (13 : Int32)), (.ref b1), (.ref b1)])) (X14.ldcInt hx hown (mvT hZ (hw _ (List.mem_of_getElem? (i := 9) rfl))) (g := (mkF m 78 #[.val (.int p0), .val (.int p1), .val (.int p2), .unset, .unset, .unset, .unset] [(.int (13 : Int32)), (.ref b1), (.ref b1)])) rfl (hb hby at_78)) ?_
  obtain ⟨cl15, Ar15, qk15, sz15, nn15, Hs15, Gs15⟩ := id V14
  have hin15 : ¬ ((13 : Int32) < 0 ∨ cl15.slots.size ≤ ((13 : Int32)).toNatClampNeg) := inb_of sz15 ⟨by decide, by decide⟩
  obtain ⟨T15, h15, X15, e15, W15, st15⟩ := stI X14 hx hZ e14 Ar15 (j := (13 : Int32)) hin15 (g := (mkF m 80 #[.val (.int p0), .val (.int p1), .val (.int p2), .unset, .unset, .unset, .unset] [(.int (1114111 : Int32)), (.int (13 : Int32)), (.ref b1), (.ref b1)])) rfl rfl (hb hby at_80)
  have V15 : Arv Z h15 b1 k1 .int (16 : Int32) [(.int (0 : Int32)), (.int (9 : Int32)), (.int (10 : Int32)), (.int (13 : Int32)), (.int (32 : Int32)), (.int (55295 : Int32)), (.int (55296 : Int32)), (.int (57343 : Int32)), (.int (57344 : Int32)), (.int (65533 : Int32)), (.int (65534 : Int32)), (.int (65535 : Int32)), (.int (65536 : Int32)), (.int (1114111 : Int32)), (.int (0 : Int32)), (.int (0 : Int32))] (.int (0 : Int32)) := Arv.set Ar15 qk15 sz15 nn15 Hs15 Gs15 rfl W15 13 rfl (Nat.le_of_ble_eq_true rfl)
  have N15 := Fr.snoc X15 N14 ge_b1
  have Z15 : n0 ≤ h15.size := by rw [W15.size]; exact Z14
  refine own_go (g' := (mkF m 81 #[.val (.int p0), .val (.int p1), .val (.int p2), .unset, .unset, .unset, .unset] [(.ref b1)])) (st15) ?_
  refine own_go (g' := (mkF m 82 #[.val (.int p0), .val (.int p1), .val (.int p2), .unset, .unset, .unset, .unset] [(.ref b1), (.ref b1)])) (fun _ k => XS.dup X15.here hx rfl (hb hby at_81) rfl rfl k) ?_
  refine own_go (g' := (mkF m 84 #[.val (.int p0), .val (.int p1), .val (.int p2), .unset, .unset, .unset, .unset] [(.int (14 : Int32)), (.ref b1), (.ref b1)])) (fun _ k => XS.bipush X15.here hx rfl (hb hby at_82) k) ?_
  refine own_go (g' := (mkF m 86 #[.val (.int p0), .val (.int p1), .val (.int p2), .unset, .unset, .unset, .unset] [(.int (-2147483648 : Int32)), (.int (14 : Int32)), (.ref b1), (.ref b1)])) (X15.ldcInt hx hown (mvT hZ (hw _ (List.mem_of_getElem? (i := 10) rfl))) (g := (mkF m 84 #[.val (.int p0), .val (.int p1), .val (.int p2), .unset, .unset, .unset, .unset] [(.int (14 : Int32)), (.ref b1), (.ref b1)])) rfl (hb hby at_84)) ?_
  obtain ⟨cl16, Ar16, qk16, sz16, nn16, Hs16, Gs16⟩ := id V15
  have hin16 : ¬ ((14 : Int32) < 0 ∨ cl16.slots.size ≤ ((14 : Int32)).toNatClampNeg) := inb_of sz16 ⟨by decide, by decide⟩
  obtain ⟨T16, h16, X16, e16, W16, st16⟩ := stI X15 hx hZ e15 Ar16 (j := (14 : Int32)) hin16 (g := (mkF m 86 #[.val (.int p0), .val (.int p1), .val (.int p2), .unset, .unset, .unset, .unset] [(.int (-2147483648 : Int32)), (.int (14 : Int32)), (.ref b1), (.ref b1)])) rfl rfl (hb hby at_86)
  have V16 : Arv Z h16 b1 k1 .int (16 : Int32) [(.int (0 : Int32)), (.int (9 : Int32)), (.int (10 : Int32)), (.int (13 : Int32)), (.int (32 : Int32)), (.int (55295 : Int32)), (.int (55296 : Int32)), (.int (57343 : Int32)), (.int (57344 : Int32)), (.int (65533 : Int32)), (.int (65534 : Int32)), (.int (65535 : Int32)), (.int (65536 : Int32)), (.int (1114111 : Int32)), (.int (-2147483648 : Int32)), (.int (0 : Int32))] (.int (0 : Int32)) := Arv.set Ar16 qk16 sz16 nn16 Hs16 Gs16 rfl W16 14 rfl (Nat.le_of_ble_eq_true rfl)
  have N16 := Fr.snoc X16 N15 ge_b1
  have Z16 : n0 ≤ h16.size := by rw [W16.size]; exact Z15
  refine own_go (g' := (mkF m 87 #[.val (.int p0), .val (.int p1), .val (.int p2), .unset, .unset, .unset, .unset] [(.ref b1)])) (st16) ?_
  refine own_go (g' := (mkF m 88 #[.val (.int p0), .val (.int p1), .val (.int p2), .unset, .unset, .unset, .unset] [(.ref b1), (.ref b1)])) (fun _ k => XS.dup X16.here hx rfl (hb hby at_87) rfl rfl k) ?_
  refine own_go (g' := (mkF m 90 #[.val (.int p0), .val (.int p1), .val (.int p2), .unset, .unset, .unset, .unset] [(.int (15 : Int32)), (.ref b1), (.ref b1)])) (fun _ k => XS.bipush X16.here hx rfl (hb hby at_88) k) ?_
  refine own_go (g' := (mkF m 92 #[.val (.int p0), .val (.int p1), .val (.int p2), .unset, .unset, .unset, .unset] [(.int (2147483647 : Int32)), (.int (15 : Int32)), (.ref b1), (.ref b1)])) (X16.ldcInt hx hown (mvT hZ (hw _ (List.mem_of_getElem? (i := 11) rfl))) (g := (mkF m 90 #[.val (.int p0), .val (.int p1), .val (.int p2), .unset, .unset, .unset, .unset] [(.int (15 : Int32)), (.ref b1), (.ref b1)])) rfl (hb hby at_90)) ?_
  obtain ⟨cl17, Ar17, qk17, sz17, nn17, Hs17, Gs17⟩ := id V16
  have hin17 : ¬ ((15 : Int32) < 0 ∨ cl17.slots.size ≤ ((15 : Int32)).toNatClampNeg) := inb_of sz17 ⟨by decide, by decide⟩
  obtain ⟨T17, h17, X17, e17, W17, st17⟩ := stI X16 hx hZ e16 Ar17 (j := (15 : Int32)) hin17 (g := (mkF m 92 #[.val (.int p0), .val (.int p1), .val (.int p2), .unset, .unset, .unset, .unset] [(.int (2147483647 : Int32)), (.int (15 : Int32)), (.ref b1), (.ref b1)])) rfl rfl (hb hby at_92)
  have V17 : Arv Z h17 b1 k1 .int (16 : Int32) [(.int (0 : Int32)), (.int (9 : Int32)), (.int (10 : Int32)), (.int (13 : Int32)), (.int (32 : Int32)), (.int (55295 : Int32)), (.int (55296 : Int32)), (.int (57343 : Int32)), (.int (57344 : Int32)), (.int (65533 : Int32)), (.int (65534 : Int32)), (.int (65535 : Int32)), (.int (65536 : Int32)), (.int (1114111 : Int32)), (.int (-2147483648 : Int32)), (.int (2147483647 : Int32))] (.int (0 : Int32)) := Arv.set Ar17 qk17 sz17 nn17 Hs17 Gs17 rfl W17 15 rfl (Nat.le_of_ble_eq_true rfl)
  have N17 := Fr.snoc X17 N16 ge_b1
  have Z17 : n0 ≤ h17.size := by rw [W17.size]; exact Z16
  refine own_go (g' := (mkF m 93 #[.val (.int p0), .val (.int p1), .val (.int p2), .unset, .unset, .unset, .unset] [(.ref b1)])) (st17) ?_
  refine own_go (g' := (mkF m 94 #[.val (.int p0), .val (.int p1), .val (.int p2), .val (.ref b1), .unset, .unset, .unset] [])) (fun _ k => XS.astoreN X17.here hx rfl (hb hby at_93) rfl rfl (l' := #[.val (.int p0), .val (.int p1), .val (.int p2), .val (.ref b1), .unset, .unset, .unset]) rfl k) ?_
  refine own_go (g' := (mkF m 95 #[.val (.int p0), .val (.int p1), .val (.int p2), .val (.ref b1), .unset, .unset, .unset] [(.int p1)])) (fun _ k => XS.iloadN X17.here hx rfl (hb hby at_94) rfl k) ?_
  refine own_go (g' := (mkF m 96 #[.val (.int p0), .val (.int p1), .val (.int p2), .val (.ref b1), .unset, .unset, .unset] [(.int (1 : Int32)), (.int p1)])) (fun _ k => XS.iconst X17.here hx rfl (hb hby at_95) k) ?_
  refine own_go (g' := (mkF m 97 #[.val (.int p0), .val (.int p1), .val (.int p2), .val (.ref b1), .unset, .unset, .unset] [(.int (p1 &&& (1 : Int32)))])) (fun _ k => XS.iand X17.here hx rfl (hb hby at_96) rfl k) ?_
  by_cases hc18 : (p1 &&& (1 : Int32)) = (0 : Int32)
  ·
    refine own_go (g' := (mkF m 100 #[.val (.int p0), .val (.int p1), .val (.int p2), .val (.ref b1), .unset, .unset, .unset] [])) (fun _ k => XS.ifNo X17.here hx rfl (hb hby at_97) rfl ((if0 _ _).trans (teq hc18).2) k) ?_
    refine own_go (g' := (mkF m 101 #[.val (.int p0), .val (.int p1), .val (.int p2), .val (.ref b1), .unset, .unset, .unset] [(.int p0)])) (fun _ k => XS.iloadN X17.here hx rfl (hb hby at_100) rfl k) ?_
    refine own_go (g' := (mkF m 103 #[.val (.int p0), .val (.int p1), .val (.int p2), .val (.ref b1), .val (.int p0), .unset, .unset] [])) (fun _ k => XS.istore X17.here hx rfl (hb hby at_101) rfl (l' := #[.val (.int p0), .val (.int p1), .val (.int p2), .val (.ref b1), .val (.int p0), .unset, .unset]) rfl k) ?_
    refine own_go (g' := (mkF m 133 #[.val (.int p0), .val (.int p1), .val (.int p2), .val (.ref b1), .val (.int p0), .unset, .unset] [])) (fun _ k => XS.goto X17.here hx rfl (pc0 := 103) (pc' := 133) rfl (hb hby at_103) (by decide) (by decide) k) ?_
    refine own_go (g' := (mkF m 135 #[.val (.int p0), .val (.int p1), .val (.int p2), .val (.ref b1), .val (.int p0), .unset, .unset] [(.int p0)])) (fun _ k => XS.iload X17.here hx rfl (hb hby at_133) rfl k) ?_
    obtain ⟨v19, T19, L19, hQ19, X19, st19⟩ := own_callS X17 hx hZ (y := (⟨"com/example/notewright/notewright/XmlLines", "carries", "(I)Z"⟩ : MethodName)) hown (hw _ (List.mem_of_getElem? (i := 12) rfl)) (hw _ (List.mem_of_getElem? (i := 13) rfl)) (hw _ (List.mem_of_getElem? (i := 14) rfl)) (hw _ (List.mem_of_getElem? (i := 15) rfl)) ⟨by decide, by decide⟩ (argsL := [(.int p0)]) (rm1 l Z a0 hw p0 h17) e17 (g := (mkF m 135 #[.val (.int p0), .val (.int p1), .val (.int p2), .val (.ref b1), .val (.int p0), .unset, .unset] [(.int p0)])) rfl (by rw [hml]; rfl) (rest := []) (lenOf pd0_0 rfl) rfl (hb hby at_135) (W := 0) (by show 2 * 0 + _ ≤ _; exact Nat.le_of_eq rfl) (by decide) (by decide) (by decide) (by decide)
    obtain ⟨rfl, e19, rfl⟩ := hQ19
    have N19 := Fr.app N17 (Fr.nil n0)
    refine own_go (g' := (mkF m 138 #[.val (.int p0), .val (.int p1), .val (.int p2), .val (.ref b1), .val (.int p0), .unset, .unset] [(.int (own_b (decide (p0 = (9 : Int32) ∨ p0 = (10 : Int32) ∨ p0 = (13 : Int32) ∨ (¬ p0 < (32 : Int32) ∧ ¬ (55295 : Int32) < p0) ∨ (¬ p0 < (57344 : Int32) ∧ ¬ (65533 : Int32) < p0) ∨ ¬ p0 < (65536 : Int32)))))])) (st19) ?_
    refine own_go (g' := (mkF m 140 #[.val (.int p0), .val (.int p1), .val (.int p2), .val (.ref b1), .val (.int p0), .unset, .unset] [(.int p0), (.int (own_b (decide (p0 = (9 : Int32) ∨ p0 = (10 : Int32) ∨ p0 = (13 : Int32) ∨ (¬ p0 < (32 : Int32) ∧ ¬ (55295 : Int32) < p0) ∨ (¬ p0 < (57344 : Int32) ∧ ¬ (65533 : Int32) < p0) ∨ ¬ p0 < (65536 : Int32)))))])) (fun _ k => XS.iload X19.here hx rfl (hb hby at_138) rfl k) ?_
    obtain ⟨v20, T20, L20, hQ20, X20, st20⟩ := own_callS X19 hx hZ (y := (⟨"com/example/notewright/notewright/XmlLinesCarriesPinLaw", "expected", "(I)Z"⟩ : MethodName)) hown (hw _ (List.mem_of_getElem? (i := 16) rfl)) (hw _ (List.mem_of_getElem? (i := 17) rfl)) (hw _ (List.mem_of_getElem? (i := 18) rfl)) (hw _ (List.mem_of_getElem? (i := 19) rfl)) ⟨by decide, by decide⟩ (argsL := [(.int p0)]) (rm2 l Z a0 hw p0 h17) e19 (g := (mkF m 140 #[.val (.int p0), .val (.int p1), .val (.int p2), .val (.ref b1), .val (.int p0), .unset, .unset] [(.int p0), (.int (own_b (decide (p0 = (9 : Int32) ∨ p0 = (10 : Int32) ∨ p0 = (13 : Int32) ∨ (¬ p0 < (32 : Int32) ∧ ¬ (55295 : Int32) < p0) ∨ (¬ p0 < (57344 : Int32) ∧ ¬ (65533 : Int32) < p0) ∨ ¬ p0 < (65536 : Int32)))))])) rfl (by rw [hml]; rfl) (rest := [(.int (own_b (decide (p0 = (9 : Int32) ∨ p0 = (10 : Int32) ∨ p0 = (13 : Int32) ∨ (¬ p0 < (32 : Int32) ∧ ¬ (55295 : Int32) < p0) ∨ (¬ p0 < (57344 : Int32) ∧ ¬ (65533 : Int32) < p0) ∨ ¬ p0 < (65536 : Int32)))))]) (lenOf pd0_0 rfl) rfl (hb hby at_140) (W := 1) (by show 2 * 0 + _ ≤ _; exact Nat.le_of_eq rfl) (by decide) (by decide) (by decide) (by decide)
    obtain ⟨rfl, e20, rfl⟩ := hQ20
    have N20 := Fr.app N19 (Fr.nil n0)
    refine own_go (g' := (mkF m 143 #[.val (.int p0), .val (.int p1), .val (.int p2), .val (.ref b1), .val (.int p0), .unset, .unset] [(.int (own_b (decide (p0 = (9 : Int32) ∨ p0 = (10 : Int32) ∨ p0 = (13 : Int32) ∨ (¬ p0 < (32 : Int32) ∧ ¬ (55295 : Int32) < p0) ∨ (¬ p0 < (57344 : Int32) ∧ ¬ (65533 : Int32) < p0) ∨ ¬ p0 < (65536 : Int32))))), (.int (own_b (decide (p0 = (9 : Int32) ∨ p0 = (10 : Int32) ∨ p0 = (13 : Int32) ∨ (¬ p0 < (32 : Int32) ∧ ¬ (55295 : Int32) < p0) ∨ (¬ p0 < (57344 : Int32) ∧ ¬ (65533 : Int32) < p0) ∨ ¬ p0 < (65536 : Int32)))))])) (st20) ?_
    refine own_go (g' := (mkF m 146 #[.val (.int p0), .val (.int p1), .val (.int p2), .val (.ref b1), .val (.int p0), .unset, .unset] [])) (fun _ k => XS.icmpNo X20.here hx rfl (hb hby at_143) rfl (teq rfl).2 k) ?_
    refine own_go (g' := (mkF m 147 #[.val (.int p0), .val (.int p1), .val (.int p2), .val (.ref b1), .val (.int p0), .unset, .unset] [(.int (1 : Int32))])) (fun _ k => XS.iconst X20.here hx rfl (hb hby at_146) k) ?_
    refine own_go (g' := (mkF m 151 #[.val (.int p0), .val (.int p1), .val (.int p2), .val (.ref b1), .val (.int p0), .unset, .unset] [(.int (1 : Int32))])) (fun _ k => XS.goto X20.here hx rfl (pc0 := 147) (pc' := 151) rfl (hb hby at_147) (by decide) (by decide) k) ?_
    refine own_retN X20 hx .boolean Bd.returns Bd.notSynchronized (by simp) (hb hby at_151) (by decide) (by decide) ?_
    show QQ _ T20.heap _
    rw [e20]
    rw [← hQQ]
    exact ⟨rfl, N20⟩
  ·
    refine own_go (g' := (mkF m 106 #[.val (.int p0), .val (.int p1), .val (.int p2), .val (.ref b1), .unset, .unset, .unset] [])) (fun _ k => XS.ifYes X17.here hx rfl (pc0 := 97) (pc' := 106) rfl (hb hby at_97) rfl ((if0 _ _).trans (feq hc18).2) (by decide) (by decide) k) ?_
    refine own_go (g' := (mkF m 107 #[.val (.int p0), .val (.int p1), .val (.int p2), .val (.ref b1), .unset, .unset, .unset] [(.int p1)])) (fun _ k => XS.iloadN X17.here hx rfl (hb hby at_106) rfl k) ?_
    refine own_go (g' := (mkF m 108 #[.val (.int p0), .val (.int p1), .val (.int p2), .val (.ref b1), .unset, .unset, .unset] [(.int (1 : Int32)), (.int p1)])) (fun _ k => XS.iconst X17.here hx rfl (hb hby at_107) k) ?_
    refine own_go (g' := (mkF m 109 #[.val (.int p0), .val (.int p1), .val (.int p2), .val (.ref b1), .unset, .unset, .unset] [(.int ((p1.toUInt32 >>> ((1 : Int32) &&& 31).toUInt32).toInt32))])) (fun _ k => XS.iushr X17.here hx rfl (hb hby at_108) rfl k) ?_
    refine own_go (g' := (mkF m 110 #[.val (.int p0), .val (.int p1), .val (.int p2), .val (.ref b1), .unset, .unset, .unset] [(.ref b1), (.int ((p1.toUInt32 >>> ((1 : Int32) &&& 31).toUInt32).toInt32))])) (fun _ k => XS.aloadN X17.here hx rfl (hb hby at_109) rfl rfl k) ?_
    obtain ⟨cl21, Ar21, -, sz21, nn21, -, -⟩ := id V17
    refine own_go (g' := (mkF m 111 #[.val (.int p0), .val (.int p1), .val (.int p2), .val (.ref b1), .unset, .unset, .unset] [(.int (16 : Int32)), (.int ((p1.toUInt32 >>> ((1 : Int32) &&& 31).toUInt32).toInt32))])) (by have q := X17.arraylength hx (by rw [e17]; exact Ar21.1) (State.isArrayOf_alike hZ.alike Ar21.2.1) (g := (mkF m 110 #[.val (.int p0), .val (.int p1), .val (.int p2), .val (.ref b1), .unset, .unset, .unset] [(.ref b1), (.int ((p1.toUInt32 >>> ((1 : Int32) &&& 31).toUInt32).toInt32))])) rfl rfl (hb hby at_110); rw [len_of sz21 nn21] at q; exact q) ?_
    refine own_go (g' := (mkF m 112 #[.val (.int p0), .val (.int p1), .val (.int p2), .val (.ref b1), .unset, .unset, .unset] [(.int (((p1.toUInt32 >>> ((1 : Int32) &&& 31).toUInt32).toInt32) % (16 : Int32)))])) (fun _ k => own_irem X17 hx rfl (hb hby at_111) rfl (by decide) k) ?_
    suffices JNhix : ∀ ix : Int32, ix = (((p1.toUInt32 >>> ((1 : Int32) &&& 31).toUInt32).toInt32) % (16 : Int32)) → own_Go p e below (own_Post s QQ 16 128) T17 (mkF m 112 #[.val (.int p0), .val (.int p1), .val (.int p2), .val (.ref b1), .unset, .unset, .unset] [(.int ix)]) from JNhix _ (rfl)
    intro ix hix
    refine own_go (g' := (mkF m 114 #[.val (.int p0), .val (.int p1), .val (.int p2), .val (.ref b1), .unset, .val (.int ix), .unset] [])) (fun _ k => XS.istore X17.here hx rfl (hb hby at_112) rfl (l' := #[.val (.int p0), .val (.int p1), .val (.int p2), .val (.ref b1), .unset, .val (.int ix), .unset]) rfl k) ?_
    refine own_go (g' := (mkF m 115 #[.val (.int p0), .val (.int p1), .val (.int p2), .val (.ref b1), .unset, .val (.int ix), .unset] [(.int p2)])) (fun _ k => XS.iloadN X17.here hx rfl (hb hby at_114) rfl k) ?_
    refine own_go (g' := (mkF m 117 #[.val (.int p0), .val (.int p1), .val (.int p2), .val (.ref b1), .unset, .val (.int ix), .unset] [(.int (2147483647 : Int32)), (.int p2)])) (X17.ldcInt hx hown (mvT hZ (hw _ (List.mem_of_getElem? (i := 11) rfl))) (g := (mkF m 115 #[.val (.int p0), .val (.int p1), .val (.int p2), .val (.ref b1), .unset, .val (.int ix), .unset] [(.int p2)])) rfl (hb hby at_115)) ?_
    refine own_go (g' := (mkF m 118 #[.val (.int p0), .val (.int p1), .val (.int p2), .val (.ref b1), .unset, .val (.int ix), .unset] [(.int (p2 &&& (2147483647 : Int32)))])) (fun _ k => XS.iand X17.here hx rfl (hb hby at_117) rfl k) ?_
    refine own_go (g' := (mkF m 119 #[.val (.int p0), .val (.int p1), .val (.int p2), .val (.ref b1), .unset, .val (.int ix), .unset] [(.int (5 : Int32)), (.int (p2 &&& (2147483647 : Int32)))])) (fun _ k => XS.iconst X17.here hx rfl (hb hby at_118) k) ?_
    refine own_go (g' := (mkF m 120 #[.val (.int p0), .val (.int p1), .val (.int p2), .val (.ref b1), .unset, .val (.int ix), .unset] [(.int ((p2 &&& (2147483647 : Int32)) % (5 : Int32)))])) (fun _ k => own_irem X17 hx rfl (hb hby at_119) rfl (by decide) k) ?_
    refine own_go (g' := (mkF m 121 #[.val (.int p0), .val (.int p1), .val (.int p2), .val (.ref b1), .unset, .val (.int ix), .unset] [(.int (2 : Int32)), (.int ((p2 &&& (2147483647 : Int32)) % (5 : Int32)))])) (fun _ k => XS.iconst X17.here hx rfl (hb hby at_120) k) ?_
    refine own_go (g' := (mkF m 122 #[.val (.int p0), .val (.int p1), .val (.int p2), .val (.ref b1), .unset, .val (.int ix), .unset] [(.int (((p2 &&& (2147483647 : Int32)) % (5 : Int32)) - (2 : Int32)))])) (fun _ k => XS.isub X17.here hx rfl (hb hby at_121) rfl k) ?_
    suffices JNhdd : ∀ dd : Int32, dd = (((p2 &&& (2147483647 : Int32)) % (5 : Int32)) - (2 : Int32)) → own_Go p e below (own_Post s QQ 16 128) T17 (mkF m 122 #[.val (.int p0), .val (.int p1), .val (.int p2), .val (.ref b1), .unset, .val (.int ix), .unset] [(.int dd)]) from JNhdd _ (rfl)
    intro dd hdd
    refine own_go (g' := (mkF m 124 #[.val (.int p0), .val (.int p1), .val (.int p2), .val (.ref b1), .unset, .val (.int ix), .val (.int dd)] [])) (fun _ k => XS.istore X17.here hx rfl (hb hby at_122) rfl (l' := #[.val (.int p0), .val (.int p1), .val (.int p2), .val (.ref b1), .unset, .val (.int ix), .val (.int dd)]) rfl k) ?_
    refine own_go (g' := (mkF m 125 #[.val (.int p0), .val (.int p1), .val (.int p2), .val (.ref b1), .unset, .val (.int ix), .val (.int dd)] [(.ref b1)])) (fun _ k => XS.aloadN X17.here hx rfl (hb hby at_124) rfl rfl k) ?_
    refine own_go (g' := (mkF m 127 #[.val (.int p0), .val (.int p1), .val (.int p2), .val (.ref b1), .unset, .val (.int ix), .val (.int dd)] [(.int ix), (.ref b1)])) (fun _ k => XS.iload X17.here hx rfl (hb hby at_125) rfl k) ?_
    have hbd := own_i16 p1
    rw [← hix] at hbd
    obtain ⟨cl22, Ar22, qk22, sz22, nn22, Hs22, Gs22⟩ := id V17
    have hin22 : ¬ (ix < 0 ∨ cl22.slots.size ≤ (ix).toNatClampNeg) := inb_of sz22 hbd
    have hat22 : cl22.slots[(ix).toNatClampNeg]? = some (.int (own_edge [(0 : Int32), (9 : Int32), (10 : Int32), (13 : Int32), (32 : Int32), (55295 : Int32), (55296 : Int32), (57343 : Int32), (57344 : Int32), (65533 : Int32), (65534 : Int32), (65535 : Int32), (65536 : Int32), (1114111 : Int32), (-2147483648 : Int32), (2147483647 : Int32)] ix.toNatClampNeg)) := Has.at Hs22 hin22 (own_edge_at [(0 : Int32), (9 : Int32), (10 : Int32), (13 : Int32), (32 : Int32), (55295 : Int32), (55296 : Int32), (57343 : Int32), (57344 : Int32), (65533 : Int32), (65534 : Int32), (65535 : Int32), (65536 : Int32), (1114111 : Int32), (-2147483648 : Int32), (2147483647 : Int32)] _)
    refine own_go (g' := (mkF m 128 #[.val (.int p0), .val (.int p1), .val (.int p2), .val (.ref b1), .unset, .val (.int ix), .val (.int dd)] [(.int (own_edge [(0 : Int32), (9 : Int32), (10 : Int32), (13 : Int32), (32 : Int32), (55295 : Int32), (55296 : Int32), (57343 : Int32), (57344 : Int32), (65533 : Int32), (65534 : Int32), (65535 : Int32), (65536 : Int32), (1114111 : Int32), (-2147483648 : Int32), (2147483647 : Int32)] ix.toNatClampNeg))])) (X17.iaload hx (j := ix) (v := (.int (own_edge [(0 : Int32), (9 : Int32), (10 : Int32), (13 : Int32), (32 : Int32), (55295 : Int32), (55296 : Int32), (57343 : Int32), (57344 : Int32), (65533 : Int32), (65534 : Int32), (65535 : Int32), (65536 : Int32), (1114111 : Int32), (-2147483648 : Int32), (2147483647 : Int32)] ix.toNatClampNeg))) (by rw [e17]; exact Ar22.1) (State.isArrayOf_alike hZ.alike Ar22.2.1) Ar22.2.2 hin22 hat22 (g := (mkF m 127 #[.val (.int p0), .val (.int p1), .val (.int p2), .val (.ref b1), .unset, .val (.int ix), .val (.int dd)] [(.int ix), (.ref b1)])) rfl rfl (hb hby at_127)) ?_
    refine own_go (g' := (mkF m 130 #[.val (.int p0), .val (.int p1), .val (.int p2), .val (.ref b1), .unset, .val (.int ix), .val (.int dd)] [(.int dd), (.int (own_edge [(0 : Int32), (9 : Int32), (10 : Int32), (13 : Int32), (32 : Int32), (55295 : Int32), (55296 : Int32), (57343 : Int32), (57344 : Int32), (65533 : Int32), (65534 : Int32), (65535 : Int32), (65536 : Int32), (1114111 : Int32), (-2147483648 : Int32), (2147483647 : Int32)] ix.toNatClampNeg))])) (fun _ k => XS.iload X17.here hx rfl (hb hby at_128) rfl k) ?_
    refine own_go (g' := (mkF m 131 #[.val (.int p0), .val (.int p1), .val (.int p2), .val (.ref b1), .unset, .val (.int ix), .val (.int dd)] [(.int ((own_edge [(0 : Int32), (9 : Int32), (10 : Int32), (13 : Int32), (32 : Int32), (55295 : Int32), (55296 : Int32), (57343 : Int32), (57344 : Int32), (65533 : Int32), (65534 : Int32), (65535 : Int32), (65536 : Int32), (1114111 : Int32), (-2147483648 : Int32), (2147483647 : Int32)] ix.toNatClampNeg) + dd))])) (fun _ k => XS.iadd X17.here hx rfl (hb hby at_130) rfl k) ?_
    suffices JNhcp : ∀ cp : Int32, cp = ((own_edge [(0 : Int32), (9 : Int32), (10 : Int32), (13 : Int32), (32 : Int32), (55295 : Int32), (55296 : Int32), (57343 : Int32), (57344 : Int32), (65533 : Int32), (65534 : Int32), (65535 : Int32), (65536 : Int32), (1114111 : Int32), (-2147483648 : Int32), (2147483647 : Int32)] ix.toNatClampNeg) + dd) → own_Go p e below (own_Post s QQ 16 128) T17 (mkF m 131 #[.val (.int p0), .val (.int p1), .val (.int p2), .val (.ref b1), .unset, .val (.int ix), .val (.int dd)] [(.int cp)]) from JNhcp _ (rfl)
    intro cp hcp
    refine own_go (g' := (mkF m 133 #[.val (.int p0), .val (.int p1), .val (.int p2), .val (.ref b1), .val (.int cp), .val (.int ix), .val (.int dd)] [])) (fun _ k => XS.istore X17.here hx rfl (hb hby at_131) rfl (l' := #[.val (.int p0), .val (.int p1), .val (.int p2), .val (.ref b1), .val (.int cp), .val (.int ix), .val (.int dd)]) rfl k) ?_
    refine own_go (g' := (mkF m 135 #[.val (.int p0), .val (.int p1), .val (.int p2), .val (.ref b1), .val (.int cp), .val (.int ix), .val (.int dd)] [(.int cp)])) (fun _ k => XS.iload X17.here hx rfl (hb hby at_133) rfl k) ?_
    obtain ⟨v23, T23, L23, hQ23, X23, st23⟩ := own_callS X17 hx hZ (y := (⟨"com/example/notewright/notewright/XmlLines", "carries", "(I)Z"⟩ : MethodName)) hown (hw _ (List.mem_of_getElem? (i := 12) rfl)) (hw _ (List.mem_of_getElem? (i := 13) rfl)) (hw _ (List.mem_of_getElem? (i := 14) rfl)) (hw _ (List.mem_of_getElem? (i := 15) rfl)) ⟨by decide, by decide⟩ (argsL := [(.int cp)]) (rm1 l Z a0 hw cp h17) e17 (g := (mkF m 135 #[.val (.int p0), .val (.int p1), .val (.int p2), .val (.ref b1), .val (.int cp), .val (.int ix), .val (.int dd)] [(.int cp)])) rfl (by rw [hml]; rfl) (rest := []) (lenOf pd0_0 rfl) rfl (hb hby at_135) (W := 0) (by show 2 * 0 + _ ≤ _; exact Nat.le_of_eq rfl) (by decide) (by decide) (by decide) (by decide)
    obtain ⟨rfl, e23, rfl⟩ := hQ23
    have N23 := Fr.app N17 (Fr.nil n0)
    refine own_go (g' := (mkF m 138 #[.val (.int p0), .val (.int p1), .val (.int p2), .val (.ref b1), .val (.int cp), .val (.int ix), .val (.int dd)] [(.int (own_b (decide (cp = (9 : Int32) ∨ cp = (10 : Int32) ∨ cp = (13 : Int32) ∨ (¬ cp < (32 : Int32) ∧ ¬ (55295 : Int32) < cp) ∨ (¬ cp < (57344 : Int32) ∧ ¬ (65533 : Int32) < cp) ∨ ¬ cp < (65536 : Int32)))))])) (st23) ?_
    refine own_go (g' := (mkF m 140 #[.val (.int p0), .val (.int p1), .val (.int p2), .val (.ref b1), .val (.int cp), .val (.int ix), .val (.int dd)] [(.int cp), (.int (own_b (decide (cp = (9 : Int32) ∨ cp = (10 : Int32) ∨ cp = (13 : Int32) ∨ (¬ cp < (32 : Int32) ∧ ¬ (55295 : Int32) < cp) ∨ (¬ cp < (57344 : Int32) ∧ ¬ (65533 : Int32) < cp) ∨ ¬ cp < (65536 : Int32)))))])) (fun _ k => XS.iload X23.here hx rfl (hb hby at_138) rfl k) ?_
    obtain ⟨v24, T24, L24, hQ24, X24, st24⟩ := own_callS X23 hx hZ (y := (⟨"com/example/notewright/notewright/XmlLinesCarriesPinLaw", "expected", "(I)Z"⟩ : MethodName)) hown (hw _ (List.mem_of_getElem? (i := 16) rfl)) (hw _ (List.mem_of_getElem? (i := 17) rfl)) (hw _ (List.mem_of_getElem? (i := 18) rfl)) (hw _ (List.mem_of_getElem? (i := 19) rfl)) ⟨by decide, by decide⟩ (argsL := [(.int cp)]) (rm2 l Z a0 hw cp h17) e23 (g := (mkF m 140 #[.val (.int p0), .val (.int p1), .val (.int p2), .val (.ref b1), .val (.int cp), .val (.int ix), .val (.int dd)] [(.int cp), (.int (own_b (decide (cp = (9 : Int32) ∨ cp = (10 : Int32) ∨ cp = (13 : Int32) ∨ (¬ cp < (32 : Int32) ∧ ¬ (55295 : Int32) < cp) ∨ (¬ cp < (57344 : Int32) ∧ ¬ (65533 : Int32) < cp) ∨ ¬ cp < (65536 : Int32)))))])) rfl (by rw [hml]; rfl) (rest := [(.int (own_b (decide (cp = (9 : Int32) ∨ cp = (10 : Int32) ∨ cp = (13 : Int32) ∨ (¬ cp < (32 : Int32) ∧ ¬ (55295 : Int32) < cp) ∨ (¬ cp < (57344 : Int32) ∧ ¬ (65533 : Int32) < cp) ∨ ¬ cp < (65536 : Int32)))))]) (lenOf pd0_0 rfl) rfl (hb hby at_140) (W := 1) (by show 2 * 0 + _ ≤ _; exact Nat.le_of_eq rfl) (by decide) (by decide) (by decide) (by decide)
    obtain ⟨rfl, e24, rfl⟩ := hQ24
    have N24 := Fr.app N23 (Fr.nil n0)
    refine own_go (g' := (mkF m 143 #[.val (.int p0), .val (.int p1), .val (.int p2), .val (.ref b1), .val (.int cp), .val (.int ix), .val (.int dd)] [(.int (own_b (decide (cp = (9 : Int32) ∨ cp = (10 : Int32) ∨ cp = (13 : Int32) ∨ (¬ cp < (32 : Int32) ∧ ¬ (55295 : Int32) < cp) ∨ (¬ cp < (57344 : Int32) ∧ ¬ (65533 : Int32) < cp) ∨ ¬ cp < (65536 : Int32))))), (.int (own_b (decide (cp = (9 : Int32) ∨ cp = (10 : Int32) ∨ cp = (13 : Int32) ∨ (¬ cp < (32 : Int32) ∧ ¬ (55295 : Int32) < cp) ∨ (¬ cp < (57344 : Int32) ∧ ¬ (65533 : Int32) < cp) ∨ ¬ cp < (65536 : Int32)))))])) (st24) ?_
    refine own_go (g' := (mkF m 146 #[.val (.int p0), .val (.int p1), .val (.int p2), .val (.ref b1), .val (.int cp), .val (.int ix), .val (.int dd)] [])) (fun _ k => XS.icmpNo X24.here hx rfl (hb hby at_143) rfl (teq rfl).2 k) ?_
    refine own_go (g' := (mkF m 147 #[.val (.int p0), .val (.int p1), .val (.int p2), .val (.ref b1), .val (.int cp), .val (.int ix), .val (.int dd)] [(.int (1 : Int32))])) (fun _ k => XS.iconst X24.here hx rfl (hb hby at_146) k) ?_
    refine own_go (g' := (mkF m 151 #[.val (.int p0), .val (.int p1), .val (.int p2), .val (.ref b1), .val (.int cp), .val (.int ix), .val (.int dd)] [(.int (1 : Int32))])) (fun _ k => XS.goto X24.here hx rfl (pc0 := 147) (pc' := 151) rfl (hb hby at_147) (by decide) (by decide) k) ?_
    refine own_retN X24 hx .boolean Bd.returns Bd.notSynchronized (by simp) (hb hby at_151) (by decide) (by decide) ?_
    show QQ _ T24.heap _
    rw [e24]
    rw [← hQQ]
    exact ⟨rfl, N24⟩
set_option maxRecDepth 65536 in
set_option maxHeartbeats 40000000 in
theorem comes_1 {Post : Tables → Env → Array Value → State → Outcome → State → Prop} (hpost : ∀ tb e args s v u, (limb_1_1.after args s (.returned v) u = true ∧ limb_1_2.after args s (.returned v) u = true ∧ True) → FrameEnd s (.returned v) u (Jvm.fieldLocs frame_1_writes args s ++ Jvm.arrayLocs frame_1_arrays args s ++ Jvm.staticLocs frame_1_statics s) 16 128 → Post tb e args s (.returned v) u) :
    ArmFor flags0 classFile x code maxLocals ret World_1 tables_1 room_1 Calls_1 rest_1 Pre_1 Post := by
  intro l hfl _ _ p e ha hc hk s m args below hf hA hF happ hP
  obtain ⟨hcalls, hrest, hpre⟩ := hP
  obtain ⟨-, -, -, hnamed, -, -, -, hat⟩ := (Spec.applies_iff hf).mp happ
  obtain ⟨hg, hn⟩ := and_e (Cond.before_iff.mp (show (Jvm.Cond.and given_1 narrow_1).before args s = true from hpre))
  obtain ⟨g1, g2⟩ := and_e hg
  obtain ⟨g3, g4⟩ := and_e g2
  obtain ⟨g5, g6⟩ := and_e g4
  obtain ⟨w0, w1, w2, rfl⟩ : ∃ w0 w1 w2 : Value, args = #[w0, w1, w2] := by
    have hs : args.size = 3 := by simpa [Cond.value, given_1] using g1
    obtain ⟨L⟩ := args
    match L, hs with
    | [w0, w1, w2], _ => exact ⟨w0, w1, w2, rfl⟩
  have hw := fun d (hd : d ∈ tables_1) => atoms_spec (ws := Jvm.Cond.code x code maxLocals ret :: tables_1) hat d (List.mem_cons_of_mem _ hd)
  obtain ⟨i0, ei0⟩ := is_v g3
  obtain rfl : w0 = (.int i0) := Option.some.inj ei0
  obtain ⟨i1, ei1⟩ := is_v g5
  obtain rfl : w1 = (.int i1) := Option.some.inj ei1
  obtain ⟨i2, ei2⟩ := is_v g6
  obtain rfl : w2 = (.int i2) := Option.some.inj ei2
  obtain ⟨n, o, h1, h2, h3, _, L, rfl, ⟨rfl, N⟩, hq⟩ := rm0 l s _ hw i0 i1 i2 s.heap s.heap.size (Nat.le_refl _) p e ha hc hk s m _ below hf ((Spec.applies_iff_loose hf).mp happ).1 ⟨rfl, State.Warmed39.refl s, rfl⟩ trivial
  refine ⟨n, _, h1, h2, h3, hpost _ _ _ _ _ _ ⟨Cond.after_iff.mpr rfl, Cond.after_iff.mpr (eq_i res_at (Term.int_eval (1)) rfl), trivial⟩ ⟨hq.1, hq.2.1, (hq.2.2.sift fun y hy => Or.inr (N y hy)).mono (by decide) (by decide)⟩⟩
theorem main_1_1 : Claimed_1_1 := comes_1 fun _ _ _ _ _ _ h hF => ⟨h.1, hF⟩
theorem main_1_2 : Claimed_1_2 := comes_1 fun _ _ _ _ _ _ h hF => ⟨h.2.1, hF⟩
end Jvm.Pilot.@@N@@
namespace Jvm.Pilot.@@N@@
open Jvm Jvm.ClassFile Sem Op Lib Jvm.Free Jvm.Stand Jvm.Pilot.@@N@@.Jvm.D
/-! MADE BY PROGRAM (witnessworld.py) out of the Statement's table words and the real class files: 9 classes; the members and pool entries that the words name. The judged class is class 1, her method 1. -/
namespace start1
open Jvm.ClassFile
def u (s : String) : CpInfo := .utf8 (stringToUtf16 s)
/-- a pool by its gaps: so many unusable entries, then the entry; so many at the end -/
def gap : Nat → List CpInfo → List CpInfo
  | 0, r => r
  | n + 1, r => .unusable :: gap n r
def poolList (es : List (Nat × CpInfo)) (last : Nat) : List CpInfo := es.foldr (fun e r => gap e.1 (e.2 :: r)) (gap last [])
def pool (es : List (Nat × CpInfo)) (last : Nat) : Array CpInfo := ⟨poolList es last⟩
def fileOf (pool : Array CpInfo) (this : Nat) (attrs : Array Attribute := #[]) (ms : Array MethodInfo := #[]) (fl : Nat := 33) (sup : Nat := 0) (ifs : Array Nat := #[]) (fds : Array FieldInfo := #[]) : ClassFile where
  minorVersion := 0
  majorVersion := 65
  constantPool := pool
  accessFlags := fl
  thisClass := this
  superClass := sup
  interfaces := ifs
  fields := fds
  methods := ms
  attributes := attrs
def plain (name : String) (sup : Option ClassId) : Class where
  name := name
  kind := .ordinary
  loader := none
  accessFlags := 33
  super := sup
  interfaces := #[]
  cf := none
  fields := #[]
  methods := #[]
  instanceTypes := #[]
  staticTypes := #[]
  resolved := #[]
  callSites := []
  init := .initialized
  statics := none
  mirror := none

def pool0 : Array CpInfo := pool [(5, u "<init>"), (0, u "()V"), (1, .class_ 10), (1, u "java/lang/Object")] 113

def k0m0 : Method := { name := "<init>", desc := "()V", sig := { parameters := [], returnType := none }, accessFlags := 1, code := none }
/-- java/lang/Object -/
def k0 : Class := { plain "java/lang/Object" none with
  accessFlags := 33
  interfaces := #[]
  cf := some (fileOf pool0 8 #[] #[{ accessFlags := 1, nameIndex := 5, descriptorIndex := 6, attributes := #[] }] 33 0 #[] #[])
  fields := #[]
  methods := #[k0m0]
  instanceTypes := #[]
  staticTypes := #[]
  resolved := Array.replicate 124 none
  statics := none }

def pool1 : Array CpInfo := pool [(2, .class_ 4), (1, u "java/lang/Object"), (0, u "<init>"), (0, u "()V"), (0, .integer 55295), (0, .integer 55296), (0, .integer 57343), (0, .integer 57344), (0, .integer 65533), (0, .integer 65534), (0, .integer 65535), (0, .integer 65536), (0, .integer 1114111), (2, .integer 2147483648), (0, .integer 2147483647), (0, .methodref 21 22), (0, .class_ 23), (0, .nameAndType 24 25), (0, u "com/example/notewright/notewright/XmlLines"), (0, u "carries"), (0, u "(I)Z"), (0, .methodref 27 28), (0, .class_ 29), (0, .nameAndType 30 25), (0, u "com/example/notewright/notewright/XmlLinesCarriesPinLaw"), (0, u "expected"), (2, u "law"), (0, u "(III)Z")] 5

def k1m0 : Method := { name := "<init>", desc := "()V", sig := { parameters := [], returnType := none }, accessFlags := 1, code := none }
def k1c1 : Code := { maxStack := 4, maxLocals := 7, code := code, exceptionTable := #[], attributes := #[] }
def k1m1 : Method := { name := "law", desc := "(III)Z", sig := { parameters := [.int, .int, .int], returnType := some .boolean }, accessFlags := 9, code := some k1c1 }
def k1c2 : Code := { maxStack := 2, maxLocals := 1, code := method_3_code, exceptionTable := #[], attributes := #[] }
def k1m2 : Method := { name := "expected", desc := "(I)Z", sig := { parameters := [.int], returnType := some .boolean }, accessFlags := 10, code := some k1c2 }
/-- com/example/notewright/notewright/XmlLinesCarriesPinLaw -/
def k1 : Class := { plain "com/example/notewright/notewright/XmlLinesCarriesPinLaw" (some 0) with
  accessFlags := 49
  interfaces := #[]
  cf := some (fileOf pool1 27 #[] #[{ accessFlags := 1, nameIndex := 5, descriptorIndex := 6, attributes := #[] }, { accessFlags := 9, nameIndex := 33, descriptorIndex := 34, attributes := #[] }, { accessFlags := 10, nameIndex := 30, descriptorIndex := 25, attributes := #[] }] 49 2 #[] #[])
  fields := #[]
  methods := #[k1m0, k1m1, k1m2]
  instanceTypes := #[]
  staticTypes := #[]
  resolved := Array.replicate 40 none
  statics := none }

def pool2 : Array CpInfo := pool [(4, .class_ 6), (1, u "java/lang/Object"), (2, .class_ 10), (0, u "com/example/notewright/notewright/XmlLines"), (3, u "inlineFrom"), (0, u "I"), (2, u "writer"), (0, u "Ljavax/xml/stream/XMLStreamWriter;"), (61, .class_ 83), (1, u "com/example/notewright/notewright/XmlLines$Content"), (25, .integer 55295), (0, .integer 57344), (0, .integer 65533), (0, .integer 65536), (12, u "depth"), (50, u "carries"), (0, u "(I)Z"), (15, u "REPLACEMENT"), (1, u "NOT_INLINE")] 27

def k2c0 : Code := { maxStack := 2, maxLocals := 1, code := prog_93_method_4_code, exceptionTable := #[], attributes := #[] }
def k2m0 : Method := { name := "carries", desc := "(I)Z", sig := { parameters := [.int], returnType := some .boolean }, accessFlags := 8, code := some k2c0 }
/-- com/example/notewright/notewright/XmlLines -/
def k2 : Class := { plain "com/example/notewright/notewright/XmlLines" (some 0) with
  accessFlags := 48
  interfaces := #[]
  cf := some (fileOf pool2 9 #[.nestMembers #[81]] #[{ accessFlags := 8, nameIndex := 176, descriptorIndex := 177, attributes := #[] }] 48 4 #[] #[{ accessFlags := 26, nameIndex := 193, descriptorIndex := 15, attributes := #[] }, { accessFlags := 26, nameIndex := 195, descriptorIndex := 15, attributes := #[] }, { accessFlags := 18, nameIndex := 18, descriptorIndex := 19, attributes := #[] }, { accessFlags := 2, nameIndex := 125, descriptorIndex := 15, attributes := #[] }, { accessFlags := 2, nameIndex := 14, descriptorIndex := 15, attributes := #[] }])
  fields := #[{ name := "REPLACEMENT", type := .int, accessFlags := 26, slot := 0, constantValue := 0 }, { name := "NOT_INLINE", type := .int, accessFlags := 26, slot := 1, constantValue := 0 }, { name := "writer", type := (.object "javax/xml/stream/XMLStreamWriter"), accessFlags := 18, slot := 0, constantValue := 0 }, { name := "depth", type := .int, accessFlags := 2, slot := 1, constantValue := 0 }, { name := "inlineFrom", type := .int, accessFlags := 2, slot := 2, constantValue := 0 }]
  methods := #[k2m0]
  instanceTypes := #[(.object "javax/xml/stream/XMLStreamWriter"), .int, .int]
  staticTypes := #[.int, .int]
  resolved := Array.replicate 223 none
  statics := none }

def pool3 : Array CpInfo := pool [(1, u "java/lang/Cloneable"), (0, .class_ 1), (0, u "java/lang/Object"), (0, .class_ 3)] 3

/-- java/lang/Cloneable -/
def k3 : Class := { plain "java/lang/Cloneable" (some 0) with
  accessFlags := 1537
  interfaces := #[]
  cf := some (fileOf pool3 2 #[] #[] 1537 4 #[] #[])
  fields := #[]
  methods := #[]
  instanceTypes := #[]
  staticTypes := #[]
  resolved := Array.replicate 8 none
  statics := none }

def pool4 : Array CpInfo := pool [(1, u "java/io/Serializable"), (0, .class_ 1), (0, u "java/lang/Object"), (0, .class_ 3)] 3

/-- java/io/Serializable -/
def k4 : Class := { plain "java/io/Serializable" (some 0) with
  accessFlags := 1537
  interfaces := #[]
  cf := some (fileOf pool4 2 #[] #[] 1537 4 #[] #[])
  fields := #[]
  methods := #[]
  instanceTypes := #[]
  staticTypes := #[]
  resolved := Array.replicate 8 none
  statics := none }

/-- the primitive byte -/
def k5 : Class := { plain "byte" none with kind := .primitive 'B', accessFlags := 0x411 }
/-- [B -/
def k6 : Class := { plain "[B" (some 0) with kind := .array 5 .byte, interfaces := #[3, 4], accessFlags := 1041 }

/-- the primitive int -/
def k7 : Class := { plain "int" none with kind := .primitive 'I', accessFlags := 0x411 }
/-- [I -/
def k8 : Class := { plain "[I" (some 0) with kind := .array 7 .int, interfaces := #[3, 4], accessFlags := 1041 }

def heap : Heap := #[]
def classes : Array Class := #[k0, k1, k2, k3, k4, k5, k6, k7, k8]
def interned : List (Array UInt16 × Addr) := []
def slotsUsed : Nat := 0
def theMethod : MethodId := ⟨1, 1⟩
def args0 : Array Value := #[.int 5, .int 7, .int 9]
def aboutOver (below : List Frame) : State where
  vm := { classes := classes, interned := interned.toArray }
  heap := heap
  slotsUsed := slotsUsed
  threads := #[{ frames := .invoking theMethod args0 :: below }]
def below0 : List Frame := [.native { method := ⟨0, 0⟩, args := #[] }]
def about1 : State := aboutOver below0
def p0 : Program := .bare "" "" ""
def e0 : Env := launch0.env 0 0 0
theorem w_frames : about1.frames = Frame.invoking theMethod args0 :: below0 := rfl
set_option maxRecDepth 65536 in
theorem w_args : argsFit about1.vm theMethod args0 = true := by decide +kernel
set_option maxRecDepth 65536 in
theorem w_heap : heapFits about1 = true := by decide +kernel
set_option maxRecDepth 65536 in
theorem w_runnable : about1.curStatus? = some .runnable := by decide +kernel
set_option maxRecDepth 65536 in
theorem w_alone : about1.alone = true := by decide +kernel
set_option maxRecDepth 65536 in
theorem w_named : about1.methodNamed? x = some theMethod := by decide +kernel
set_option maxRecDepth 65536 in
theorem w_hears : about1.hears theMethod below0 = true := by decide +kernel
set_option maxRecDepth 65536 in
theorem w_ripe : about1.ripe theMethod args0 below0 = true := by decide +kernel
theorem w_running : about1.status = .running := rfl
set_option maxRecDepth 65536 in
theorem w_room : about1.hasRoom e0.platform room_1 = true :=
  launch0.hasRoom_least _ room_1 (by decide +kernel) (by decide +kernel) (by decide +kernel) (by decide +kernel) (by decide +kernel) (by decide +kernel)
theorem allAtoms_all (ts : List Jvm.Cond) (a : Array Jvm.Value) (st : Jvm.State) : (allAtoms ts).before a st = ts.all (fun c => c.before a st) := by
  induction ts with
  | nil => rfl
  | cons c t ih =>
    show (Jvm.Cond.and c (allAtoms t)).before a st = _
    rw [Jvm.Cond.before_and, ih, List.all_cons]
def words1 : List Jvm.Cond := Jvm.Cond.code x code maxLocals ret :: tables_1
/-- a 'code' word, met by the world's own term for the bytes: nothing is compared byte by byte -/
theorem code_word {y : MethodName} {bytes : ByteArray} {mx : Nat} {rt : Option FieldType} {a : Array Value} {s : State} {m : MethodId} {meth : Method} {c : Code} (h1 : s.methodNamed? y = some m) (h2 : s.vm.method? m = some meth) (h3 : meth.code = some c) (h4 : c.code = bytes)
    (h5 : (c.maxLocals == mx && c.exceptionTable.isEmpty && decide (c.maxStack ≤ mostOperands) && decide (meth.sig.returnType = rt) && !meth.locks && decide (parseMethodDescriptor y.desc = some meth.sig)) = true) : (Jvm.Cond.code y bytes mx rt).before a s = true := by
  simp only [Bool.and_eq_true, beq_iff_eq, Bool.not_eq_true', decide_eq_true_eq] at h5
  obtain ⟨⟨⟨⟨⟨g1, g2⟩, g3⟩, g4⟩, g5⟩, g6⟩ := h5
  simp [Cond.before, Cond.holds, Cond.value, h1, h2, h3, h4, g1, g2, g3, g4, g5, g6]
def isCode : Jvm.Cond → Bool
  | .code _ _ _ _ => true
  | _ => false
theorem all_split {L : List Jvm.Cond} {P : Jvm.Cond → Bool} (h1 : L.all (fun c => isCode c || P c) = true) (h2 : ∀ c ∈ L.filter isCode, P c = true) : L.all P = true := by
  refine List.all_eq_true.mpr fun c hc => ?_
  have h := List.all_eq_true.mp h1 c hc
  rcases Bool.eq_false_or_eq_true (isCode c) with hi | hi
  · exact h2 c (List.mem_filter.mpr ⟨hc, hi⟩)
  · simpa [hi] using h
set_option maxRecDepth 65536 in
theorem w_c0 : (Jvm.Cond.code x code maxLocals ret).before args0 about1 = true := code_word (m := ⟨1, 1⟩) (meth := k1m1) (c := k1c1) (by decide +kernel) rfl rfl rfl (by decide +kernel)
set_option maxRecDepth 65536 in
theorem w_c1 : (Jvm.Cond.code ({ cls := "com/example/notewright/notewright/XmlLines", name := "carries", desc := "(I)Z" } : Jvm.MethodName) prog_93_method_4_code (1 : Nat) (Option.some Jvm.ClassFile.FieldType.boolean)).before args0 about1 = true := code_word (m := ⟨2, 0⟩) (meth := k2m0) (c := k2c0) (by decide +kernel) rfl rfl rfl (by decide +kernel)
set_option maxRecDepth 65536 in
theorem w_c2 : (Jvm.Cond.code ({ cls := "com/example/notewright/notewright/XmlLinesCarriesPinLaw", name := "expected", desc := "(I)Z" } : Jvm.MethodName) method_3_code (1 : Nat) (Option.some Jvm.ClassFile.FieldType.boolean)).before args0 about1 = true := code_word (m := ⟨1, 2⟩) (meth := k1m2) (c := k1c2) (by decide +kernel) rfl rfl rfl (by decide +kernel)
def codes1 : List Jvm.Cond := [Jvm.Cond.code x code maxLocals ret, Jvm.Cond.code ({ cls := "com/example/notewright/notewright/XmlLines", name := "carries", desc := "(I)Z" } : Jvm.MethodName) prog_93_method_4_code (1 : Nat) (Option.some Jvm.ClassFile.FieldType.boolean), Jvm.Cond.code ({ cls := "com/example/notewright/notewright/XmlLinesCarriesPinLaw", name := "expected", desc := "(I)Z" } : Jvm.MethodName) method_3_code (1 : Nat) (Option.some Jvm.ClassFile.FieldType.boolean)]
set_option maxRecDepth 65536 in
theorem codes_eq : words1.filter isCode = codes1 := rfl
theorem w_codes : ∀ c ∈ words1.filter isCode, c.before args0 about1 = true := by
  rw [codes_eq]
  intro c hc
  simp only [codes1, List.mem_cons, List.not_mem_nil, or_false] at hc
  rcases hc with rfl | rfl | rfl
  · exact w_c0
  · exact w_c1
  · exact w_c2
set_option maxRecDepth 65536 in
theorem w_t1 : (words1.take 24).all (fun c => isCode c || c.before args0 about1) = true := by decide +kernel
set_option maxRecDepth 65536 in
theorem w_t2 : (words1.drop 24).all (fun c => isCode c || c.before args0 about1) = true := by decide +kernel
theorem w_tables : (allAtoms (Jvm.Cond.code x code maxLocals ret :: tables_1)).before args0 about1 = true := by
  rw [allAtoms_all]
  show words1.all (fun c => c.before args0 about1) = true
  refine all_split ?_ w_codes
  rw [← List.take_append_drop 24 words1, List.all_append, w_t1, w_t2]
  rfl
set_option maxRecDepth 65536 in
theorem w_case : (Jvm.Cond.and given_1 narrow_1).before args0 about1 = true := by decide +kernel
theorem w_applies : (headSpec (Jvm.Cond.code x code maxLocals ret :: tables_1) room_1).applies x e0.platform about1 = true :=
  (Spec.applies_iff w_frames).mpr ⟨w_running, w_runnable, w_alone, w_named, w_hears, w_ripe, w_room, w_tables⟩
theorem atStart : AtStart classFile x code maxLocals ret World_1 tables_1 room_1 Calls_1 rest_1 Pre_1 launch0 p0 e0 about1 theMethod args0 below0 :=
  ⟨lists_1, trivial, launch0.admits_env _ _ _, launch0.least_env, fairChoices_fair.cas, fairChoices_fair.clock, w_frames, w_args, w_heap, w_applies, trivial, trivial, w_case⟩
end start1
theorem witness_1 : WitnessClaimed_1 := ⟨start1.p0, start1.e0, start1.about1, start1.theMethod, start1.args0, start1.below0, start1.atStart⟩
end Jvm.Pilot.@@N@@
