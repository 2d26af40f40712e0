import JvmDerived
import JvmDerived.Pilot.@@N@@Statement
import JvmDerived.Pilot.@@N@@Code
set_option linter.unusedVariables false
set_option linter.unusedSimpArgs false
namespace Jvm.Pilot.@@N@@
open Jvm Jvm.ClassFile Sem Op Lib Jvm.Free Jvm.Stand Jvm.LawKit Jvm.RoadKit Bundle Jvm.Pilot.@@N@@.Jvm.D
/-! own_..: the walk in goal form: own_Go says that from a frame on the run comes to its end as the contract says; every step turns the goal for one frame into the goal for the next, so a branch is a case split and a join a 'have'. -/
def own_Post (s : State) (Q : Option Value → Heap → List Loc → Prop) (cs ss : Nat) (o : Outcome) (u : State) : Prop := ∃ v L, o = .returned v ∧ Q v u.heap L ∧ FrameEnd s o u L cs ss
def own_Go (p : Program) (e : Env) (below : List Frame) (Qf : Outcome → State → Prop) (T : State) (g : JFrame) : Prop := ∃ s₂ o, Steps p.tables e below (T.setTop g) s₂ ∧ s₂.status = .running ∧ Ended s₂ below o ∧ Qf o s₂
abbrev own_Met (l : Launch) (Z : State) (y : MethodName) (bytes : ByteArray) (maxL : Nat) (ret : Option FieldType) (ws : List Jvm.Cond) (rm : Room) (as' : Array Value) (h0 : Heap) (cs ss : Nat) (Q : Option Value → Heap → List Loc → Prop) : Prop :=
  MetFree l y (head1 (Jvm.Cond.code y bytes maxL ret :: ws) rm) (fun a U => a = as' ∧ Z.Warmed39 U.vm ∧ U.heap = h0) (fun _ _ _ _ _ => True) (fun _ U o U' => ∃ v L, o = .returned v ∧ Q v U'.heap L ∧ FrameEnd U o U' L cs ss)
def own_b (b : Bool) : Int32 := if b then 1 else 0
theorem own_b_t {b : Bool} (h : b = true) : own_b b = 1 := by subst h; rfl
theorem own_b_f {b : Bool} (h : ¬ b = true) : own_b b = 0 := by rw [Bool.eq_false_iff.mpr h]; rfl
theorem own_b_n {b : Bool} (h : b = true) : ¬ own_b b = 0 := by subst h; decide
theorem own_b_nar (b : Bool) : nar .boolean (own_b b) = own_b b := by cases b <;> rfl
theorem own_b_fits (b : Bool) : fits .boolean (.int (own_b b)) = true := by cases b <;> rfl
theorem own_b_inj {a b : Bool} (h : own_b a = own_b b) : a = b := by cases a <;> cases b <;> first | rfl | exact absurd h (by decide)
section Own
variable {p : Program} {l : Launch} {e : Env} {R : Room} {s : State} {m : MethodId} {args : Array Value} {below : List Frame} {meth : Method} {c : Code} {T T' : State} {locs : List Loc} {cells slots : Nat} {Z : State} {a0 : Array Value} {h : Heap}
theorem own_go {Qf : Outcome → State → Prop} {g g' : JFrame} (h : ∀ t, Steps p.tables e below (T'.setTop g') t → Steps p.tables e below (T.setTop g) t) (k : own_Go p e below Qf T' g') : own_Go p e below Qf T g := by
  obtain ⟨s₂, o, h1, h2⟩ := k
  exact ⟨s₂, o, h _ h1, h2⟩
theorem own_cast {Qf : Outcome → State → Prop} {g g' : JFrame} (q : g = g') (k : own_Go p e below Qf T g') : own_Go p e below Qf T g := q ▸ k
theorem own_met {y : MethodName} {bytes : ByteArray} {maxL : Nat} {ret : Option FieldType} {ws : List Jvm.Cond} {rm : Room} {as' : Array Value} {h0 : Heap} {cs ss : Nat} {Q : Option Value → Heap → List Loc → Prop} (hp : plainFor y = true)
    (body : ∀ (p : Program) (e : Env) (s : State) (m : MethodId) (below : List Frame) (meth : Method) (c : Code) (s₁ : State), BodyLoose p l y (head1 (Jvm.Cond.code y bytes maxL ret :: ws) rm) bytes maxL ret e s m as' below meth c s₁ → c.maxLocals = maxL → Z.Warmed39 s.vm →
      Stand p l e rm s m as' below meth c s₁ [] 0 0 → s₁.heap = h0 → own_Go p e below (own_Post s Q cs ss) s₁ (entryFrame m as' maxL)) : own_Met l Z y bytes maxL ret ws rm as' h0 cs ss Q := by
  refine MetFree.of_bodySF hp hisR ?_
  intro p e s m args below meth c s₁ Bd hml0 hP hK
  obtain ⟨rfl, hZ, hh⟩ := hP
  exact body p e s m below meth c s₁ Bd hml0 hZ (Stand.of_body Bd) (by rw [← hh, Bd.state]; rfl)
theorem own_retN (X : Stand p l e R s m args below meth c T locs cells slots) (hx : p.tables.exec = Jvm.exec) (t : FieldType) (hret : meth.sig.returnType = some t) (hlk : meth.locks = false) (ht : t = .boolean ∨ t = .byte ∨ t = .char ∨ t = .short) {pc : Nat} {Ls : Array Slot} {z : Int32} {rest : List Value} (hd : decode c.code pc = .ok (.ireturn, 1))
    {Q : Option Value → Heap → List Loc → Prop} {cs ss : Nat} (hc : cells ≤ cs) (hs : slots ≤ ss) (hQ : Q (some (.int (nar t z))) T.heap locs) : own_Go p e below (own_Post s Q cs ss) T (mkF m pc Ls (.int z :: rest)) := by
  obtain ⟨fs, hr, hrun, hended, hW, hsame⟩ := X.leave (v := some (.int (nar t z))) (fun h => by rw [hret] at h; cases h) hlk
  exact ⟨_, _, retN X hx hret ht hd hr, hrun, hended, _, _, rfl, hQ, ⟨_, rfl⟩, hW, hsame.mono hc hs⟩
theorem own_retI (X : Stand p l e R s m args below meth c T locs cells slots) (hx : p.tables.exec = Jvm.exec) (hret : meth.sig.returnType = some .int) (hlk : meth.locks = false) {pc : Nat} {Ls : Array Slot} {z : Int32} {rest : List Value} (hd : decode c.code pc = .ok (.ireturn, 1))
    {Q : Option Value → Heap → List Loc → Prop} {cs ss : Nat} (hc : cells ≤ cs) (hs : slots ≤ ss) (hQ : Q (some (.int z)) T.heap locs) : own_Go p e below (own_Post s Q cs ss) T (mkF m pc Ls (.int z :: rest)) := by
  obtain ⟨fs, hr, hrun, hended, hW, hsame⟩ := X.leave (v := some (.int z)) (fun h => by rw [hret] at h; cases h) hlk
  exact ⟨_, _, retOut X hx hret rfl (Or.inl ⟨rfl, Or.inl rfl, _, rfl⟩) hd hr, hrun, hended, _, _, rfl, hQ, ⟨_, rfl⟩, hW, hsame.mono hc hs⟩
theorem own_retJ (X : Stand p l e R s m args below meth c T locs cells slots) (hx : p.tables.exec = Jvm.exec) (hret : meth.sig.returnType = some .long) (hlk : meth.locks = false) {pc : Nat} {Ls : Array Slot} {z : Int64} {rest : List Value} (hd : decode c.code pc = .ok (.lreturn, 1))
    {Q : Option Value → Heap → List Loc → Prop} {cs ss : Nat} (hc : cells ≤ cs) (hs : slots ≤ ss) (hQ : Q (some (.long z)) T.heap locs) : own_Go p e below (own_Post s Q cs ss) T (mkF m pc Ls (.long z :: rest)) := by
  obtain ⟨fs, hr, hrun, hended, hW, hsame⟩ := X.leave (v := some (.long z)) (fun h => by rw [hret] at h; cases h) hlk
  exact ⟨_, _, retOut X hx hret rfl (Or.inr (Or.inl ⟨rfl, rfl, _, rfl⟩)) hd hr, hrun, hended, _, _, rfl, hQ, ⟨_, rfl⟩, hW, hsame.mono hc hs⟩
theorem own_retA (X : Stand p l e R s m args below meth c T locs cells slots) (hx : p.tables.exec = Jvm.exec) {t : FieldType} (hret : meth.sig.returnType = some t) (hlk : meth.locks = false) (ht : t.isReference = true) {pc : Nat} {Ls : Array Slot} {w : Value} {rest : List Value} (hw : w.isRef = true) (hd : decode c.code pc = .ok (.areturn, 1))
    {Q : Option Value → Heap → List Loc → Prop} {cs ss : Nat} (hc : cells ≤ cs) (hs : slots ≤ ss) (hQ : Q (some w) T.heap locs) : own_Go p e below (own_Post s Q cs ss) T (mkF m pc Ls (w :: rest)) := by
  obtain ⟨fs, hr, hrun, hended, hW, hsame⟩ := X.leave (v := some w) (fun h => by rw [hret] at h; cases h) hlk
  have hn : narrow t w = w := by rcases ref_cases hw with rfl | ⟨a, rfl⟩ <;> cases t <;> first | rfl | cases ht
  exact ⟨_, _, retOut X hx hret hn (Or.inr (Or.inr (Or.inr (Or.inr ⟨rfl, ht, hw⟩)))) hd hr, hrun, hended, _, _, rfl, hQ, ⟨_, rfl⟩, hW, hsame.mono hc hs⟩
theorem own_retV (X : Stand p l e R s m args below meth c T locs cells slots) (hx : p.tables.exec = Jvm.exec) (hret : meth.sig.returnType = none) (hlk : meth.locks = false) {pc : Nat} {Ls : Array Slot} (hd : decode c.code pc = .ok (.return_, 1))
    {Q : Option Value → Heap → List Loc → Prop} {cs ss : Nat} (hc : cells ≤ cs) (hs : slots ≤ ss) (hQ : Q none T.heap locs) : own_Go p e below (own_Post s Q cs ss) T (mkF m pc Ls []) := by
  obtain ⟨fs, hr, hrun, hended, hW, hsame⟩ := X.leave (v := none) (fun _ => rfl) hlk
  exact ⟨_, _, X.returnOut hx hret hd hr, hrun, hended, _, _, rfl, hQ, ⟨_, rfl⟩, hW, hsame.mono hc hs⟩
theorem own_callS (X : Stand p l e R s m args below meth c T locs cells slots) (hx : p.tables.exec = Jvm.exec) (hZ : Z.Warmed39 s.vm) {own : String} {index : Nat} {y : MethodName} {bytes : ByteArray} {maxL : Nat} {ret : Option FieldType} (hown : s.vm.findClass own = some m.cls)
    (w1 : (Jvm.Cond.methodLink own index y).before a0 Z = true) (w2 : (Jvm.Cond.static y).before a0 Z = true) (w3 : (Jvm.Cond.initialized y.cls).before a0 Z = true) (w4 : (Jvm.Cond.code y bytes maxL ret).before a0 Z = true)
    (hy : y.cls ≠ "java/lang/invoke/MethodHandle" ∧ y.cls ≠ "java/lang/invoke/VarHandle") {rm : Room} {argsL : List Value} {Q : Option Value → Heap → List Loc → Prop} (hM : own_Met l Z y bytes maxL ret [] rm argsL.toArray h rm.cells rm.slots Q) (eT : T.heap = h)
    {g : JFrame} (hg : g.method = m) (hsize : g.locals.size = c.maxLocals) {rest : List Value} (hlen : ∀ sig, parseMethodDescriptor y.desc = some sig → argsL.length = sig.parameters.length) (hstack : g.stack = argsL.reverse ++ rest)
    (hdg : decode c.code g.pc = .ok (.invokestatic index, 3)) {W : Nat} (hW : 2 * g.monitorRoom + (rest.map fun v => v.category).sum ≤ W) (hf : rm.frames + 1 ≤ R.frames) (hl : W + (maxL + 11) + rm.locals ≤ R.locals) (hc : cells + rm.cells ≤ R.cells) (hs : slots + rm.slots ≤ R.slots) :
    ∃ (v : Option Value) (T' : State) (L : List Loc), Q v T'.heap L ∧ Stand p l e R s m args below meth c T' (locs ++ L) (cells + rm.cells) (slots + rm.slots) ∧
      ∀ t, Steps p.tables e below (T'.setTop { g with pc := g.pc + 3, stack := v.toList ++ rest }) t → Steps p.tables e below (T.setTop g) t := by
  obtain ⟨v, _, ⟨T', L', k', n'⟩, -, X', ⟨L, hQ, l1, l2, l3⟩, st⟩ := Jvm.LawKit.callS X hx hown (mvT hZ w1) (mvT hZ w2) (mvT hZ w3) (mvT hZ w4) hy (backOf (W := W) hM hZ w4 w3 hf hl) hg hsize hlen hstack hW hdg (fun _ _ => ⟨rfl, eT, hc, hs⟩)
  dsimp only [Pt.U, Pt.locs, Pt.cells, Pt.slots] at X' l1 l2 l3 st hQ
  subst l1 l2 l3
  exact ⟨v, T', L, hQ, X', st⟩
theorem own_callI (X : Stand p l e R s m args below meth c T locs cells slots) (hx : p.tables.exec = Jvm.exec) (hZ : Z.Warmed39 s.vm) {own : String} {index : Nat} {y : MethodName} {bytes : ByteArray} {maxL : Nat} (hy1 : y.name = "<init>") (hown : s.vm.findClass own = some m.cls)
    (w1 : (Jvm.Cond.methodLink own index y).before a0 Z = true) (w2 : (Jvm.Cond.instanceMethod y).before a0 Z = true) (w3 : (Jvm.Cond.initialized y.cls).before a0 Z = true) (w4 : (Jvm.Cond.code y bytes maxL none).before a0 Z = true)
    (hy : y.cls ≠ "java/lang/invoke/MethodHandle" ∧ y.cls ≠ "java/lang/invoke/VarHandle") {rm : Room} {a : Addr} {argsL : List Value} {Q : Option Value → Heap → List Loc → Prop} (hM : own_Met l Z y bytes maxL none [] rm (.ref a :: argsL).toArray h rm.cells rm.slots Q) (eT : T.heap = h)
    {g : JFrame} (hg : g.method = m) (hsize : g.locals.size = c.maxLocals) {rest : List Value} (hlen : ∀ sig, parseMethodDescriptor y.desc = some sig → argsL.length = sig.parameters.length) (hstack : g.stack = argsL.reverse ++ .ref a :: rest)
    (hdg : decode c.code g.pc = .ok (.invokespecial index, 3)) {W : Nat} (hW : 2 * g.monitorRoom + (rest.map fun v => v.category).sum ≤ W) (hf : rm.frames + 1 ≤ R.frames) (hl : W + (maxL + 11) + rm.locals ≤ R.locals) (hc : cells + rm.cells ≤ R.cells) (hs : slots + rm.slots ≤ R.slots) :
    ∃ (v : Option Value) (T' : State) (L : List Loc), Q v T'.heap L ∧ Stand p l e R s m args below meth c T' (locs ++ L) (cells + rm.cells) (slots + rm.slots) ∧
      ∀ t, Steps p.tables e below (T'.setTop { g with pc := g.pc + 3, stack := v.toList ++ rest }) t → Steps p.tables e below (T.setTop g) t := by
  obtain ⟨v, _, ⟨T', L', k', n'⟩, -, X', ⟨L, hQ, l1, l2, l3⟩, st⟩ := X.specialBack hx hy1 hown (mvT hZ w1) (mvT hZ w2) (mvT hZ w4) hy (backOf (W := W) hM hZ w4 w3 hf hl) hg hsize (Steps.refl _) hlen hstack hW hdg (fun _ _ => ⟨rfl, eT, hc, hs⟩)
  dsimp only [Pt.U, Pt.locs, Pt.cells, Pt.slots] at X' l1 l2 l3 st hQ
  subst l1 l2 l3
  exact ⟨v, T', L, hQ, X', fun _ k => st.trans k⟩
theorem own_callV (X : Stand p l e R s m args below meth c T locs cells slots) (hx : p.tables.exec = Jvm.exec) (hZ : Z.Warmed39 s.vm) {own C : String} {index : Nat} {y z : MethodName} {bytes : ByteArray} {maxL : Nat} {ret : Option FieldType} (hown : s.vm.findClass own = some m.cls)
    (w1 : (Jvm.Cond.methodLink own index y).before a0 Z = true) (w2 : (Jvm.Cond.declares y).before a0 Z = true) (hnf : NotFace s y) (ws : (Jvm.Cond.selects C y z).before a0 Z = true) (wi : (Jvm.Cond.instanceMethod z).before a0 Z = true) (w3 : (Jvm.Cond.initialized z.cls).before a0 Z = true) (w4 : (Jvm.Cond.code z bytes maxL ret).before a0 Z = true)
    (hy : y.cls ≠ "java/lang/invoke/MethodHandle" ∧ y.cls ≠ "java/lang/invoke/VarHandle") {rm : Room} {a : Addr} {argsL : List Value} {Q : Option Value → Heap → List Loc → Prop} (hM : own_Met l Z z bytes maxL ret [] rm (.ref a :: argsL).toArray h rm.cells rm.slots Q) (eT : T.heap = h) (E : Exa Z h a C)
    {g : JFrame} (hg : g.method = m) (hsize : g.locals.size = c.maxLocals) {rest : List Value} (hlen : ∀ sig, parseMethodDescriptor y.desc = some sig → argsL.length = sig.parameters.length) (hstack : g.stack = argsL.reverse ++ .ref a :: rest)
    (hdg : decode c.code g.pc = .ok (.invokevirtual index, 3)) {W : Nat} (hW : 2 * g.monitorRoom + (rest.map fun v => v.category).sum ≤ W) (hf : rm.frames + 1 ≤ R.frames) (hl : W + (maxL + 11) + rm.locals ≤ R.locals) (hc : cells + rm.cells ≤ R.cells) (hs : slots + rm.slots ≤ R.slots) :
    ∃ (v : Option Value) (T' : State) (L : List Loc), Q v T'.heap L ∧ Stand p l e R s m args below meth c T' (locs ++ L) (cells + rm.cells) (slots + rm.slots) ∧
      ∀ t, Steps p.tables e below (T'.setTop { g with pc := g.pc + 3, stack := v.toList ++ rest }) t → Steps p.tables e below (T.setTop g) t := by
  obtain ⟨cq, kq, qa, qb, qc⟩ := isOf hZ eT E
  obtain ⟨v, _, ⟨T', L', k', n'⟩, -, X', ⟨L, hQ, l1, l2, l3⟩, st⟩ := X.virtualBack hx hown (mvT hZ w1) (mvT hZ w2) hnf (mvT hZ ws) (mvT hZ wi) hy (backOf (W := W) hM hZ w4 w3 hf hl) qa qc hg hsize (Steps.refl _) hlen hstack hW hdg (fun _ _ => ⟨rfl, eT, hc, hs⟩)
  dsimp only [Pt.U, Pt.locs, Pt.cells, Pt.slots] at X' l1 l2 l3 st hQ
  subst l1 l2 l3
  exact ⟨v, T', L, hQ, X', fun _ k => st.trans k⟩
theorem own_irem {g : JFrame} {target : State} (X : Stand p l e R s m args below meth c T locs cells slots) (hx : p.tables.exec = Jvm.exec) (hg : g.method = m) {x y : Int32} {rest : List Value} (hd : decode c.code g.pc = .ok (.irem, 1)) (hs : g.stack = .int y :: .int x :: rest) (hy : y ≠ 0)
    (hr : Steps p.tables e below (T.setTop { g with pc := g.pc + 1, stack := .int (x % y) :: rest }) target) : Steps p.tables e below (T.setTop g) target := iremM X hx hg hd hs hy hr
theorem own_lrem {g : JFrame} {target : State} (X : Stand p l e R s m args below meth c T locs cells slots) (hx : p.tables.exec = Jvm.exec) (hg : g.method = m) {x y : Int64} {rest : List Value} (hd : decode c.code g.pc = .ok (.lrem, 1)) (hs : g.stack = .long y :: .long x :: rest) (hy : y ≠ 0)
    (hr : Steps p.tables e below (T.setTop { g with pc := g.pc + 1, stack := .long (x % y) :: rest }) target) : Steps p.tables e below (T.setTop g) target :=
  XS.lrem X.here hx hg hd hs hy (by rw [lrem_mod]; exact hr)
theorem own_fldJ {t : Term} {C n d : String} {a : Addr} {z : Int64} (ht : t.eval args s none [] s = some (.ref a)) (q : (Jvm.Cond.eq (.field t C n d) (.long z)).value args s none s [] = some true) : Fld s s.heap a C n d (.long z) := by
  obtain ⟨x, y, ha, hb, -, k2⟩ := cmp_v (Or.inl q)
  obtain rfl : y = .long z := Option.some.inj (hb.symm.trans (long_at z))
  obtain ⟨w, rfl⟩ := k2
  have e : w = z := gotT (eq_L ha hb) q
  subst e
  exact Fld.start ((fld_at ht).symm.trans ha)
theorem own_ns_exa {a : Addr} {C : String} (E : Exa Z h a C) : ∃ c : Cell, h[a]? = some c ∧ c.vm.isStatics = false := by
  obtain ⟨c, k, h1, -, -, h4, -⟩ := E
  exact ⟨c, h1, h4⟩
theorem own_ns_arv {a : Addr} {k : ClassId} {ty : FieldType} {z : Int32} {vs : List Value} {dv : Value} (F : Arv Z h a k ty z vs dv) : ∃ c : Cell, h[a]? = some c ∧ c.vm.isStatics = false := by
  obtain ⟨c, A, -⟩ := F
  exact ⟨c, A.1, A.plain⟩
theorem own_sta_keep {h' : Heap} {C n d : String} {w : Value} {ws : List Addr} (F : Sta Z h C n d w) (K : Keep h h' ws) (hn : ∀ x ∈ ws, ∃ c : Cell, h[x]? = some c ∧ c.vm.isStatics = false) : Sta Z h' C n d w := by
  obtain ⟨cf, i, k, f, st, cell, h1, h2, h3, h4, h5, h6, h7⟩ := F
  exact ⟨cf, i, k, f, st, cell, h1, h2, h3, h4, K.2.1 st cell h5 (fun q => by obtain ⟨c, e1, e2⟩ := hn st q; cases h5.symm.trans e1; rw [e2] at h6; cases h6), h6, h7⟩
end Own
def own_wb (v : Int64) (k : Int32) : Int32 := (((v.toUInt64 >>> (k &&& 0x3f).toInt64.toUInt64).toInt64).toInt32).toInt8.toInt32
def own_eb (v : Int64) (k : Int32) : Int32 := (((v >>> (k &&& 0x3f).toInt64).toInt32).toInt8.toInt32).toInt8.toInt32
def own_exp (v : Int64) (j : Int32) : Int32 := if j = 0 then own_eb v 56 else if j = 1 then own_eb v 48 else if j = 2 then own_eb v 40 else if j = 3 then own_eb v 32 else if j = 4 then own_eb v 24 else if j = 5 then own_eb v 16 else if j = 6 then own_eb v 8 else (v.toInt32.toInt8.toInt32).toInt8.toInt32
theorem own_bb (x : Int32) : (x.toInt8.toInt32).toInt8.toInt32 = x.toInt8.toInt32 := by
  have h1 := c_i2b x
  have h2 := c_i2b x.toInt8.toInt32
  rw [← Int32.toInt_inj]
  omega
theorem own_sh (x : Int) (P w : Int) (hP : 0 < P) (h : (18446744073709551616 : Int) = P * (256 * w)) : (x % 18446744073709551616 / P - x / P) % 256 = 0 := by
  have h9 : x % 18446744073709551616 = x + P * (256 * w * -(x / 18446744073709551616)) := by
    rw [Int.emod_def, ← Int.mul_assoc P, ← h, Int.mul_neg, Int.sub_eq_add_neg]
  rw [h9, Int.add_mul_ediv_left _ _ (Int.ne_of_gt hP), Int.mul_assoc]
  generalize x / P = a
  generalize w * -(x / 18446744073709551616) = b
  omega
theorem own_we (v : Int64) (k : Int32) (n : Nat) (w : Int) (hk : k.toBitVec.toNat % 64 = n) (h0 : 0 < n) (hP : (0 : Int) < (2 ^ n : Nat)) (hw : (18446744073709551616 : Int) = (2 ^ n : Nat) * (256 * w)) : (own_wb v k).toInt8.toInt32 = own_eb v k := by
  have h1 := c_lushr v k n hk h0
  have h2 := c_lshr v k n hk
  have h7 := own_sh v.toInt _ w hP hw
  rw [← h1, ← h2] at h7
  unfold own_wb own_eb
  rw [own_bb, own_bb]
  generalize (v.toUInt64 >>> (k &&& 0x3f).toInt64.toUInt64).toInt64 = a at h7 ⊢
  generalize v >>> (k &&& 0x3f).toInt64 = b at h7 ⊢
  clear h1 h2 hw
  have h3 := c_l2i a
  have h4 := c_l2i b
  have h5 := c_i2b a.toInt32
  have h6 := c_i2b b.toInt32
  rw [← Int32.toInt_inj]
  omega
theorem own_w0 (v : Int64) : (own_wb v (0 : Int32)).toInt8.toInt32 = (v.toInt32.toInt8.toInt32).toInt8.toInt32 := by
  unfold own_wb
  have : (v.toUInt64 >>> ((0 : Int32) &&& 0x3f).toInt64.toUInt64).toInt64 = v := by
    rw [show ((0 : Int32) &&& 0x3f).toInt64.toUInt64 = 0 from by decide]
    apply Int64.toBitVec_inj.mp
    simp
  rw [this]
theorem own_o4 (x : Int32) : x &&& (3 : Int32) = 0 ∨ x &&& (3 : Int32) = 1 ∨ x &&& (3 : Int32) = 2 ∨ x &&& (3 : Int32) = 3 := by
  have h1 := c_mask x (3 : Int32) 2 (by decide) (by decide)
  simp only [← Int32.toInt_inj, Int32.reduceToInt]
  omega
theorem d1_0 : decode prog_11_method_2_code 0 = .ok (.iconst 0, 1) := by decide +kernel
theorem d1_1 : decode prog_11_method_2_code 1 = .ok (.istore 4, 2) := by decide +kernel
theorem d1_3 : decode prog_11_method_2_code 3 = .ok (.iload 4, 2) := by decide +kernel
theorem d1_5 : decode prog_11_method_2_code 5 = .ok (.bipush 8, 2) := by decide +kernel
theorem d1_7 : decode prog_11_method_2_code 7 = .ok (.if_icmp .ge 27, 3) := by decide +kernel
theorem d1_10 : decode prog_11_method_2_code 10 = .ok (.aload_n 2, 1) := by decide +kernel
theorem d1_11 : decode prog_11_method_2_code 11 = .ok (.iload_n 3, 1) := by decide +kernel
theorem d1_12 : decode prog_11_method_2_code 12 = .ok (.iload 4, 2) := by decide +kernel
theorem d1_14 : decode prog_11_method_2_code 14 = .ok (.iadd, 1) := by decide +kernel
theorem d1_15 : decode prog_11_method_2_code 15 = .ok (.lload_n 0, 1) := by decide +kernel
theorem d1_16 : decode prog_11_method_2_code 16 = .ok (.bipush 8, 2) := by decide +kernel
theorem d1_18 : decode prog_11_method_2_code 18 = .ok (.bipush 7, 2) := by decide +kernel
theorem d1_20 : decode prog_11_method_2_code 20 = .ok (.iload 4, 2) := by decide +kernel
theorem d1_22 : decode prog_11_method_2_code 22 = .ok (.isub, 1) := by decide +kernel
theorem d1_23 : decode prog_11_method_2_code 23 = .ok (.imul, 1) := by decide +kernel
theorem d1_24 : decode prog_11_method_2_code 24 = .ok (.lushr, 1) := by decide +kernel
theorem d1_25 : decode prog_11_method_2_code 25 = .ok (.l2i, 1) := by decide +kernel
theorem d1_26 : decode prog_11_method_2_code 26 = .ok (.i2b, 1) := by decide +kernel
theorem d1_27 : decode prog_11_method_2_code 27 = .ok (.bastore, 1) := by decide +kernel
theorem d1_28 : decode prog_11_method_2_code 28 = .ok (.iinc 4 1, 3) := by decide +kernel
theorem d1_31 : decode prog_11_method_2_code 31 = .ok (.goto (-28), 3) := by decide +kernel
theorem d1_34 : decode prog_11_method_2_code 34 = .ok (.return_, 1) := by decide +kernel
theorem pn_wr0 : plainName "com/example/table_salt/tablesalt/layout/Int64" = true := by first | (simp [plainName, overriddenIn]; done) | decide +kernel
theorem ef_wr0 (m : MethodId) (q0 : Int64) (o1 : Addr) : entryFrame m #[(.long q0), (.ref o1), (.int (0 : Int32))] 5 = mkF m 0 #[.val (.long q0), .second, .val (.ref o1), .val (.int (0 : Int32)), .unset] [] := by first | (simp [entryFrame, mkF, argsToLocals, Value.category]; done) | rfl
set_option maxRecDepth 65536 in
set_option maxHeartbeats 40000000 in
theorem wr0 (l : Launch) (Z : State) (a0 : Array Value) (hw : ∀ d ∈ tables_1, d.before a0 Z = true) (q0 : Int64) (o1 : Addr) (x0 : Int32) (x1 : Int32) (x2 : Int32) (x3 : Int32) (x4 : Int32) (x5 : Int32) (x6 : Int32) (x7 : Int32) (x8 : Int32) (x9 : Int32) (x10 : Int32) (x11 : Int32) (kk : ClassId) (h0 : Heap) (n0 : Nat) (Z0 : n0 ≤ h0.size) (g_o1 : n0 ≤ o1) (P0 : Arv Z h0 o1 kk .byte (12 : Int32) [(.int x0), (.int x1), (.int x2), (.int x3), (.int x4), (.int x5), (.int x6), (.int x7), (.int x8), (.int x9), (.int x10), (.int x11)] (.int (0 : Int32))) :
    own_Met l Z (⟨"com/example/table_salt/tablesalt/layout/Int64", "write", "(J[BI)V"⟩ : MethodName) prog_11_method_2_code 5 none [] ({ frames := 0, cells := 0, slots := 0, locals := 0 } : Room) #[(.long q0), (.ref o1), (.int (0 : Int32))] h0 0 0 (fun v h L => v = none ∧ Fr n0 L ∧ Keep h0 h [o1] ∧ Arv Z h o1 kk .byte (12 : Int32) [(.int (own_wb q0 (56 : Int32)).toInt8.toInt32), (.int (own_wb q0 (48 : Int32)).toInt8.toInt32), (.int (own_wb q0 (40 : Int32)).toInt8.toInt32), (.int (own_wb q0 (32 : Int32)).toInt8.toInt32), (.int (own_wb q0 (24 : Int32)).toInt8.toInt32), (.int (own_wb q0 (16 : Int32)).toInt8.toInt32), (.int (own_wb q0 (8 : Int32)).toInt8.toInt32), (.int (own_wb q0 (0 : Int32)).toInt8.toInt32), (.int x8), (.int x9), (.int x10), (.int x11)] (.int (0 : Int32))) := by
  refine own_met (plainFor_of_name pn_wr0) ?_
  intro p e s m below meth c s₁ Bd hml0 hZ X0 e0
  have hx := Bd.exec
  have hby := Bd.bytes
  have hml : c.maxLocals = 5 := hml0
  have hown : s.vm.findClass "com/example/table_salt/tablesalt/layout/Int64" = some m.cls := findClass_of_methodNamed Bd.named
  have hnm := (name_of_methodNamed Bd.named Bd.method).1
  refine own_cast (ef_wr0 m q0 o1) ?_
  generalize hQQ : (fun (v : Option Value) (h : Heap) (L : List Loc) => v = none ∧ Fr n0 L ∧ Keep h0 h [o1] ∧ Arv Z h o1 kk .byte (12 : Int32) [(.int (own_wb q0 (56 : Int32)).toInt8.toInt32), (.int (own_wb q0 (48 : Int32)).toInt8.toInt32), (.int (own_wb q0 (40 : Int32)).toInt8.toInt32), (.int (own_wb q0 (32 : Int32)).toInt8.toInt32), (.int (own_wb q0 (24 : Int32)).toInt8.toInt32), (.int (own_wb q0 (16 : Int32)).toInt8.toInt32), (.int (own_wb q0 (8 : Int32)).toInt8.toInt32), (.int (own_wb q0 (0 : Int32)).toInt8.toInt32), (.int x8), (.int x9), (.int x10), (.int x11)] (.int (0 : Int32))) = QQ
  have N0 := Fr.nil n0
  have K0 := Keep.refl h0 [o1]
  refine own_go (g' := (mkF m 1 #[.val (.long q0), .second, .val (.ref o1), .val (.int (0 : Int32)), .unset] [(.int (0 : Int32))])) (fun _ k => XS.iconst X0.here hx rfl (hb hby d1_0) k) ?_
  refine own_go (g' := (mkF m 3 #[.val (.long q0), .second, .val (.ref o1), .val (.int (0 : Int32)), .val (.int (0 : Int32))] [])) (fun _ k => XS.istore X0.here hx rfl (hb hby d1_1) rfl (l' := #[.val (.long q0), .second, .val (.ref o1), .val (.int (0 : Int32)), .val (.int (0 : Int32))]) rfl k) ?_
  refine own_go (g' := (mkF m 5 #[.val (.long q0), .second, .val (.ref o1), .val (.int (0 : Int32)), .val (.int (0 : Int32))] [(.int (0 : Int32))])) (fun _ k => XS.iload X0.here hx rfl (hb hby d1_3) rfl k) ?_
  refine own_go (g' := (mkF m 7 #[.val (.long q0), .second, .val (.ref o1), .val (.int (0 : Int32)), .val (.int (0 : Int32))] [(.int (8 : Int32)), (.int (0 : Int32))])) (fun _ k => XS.bipush X0.here hx rfl (hb hby d1_5) k) ?_
  refine own_go (g' := (mkF m 10 #[.val (.long q0), .second, .val (.ref o1), .val (.int (0 : Int32)), .val (.int (0 : Int32))] [])) (fun _ k => XS.icmpNo X0.here hx rfl (hb hby d1_7) rfl (tlt (by decide)).2.1 k) ?_
  refine own_go (g' := (mkF m 11 #[.val (.long q0), .second, .val (.ref o1), .val (.int (0 : Int32)), .val (.int (0 : Int32))] [(.ref o1)])) (fun _ k => XS.aloadN X0.here hx rfl (hb hby d1_10) rfl rfl k) ?_
  refine own_go (g' := (mkF m 12 #[.val (.long q0), .second, .val (.ref o1), .val (.int (0 : Int32)), .val (.int (0 : Int32))] [(.int (0 : Int32)), (.ref o1)])) (fun _ k => XS.iloadN X0.here hx rfl (hb hby d1_11) rfl k) ?_
  refine own_go (g' := (mkF m 14 #[.val (.long q0), .second, .val (.ref o1), .val (.int (0 : Int32)), .val (.int (0 : Int32))] [(.int (0 : Int32)), (.int (0 : Int32)), (.ref o1)])) (fun _ k => XS.iload X0.here hx rfl (hb hby d1_12) rfl k) ?_
  refine own_go (g' := (mkF m 15 #[.val (.long q0), .second, .val (.ref o1), .val (.int (0 : Int32)), .val (.int (0 : Int32))] [(.int (0 : Int32)), (.ref o1)])) (fun _ k => XS.iadd X0.here hx rfl (hb hby d1_14) rfl k) ?_
  refine own_go (g' := (mkF m 16 #[.val (.long q0), .second, .val (.ref o1), .val (.int (0 : Int32)), .val (.int (0 : Int32))] [(.long q0), (.int (0 : Int32)), (.ref o1)])) (fun _ k => XS.lloadN X0.here hx rfl (hb hby d1_15) rfl k) ?_
  refine own_go (g' := (mkF m 18 #[.val (.long q0), .second, .val (.ref o1), .val (.int (0 : Int32)), .val (.int (0 : Int32))] [(.int (8 : Int32)), (.long q0), (.int (0 : Int32)), (.ref o1)])) (fun _ k => XS.bipush X0.here hx rfl (hb hby d1_16) k) ?_
  refine own_go (g' := (mkF m 20 #[.val (.long q0), .second, .val (.ref o1), .val (.int (0 : Int32)), .val (.int (0 : Int32))] [(.int (7 : Int32)), (.int (8 : Int32)), (.long q0), (.int (0 : Int32)), (.ref o1)])) (fun _ k => XS.bipush X0.here hx rfl (hb hby d1_18) k) ?_
  refine own_go (g' := (mkF m 22 #[.val (.long q0), .second, .val (.ref o1), .val (.int (0 : Int32)), .val (.int (0 : Int32))] [(.int (0 : Int32)), (.int (7 : Int32)), (.int (8 : Int32)), (.long q0), (.int (0 : Int32)), (.ref o1)])) (fun _ k => XS.iload X0.here hx rfl (hb hby d1_20) rfl k) ?_
  refine own_go (g' := (mkF m 23 #[.val (.long q0), .second, .val (.ref o1), .val (.int (0 : Int32)), .val (.int (0 : Int32))] [(.int (7 : Int32)), (.int (8 : Int32)), (.long q0), (.int (0 : Int32)), (.ref o1)])) (fun _ k => XS.isub X0.here hx rfl (hb hby d1_22) rfl k) ?_
  refine own_go (g' := (mkF m 24 #[.val (.long q0), .second, .val (.ref o1), .val (.int (0 : Int32)), .val (.int (0 : Int32))] [(.int (56 : Int32)), (.long q0), (.int (0 : Int32)), (.ref o1)])) (fun _ k => XS.imul X0.here hx rfl (hb hby d1_23) rfl k) ?_
  refine own_go (g' := (mkF m 25 #[.val (.long q0), .second, .val (.ref o1), .val (.int (0 : Int32)), .val (.int (0 : Int32))] [(.long ((q0.toUInt64 >>> ((56 : Int32) &&& 0x3f).toInt64.toUInt64).toInt64)), (.int (0 : Int32)), (.ref o1)])) (fun _ k => XS.lushr X0.here hx rfl (hb hby d1_24) rfl k) ?_
  refine own_go (g' := (mkF m 26 #[.val (.long q0), .second, .val (.ref o1), .val (.int (0 : Int32)), .val (.int (0 : Int32))] [(.int (((q0.toUInt64 >>> ((56 : Int32) &&& 0x3f).toInt64.toUInt64).toInt64).toInt32)), (.int (0 : Int32)), (.ref o1)])) (fun _ k => XS.l2i X0.here hx rfl (hb hby d1_25) rfl k) ?_
  refine own_go (g' := (mkF m 27 #[.val (.long q0), .second, .val (.ref o1), .val (.int (0 : Int32)), .val (.int (0 : Int32))] [(.int ((((q0.toUInt64 >>> ((56 : Int32) &&& 0x3f).toInt64.toUInt64).toInt64).toInt32).toInt8.toInt32)), (.int (0 : Int32)), (.ref o1)])) (fun _ k => XS.i2b X0.here hx rfl (hb hby d1_26) rfl k) ?_
  suffices JNhz1 : ∀ z1 : Int32, z1 = own_wb q0 (56 : Int32) → own_Go p e below (own_Post s QQ 0 0) s₁ (mkF m 27 #[.val (.long q0), .second, .val (.ref o1), .val (.int (0 : Int32)), .val (.int (0 : Int32))] [(.int z1), (.int (0 : Int32)), (.ref o1)]) from JNhz1 _ (rfl)
  intro z1 hz1
  obtain ⟨cl1, Ar1, qk1, sz1, nn1, Hs1, Gs1⟩ := id P0
  have hin1 : ¬ ((0 : Int32) < 0 ∨ cl1.slots.size ≤ ((0 : Int32)).toNatClampNeg) := inb_of sz1 ⟨by decide, by decide⟩
  obtain ⟨T1, h1, X1, e1, W1, st1⟩ := stB X0 hx hZ e0 Ar1 (j := (0 : Int32)) hin1 (g := (mkF m 27 #[.val (.long q0), .second, .val (.ref o1), .val (.int (0 : Int32)), .val (.int (0 : Int32))] [(.int z1), (.int (0 : Int32)), (.ref o1)])) rfl rfl (hb hby d1_27)
  have V1 : Arv Z h1 o1 kk .byte (12 : Int32) [(.int (z1).toInt8.toInt32), (.int x1), (.int x2), (.int x3), (.int x4), (.int x5), (.int x6), (.int x7), (.int x8), (.int x9), (.int x10), (.int x11)] (.int (0 : Int32)) := Arv.set Ar1 qk1 sz1 nn1 Hs1 Gs1 (fits_nar_byte _) W1 0 rfl (Nat.le_of_ble_eq_true rfl)
  have N1 := Fr.snoc X1 N0 g_o1
  have Z1 : n0 ≤ h1.size := by rw [W1.size]; exact Z0
  have K1 : Keep h0 h1 [o1] := K0.wr W1 (Or.inl (List.mem_of_getElem? (i := 0) rfl))
  refine own_go (g' := (mkF m 28 #[.val (.long q0), .second, .val (.ref o1), .val (.int (0 : Int32)), .val (.int (0 : Int32))] [])) (st1) ?_
  refine own_go (g' := (mkF m 31 #[.val (.long q0), .second, .val (.ref o1), .val (.int (0 : Int32)), .val (.int (1 : Int32))] [])) (fun _ k => XS.iinc X1.here hx rfl (hb hby d1_28) rfl (l' := #[.val (.long q0), .second, .val (.ref o1), .val (.int (0 : Int32)), .val (.int (1 : Int32))]) rfl k) ?_
  refine own_go (g' := (mkF m 3 #[.val (.long q0), .second, .val (.ref o1), .val (.int (0 : Int32)), .val (.int (1 : Int32))] [])) (fun _ k => XS.goto X1.here hx rfl (pc0 := 31) (pc' := 3) rfl (hb hby d1_31) (by decide) (by decide) k) ?_
  refine own_go (g' := (mkF m 5 #[.val (.long q0), .second, .val (.ref o1), .val (.int (0 : Int32)), .val (.int (1 : Int32))] [(.int (1 : Int32))])) (fun _ k => XS.iload X1.here hx rfl (hb hby d1_3) rfl k) ?_
  refine own_go (g' := (mkF m 7 #[.val (.long q0), .second, .val (.ref o1), .val (.int (0 : Int32)), .val (.int (1 : Int32))] [(.int (8 : Int32)), (.int (1 : Int32))])) (fun _ k => XS.bipush X1.here hx rfl (hb hby d1_5) k) ?_
  refine own_go (g' := (mkF m 10 #[.val (.long q0), .second, .val (.ref o1), .val (.int (0 : Int32)), .val (.int (1 : Int32))] [])) (fun _ k => XS.icmpNo X1.here hx rfl (hb hby d1_7) rfl (tlt (by decide)).2.1 k) ?_
  refine own_go (g' := (mkF m 11 #[.val (.long q0), .second, .val (.ref o1), .val (.int (0 : Int32)), .val (.int (1 : Int32))] [(.ref o1)])) (fun _ k => XS.aloadN X1.here hx rfl (hb hby d1_10) rfl rfl k) ?_
  refine own_go (g' := (mkF m 12 #[.val (.long q0), .second, .val (.ref o1), .val (.int (0 : Int32)), .val (.int (1 : Int32))] [(.int (0 : Int32)), (.ref o1)])) (fun _ k => XS.iloadN X1.here hx rfl (hb hby d1_11) rfl k) ?_
  refine own_go (g' := (mkF m 14 #[.val (.long q0), .second, .val (.ref o1), .val (.int (0 : Int32)), .val (.int (1 : Int32))] [(.int (1 : Int32)), (.int (0 : Int32)), (.ref o1)])) (fun _ k => XS.iload X1.here hx rfl (hb hby d1_12) rfl k) ?_
  refine own_go (g' := (mkF m 15 #[.val (.long q0), .second, .val (.ref o1), .val (.int (0 : Int32)), .val (.int (1 : Int32))] [(.int (1 : Int32)), (.ref o1)])) (fun _ k => XS.iadd X1.here hx rfl (hb hby d1_14) rfl k) ?_
  refine own_go (g' := (mkF m 16 #[.val (.long q0), .second, .val (.ref o1), .val (.int (0 : Int32)), .val (.int (1 : Int32))] [(.long q0), (.int (1 : Int32)), (.ref o1)])) (fun _ k => XS.lloadN X1.here hx rfl (hb hby d1_15) rfl k) ?_
  refine own_go (g' := (mkF m 18 #[.val (.long q0), .second, .val (.ref o1), .val (.int (0 : Int32)), .val (.int (1 : Int32))] [(.int (8 : Int32)), (.long q0), (.int (1 : Int32)), (.ref o1)])) (fun _ k => XS.bipush X1.here hx rfl (hb hby d1_16) k) ?_
  refine own_go (g' := (mkF m 20 #[.val (.long q0), .second, .val (.ref o1), .val (.int (0 : Int32)), .val (.int (1 : Int32))] [(.int (7 : Int32)), (.int (8 : Int32)), (.long q0), (.int (1 : Int32)), (.ref o1)])) (fun _ k => XS.bipush X1.here hx rfl (hb hby d1_18) k) ?_
  refine own_go (g' := (mkF m 22 #[.val (.long q0), .second, .val (.ref o1), .val (.int (0 : Int32)), .val (.int (1 : Int32))] [(.int (1 : Int32)), (.int (7 : Int32)), (.int (8 : Int32)), (.long q0), (.int (1 : Int32)), (.ref o1)])) (fun _ k => XS.iload X1.here hx rfl (hb hby d1_20) rfl k) ?_
  refine own_go (g' := (mkF m 23 #[.val (.long q0), .second, .val (.ref o1), .val (.int (0 : Int32)), .val (.int (1 : Int32))] [(.int (6 : Int32)), (.int (8 : Int32)), (.long q0), (.int (1 : Int32)), (.ref o1)])) (fun _ k => XS.isub X1.here hx rfl (hb hby d1_22) rfl k) ?_
  refine own_go (g' := (mkF m 24 #[.val (.long q0), .second, .val (.ref o1), .val (.int (0 : Int32)), .val (.int (1 : Int32))] [(.int (48 : Int32)), (.long q0), (.int (1 : Int32)), (.ref o1)])) (fun _ k => XS.imul X1.here hx rfl (hb hby d1_23) rfl k) ?_
  refine own_go (g' := (mkF m 25 #[.val (.long q0), .second, .val (.ref o1), .val (.int (0 : Int32)), .val (.int (1 : Int32))] [(.long ((q0.toUInt64 >>> ((48 : Int32) &&& 0x3f).toInt64.toUInt64).toInt64)), (.int (1 : Int32)), (.ref o1)])) (fun _ k => XS.lushr X1.here hx rfl (hb hby d1_24) rfl k) ?_
  refine own_go (g' := (mkF m 26 #[.val (.long q0), .second, .val (.ref o1), .val (.int (0 : Int32)), .val (.int (1 : Int32))] [(.int (((q0.toUInt64 >>> ((48 : Int32) &&& 0x3f).toInt64.toUInt64).toInt64).toInt32)), (.int (1 : Int32)), (.ref o1)])) (fun _ k => XS.l2i X1.here hx rfl (hb hby d1_25) rfl k) ?_
  refine own_go (g' := (mkF m 27 #[.val (.long q0), .second, .val (.ref o1), .val (.int (0 : Int32)), .val (.int (1 : Int32))] [(.int ((((q0.toUInt64 >>> ((48 : Int32) &&& 0x3f).toInt64.toUInt64).toInt64).toInt32).toInt8.toInt32)), (.int (1 : Int32)), (.ref o1)])) (fun _ k => XS.i2b X1.here hx rfl (hb hby d1_26) rfl k) ?_
  suffices JNhz2 : ∀ z2 : Int32, z2 = own_wb q0 (48 : Int32) → own_Go p e below (own_Post s QQ 0 0) T1 (mkF m 27 #[.val (.long q0), .second, .val (.ref o1), .val (.int (0 : Int32)), .val (.int (1 : Int32))] [(.int z2), (.int (1 : Int32)), (.ref o1)]) from JNhz2 _ (rfl)
  intro z2 hz2
  obtain ⟨cl2, Ar2, qk2, sz2, nn2, Hs2, Gs2⟩ := id V1
  have hin2 : ¬ ((1 : Int32) < 0 ∨ cl2.slots.size ≤ ((1 : Int32)).toNatClampNeg) := inb_of sz2 ⟨by decide, by decide⟩
  obtain ⟨T2, h2, X2, e2, W2, st2⟩ := stB X1 hx hZ e1 Ar2 (j := (1 : Int32)) hin2 (g := (mkF m 27 #[.val (.long q0), .second, .val (.ref o1), .val (.int (0 : Int32)), .val (.int (1 : Int32))] [(.int z2), (.int (1 : Int32)), (.ref o1)])) rfl rfl (hb hby d1_27)
  have V2 : Arv Z h2 o1 kk .byte (12 : Int32) [(.int (z1).toInt8.toInt32), (.int (z2).toInt8.toInt32), (.int x2), (.int x3), (.int x4), (.int x5), (.int x6), (.int x7), (.int x8), (.int x9), (.int x10), (.int x11)] (.int (0 : Int32)) := Arv.set Ar2 qk2 sz2 nn2 Hs2 Gs2 (fits_nar_byte _) W2 1 rfl (Nat.le_of_ble_eq_true rfl)
  have N2 := Fr.snoc X2 N1 g_o1
  have Z2 : n0 ≤ h2.size := by rw [W2.size]; exact Z1
  have K2 : Keep h0 h2 [o1] := K1.wr W2 (Or.inl (List.mem_of_getElem? (i := 0) rfl))
  refine own_go (g' := (mkF m 28 #[.val (.long q0), .second, .val (.ref o1), .val (.int (0 : Int32)), .val (.int (1 : Int32))] [])) (st2) ?_
  refine own_go (g' := (mkF m 31 #[.val (.long q0), .second, .val (.ref o1), .val (.int (0 : Int32)), .val (.int (2 : Int32))] [])) (fun _ k => XS.iinc X2.here hx rfl (hb hby d1_28) rfl (l' := #[.val (.long q0), .second, .val (.ref o1), .val (.int (0 : Int32)), .val (.int (2 : Int32))]) rfl k) ?_
  refine own_go (g' := (mkF m 3 #[.val (.long q0), .second, .val (.ref o1), .val (.int (0 : Int32)), .val (.int (2 : Int32))] [])) (fun _ k => XS.goto X2.here hx rfl (pc0 := 31) (pc' := 3) rfl (hb hby d1_31) (by decide) (by decide) k) ?_
  refine own_go (g' := (mkF m 5 #[.val (.long q0), .second, .val (.ref o1), .val (.int (0 : Int32)), .val (.int (2 : Int32))] [(.int (2 : Int32))])) (fun _ k => XS.iload X2.here hx rfl (hb hby d1_3) rfl k) ?_
  refine own_go (g' := (mkF m 7 #[.val (.long q0), .second, .val (.ref o1), .val (.int (0 : Int32)), .val (.int (2 : Int32))] [(.int (8 : Int32)), (.int (2 : Int32))])) (fun _ k => XS.bipush X2.here hx rfl (hb hby d1_5) k) ?_
  refine own_go (g' := (mkF m 10 #[.val (.long q0), .second, .val (.ref o1), .val (.int (0 : Int32)), .val (.int (2 : Int32))] [])) (fun _ k => XS.icmpNo X2.here hx rfl (hb hby d1_7) rfl (tlt (by decide)).2.1 k) ?_
  refine own_go (g' := (mkF m 11 #[.val (.long q0), .second, .val (.ref o1), .val (.int (0 : Int32)), .val (.int (2 : Int32))] [(.ref o1)])) (fun _ k => XS.aloadN X2.here hx rfl (hb hby d1_10) rfl rfl k) ?_
  refine own_go (g' := (mkF m 12 #[.val (.long q0), .second, .val (.ref o1), .val (.int (0 : Int32)), .val (.int (2 : Int32))] [(.int (0 : Int32)), (.ref o1)])) (fun _ k => XS.iloadN X2.here hx rfl (hb hby d1_11) rfl k) ?_
  refine own_go (g' := (mkF m 14 #[.val (.long q0), .second, .val (.ref o1), .val (.int (0 : Int32)), .val (.int (2 : Int32))] [(.int (2 : Int32)), (.int (0 : Int32)), (.ref o1)])) (fun _ k => XS.iload X2.here hx rfl (hb hby d1_12) rfl k) ?_
  refine own_go (g' := (mkF m 15 #[.val (.long q0), .second, .val (.ref o1), .val (.int (0 : Int32)), .val (.int (2 : Int32))] [(.int (2 : Int32)), (.ref o1)])) (fun _ k => XS.iadd X2.here hx rfl (hb hby d1_14) rfl k) ?_
  refine own_go (g' := (mkF m 16 #[.val (.long q0), .second, .val (.ref o1), .val (.int (0 : Int32)), .val (.int (2 : Int32))] [(.long q0), (.int (2 : Int32)), (.ref o1)])) (fun _ k => XS.lloadN X2.here hx rfl (hb hby d1_15) rfl k) ?_
  refine own_go (g' := (mkF m 18 #[.val (.long q0), .second, .val (.ref o1), .val (.int (0 : Int32)), .val (.int (2 : Int32))] [(.int (8 : Int32)), (.long q0), (.int (2 : Int32)), (.ref o1)])) (fun _ k => XS.bipush X2.here hx rfl (hb hby d1_16) k) ?_
  refine own_go (g' := (mkF m 20 #[.val (.long q0), .second, .val (.ref o1), .val (.int (0 : Int32)), .val (.int (2 : Int32))] [(.int (7 : Int32)), (.int (8 : Int32)), (.long q0), (.int (2 : Int32)), (.ref o1)])) (fun _ k => XS.bipush X2.here hx rfl (hb hby d1_18) k) ?_
  refine own_go (g' := (mkF m 22 #[.val (.long q0), .second, .val (.ref o1), .val (.int (0 : Int32)), .val (.int (2 : Int32))] [(.int (2 : Int32)), (.int (7 : Int32)), (.int (8 : Int32)), (.long q0), (.int (2 : Int32)), (.ref o1)])) (fun _ k => XS.iload X2.here hx rfl (hb hby d1_20) rfl k) ?_
  refine own_go (g' := (mkF m 23 #[.val (.long q0), .second, .val (.ref o1), .val (.int (0 : Int32)), .val (.int (2 : Int32))] [(.int (5 : Int32)), (.int (8 : Int32)), (.long q0), (.int (2 : Int32)), (.ref o1)])) (fun _ k => XS.isub X2.here hx rfl (hb hby d1_22) rfl k) ?_
  refine own_go (g' := (mkF m 24 #[.val (.long q0), .second, .val (.ref o1), .val (.int (0 : Int32)), .val (.int (2 : Int32))] [(.int (40 : Int32)), (.long q0), (.int (2 : Int32)), (.ref o1)])) (fun _ k => XS.imul X2.here hx rfl (hb hby d1_23) rfl k) ?_
  refine own_go (g' := (mkF m 25 #[.val (.long q0), .second, .val (.ref o1), .val (.int (0 : Int32)), .val (.int (2 : Int32))] [(.long ((q0.toUInt64 >>> ((40 : Int32) &&& 0x3f).toInt64.toUInt64).toInt64)), (.int (2 : Int32)), (.ref o1)])) (fun _ k => XS.lushr X2.here hx rfl (hb hby d1_24) rfl k) ?_
  refine own_go (g' := (mkF m 26 #[.val (.long q0), .second, .val (.ref o1), .val (.int (0 : Int32)), .val (.int (2 : Int32))] [(.int (((q0.toUInt64 >>> ((40 : Int32) &&& 0x3f).toInt64.toUInt64).toInt64).toInt32)), (.int (2 : Int32)), (.ref o1)])) (fun _ k => XS.l2i X2.here hx rfl (hb hby d1_25) rfl k) ?_
  refine own_go (g' := (mkF m 27 #[.val (.long q0), .second, .val (.ref o1), .val (.int (0 : Int32)), .val (.int (2 : Int32))] [(.int ((((q0.toUInt64 >>> ((40 : Int32) &&& 0x3f).toInt64.toUInt64).toInt64).toInt32).toInt8.toInt32)), (.int (2 : Int32)), (.ref o1)])) (fun _ k => XS.i2b X2.here hx rfl (hb hby d1_26) rfl k) ?_
  suffices JNhz3 : ∀ z3 : Int32, z3 = own_wb q0 (40 : Int32) → own_Go p e below (own_Post s QQ 0 0) T2 (mkF m 27 #[.val (.long q0), .second, .val (.ref o1), .val (.int (0 : Int32)), .val (.int (2 : Int32))] [(.int z3), (.int (2 : Int32)), (.ref o1)]) from JNhz3 _ (rfl)
  intro z3 hz3
  obtain ⟨cl3, Ar3, qk3, sz3, nn3, Hs3, Gs3⟩ := id V2
  have hin3 : ¬ ((2 : Int32) < 0 ∨ cl3.slots.size ≤ ((2 : Int32)).toNatClampNeg) := inb_of sz3 ⟨by decide, by decide⟩
  obtain ⟨T3, h3, X3, e3, W3, st3⟩ := stB X2 hx hZ e2 Ar3 (j := (2 : Int32)) hin3 (g := (mkF m 27 #[.val (.long q0), .second, .val (.ref o1), .val (.int (0 : Int32)), .val (.int (2 : Int32))] [(.int z3), (.int (2 : Int32)), (.ref o1)])) rfl rfl (hb hby d1_27)
  have V3 : Arv Z h3 o1 kk .byte (12 : Int32) [(.int (z1).toInt8.toInt32), (.int (z2).toInt8.toInt32), (.int (z3).toInt8.toInt32), (.int x3), (.int x4), (.int x5), (.int x6), (.int x7), (.int x8), (.int x9), (.int x10), (.int x11)] (.int (0 : Int32)) := Arv.set Ar3 qk3 sz3 nn3 Hs3 Gs3 (fits_nar_byte _) W3 2 rfl (Nat.le_of_ble_eq_true rfl)
  have N3 := Fr.snoc X3 N2 g_o1
  have Z3 : n0 ≤ h3.size := by rw [W3.size]; exact Z2
  have K3 : Keep h0 h3 [o1] := K2.wr W3 (Or.inl (List.mem_of_getElem? (i := 0) rfl))
  refine own_go (g' := (mkF m 28 #[.val (.long q0), .second, .val (.ref o1), .val (.int (0 : Int32)), .val (.int (2 : Int32))] [])) (st3) ?_
  refine own_go (g' := (mkF m 31 #[.val (.long q0), .second, .val (.ref o1), .val (.int (0 : Int32)), .val (.int (3 : Int32))] [])) (fun _ k => XS.iinc X3.here hx rfl (hb hby d1_28) rfl (l' := #[.val (.long q0), .second, .val (.ref o1), .val (.int (0 : Int32)), .val (.int (3 : Int32))]) rfl k) ?_
  refine own_go (g' := (mkF m 3 #[.val (.long q0), .second, .val (.ref o1), .val (.int (0 : Int32)), .val (.int (3 : Int32))] [])) (fun _ k => XS.goto X3.here hx rfl (pc0 := 31) (pc' := 3) rfl (hb hby d1_31) (by decide) (by decide) k) ?_
  refine own_go (g' := (mkF m 5 #[.val (.long q0), .second, .val (.ref o1), .val (.int (0 : Int32)), .val (.int (3 : Int32))] [(.int (3 : Int32))])) (fun _ k => XS.iload X3.here hx rfl (hb hby d1_3) rfl k) ?_
  refine own_go (g' := (mkF m 7 #[.val (.long q0), .second, .val (.ref o1), .val (.int (0 : Int32)), .val (.int (3 : Int32))] [(.int (8 : Int32)), (.int (3 : Int32))])) (fun _ k => XS.bipush X3.here hx rfl (hb hby d1_5) k) ?_
  refine own_go (g' := (mkF m 10 #[.val (.long q0), .second, .val (.ref o1), .val (.int (0 : Int32)), .val (.int (3 : Int32))] [])) (fun _ k => XS.icmpNo X3.here hx rfl (hb hby d1_7) rfl (tlt (by decide)).2.1 k) ?_
  refine own_go (g' := (mkF m 11 #[.val (.long q0), .second, .val (.ref o1), .val (.int (0 : Int32)), .val (.int (3 : Int32))] [(.ref o1)])) (fun _ k => XS.aloadN X3.here hx rfl (hb hby d1_10) rfl rfl k) ?_
  refine own_go (g' := (mkF m 12 #[.val (.long q0), .second, .val (.ref o1), .val (.int (0 : Int32)), .val (.int (3 : Int32))] [(.int (0 : Int32)), (.ref o1)])) (fun _ k => XS.iloadN X3.here hx rfl (hb hby d1_11) rfl k) ?_
  refine own_go (g' := (mkF m 14 #[.val (.long q0), .second, .val (.ref o1), .val (.int (0 : Int32)), .val (.int (3 : Int32))] [(.int (3 : Int32)), (.int (0 : Int32)), (.ref o1)])) (fun _ k => XS.iload X3.here hx rfl (hb hby d1_12) rfl k) ?_
  refine own_go (g' := (mkF m 15 #[.val (.long q0), .second, .val (.ref o1), .val (.int (0 : Int32)), .val (.int (3 : Int32))] [(.int (3 : Int32)), (.ref o1)])) (fun _ k => XS.iadd X3.here hx rfl (hb hby d1_14) rfl k) ?_
  refine own_go (g' := (mkF m 16 #[.val (.long q0), .second, .val (.ref o1), .val (.int (0 : Int32)), .val (.int (3 : Int32))] [(.long q0), (.int (3 : Int32)), (.ref o1)])) (fun _ k => XS.lloadN X3.here hx rfl (hb hby d1_15) rfl k) ?_
  refine own_go (g' := (mkF m 18 #[.val (.long q0), .second, .val (.ref o1), .val (.int (0 : Int32)), .val (.int (3 : Int32))] [(.int (8 : Int32)), (.long q0), (.int (3 : Int32)), (.ref o1)])) (fun _ k => XS.bipush X3.here hx rfl (hb hby d1_16) k) ?_
  refine own_go (g' := (mkF m 20 #[.val (.long q0), .second, .val (.ref o1), .val (.int (0 : Int32)), .val (.int (3 : Int32))] [(.int (7 : Int32)), (.int (8 : Int32)), (.long q0), (.int (3 : Int32)), (.ref o1)])) (fun _ k => XS.bipush X3.here hx rfl (hb hby d1_18) k) ?_
  refine own_go (g' := (mkF m 22 #[.val (.long q0), .second, .val (.ref o1), .val (.int (0 : Int32)), .val (.int (3 : Int32))] [(.int (3 : Int32)), (.int (7 : Int32)), (.int (8 : Int32)), (.long q0), (.int (3 : Int32)), (.ref o1)])) (fun _ k => XS.iload X3.here hx rfl (hb hby d1_20) rfl k) ?_
  refine own_go (g' := (mkF m 23 #[.val (.long q0), .second, .val (.ref o1), .val (.int (0 : Int32)), .val (.int (3 : Int32))] [(.int (4 : Int32)), (.int (8 : Int32)), (.long q0), (.int (3 : Int32)), (.ref o1)])) (fun _ k => XS.isub X3.here hx rfl (hb hby d1_22) rfl k) ?_
  refine own_go (g' := (mkF m 24 #[.val (.long q0), .second, .val (.ref o1), .val (.int (0 : Int32)), .val (.int (3 : Int32))] [(.int (32 : Int32)), (.long q0), (.int (3 : Int32)), (.ref o1)])) (fun _ k => XS.imul X3.here hx rfl (hb hby d1_23) rfl k) ?_
  refine own_go (g' := (mkF m 25 #[.val (.long q0), .second, .val (.ref o1), .val (.int (0 : Int32)), .val (.int (3 : Int32))] [(.long ((q0.toUInt64 >>> ((32 : Int32) &&& 0x3f).toInt64.toUInt64).toInt64)), (.int (3 : Int32)), (.ref o1)])) (fun _ k => XS.lushr X3.here hx rfl (hb hby d1_24) rfl k) ?_
  refine own_go (g' := (mkF m 26 #[.val (.long q0), .second, .val (.ref o1), .val (.int (0 : Int32)), .val (.int (3 : Int32))] [(.int (((q0.toUInt64 >>> ((32 : Int32) &&& 0x3f).toInt64.toUInt64).toInt64).toInt32)), (.int (3 : Int32)), (.ref o1)])) (fun _ k => XS.l2i X3.here hx rfl (hb hby d1_25) rfl k) ?_
  refine own_go (g' := (mkF m 27 #[.val (.long q0), .second, .val (.ref o1), .val (.int (0 : Int32)), .val (.int (3 : Int32))] [(.int ((((q0.toUInt64 >>> ((32 : Int32) &&& 0x3f).toInt64.toUInt64).toInt64).toInt32).toInt8.toInt32)), (.int (3 : Int32)), (.ref o1)])) (fun _ k => XS.i2b X3.here hx rfl (hb hby d1_26) rfl k) ?_
  suffices JNhz4 : ∀ z4 : Int32, z4 = own_wb q0 (32 : Int32) → own_Go p e below (own_Post s QQ 0 0) T3 (mkF m 27 #[.val (.long q0), .second, .val (.ref o1), .val (.int (0 : Int32)), .val (.int (3 : Int32))] [(.int z4), (.int (3 : Int32)), (.ref o1)]) from JNhz4 _ (rfl)
  intro z4 hz4
  obtain ⟨cl4, Ar4, qk4, sz4, nn4, Hs4, Gs4⟩ := id V3
  have hin4 : ¬ ((3 : Int32) < 0 ∨ cl4.slots.size ≤ ((3 : Int32)).toNatClampNeg) := inb_of sz4 ⟨by decide, by decide⟩
  obtain ⟨T4, h4, X4, e4, W4, st4⟩ := stB X3 hx hZ e3 Ar4 (j := (3 : Int32)) hin4 (g := (mkF m 27 #[.val (.long q0), .second, .val (.ref o1), .val (.int (0 : Int32)), .val (.int (3 : Int32))] [(.int z4), (.int (3 : Int32)), (.ref o1)])) rfl rfl (hb hby d1_27)
  have V4 : Arv Z h4 o1 kk .byte (12 : Int32) [(.int (z1).toInt8.toInt32), (.int (z2).toInt8.toInt32), (.int (z3).toInt8.toInt32), (.int (z4).toInt8.toInt32), (.int x4), (.int x5), (.int x6), (.int x7), (.int x8), (.int x9), (.int x10), (.int x11)] (.int (0 : Int32)) := Arv.set Ar4 qk4 sz4 nn4 Hs4 Gs4 (fits_nar_byte _) W4 3 rfl (Nat.le_of_ble_eq_true rfl)
  have N4 := Fr.snoc X4 N3 g_o1
  have Z4 : n0 ≤ h4.size := by rw [W4.size]; exact Z3
  have K4 : Keep h0 h4 [o1] := K3.wr W4 (Or.inl (List.mem_of_getElem? (i := 0) rfl))
  refine own_go (g' := (mkF m 28 #[.val (.long q0), .second, .val (.ref o1), .val (.int (0 : Int32)), .val (.int (3 : Int32))] [])) (st4) ?_
  refine own_go (g' := (mkF m 31 #[.val (.long q0), .second, .val (.ref o1), .val (.int (0 : Int32)), .val (.int (4 : Int32))] [])) (fun _ k => XS.iinc X4.here hx rfl (hb hby d1_28) rfl (l' := #[.val (.long q0), .second, .val (.ref o1), .val (.int (0 : Int32)), .val (.int (4 : Int32))]) rfl k) ?_
  refine own_go (g' := (mkF m 3 #[.val (.long q0), .second, .val (.ref o1), .val (.int (0 : Int32)), .val (.int (4 : Int32))] [])) (fun _ k => XS.goto X4.here hx rfl (pc0 := 31) (pc' := 3) rfl (hb hby d1_31) (by decide) (by decide) k) ?_
  refine own_go (g' := (mkF m 5 #[.val (.long q0), .second, .val (.ref o1), .val (.int (0 : Int32)), .val (.int (4 : Int32))] [(.int (4 : Int32))])) (fun _ k => XS.iload X4.here hx rfl (hb hby d1_3) rfl k) ?_
  refine own_go (g' := (mkF m 7 #[.val (.long q0), .second, .val (.ref o1), .val (.int (0 : Int32)), .val (.int (4 : Int32))] [(.int (8 : Int32)), (.int (4 : Int32))])) (fun _ k => XS.bipush X4.here hx rfl (hb hby d1_5) k) ?_
  refine own_go (g' := (mkF m 10 #[.val (.long q0), .second, .val (.ref o1), .val (.int (0 : Int32)), .val (.int (4 : Int32))] [])) (fun _ k => XS.icmpNo X4.here hx rfl (hb hby d1_7) rfl (tlt (by decide)).2.1 k) ?_
  refine own_go (g' := (mkF m 11 #[.val (.long q0), .second, .val (.ref o1), .val (.int (0 : Int32)), .val (.int (4 : Int32))] [(.ref o1)])) (fun _ k => XS.aloadN X4.here hx rfl (hb hby d1_10) rfl rfl k) ?_
  refine own_go (g' := (mkF m 12 #[.val (.long q0), .second, .val (.ref o1), .val (.int (0 : Int32)), .val (.int (4 : Int32))] [(.int (0 : Int32)), (.ref o1)])) (fun _ k => XS.iloadN X4.here hx rfl (hb hby d1_11) rfl k) ?_
  refine own_go (g' := (mkF m 14 #[.val (.long q0), .second, .val (.ref o1), .val (.int (0 : Int32)), .val (.int (4 : Int32))] [(.int (4 : Int32)), (.int (0 : Int32)), (.ref o1)])) (fun _ k => XS.iload X4.here hx rfl (hb hby d1_12) rfl k) ?_
  refine own_go (g' := (mkF m 15 #[.val (.long q0), .second, .val (.ref o1), .val (.int (0 : Int32)), .val (.int (4 : Int32))] [(.int (4 : Int32)), (.ref o1)])) (fun _ k => XS.iadd X4.here hx rfl (hb hby d1_14) rfl k) ?_
  refine own_go (g' := (mkF m 16 #[.val (.long q0), .second, .val (.ref o1), .val (.int (0 : Int32)), .val (.int (4 : Int32))] [(.long q0), (.int (4 : Int32)), (.ref o1)])) (fun _ k => XS.lloadN X4.here hx rfl (hb hby d1_15) rfl k) ?_
  refine own_go (g' := (mkF m 18 #[.val (.long q0), .second, .val (.ref o1), .val (.int (0 : Int32)), .val (.int (4 : Int32))] [(.int (8 : Int32)), (.long q0), (.int (4 : Int32)), (.ref o1)])) (fun _ k => XS.bipush X4.here hx rfl (hb hby d1_16) k) ?_
  refine own_go (g' := (mkF m 20 #[.val (.long q0), .second, .val (.ref o1), .val (.int (0 : Int32)), .val (.int (4 : Int32))] [(.int (7 : Int32)), (.int (8 : Int32)), (.long q0), (.int (4 : Int32)), (.ref o1)])) (fun _ k => XS.bipush X4.here hx rfl (hb hby d1_18) k) ?_
  refine own_go (g' := (mkF m 22 #[.val (.long q0), .second, .val (.ref o1), .val (.int (0 : Int32)), .val (.int (4 : Int32))] [(.int (4 : Int32)), (.int (7 : Int32)), (.int (8 : Int32)), (.long q0), (.int (4 : Int32)), (.ref o1)])) (fun _ k => XS.iload X4.here hx rfl (hb hby d1_20) rfl k) ?_
  refine own_go (g' := (mkF m 23 #[.val (.long q0), .second, .val (.ref o1), .val (.int (0 : Int32)), .val (.int (4 : Int32))] [(.int (3 : Int32)), (.int (8 : Int32)), (.long q0), (.int (4 : Int32)), (.ref o1)])) (fun _ k => XS.isub X4.here hx rfl (hb hby d1_22) rfl k) ?_
  refine own_go (g' := (mkF m 24 #[.val (.long q0), .second, .val (.ref o1), .val (.int (0 : Int32)), .val (.int (4 : Int32))] [(.int (24 : Int32)), (.long q0), (.int (4 : Int32)), (.ref o1)])) (fun _ k => XS.imul X4.here hx rfl (hb hby d1_23) rfl k) ?_
  refine own_go (g' := (mkF m 25 #[.val (.long q0), .second, .val (.ref o1), .val (.int (0 : Int32)), .val (.int (4 : Int32))] [(.long ((q0.toUInt64 >>> ((24 : Int32) &&& 0x3f).toInt64.toUInt64).toInt64)), (.int (4 : Int32)), (.ref o1)])) (fun _ k => XS.lushr X4.here hx rfl (hb hby d1_24) rfl k) ?_
  refine own_go (g' := (mkF m 26 #[.val (.long q0), .second, .val (.ref o1), .val (.int (0 : Int32)), .val (.int (4 : Int32))] [(.int (((q0.toUInt64 >>> ((24 : Int32) &&& 0x3f).toInt64.toUInt64).toInt64).toInt32)), (.int (4 : Int32)), (.ref o1)])) (fun _ k => XS.l2i X4.here hx rfl (hb hby d1_25) rfl k) ?_
  refine own_go (g' := (mkF m 27 #[.val (.long q0), .second, .val (.ref o1), .val (.int (0 : Int32)), .val (.int (4 : Int32))] [(.int ((((q0.toUInt64 >>> ((24 : Int32) &&& 0x3f).toInt64.toUInt64).toInt64).toInt32).toInt8.toInt32)), (.int (4 : Int32)), (.ref o1)])) (fun _ k => XS.i2b X4.here hx rfl (hb hby d1_26) rfl k) ?_
  suffices JNhz5 : ∀ z5 : Int32, z5 = own_wb q0 (24 : Int32) → own_Go p e below (own_Post s QQ 0 0) T4 (mkF m 27 #[.val (.long q0), .second, .val (.ref o1), .val (.int (0 : Int32)), .val (.int (4 : Int32))] [(.int z5), (.int (4 : Int32)), (.ref o1)]) from JNhz5 _ (rfl)
  intro z5 hz5
  obtain ⟨cl5, Ar5, qk5, sz5, nn5, Hs5, Gs5⟩ := id V4
  have hin5 : ¬ ((4 : Int32) < 0 ∨ cl5.slots.size ≤ ((4 : Int32)).toNatClampNeg) := inb_of sz5 ⟨by decide, by decide⟩
  obtain ⟨T5, h5, X5, e5, W5, st5⟩ := stB X4 hx hZ e4 Ar5 (j := (4 : Int32)) hin5 (g := (mkF m 27 #[.val (.long q0), .second, .val (.ref o1), .val (.int (0 : Int32)), .val (.int (4 : Int32))] [(.int z5), (.int (4 : Int32)), (.ref o1)])) rfl rfl (hb hby d1_27)
  have V5 : Arv Z h5 o1 kk .byte (12 : Int32) [(.int (z1).toInt8.toInt32), (.int (z2).toInt8.toInt32), (.int (z3).toInt8.toInt32), (.int (z4).toInt8.toInt32), (.int (z5).toInt8.toInt32), (.int x5), (.int x6), (.int x7), (.int x8), (.int x9), (.int x10), (.int x11)] (.int (0 : Int32)) := Arv.set Ar5 qk5 sz5 nn5 Hs5 Gs5 (fits_nar_byte _) W5 4 rfl (Nat.le_of_ble_eq_true rfl)
  have N5 := Fr.snoc X5 N4 g_o1
  have Z5 : n0 ≤ h5.size := by rw [W5.size]; exact Z4
  have K5 : Keep h0 h5 [o1] := K4.wr W5 (Or.inl (List.mem_of_getElem? (i := 0) rfl))
  refine own_go (g' := (mkF m 28 #[.val (.long q0), .second, .val (.ref o1), .val (.int (0 : Int32)), .val (.int (4 : Int32))] [])) (st5) ?_
  refine own_go (g' := (mkF m 31 #[.val (.long q0), .second, .val (.ref o1), .val (.int (0 : Int32)), .val (.int (5 : Int32))] [])) (fun _ k => XS.iinc X5.here hx rfl (hb hby d1_28) rfl (l' := #[.val (.long q0), .second, .val (.ref o1), .val (.int (0 : Int32)), .val (.int (5 : Int32))]) rfl k) ?_
  refine own_go (g' := (mkF m 3 #[.val (.long q0), .second, .val (.ref o1), .val (.int (0 : Int32)), .val (.int (5 : Int32))] [])) (fun _ k => XS.goto X5.here hx rfl (pc0 := 31) (pc' := 3) rfl (hb hby d1_31) (by decide) (by decide) k) ?_
  refine own_go (g' := (mkF m 5 #[.val (.long q0), .second, .val (.ref o1), .val (.int (0 : Int32)), .val (.int (5 : Int32))] [(.int (5 : Int32))])) (fun _ k => XS.iload X5.here hx rfl (hb hby d1_3) rfl k) ?_
  refine own_go (g' := (mkF m 7 #[.val (.long q0), .second, .val (.ref o1), .val (.int (0 : Int32)), .val (.int (5 : Int32))] [(.int (8 : Int32)), (.int (5 : Int32))])) (fun _ k => XS.bipush X5.here hx rfl (hb hby d1_5) k) ?_
  refine own_go (g' := (mkF m 10 #[.val (.long q0), .second, .val (.ref o1), .val (.int (0 : Int32)), .val (.int (5 : Int32))] [])) (fun _ k => XS.icmpNo X5.here hx rfl (hb hby d1_7) rfl (tlt (by decide)).2.1 k) ?_
  refine own_go (g' := (mkF m 11 #[.val (.long q0), .second, .val (.ref o1), .val (.int (0 : Int32)), .val (.int (5 : Int32))] [(.ref o1)])) (fun _ k => XS.aloadN X5.here hx rfl (hb hby d1_10) rfl rfl k) ?_
  refine own_go (g' := (mkF m 12 #[.val (.long q0), .second, .val (.ref o1), .val (.int (0 : Int32)), .val (.int (5 : Int32))] [(.int (0 : Int32)), (.ref o1)])) (fun _ k => XS.iloadN X5.here hx rfl (hb hby d1_11) rfl k) ?_
  refine own_go (g' := (mkF m 14 #[.val (.long q0), .second, .val (.ref o1), .val (.int (0 : Int32)), .val (.int (5 : Int32))] [(.int (5 : Int32)), (.int (0 : Int32)), (.ref o1)])) (fun _ k => XS.iload X5.here hx rfl (hb hby d1_12) rfl k) ?_
  refine own_go (g' := (mkF m 15 #[.val (.long q0), .second, .val (.ref o1), .val (.int (0 : Int32)), .val (.int (5 : Int32))] [(.int (5 : Int32)), (.ref o1)])) (fun _ k => XS.iadd X5.here hx rfl (hb hby d1_14) rfl k) ?_
  refine own_go (g' := (mkF m 16 #[.val (.long q0), .second, .val (.ref o1), .val (.int (0 : Int32)), .val (.int (5 : Int32))] [(.long q0), (.int (5 : Int32)), (.ref o1)])) (fun _ k => XS.lloadN X5.here hx rfl (hb hby d1_15) rfl k) ?_
  refine own_go (g' := (mkF m 18 #[.val (.long q0), .second, .val (.ref o1), .val (.int (0 : Int32)), .val (.int (5 : Int32))] [(.int (8 : Int32)), (.long q0), (.int (5 : Int32)), (.ref o1)])) (fun _ k => XS.bipush X5.here hx rfl (hb hby d1_16) k) ?_
  refine own_go (g' := (mkF m 20 #[.val (.long q0), .second, .val (.ref o1), .val (.int (0 : Int32)), .val (.int (5 : Int32))] [(.int (7 : Int32)), (.int (8 : Int32)), (.long q0), (.int (5 : Int32)), (.ref o1)])) (fun _ k => XS.bipush X5.here hx rfl (hb hby d1_18) k) ?_
  refine own_go (g' := (mkF m 22 #[.val (.long q0), .second, .val (.ref o1), .val (.int (0 : Int32)), .val (.int (5 : Int32))] [(.int (5 : Int32)), (.int (7 : Int32)), (.int (8 : Int32)), (.long q0), (.int (5 : Int32)), (.ref o1)])) (fun _ k => XS.iload X5.here hx rfl (hb hby d1_20) rfl k) ?_
  refine own_go (g' := (mkF m 23 #[.val (.long q0), .second, .val (.ref o1), .val (.int (0 : Int32)), .val (.int (5 : Int32))] [(.int (2 : Int32)), (.int (8 : Int32)), (.long q0), (.int (5 : Int32)), (.ref o1)])) (fun _ k => XS.isub X5.here hx rfl (hb hby d1_22) rfl k) ?_
  refine own_go (g' := (mkF m 24 #[.val (.long q0), .second, .val (.ref o1), .val (.int (0 : Int32)), .val (.int (5 : Int32))] [(.int (16 : Int32)), (.long q0), (.int (5 : Int32)), (.ref o1)])) (fun _ k => XS.imul X5.here hx rfl (hb hby d1_23) rfl k) ?_
  refine own_go (g' := (mkF m 25 #[.val (.long q0), .second, .val (.ref o1), .val (.int (0 : Int32)), .val (.int (5 : Int32))] [(.long ((q0.toUInt64 >>> ((16 : Int32) &&& 0x3f).toInt64.toUInt64).toInt64)), (.int (5 : Int32)), (.ref o1)])) (fun _ k => XS.lushr X5.here hx rfl (hb hby d1_24) rfl k) ?_
  refine own_go (g' := (mkF m 26 #[.val (.long q0), .second, .val (.ref o1), .val (.int (0 : Int32)), .val (.int (5 : Int32))] [(.int (((q0.toUInt64 >>> ((16 : Int32) &&& 0x3f).toInt64.toUInt64).toInt64).toInt32)), (.int (5 : Int32)), (.ref o1)])) (fun _ k => XS.l2i X5.here hx rfl (hb hby d1_25) rfl k) ?_
  refine own_go (g' := (mkF m 27 #[.val (.long q0), .second, .val (.ref o1), .val (.int (0 : Int32)), .val (.int (5 : Int32))] [(.int ((((q0.toUInt64 >>> ((16 : Int32) &&& 0x3f).toInt64.toUInt64).toInt64).toInt32).toInt8.toInt32)), (.int (5 : Int32)), (.ref o1)])) (fun _ k => XS.i2b X5.here hx rfl (hb hby d1_26) rfl k) ?_
  suffices JNhz6 : ∀ z6 : Int32, z6 = own_wb q0 (16 : Int32) → own_Go p e below (own_Post s QQ 0 0) T5 (mkF m 27 #[.val (.long q0), .second, .val (.ref o1), .val (.int (0 : Int32)), .val (.int (5 : Int32))] [(.int z6), (.int (5 : Int32)), (.ref o1)]) from JNhz6 _ (rfl)
  intro z6 hz6
  obtain ⟨cl6, Ar6, qk6, sz6, nn6, Hs6, Gs6⟩ := id V5
  have hin6 : ¬ ((5 : Int32) < 0 ∨ cl6.slots.size ≤ ((5 : Int32)).toNatClampNeg) := inb_of sz6 ⟨by decide, by decide⟩
  obtain ⟨T6, h6, X6, e6, W6, st6⟩ := stB X5 hx hZ e5 Ar6 (j := (5 : Int32)) hin6 (g := (mkF m 27 #[.val (.long q0), .second, .val (.ref o1), .val (.int (0 : Int32)), .val (.int (5 : Int32))] [(.int z6), (.int (5 : Int32)), (.ref o1)])) rfl rfl (hb hby d1_27)
  have V6 : Arv Z h6 o1 kk .byte (12 : Int32) [(.int (z1).toInt8.toInt32), (.int (z2).toInt8.toInt32), (.int (z3).toInt8.toInt32), (.int (z4).toInt8.toInt32), (.int (z5).toInt8.toInt32), (.int (z6).toInt8.toInt32), (.int x6), (.int x7), (.int x8), (.int x9), (.int x10), (.int x11)] (.int (0 : Int32)) := Arv.set Ar6 qk6 sz6 nn6 Hs6 Gs6 (fits_nar_byte _) W6 5 rfl (Nat.le_of_ble_eq_true rfl)
  have N6 := Fr.snoc X6 N5 g_o1
  have Z6 : n0 ≤ h6.size := by rw [W6.size]; exact Z5
  have K6 : Keep h0 h6 [o1] := K5.wr W6 (Or.inl (List.mem_of_getElem? (i := 0) rfl))
  refine own_go (g' := (mkF m 28 #[.val (.long q0), .second, .val (.ref o1), .val (.int (0 : Int32)), .val (.int (5 : Int32))] [])) (st6) ?_
  refine own_go (g' := (mkF m 31 #[.val (.long q0), .second, .val (.ref o1), .val (.int (0 : Int32)), .val (.int (6 : Int32))] [])) (fun _ k => XS.iinc X6.here hx rfl (hb hby d1_28) rfl (l' := #[.val (.long q0), .second, .val (.ref o1), .val (.int (0 : Int32)), .val (.int (6 : Int32))]) rfl k) ?_
  refine own_go (g' := (mkF m 3 #[.val (.long q0), .second, .val (.ref o1), .val (.int (0 : Int32)), .val (.int (6 : Int32))] [])) (fun _ k => XS.goto X6.here hx rfl (pc0 := 31) (pc' := 3) rfl (hb hby d1_31) (by decide) (by decide) k) ?_
  refine own_go (g' := (mkF m 5 #[.val (.long q0), .second, .val (.ref o1), .val (.int (0 : Int32)), .val (.int (6 : Int32))] [(.int (6 : Int32))])) (fun _ k => XS.iload X6.here hx rfl (hb hby d1_3) rfl k) ?_
  refine own_go (g' := (mkF m 7 #[.val (.long q0), .second, .val (.ref o1), .val (.int (0 : Int32)), .val (.int (6 : Int32))] [(.int (8 : Int32)), (.int (6 : Int32))])) (fun _ k => XS.bipush X6.here hx rfl (hb hby d1_5) k) ?_
  refine own_go (g' := (mkF m 10 #[.val (.long q0), .second, .val (.ref o1), .val (.int (0 : Int32)), .val (.int (6 : Int32))] [])) (fun _ k => XS.icmpNo X6.here hx rfl (hb hby d1_7) rfl (tlt (by decide)).2.1 k) ?_
  refine own_go (g' := (mkF m 11 #[.val (.long q0), .second, .val (.ref o1), .val (.int (0 : Int32)), .val (.int (6 : Int32))] [(.ref o1)])) (fun _ k => XS.aloadN X6.here hx rfl (hb hby d1_10) rfl rfl k) ?_
  refine own_go (g' := (mkF m 12 #[.val (.long q0), .second, .val (.ref o1), .val (.int (0 : Int32)), .val (.int (6 : Int32))] [(.int (0 : Int32)), (.ref o1)])) (fun _ k => XS.iloadN X6.here hx rfl (hb hby d1_11) rfl k) ?_
  refine own_go (g' := (mkF m 14 #[.val (.long q0), .second, .val (.ref o1), .val (.int (0 : Int32)), .val (.int (6 : Int32))] [(.int (6 : Int32)), (.int (0 : Int32)), (.ref o1)])) (fun _ k => XS.iload X6.here hx rfl (hb hby d1_12) rfl k) ?_
  refine own_go (g' := (mkF m 15 #[.val (.long q0), .second, .val (.ref o1), .val (.int (0 : Int32)), .val (.int (6 : Int32))] [(.int (6 : Int32)), (.ref o1)])) (fun _ k => XS.iadd X6.here hx rfl (hb hby d1_14) rfl k) ?_
  refine own_go (g' := (mkF m 16 #[.val (.long q0), .second, .val (.ref o1), .val (.int (0 : Int32)), .val (.int (6 : Int32))] [(.long q0), (.int (6 : Int32)), (.ref o1)])) (fun _ k => XS.lloadN X6.here hx rfl (hb hby d1_15) rfl k) ?_
  refine own_go (g' := (mkF m 18 #[.val (.long q0), .second, .val (.ref o1), .val (.int (0 : Int32)), .val (.int (6 : Int32))] [(.int (8 : Int32)), (.long q0), (.int (6 : Int32)), (.ref o1)])) (fun _ k => XS.bipush X6.here hx rfl (hb hby d1_16) k) ?_
  refine own_go (g' := (mkF m 20 #[.val (.long q0), .second, .val (.ref o1), .val (.int (0 : Int32)), .val (.int (6 : Int32))] [(.int (7 : Int32)), (.int (8 : Int32)), (.long q0), (.int (6 : Int32)), (.ref o1)])) (fun _ k => XS.bipush X6.here hx rfl (hb hby d1_18) k) ?_
  refine own_go (g' := (mkF m 22 #[.val (.long q0), .second, .val (.ref o1), .val (.int (0 : Int32)), .val (.int (6 : Int32))] [(.int (6 : Int32)), (.int (7 : Int32)), (.int (8 : Int32)), (.long q0), (.int (6 : Int32)), (.ref o1)])) (fun _ k => XS.iload X6.here hx rfl (hb hby d1_20) rfl k) ?_
  refine own_go (g' := (mkF m 23 #[.val (.long q0), .second, .val (.ref o1), .val (.int (0 : Int32)), .val (.int (6 : Int32))] [(.int (1 : Int32)), (.int (8 : Int32)), (.long q0), (.int (6 : Int32)), (.ref o1)])) (fun _ k => XS.isub X6.here hx rfl (hb hby d1_22) rfl k) ?_
  refine own_go (g' := (mkF m 24 #[.val (.long q0), .second, .val (.ref o1), .val (.int (0 : Int32)), .val (.int (6 : Int32))] [(.int (8 : Int32)), (.long q0), (.int (6 : Int32)), (.ref o1)])) (fun _ k => XS.imul X6.here hx rfl (hb hby d1_23) rfl k) ?_
  refine own_go (g' := (mkF m 25 #[.val (.long q0), .second, .val (.ref o1), .val (.int (0 : Int32)), .val (.int (6 : Int32))] [(.long ((q0.toUInt64 >>> ((8 : Int32) &&& 0x3f).toInt64.toUInt64).toInt64)), (.int (6 : Int32)), (.ref o1)])) (fun _ k => XS.lushr X6.here hx rfl (hb hby d1_24) rfl k) ?_
  refine own_go (g' := (mkF m 26 #[.val (.long q0), .second, .val (.ref o1), .val (.int (0 : Int32)), .val (.int (6 : Int32))] [(.int (((q0.toUInt64 >>> ((8 : Int32) &&& 0x3f).toInt64.toUInt64).toInt64).toInt32)), (.int (6 : Int32)), (.ref o1)])) (fun _ k => XS.l2i X6.here hx rfl (hb hby d1_25) rfl k) ?_
  refine own_go (g' := (mkF m 27 #[.val (.long q0), .second, .val (.ref o1), .val (.int (0 : Int32)), .val (.int (6 : Int32))] [(.int ((((q0.toUInt64 >>> ((8 : Int32) &&& 0x3f).toInt64.toUInt64).toInt64).toInt32).toInt8.toInt32)), (.int (6 : Int32)), (.ref o1)])) (fun _ k => XS.i2b X6.here hx rfl (hb hby d1_26) rfl k) ?_
  suffices JNhz7 : ∀ z7 : Int32, z7 = own_wb q0 (8 : Int32) → own_Go p e below (own_Post s QQ 0 0) T6 (mkF m 27 #[.val (.long q0), .second, .val (.ref o1), .val (.int (0 : Int32)), .val (.int (6 : Int32))] [(.int z7), (.int (6 : Int32)), (.ref o1)]) from JNhz7 _ (rfl)
  intro z7 hz7
  obtain ⟨cl7, Ar7, qk7, sz7, nn7, Hs7, Gs7⟩ := id V6
  have hin7 : ¬ ((6 : Int32) < 0 ∨ cl7.slots.size ≤ ((6 : Int32)).toNatClampNeg) := inb_of sz7 ⟨by decide, by decide⟩
  obtain ⟨T7, h7, X7, e7, W7, st7⟩ := stB X6 hx hZ e6 Ar7 (j := (6 : Int32)) hin7 (g := (mkF m 27 #[.val (.long q0), .second, .val (.ref o1), .val (.int (0 : Int32)), .val (.int (6 : Int32))] [(.int z7), (.int (6 : Int32)), (.ref o1)])) rfl rfl (hb hby d1_27)
  have V7 : Arv Z h7 o1 kk .byte (12 : Int32) [(.int (z1).toInt8.toInt32), (.int (z2).toInt8.toInt32), (.int (z3).toInt8.toInt32), (.int (z4).toInt8.toInt32), (.int (z5).toInt8.toInt32), (.int (z6).toInt8.toInt32), (.int (z7).toInt8.toInt32), (.int x7), (.int x8), (.int x9), (.int x10), (.int x11)] (.int (0 : Int32)) := Arv.set Ar7 qk7 sz7 nn7 Hs7 Gs7 (fits_nar_byte _) W7 6 rfl (Nat.le_of_ble_eq_true rfl)
  have N7 := Fr.snoc X7 N6 g_o1
  have Z7 : n0 ≤ h7.size := by rw [W7.size]; exact Z6
  have K7 : Keep h0 h7 [o1] := K6.wr W7 (Or.inl (List.mem_of_getElem? (i := 0) rfl))
  refine own_go (g' := (mkF m 28 #[.val (.long q0), .second, .val (.ref o1), .val (.int (0 : Int32)), .val (.int (6 : Int32))] [])) (st7) ?_
  refine own_go (g' := (mkF m 31 #[.val (.long q0), .second, .val (.ref o1), .val (.int (0 : Int32)), .val (.int (7 : Int32))] [])) (fun _ k => XS.iinc X7.here hx rfl (hb hby d1_28) rfl (l' := #[.val (.long q0), .second, .val (.ref o1), .val (.int (0 : Int32)), .val (.int (7 : Int32))]) rfl k) ?_
  refine own_go (g' := (mkF m 3 #[.val (.long q0), .second, .val (.ref o1), .val (.int (0 : Int32)), .val (.int (7 : Int32))] [])) (fun _ k => XS.goto X7.here hx rfl (pc0 := 31) (pc' := 3) rfl (hb hby d1_31) (by decide) (by decide) k) ?_
  refine own_go (g' := (mkF m 5 #[.val (.long q0), .second, .val (.ref o1), .val (.int (0 : Int32)), .val (.int (7 : Int32))] [(.int (7 : Int32))])) (fun _ k => XS.iload X7.here hx rfl (hb hby d1_3) rfl k) ?_
  refine own_go (g' := (mkF m 7 #[.val (.long q0), .second, .val (.ref o1), .val (.int (0 : Int32)), .val (.int (7 : Int32))] [(.int (8 : Int32)), (.int (7 : Int32))])) (fun _ k => XS.bipush X7.here hx rfl (hb hby d1_5) k) ?_
  refine own_go (g' := (mkF m 10 #[.val (.long q0), .second, .val (.ref o1), .val (.int (0 : Int32)), .val (.int (7 : Int32))] [])) (fun _ k => XS.icmpNo X7.here hx rfl (hb hby d1_7) rfl (tlt (by decide)).2.1 k) ?_
  refine own_go (g' := (mkF m 11 #[.val (.long q0), .second, .val (.ref o1), .val (.int (0 : Int32)), .val (.int (7 : Int32))] [(.ref o1)])) (fun _ k => XS.aloadN X7.here hx rfl (hb hby d1_10) rfl rfl k) ?_
  refine own_go (g' := (mkF m 12 #[.val (.long q0), .second, .val (.ref o1), .val (.int (0 : Int32)), .val (.int (7 : Int32))] [(.int (0 : Int32)), (.ref o1)])) (fun _ k => XS.iloadN X7.here hx rfl (hb hby d1_11) rfl k) ?_
  refine own_go (g' := (mkF m 14 #[.val (.long q0), .second, .val (.ref o1), .val (.int (0 : Int32)), .val (.int (7 : Int32))] [(.int (7 : Int32)), (.int (0 : Int32)), (.ref o1)])) (fun _ k => XS.iload X7.here hx rfl (hb hby d1_12) rfl k) ?_
  refine own_go (g' := (mkF m 15 #[.val (.long q0), .second, .val (.ref o1), .val (.int (0 : Int32)), .val (.int (7 : Int32))] [(.int (7 : Int32)), (.ref o1)])) (fun _ k => XS.iadd X7.here hx rfl (hb hby d1_14) rfl k) ?_
  refine own_go (g' := (mkF m 16 #[.val (.long q0), .second, .val (.ref o1), .val (.int (0 : Int32)), .val (.int (7 : Int32))] [(.long q0), (.int (7 : Int32)), (.ref o1)])) (fun _ k => XS.lloadN X7.here hx rfl (hb hby d1_15) rfl k) ?_
  refine own_go (g' := (mkF m 18 #[.val (.long q0), .second, .val (.ref o1), .val (.int (0 : Int32)), .val (.int (7 : Int32))] [(.int (8 : Int32)), (.long q0), (.int (7 : Int32)), (.ref o1)])) (fun _ k => XS.bipush X7.here hx rfl (hb hby d1_16) k) ?_
  refine own_go (g' := (mkF m 20 #[.val (.long q0), .second, .val (.ref o1), .val (.int (0 : Int32)), .val (.int (7 : Int32))] [(.int (7 : Int32)), (.int (8 : Int32)), (.long q0), (.int (7 : Int32)), (.ref o1)])) (fun _ k => XS.bipush X7.here hx rfl (hb hby d1_18) k) ?_
  refine own_go (g' := (mkF m 22 #[.val (.long q0), .second, .val (.ref o1), .val (.int (0 : Int32)), .val (.int (7 : Int32))] [(.int (7 : Int32)), (.int (7 : Int32)), (.int (8 : Int32)), (.long q0), (.int (7 : Int32)), (.ref o1)])) (fun _ k => XS.iload X7.here hx rfl (hb hby d1_20) rfl k) ?_
  refine own_go (g' := (mkF m 23 #[.val (.long q0), .second, .val (.ref o1), .val (.int (0 : Int32)), .val (.int (7 : Int32))] [(.int (0 : Int32)), (.int (8 : Int32)), (.long q0), (.int (7 : Int32)), (.ref o1)])) (fun _ k => XS.isub X7.here hx rfl (hb hby d1_22) rfl k) ?_
  refine own_go (g' := (mkF m 24 #[.val (.long q0), .second, .val (.ref o1), .val (.int (0 : Int32)), .val (.int (7 : Int32))] [(.int (0 : Int32)), (.long q0), (.int (7 : Int32)), (.ref o1)])) (fun _ k => XS.imul X7.here hx rfl (hb hby d1_23) rfl k) ?_
  refine own_go (g' := (mkF m 25 #[.val (.long q0), .second, .val (.ref o1), .val (.int (0 : Int32)), .val (.int (7 : Int32))] [(.long ((q0.toUInt64 >>> ((0 : Int32) &&& 0x3f).toInt64.toUInt64).toInt64)), (.int (7 : Int32)), (.ref o1)])) (fun _ k => XS.lushr X7.here hx rfl (hb hby d1_24) rfl k) ?_
  refine own_go (g' := (mkF m 26 #[.val (.long q0), .second, .val (.ref o1), .val (.int (0 : Int32)), .val (.int (7 : Int32))] [(.int (((q0.toUInt64 >>> ((0 : Int32) &&& 0x3f).toInt64.toUInt64).toInt64).toInt32)), (.int (7 : Int32)), (.ref o1)])) (fun _ k => XS.l2i X7.here hx rfl (hb hby d1_25) rfl k) ?_
  refine own_go (g' := (mkF m 27 #[.val (.long q0), .second, .val (.ref o1), .val (.int (0 : Int32)), .val (.int (7 : Int32))] [(.int ((((q0.toUInt64 >>> ((0 : Int32) &&& 0x3f).toInt64.toUInt64).toInt64).toInt32).toInt8.toInt32)), (.int (7 : Int32)), (.ref o1)])) (fun _ k => XS.i2b X7.here hx rfl (hb hby d1_26) rfl k) ?_
  suffices JNhz8 : ∀ z8 : Int32, z8 = own_wb q0 (0 : Int32) → own_Go p e below (own_Post s QQ 0 0) T7 (mkF m 27 #[.val (.long q0), .second, .val (.ref o1), .val (.int (0 : Int32)), .val (.int (7 : Int32))] [(.int z8), (.int (7 : Int32)), (.ref o1)]) from JNhz8 _ (rfl)
  intro z8 hz8
  obtain ⟨cl8, Ar8, qk8, sz8, nn8, Hs8, Gs8⟩ := id V7
  have hin8 : ¬ ((7 : Int32) < 0 ∨ cl8.slots.size ≤ ((7 : Int32)).toNatClampNeg) := inb_of sz8 ⟨by decide, by decide⟩
  obtain ⟨T8, h8, X8, e8, W8, st8⟩ := stB X7 hx hZ e7 Ar8 (j := (7 : Int32)) hin8 (g := (mkF m 27 #[.val (.long q0), .second, .val (.ref o1), .val (.int (0 : Int32)), .val (.int (7 : Int32))] [(.int z8), (.int (7 : Int32)), (.ref o1)])) rfl rfl (hb hby d1_27)
  have V8 : Arv Z h8 o1 kk .byte (12 : Int32) [(.int (z1).toInt8.toInt32), (.int (z2).toInt8.toInt32), (.int (z3).toInt8.toInt32), (.int (z4).toInt8.toInt32), (.int (z5).toInt8.toInt32), (.int (z6).toInt8.toInt32), (.int (z7).toInt8.toInt32), (.int (z8).toInt8.toInt32), (.int x8), (.int x9), (.int x10), (.int x11)] (.int (0 : Int32)) := Arv.set Ar8 qk8 sz8 nn8 Hs8 Gs8 (fits_nar_byte _) W8 7 rfl (Nat.le_of_ble_eq_true rfl)
  have N8 := Fr.snoc X8 N7 g_o1
  have Z8 : n0 ≤ h8.size := by rw [W8.size]; exact Z7
  have K8 : Keep h0 h8 [o1] := K7.wr W8 (Or.inl (List.mem_of_getElem? (i := 0) rfl))
  refine own_go (g' := (mkF m 28 #[.val (.long q0), .second, .val (.ref o1), .val (.int (0 : Int32)), .val (.int (7 : Int32))] [])) (st8) ?_
  refine own_go (g' := (mkF m 31 #[.val (.long q0), .second, .val (.ref o1), .val (.int (0 : Int32)), .val (.int (8 : Int32))] [])) (fun _ k => XS.iinc X8.here hx rfl (hb hby d1_28) rfl (l' := #[.val (.long q0), .second, .val (.ref o1), .val (.int (0 : Int32)), .val (.int (8 : Int32))]) rfl k) ?_
  refine own_go (g' := (mkF m 3 #[.val (.long q0), .second, .val (.ref o1), .val (.int (0 : Int32)), .val (.int (8 : Int32))] [])) (fun _ k => XS.goto X8.here hx rfl (pc0 := 31) (pc' := 3) rfl (hb hby d1_31) (by decide) (by decide) k) ?_
  refine own_go (g' := (mkF m 5 #[.val (.long q0), .second, .val (.ref o1), .val (.int (0 : Int32)), .val (.int (8 : Int32))] [(.int (8 : Int32))])) (fun _ k => XS.iload X8.here hx rfl (hb hby d1_3) rfl k) ?_
  refine own_go (g' := (mkF m 7 #[.val (.long q0), .second, .val (.ref o1), .val (.int (0 : Int32)), .val (.int (8 : Int32))] [(.int (8 : Int32)), (.int (8 : Int32))])) (fun _ k => XS.bipush X8.here hx rfl (hb hby d1_5) k) ?_
  refine own_go (g' := (mkF m 34 #[.val (.long q0), .second, .val (.ref o1), .val (.int (0 : Int32)), .val (.int (8 : Int32))] [])) (fun _ k => XS.icmpYes X8.here hx rfl (pc0 := 7) (pc' := 34) rfl (hb hby d1_7) rfl (flt (by decide)).2.1 (by decide) (by decide) k) ?_
  refine own_retV X8 hx Bd.returns Bd.notSynchronized (hb hby d1_34) (by decide) (by decide) ?_
  show QQ _ T8.heap _
  rw [e8]
  subst hz8 hz7 hz6 hz5 hz4 hz3 hz2 hz1
  rw [← hQQ]
  exact ⟨rfl, N8, K8, V8⟩
theorem pn_wr1 : plainName "com/example/table_salt/tablesalt/layout/Int64" = true := by first | (simp [plainName, overriddenIn]; done) | decide +kernel
theorem ef_wr1 (m : MethodId) (q0 : Int64) (o1 : Addr) : entryFrame m #[(.long q0), (.ref o1), (.int (1 : Int32))] 5 = mkF m 0 #[.val (.long q0), .second, .val (.ref o1), .val (.int (1 : Int32)), .unset] [] := by first | (simp [entryFrame, mkF, argsToLocals, Value.category]; done) | rfl
set_option maxRecDepth 65536 in
set_option maxHeartbeats 40000000 in
theorem wr1 (l : Launch) (Z : State) (a0 : Array Value) (hw : ∀ d ∈ tables_1, d.before a0 Z = true) (q0 : Int64) (o1 : Addr) (x0 : Int32) (x1 : Int32) (x2 : Int32) (x3 : Int32) (x4 : Int32) (x5 : Int32) (x6 : Int32) (x7 : Int32) (x8 : Int32) (x9 : Int32) (x10 : Int32) (x11 : Int32) (kk : ClassId) (h0 : Heap) (n0 : Nat) (Z0 : n0 ≤ h0.size) (g_o1 : n0 ≤ o1) (P0 : Arv Z h0 o1 kk .byte (12 : Int32) [(.int x0), (.int x1), (.int x2), (.int x3), (.int x4), (.int x5), (.int x6), (.int x7), (.int x8), (.int x9), (.int x10), (.int x11)] (.int (0 : Int32))) :
    own_Met l Z (⟨"com/example/table_salt/tablesalt/layout/Int64", "write", "(J[BI)V"⟩ : MethodName) prog_11_method_2_code 5 none [] ({ frames := 0, cells := 0, slots := 0, locals := 0 } : Room) #[(.long q0), (.ref o1), (.int (1 : Int32))] h0 0 0 (fun v h L => v = none ∧ Fr n0 L ∧ Keep h0 h [o1] ∧ Arv Z h o1 kk .byte (12 : Int32) [(.int x0), (.int (own_wb q0 (56 : Int32)).toInt8.toInt32), (.int (own_wb q0 (48 : Int32)).toInt8.toInt32), (.int (own_wb q0 (40 : Int32)).toInt8.toInt32), (.int (own_wb q0 (32 : Int32)).toInt8.toInt32), (.int (own_wb q0 (24 : Int32)).toInt8.toInt32), (.int (own_wb q0 (16 : Int32)).toInt8.toInt32), (.int (own_wb q0 (8 : Int32)).toInt8.toInt32), (.int (own_wb q0 (0 : Int32)).toInt8.toInt32), (.int x9), (.int x10), (.int x11)] (.int (0 : Int32))) := by
  refine own_met (plainFor_of_name pn_wr1) ?_
  intro p e s m below meth c s₁ Bd hml0 hZ X0 e0
  have hx := Bd.exec
  have hby := Bd.bytes
  have hml : c.maxLocals = 5 := hml0
  have hown : s.vm.findClass "com/example/table_salt/tablesalt/layout/Int64" = some m.cls := findClass_of_methodNamed Bd.named
  have hnm := (name_of_methodNamed Bd.named Bd.method).1
  refine own_cast (ef_wr1 m q0 o1) ?_
  generalize hQQ : (fun (v : Option Value) (h : Heap) (L : List Loc) => v = none ∧ Fr n0 L ∧ Keep h0 h [o1] ∧ Arv Z h o1 kk .byte (12 : Int32) [(.int x0), (.int (own_wb q0 (56 : Int32)).toInt8.toInt32), (.int (own_wb q0 (48 : Int32)).toInt8.toInt32), (.int (own_wb q0 (40 : Int32)).toInt8.toInt32), (.int (own_wb q0 (32 : Int32)).toInt8.toInt32), (.int (own_wb q0 (24 : Int32)).toInt8.toInt32), (.int (own_wb q0 (16 : Int32)).toInt8.toInt32), (.int (own_wb q0 (8 : Int32)).toInt8.toInt32), (.int (own_wb q0 (0 : Int32)).toInt8.toInt32), (.int x9), (.int x10), (.int x11)] (.int (0 : Int32))) = QQ
  have N0 := Fr.nil n0
  have K0 := Keep.refl h0 [o1]
  refine own_go (g' := (mkF m 1 #[.val (.long q0), .second, .val (.ref o1), .val (.int (1 : Int32)), .unset] [(.int (0 : Int32))])) (fun _ k => XS.iconst X0.here hx rfl (hb hby d1_0) k) ?_
  refine own_go (g' := (mkF m 3 #[.val (.long q0), .second, .val (.ref o1), .val (.int (1 : Int32)), .val (.int (0 : Int32))] [])) (fun _ k => XS.istore X0.here hx rfl (hb hby d1_1) rfl (l' := #[.val (.long q0), .second, .val (.ref o1), .val (.int (1 : Int32)), .val (.int (0 : Int32))]) rfl k) ?_
  refine own_go (g' := (mkF m 5 #[.val (.long q0), .second, .val (.ref o1), .val (.int (1 : Int32)), .val (.int (0 : Int32))] [(.int (0 : Int32))])) (fun _ k => XS.iload X0.here hx rfl (hb hby d1_3) rfl k) ?_
  refine own_go (g' := (mkF m 7 #[.val (.long q0), .second, .val (.ref o1), .val (.int (1 : Int32)), .val (.int (0 : Int32))] [(.int (8 : Int32)), (.int (0 : Int32))])) (fun _ k => XS.bipush X0.here hx rfl (hb hby d1_5) k) ?_
  refine own_go (g' := (mkF m 10 #[.val (.long q0), .second, .val (.ref o1), .val (.int (1 : Int32)), .val (.int (0 : Int32))] [])) (fun _ k => XS.icmpNo X0.here hx rfl (hb hby d1_7) rfl (tlt (by decide)).2.1 k) ?_
  refine own_go (g' := (mkF m 11 #[.val (.long q0), .second, .val (.ref o1), .val (.int (1 : Int32)), .val (.int (0 : Int32))] [(.ref o1)])) (fun _ k => XS.aloadN X0.here hx rfl (hb hby d1_10) rfl rfl k) ?_
  refine own_go (g' := (mkF m 12 #[.val (.long q0), .second, .val (.ref o1), .val (.int (1 : Int32)), .val (.int (0 : Int32))] [(.int (1 : Int32)), (.ref o1)])) (fun _ k => XS.iloadN X0.here hx rfl (hb hby d1_11) rfl k) ?_
  refine own_go (g' := (mkF m 14 #[.val (.long q0), .second, .val (.ref o1), .val (.int (1 : Int32)), .val (.int (0 : Int32))] [(.int (0 : Int32)), (.int (1 : Int32)), (.ref o1)])) (fun _ k => XS.iload X0.here hx rfl (hb hby d1_12) rfl k) ?_
  refine own_go (g' := (mkF m 15 #[.val (.long q0), .second, .val (.ref o1), .val (.int (1 : Int32)), .val (.int (0 : Int32))] [(.int (1 : Int32)), (.ref o1)])) (fun _ k => XS.iadd X0.here hx rfl (hb hby d1_14) rfl k) ?_
  refine own_go (g' := (mkF m 16 #[.val (.long q0), .second, .val (.ref o1), .val (.int (1 : Int32)), .val (.int (0 : Int32))] [(.long q0), (.int (1 : Int32)), (.ref o1)])) (fun _ k => XS.lloadN X0.here hx rfl (hb hby d1_15) rfl k) ?_
  refine own_go (g' := (mkF m 18 #[.val (.long q0), .second, .val (.ref o1), .val (.int (1 : Int32)), .val (.int (0 : Int32))] [(.int (8 : Int32)), (.long q0), (.int (1 : Int32)), (.ref o1)])) (fun _ k => XS.bipush X0.here hx rfl (hb hby d1_16) k) ?_
  refine own_go (g' := (mkF m 20 #[.val (.long q0), .second, .val (.ref o1), .val (.int (1 : Int32)), .val (.int (0 : Int32))] [(.int (7 : Int32)), (.int (8 : Int32)), (.long q0), (.int (1 : Int32)), (.ref o1)])) (fun _ k => XS.bipush X0.here hx rfl (hb hby d1_18) k) ?_
  refine own_go (g' := (mkF m 22 #[.val (.long q0), .second, .val (.ref o1), .val (.int (1 : Int32)), .val (.int (0 : Int32))] [(.int (0 : Int32)), (.int (7 : Int32)), (.int (8 : Int32)), (.long q0), (.int (1 : Int32)), (.ref o1)])) (fun _ k => XS.iload X0.here hx rfl (hb hby d1_20) rfl k) ?_
  refine own_go (g' := (mkF m 23 #[.val (.long q0), .second, .val (.ref o1), .val (.int (1 : Int32)), .val (.int (0 : Int32))] [(.int (7 : Int32)), (.int (8 : Int32)), (.long q0), (.int (1 : Int32)), (.ref o1)])) (fun _ k => XS.isub X0.here hx rfl (hb hby d1_22) rfl k) ?_
  refine own_go (g' := (mkF m 24 #[.val (.long q0), .second, .val (.ref o1), .val (.int (1 : Int32)), .val (.int (0 : Int32))] [(.int (56 : Int32)), (.long q0), (.int (1 : Int32)), (.ref o1)])) (fun _ k => XS.imul X0.here hx rfl (hb hby d1_23) rfl k) ?_
  refine own_go (g' := (mkF m 25 #[.val (.long q0), .second, .val (.ref o1), .val (.int (1 : Int32)), .val (.int (0 : Int32))] [(.long ((q0.toUInt64 >>> ((56 : Int32) &&& 0x3f).toInt64.toUInt64).toInt64)), (.int (1 : Int32)), (.ref o1)])) (fun _ k => XS.lushr X0.here hx rfl (hb hby d1_24) rfl k) ?_
  refine own_go (g' := (mkF m 26 #[.val (.long q0), .second, .val (.ref o1), .val (.int (1 : Int32)), .val (.int (0 : Int32))] [(.int (((q0.toUInt64 >>> ((56 : Int32) &&& 0x3f).toInt64.toUInt64).toInt64).toInt32)), (.int (1 : Int32)), (.ref o1)])) (fun _ k => XS.l2i X0.here hx rfl (hb hby d1_25) rfl k) ?_
  refine own_go (g' := (mkF m 27 #[.val (.long q0), .second, .val (.ref o1), .val (.int (1 : Int32)), .val (.int (0 : Int32))] [(.int ((((q0.toUInt64 >>> ((56 : Int32) &&& 0x3f).toInt64.toUInt64).toInt64).toInt32).toInt8.toInt32)), (.int (1 : Int32)), (.ref o1)])) (fun _ k => XS.i2b X0.here hx rfl (hb hby d1_26) rfl k) ?_
  suffices JNhz1 : ∀ z1 : Int32, z1 = own_wb q0 (56 : Int32) → own_Go p e below (own_Post s QQ 0 0) s₁ (mkF m 27 #[.val (.long q0), .second, .val (.ref o1), .val (.int (1 : Int32)), .val (.int (0 : Int32))] [(.int z1), (.int (1 : Int32)), (.ref o1)]) from JNhz1 _ (rfl)
  intro z1 hz1
  obtain ⟨cl1, Ar1, qk1, sz1, nn1, Hs1, Gs1⟩ := id P0
  have hin1 : ¬ ((1 : Int32) < 0 ∨ cl1.slots.size ≤ ((1 : Int32)).toNatClampNeg) := inb_of sz1 ⟨by decide, by decide⟩
  obtain ⟨T1, h1, X1, e1, W1, st1⟩ := stB X0 hx hZ e0 Ar1 (j := (1 : Int32)) hin1 (g := (mkF m 27 #[.val (.long q0), .second, .val (.ref o1), .val (.int (1 : Int32)), .val (.int (0 : Int32))] [(.int z1), (.int (1 : Int32)), (.ref o1)])) rfl rfl (hb hby d1_27)
  have V1 : Arv Z h1 o1 kk .byte (12 : Int32) [(.int x0), (.int (z1).toInt8.toInt32), (.int x2), (.int x3), (.int x4), (.int x5), (.int x6), (.int x7), (.int x8), (.int x9), (.int x10), (.int x11)] (.int (0 : Int32)) := Arv.set Ar1 qk1 sz1 nn1 Hs1 Gs1 (fits_nar_byte _) W1 1 rfl (Nat.le_of_ble_eq_true rfl)
  have N1 := Fr.snoc X1 N0 g_o1
  have Z1 : n0 ≤ h1.size := by rw [W1.size]; exact Z0
  have K1 : Keep h0 h1 [o1] := K0.wr W1 (Or.inl (List.mem_of_getElem? (i := 0) rfl))
  refine own_go (g' := (mkF m 28 #[.val (.long q0), .second, .val (.ref o1), .val (.int (1 : Int32)), .val (.int (0 : Int32))] [])) (st1) ?_
  refine own_go (g' := (mkF m 31 #[.val (.long q0), .second, .val (.ref o1), .val (.int (1 : Int32)), .val (.int (1 : Int32))] [])) (fun _ k => XS.iinc X1.here hx rfl (hb hby d1_28) rfl (l' := #[.val (.long q0), .second, .val (.ref o1), .val (.int (1 : Int32)), .val (.int (1 : Int32))]) rfl k) ?_
  refine own_go (g' := (mkF m 3 #[.val (.long q0), .second, .val (.ref o1), .val (.int (1 : Int32)), .val (.int (1 : Int32))] [])) (fun _ k => XS.goto X1.here hx rfl (pc0 := 31) (pc' := 3) rfl (hb hby d1_31) (by decide) (by decide) k) ?_
  refine own_go (g' := (mkF m 5 #[.val (.long q0), .second, .val (.ref o1), .val (.int (1 : Int32)), .val (.int (1 : Int32))] [(.int (1 : Int32))])) (fun _ k => XS.iload X1.here hx rfl (hb hby d1_3) rfl k) ?_
  refine own_go (g' := (mkF m 7 #[.val (.long q0), .second, .val (.ref o1), .val (.int (1 : Int32)), .val (.int (1 : Int32))] [(.int (8 : Int32)), (.int (1 : Int32))])) (fun _ k => XS.bipush X1.here hx rfl (hb hby d1_5) k) ?_
  refine own_go (g' := (mkF m 10 #[.val (.long q0), .second, .val (.ref o1), .val (.int (1 : Int32)), .val (.int (1 : Int32))] [])) (fun _ k => XS.icmpNo X1.here hx rfl (hb hby d1_7) rfl (tlt (by decide)).2.1 k) ?_
  refine own_go (g' := (mkF m 11 #[.val (.long q0), .second, .val (.ref o1), .val (.int (1 : Int32)), .val (.int (1 : Int32))] [(.ref o1)])) (fun _ k => XS.aloadN X1.here hx rfl (hb hby d1_10) rfl rfl k) ?_
  refine own_go (g' := (mkF m 12 #[.val (.long q0), .second, .val (.ref o1), .val (.int (1 : Int32)), .val (.int (1 : Int32))] [(.int (1 : Int32)), (.ref o1)])) (fun _ k => XS.iloadN X1.here hx rfl (hb hby d1_11) rfl k) ?_
  refine own_go (g' := (mkF m 14 #[.val (.long q0), .second, .val (.ref o1), .val (.int (1 : Int32)), .val (.int (1 : Int32))] [(.int (1 : Int32)), (.int (1 : Int32)), (.ref o1)])) (fun _ k => XS.iload X1.here hx rfl (hb hby d1_12) rfl k) ?_
  refine own_go (g' := (mkF m 15 #[.val (.long q0), .second, .val (.ref o1), .val (.int (1 : Int32)), .val (.int (1 : Int32))] [(.int (2 : Int32)), (.ref o1)])) (fun _ k => XS.iadd X1.here hx rfl (hb hby d1_14) rfl k) ?_
  refine own_go (g' := (mkF m 16 #[.val (.long q0), .second, .val (.ref o1), .val (.int (1 : Int32)), .val (.int (1 : Int32))] [(.long q0), (.int (2 : Int32)), (.ref o1)])) (fun _ k => XS.lloadN X1.here hx rfl (hb hby d1_15) rfl k) ?_
  refine own_go (g' := (mkF m 18 #[.val (.long q0), .second, .val (.ref o1), .val (.int (1 : Int32)), .val (.int (1 : Int32))] [(.int (8 : Int32)), (.long q0), (.int (2 : Int32)), (.ref o1)])) (fun _ k => XS.bipush X1.here hx rfl (hb hby d1_16) k) ?_
  refine own_go (g' := (mkF m 20 #[.val (.long q0), .second, .val (.ref o1), .val (.int (1 : Int32)), .val (.int (1 : Int32))] [(.int (7 : Int32)), (.int (8 : Int32)), (.long q0), (.int (2 : Int32)), (.ref o1)])) (fun _ k => XS.bipush X1.here hx rfl (hb hby d1_18) k) ?_
  refine own_go (g' := (mkF m 22 #[.val (.long q0), .second, .val (.ref o1), .val (.int (1 : Int32)), .val (.int (1 : Int32))] [(.int (1 : Int32)), (.int (7 : Int32)), (.int (8 : Int32)), (.long q0), (.int (2 : Int32)), (.ref o1)])) (fun _ k => XS.iload X1.here hx rfl (hb hby d1_20) rfl k) ?_
  refine own_go (g' := (mkF m 23 #[.val (.long q0), .second, .val (.ref o1), .val (.int (1 : Int32)), .val (.int (1 : Int32))] [(.int (6 : Int32)), (.int (8 : Int32)), (.long q0), (.int (2 : Int32)), (.ref o1)])) (fun _ k => XS.isub X1.here hx rfl (hb hby d1_22) rfl k) ?_
  refine own_go (g' := (mkF m 24 #[.val (.long q0), .second, .val (.ref o1), .val (.int (1 : Int32)), .val (.int (1 : Int32))] [(.int (48 : Int32)), (.long q0), (.int (2 : Int32)), (.ref o1)])) (fun _ k => XS.imul X1.here hx rfl (hb hby d1_23) rfl k) ?_
  refine own_go (g' := (mkF m 25 #[.val (.long q0), .second, .val (.ref o1), .val (.int (1 : Int32)), .val (.int (1 : Int32))] [(.long ((q0.toUInt64 >>> ((48 : Int32) &&& 0x3f).toInt64.toUInt64).toInt64)), (.int (2 : Int32)), (.ref o1)])) (fun _ k => XS.lushr X1.here hx rfl (hb hby d1_24) rfl k) ?_
  refine own_go (g' := (mkF m 26 #[.val (.long q0), .second, .val (.ref o1), .val (.int (1 : Int32)), .val (.int (1 : Int32))] [(.int (((q0.toUInt64 >>> ((48 : Int32) &&& 0x3f).toInt64.toUInt64).toInt64).toInt32)), (.int (2 : Int32)), (.ref o1)])) (fun _ k => XS.l2i X1.here hx rfl (hb hby d1_25) rfl k) ?_
  refine own_go (g' := (mkF m 27 #[.val (.long q0), .second, .val (.ref o1), .val (.int (1 : Int32)), .val (.int (1 : Int32))] [(.int ((((q0.toUInt64 >>> ((48 : Int32) &&& 0x3f).toInt64.toUInt64).toInt64).toInt32).toInt8.toInt32)), (.int (2 : Int32)), (.ref o1)])) (fun _ k => XS.i2b X1.here hx rfl (hb hby d1_26) rfl k) ?_
  suffices JNhz2 : ∀ z2 : Int32, z2 = own_wb q0 (48 : Int32) → own_Go p e below (own_Post s QQ 0 0) T1 (mkF m 27 #[.val (.long q0), .second, .val (.ref o1), .val (.int (1 : Int32)), .val (.int (1 : Int32))] [(.int z2), (.int (2 : Int32)), (.ref o1)]) from JNhz2 _ (rfl)
  intro z2 hz2
  obtain ⟨cl2, Ar2, qk2, sz2, nn2, Hs2, Gs2⟩ := id V1
  have hin2 : ¬ ((2 : Int32) < 0 ∨ cl2.slots.size ≤ ((2 : Int32)).toNatClampNeg) := inb_of sz2 ⟨by decide, by decide⟩
  obtain ⟨T2, h2, X2, e2, W2, st2⟩ := stB X1 hx hZ e1 Ar2 (j := (2 : Int32)) hin2 (g := (mkF m 27 #[.val (.long q0), .second, .val (.ref o1), .val (.int (1 : Int32)), .val (.int (1 : Int32))] [(.int z2), (.int (2 : Int32)), (.ref o1)])) rfl rfl (hb hby d1_27)
  have V2 : Arv Z h2 o1 kk .byte (12 : Int32) [(.int x0), (.int (z1).toInt8.toInt32), (.int (z2).toInt8.toInt32), (.int x3), (.int x4), (.int x5), (.int x6), (.int x7), (.int x8), (.int x9), (.int x10), (.int x11)] (.int (0 : Int32)) := Arv.set Ar2 qk2 sz2 nn2 Hs2 Gs2 (fits_nar_byte _) W2 2 rfl (Nat.le_of_ble_eq_true rfl)
  have N2 := Fr.snoc X2 N1 g_o1
  have Z2 : n0 ≤ h2.size := by rw [W2.size]; exact Z1
  have K2 : Keep h0 h2 [o1] := K1.wr W2 (Or.inl (List.mem_of_getElem? (i := 0) rfl))
  refine own_go (g' := (mkF m 28 #[.val (.long q0), .second, .val (.ref o1), .val (.int (1 : Int32)), .val (.int (1 : Int32))] [])) (st2) ?_
  refine own_go (g' := (mkF m 31 #[.val (.long q0), .second, .val (.ref o1), .val (.int (1 : Int32)), .val (.int (2 : Int32))] [])) (fun _ k => XS.iinc X2.here hx rfl (hb hby d1_28) rfl (l' := #[.val (.long q0), .second, .val (.ref o1), .val (.int (1 : Int32)), .val (.int (2 : Int32))]) rfl k) ?_
  refine own_go (g' := (mkF m 3 #[.val (.long q0), .second, .val (.ref o1), .val (.int (1 : Int32)), .val (.int (2 : Int32))] [])) (fun _ k => XS.goto X2.here hx rfl (pc0 := 31) (pc' := 3) rfl (hb hby d1_31) (by decide) (by decide) k) ?_
  refine own_go (g' := (mkF m 5 #[.val (.long q0), .second, .val (.ref o1), .val (.int (1 : Int32)), .val (.int (2 : Int32))] [(.int (2 : Int32))])) (fun _ k => XS.iload X2.here hx rfl (hb hby d1_3) rfl k) ?_
  refine own_go (g' := (mkF m 7 #[.val (.long q0), .second, .val (.ref o1), .val (.int (1 : Int32)), .val (.int (2 : Int32))] [(.int (8 : Int32)), (.int (2 : Int32))])) (fun _ k => XS.bipush X2.here hx rfl (hb hby d1_5) k) ?_
  refine own_go (g' := (mkF m 10 #[.val (.long q0), .second, .val (.ref o1), .val (.int (1 : Int32)), .val (.int (2 : Int32))] [])) (fun _ k => XS.icmpNo X2.here hx rfl (hb hby d1_7) rfl (tlt (by decide)).2.1 k) ?_
  refine own_go (g' := (mkF m 11 #[.val (.long q0), .second, .val (.ref o1), .val (.int (1 : Int32)), .val (.int (2 : Int32))] [(.ref o1)])) (fun _ k => XS.aloadN X2.here hx rfl (hb hby d1_10) rfl rfl k) ?_
  refine own_go (g' := (mkF m 12 #[.val (.long q0), .second, .val (.ref o1), .val (.int (1 : Int32)), .val (.int (2 : Int32))] [(.int (1 : Int32)), (.ref o1)])) (fun _ k => XS.iloadN X2.here hx rfl (hb hby d1_11) rfl k) ?_
  refine own_go (g' := (mkF m 14 #[.val (.long q0), .second, .val (.ref o1), .val (.int (1 : Int32)), .val (.int (2 : Int32))] [(.int (2 : Int32)), (.int (1 : Int32)), (.ref o1)])) (fun _ k => XS.iload X2.here hx rfl (hb hby d1_12) rfl k) ?_
  refine own_go (g' := (mkF m 15 #[.val (.long q0), .second, .val (.ref o1), .val (.int (1 : Int32)), .val (.int (2 : Int32))] [(.int (3 : Int32)), (.ref o1)])) (fun _ k => XS.iadd X2.here hx rfl (hb hby d1_14) rfl k) ?_
  refine own_go (g' := (mkF m 16 #[.val (.long q0), .second, .val (.ref o1), .val (.int (1 : Int32)), .val (.int (2 : Int32))] [(.long q0), (.int (3 : Int32)), (.ref o1)])) (fun _ k => XS.lloadN X2.here hx rfl (hb hby d1_15) rfl k) ?_
  refine own_go (g' := (mkF m 18 #[.val (.long q0), .second, .val (.ref o1), .val (.int (1 : Int32)), .val (.int (2 : Int32))] [(.int (8 : Int32)), (.long q0), (.int (3 : Int32)), (.ref o1)])) (fun _ k => XS.bipush X2.here hx rfl (hb hby d1_16) k) ?_
  refine own_go (g' := (mkF m 20 #[.val (.long q0), .second, .val (.ref o1), .val (.int (1 : Int32)), .val (.int (2 : Int32))] [(.int (7 : Int32)), (.int (8 : Int32)), (.long q0), (.int (3 : Int32)), (.ref o1)])) (fun _ k => XS.bipush X2.here hx rfl (hb hby d1_18) k) ?_
  refine own_go (g' := (mkF m 22 #[.val (.long q0), .second, .val (.ref o1), .val (.int (1 : Int32)), .val (.int (2 : Int32))] [(.int (2 : Int32)), (.int (7 : Int32)), (.int (8 : Int32)), (.long q0), (.int (3 : Int32)), (.ref o1)])) (fun _ k => XS.iload X2.here hx rfl (hb hby d1_20) rfl k) ?_
  refine own_go (g' := (mkF m 23 #[.val (.long q0), .second, .val (.ref o1), .val (.int (1 : Int32)), .val (.int (2 : Int32))] [(.int (5 : Int32)), (.int (8 : Int32)), (.long q0), (.int (3 : Int32)), (.ref o1)])) (fun _ k => XS.isub X2.here hx rfl (hb hby d1_22) rfl k) ?_
  refine own_go (g' := (mkF m 24 #[.val (.long q0), .second, .val (.ref o1), .val (.int (1 : Int32)), .val (.int (2 : Int32))] [(.int (40 : Int32)), (.long q0), (.int (3 : Int32)), (.ref o1)])) (fun _ k => XS.imul X2.here hx rfl (hb hby d1_23) rfl k) ?_
  refine own_go (g' := (mkF m 25 #[.val (.long q0), .second, .val (.ref o1), .val (.int (1 : Int32)), .val (.int (2 : Int32))] [(.long ((q0.toUInt64 >>> ((40 : Int32) &&& 0x3f).toInt64.toUInt64).toInt64)), (.int (3 : Int32)), (.ref o1)])) (fun _ k => XS.lushr X2.here hx rfl (hb hby d1_24) rfl k) ?_
  refine own_go (g' := (mkF m 26 #[.val (.long q0), .second, .val (.ref o1), .val (.int (1 : Int32)), .val (.int (2 : Int32))] [(.int (((q0.toUInt64 >>> ((40 : Int32) &&& 0x3f).toInt64.toUInt64).toInt64).toInt32)), (.int (3 : Int32)), (.ref o1)])) (fun _ k => XS.l2i X2.here hx rfl (hb hby d1_25) rfl k) ?_
  refine own_go (g' := (mkF m 27 #[.val (.long q0), .second, .val (.ref o1), .val (.int (1 : Int32)), .val (.int (2 : Int32))] [(.int ((((q0.toUInt64 >>> ((40 : Int32) &&& 0x3f).toInt64.toUInt64).toInt64).toInt32).toInt8.toInt32)), (.int (3 : Int32)), (.ref o1)])) (fun _ k => XS.i2b X2.here hx rfl (hb hby d1_26) rfl k) ?_
  suffices JNhz3 : ∀ z3 : Int32, z3 = own_wb q0 (40 : Int32) → own_Go p e below (own_Post s QQ 0 0) T2 (mkF m 27 #[.val (.long q0), .second, .val (.ref o1), .val (.int (1 : Int32)), .val (.int (2 : Int32))] [(.int z3), (.int (3 : Int32)), (.ref o1)]) from JNhz3 _ (rfl)
  intro z3 hz3
  obtain ⟨cl3, Ar3, qk3, sz3, nn3, Hs3, Gs3⟩ := id V2
  have hin3 : ¬ ((3 : Int32) < 0 ∨ cl3.slots.size ≤ ((3 : Int32)).toNatClampNeg) := inb_of sz3 ⟨by decide, by decide⟩
  obtain ⟨T3, h3, X3, e3, W3, st3⟩ := stB X2 hx hZ e2 Ar3 (j := (3 : Int32)) hin3 (g := (mkF m 27 #[.val (.long q0), .second, .val (.ref o1), .val (.int (1 : Int32)), .val (.int (2 : Int32))] [(.int z3), (.int (3 : Int32)), (.ref o1)])) rfl rfl (hb hby d1_27)
  have V3 : Arv Z h3 o1 kk .byte (12 : Int32) [(.int x0), (.int (z1).toInt8.toInt32), (.int (z2).toInt8.toInt32), (.int (z3).toInt8.toInt32), (.int x4), (.int x5), (.int x6), (.int x7), (.int x8), (.int x9), (.int x10), (.int x11)] (.int (0 : Int32)) := Arv.set Ar3 qk3 sz3 nn3 Hs3 Gs3 (fits_nar_byte _) W3 3 rfl (Nat.le_of_ble_eq_true rfl)
  have N3 := Fr.snoc X3 N2 g_o1
  have Z3 : n0 ≤ h3.size := by rw [W3.size]; exact Z2
  have K3 : Keep h0 h3 [o1] := K2.wr W3 (Or.inl (List.mem_of_getElem? (i := 0) rfl))
  refine own_go (g' := (mkF m 28 #[.val (.long q0), .second, .val (.ref o1), .val (.int (1 : Int32)), .val (.int (2 : Int32))] [])) (st3) ?_
  refine own_go (g' := (mkF m 31 #[.val (.long q0), .second, .val (.ref o1), .val (.int (1 : Int32)), .val (.int (3 : Int32))] [])) (fun _ k => XS.iinc X3.here hx rfl (hb hby d1_28) rfl (l' := #[.val (.long q0), .second, .val (.ref o1), .val (.int (1 : Int32)), .val (.int (3 : Int32))]) rfl k) ?_
  refine own_go (g' := (mkF m 3 #[.val (.long q0), .second, .val (.ref o1), .val (.int (1 : Int32)), .val (.int (3 : Int32))] [])) (fun _ k => XS.goto X3.here hx rfl (pc0 := 31) (pc' := 3) rfl (hb hby d1_31) (by decide) (by decide) k) ?_
  refine own_go (g' := (mkF m 5 #[.val (.long q0), .second, .val (.ref o1), .val (.int (1 : Int32)), .val (.int (3 : Int32))] [(.int (3 : Int32))])) (fun _ k => XS.iload X3.here hx rfl (hb hby d1_3) rfl k) ?_
  refine own_go (g' := (mkF m 7 #[.val (.long q0), .second, .val (.ref o1), .val (.int (1 : Int32)), .val (.int (3 : Int32))] [(.int (8 : Int32)), (.int (3 : Int32))])) (fun _ k => XS.bipush X3.here hx rfl (hb hby d1_5) k) ?_
  refine own_go (g' := (mkF m 10 #[.val (.long q0), .second, .val (.ref o1), .val (.int (1 : Int32)), .val (.int (3 : Int32))] [])) (fun _ k => XS.icmpNo X3.here hx rfl (hb hby d1_7) rfl (tlt (by decide)).2.1 k) ?_
  refine own_go (g' := (mkF m 11 #[.val (.long q0), .second, .val (.ref o1), .val (.int (1 : Int32)), .val (.int (3 : Int32))] [(.ref o1)])) (fun _ k => XS.aloadN X3.here hx rfl (hb hby d1_10) rfl rfl k) ?_
  refine own_go (g' := (mkF m 12 #[.val (.long q0), .second, .val (.ref o1), .val (.int (1 : Int32)), .val (.int (3 : Int32))] [(.int (1 : Int32)), (.ref o1)])) (fun _ k => XS.iloadN X3.here hx rfl (hb hby d1_11) rfl k) ?_
  refine own_go (g' := (mkF m 14 #[.val (.long q0), .second, .val (.ref o1), .val (.int (1 : Int32)), .val (.int (3 : Int32))] [(.int (3 : Int32)), (.int (1 : Int32)), (.ref o1)])) (fun _ k => XS.iload X3.here hx rfl (hb hby d1_12) rfl k) ?_
  refine own_go (g' := (mkF m 15 #[.val (.long q0), .second, .val (.ref o1), .val (.int (1 : Int32)), .val (.int (3 : Int32))] [(.int (4 : Int32)), (.ref o1)])) (fun _ k => XS.iadd X3.here hx rfl (hb hby d1_14) rfl k) ?_
  refine own_go (g' := (mkF m 16 #[.val (.long q0), .second, .val (.ref o1), .val (.int (1 : Int32)), .val (.int (3 : Int32))] [(.long q0), (.int (4 : Int32)), (.ref o1)])) (fun _ k => XS.lloadN X3.here hx rfl (hb hby d1_15) rfl k) ?_
  refine own_go (g' := (mkF m 18 #[.val (.long q0), .second, .val (.ref o1), .val (.int (1 : Int32)), .val (.int (3 : Int32))] [(.int (8 : Int32)), (.long q0), (.int (4 : Int32)), (.ref o1)])) (fun _ k => XS.bipush X3.here hx rfl (hb hby d1_16) k) ?_
  refine own_go (g' := (mkF m 20 #[.val (.long q0), .second, .val (.ref o1), .val (.int (1 : Int32)), .val (.int (3 : Int32))] [(.int (7 : Int32)), (.int (8 : Int32)), (.long q0), (.int (4 : Int32)), (.ref o1)])) (fun _ k => XS.bipush X3.here hx rfl (hb hby d1_18) k) ?_
  refine own_go (g' := (mkF m 22 #[.val (.long q0), .second, .val (.ref o1), .val (.int (1 : Int32)), .val (.int (3 : Int32))] [(.int (3 : Int32)), (.int (7 : Int32)), (.int (8 : Int32)), (.long q0), (.int (4 : Int32)), (.ref o1)])) (fun _ k => XS.iload X3.here hx rfl (hb hby d1_20) rfl k) ?_
  refine own_go (g' := (mkF m 23 #[.val (.long q0), .second, .val (.ref o1), .val (.int (1 : Int32)), .val (.int (3 : Int32))] [(.int (4 : Int32)), (.int (8 : Int32)), (.long q0), (.int (4 : Int32)), (.ref o1)])) (fun _ k => XS.isub X3.here hx rfl (hb hby d1_22) rfl k) ?_
  refine own_go (g' := (mkF m 24 #[.val (.long q0), .second, .val (.ref o1), .val (.int (1 : Int32)), .val (.int (3 : Int32))] [(.int (32 : Int32)), (.long q0), (.int (4 : Int32)), (.ref o1)])) (fun _ k => XS.imul X3.here hx rfl (hb hby d1_23) rfl k) ?_
  refine own_go (g' := (mkF m 25 #[.val (.long q0), .second, .val (.ref o1), .val (.int (1 : Int32)), .val (.int (3 : Int32))] [(.long ((q0.toUInt64 >>> ((32 : Int32) &&& 0x3f).toInt64.toUInt64).toInt64)), (.int (4 : Int32)), (.ref o1)])) (fun _ k => XS.lushr X3.here hx rfl (hb hby d1_24) rfl k) ?_
  refine own_go (g' := (mkF m 26 #[.val (.long q0), .second, .val (.ref o1), .val (.int (1 : Int32)), .val (.int (3 : Int32))] [(.int (((q0.toUInt64 >>> ((32 : Int32) &&& 0x3f).toInt64.toUInt64).toInt64).toInt32)), (.int (4 : Int32)), (.ref o1)])) (fun _ k => XS.l2i X3.here hx rfl (hb hby d1_25) rfl k) ?_
  refine own_go (g' := (mkF m 27 #[.val (.long q0), .second, .val (.ref o1), .val (.int (1 : Int32)), .val (.int (3 : Int32))] [(.int ((((q0.toUInt64 >>> ((32 : Int32) &&& 0x3f).toInt64.toUInt64).toInt64).toInt32).toInt8.toInt32)), (.int (4 : Int32)), (.ref o1)])) (fun _ k => XS.i2b X3.here hx rfl (hb hby d1_26) rfl k) ?_
  suffices JNhz4 : ∀ z4 : Int32, z4 = own_wb q0 (32 : Int32) → own_Go p e below (own_Post s QQ 0 0) T3 (mkF m 27 #[.val (.long q0), .second, .val (.ref o1), .val (.int (1 : Int32)), .val (.int (3 : Int32))] [(.int z4), (.int (4 : Int32)), (.ref o1)]) from JNhz4 _ (rfl)
  intro z4 hz4
  obtain ⟨cl4, Ar4, qk4, sz4, nn4, Hs4, Gs4⟩ := id V3
  have hin4 : ¬ ((4 : Int32) < 0 ∨ cl4.slots.size ≤ ((4 : Int32)).toNatClampNeg) := inb_of sz4 ⟨by decide, by decide⟩
  obtain ⟨T4, h4, X4, e4, W4, st4⟩ := stB X3 hx hZ e3 Ar4 (j := (4 : Int32)) hin4 (g := (mkF m 27 #[.val (.long q0), .second, .val (.ref o1), .val (.int (1 : Int32)), .val (.int (3 : Int32))] [(.int z4), (.int (4 : Int32)), (.ref o1)])) rfl rfl (hb hby d1_27)
  have V4 : Arv Z h4 o1 kk .byte (12 : Int32) [(.int x0), (.int (z1).toInt8.toInt32), (.int (z2).toInt8.toInt32), (.int (z3).toInt8.toInt32), (.int (z4).toInt8.toInt32), (.int x5), (.int x6), (.int x7), (.int x8), (.int x9), (.int x10), (.int x11)] (.int (0 : Int32)) := Arv.set Ar4 qk4 sz4 nn4 Hs4 Gs4 (fits_nar_byte _) W4 4 rfl (Nat.le_of_ble_eq_true rfl)
  have N4 := Fr.snoc X4 N3 g_o1
  have Z4 : n0 ≤ h4.size := by rw [W4.size]; exact Z3
  have K4 : Keep h0 h4 [o1] := K3.wr W4 (Or.inl (List.mem_of_getElem? (i := 0) rfl))
  refine own_go (g' := (mkF m 28 #[.val (.long q0), .second, .val (.ref o1), .val (.int (1 : Int32)), .val (.int (3 : Int32))] [])) (st4) ?_
  refine own_go (g' := (mkF m 31 #[.val (.long q0), .second, .val (.ref o1), .val (.int (1 : Int32)), .val (.int (4 : Int32))] [])) (fun _ k => XS.iinc X4.here hx rfl (hb hby d1_28) rfl (l' := #[.val (.long q0), .second, .val (.ref o1), .val (.int (1 : Int32)), .val (.int (4 : Int32))]) rfl k) ?_
  refine own_go (g' := (mkF m 3 #[.val (.long q0), .second, .val (.ref o1), .val (.int (1 : Int32)), .val (.int (4 : Int32))] [])) (fun _ k => XS.goto X4.here hx rfl (pc0 := 31) (pc' := 3) rfl (hb hby d1_31) (by decide) (by decide) k) ?_
  refine own_go (g' := (mkF m 5 #[.val (.long q0), .second, .val (.ref o1), .val (.int (1 : Int32)), .val (.int (4 : Int32))] [(.int (4 : Int32))])) (fun _ k => XS.iload X4.here hx rfl (hb hby d1_3) rfl k) ?_
  refine own_go (g' := (mkF m 7 #[.val (.long q0), .second, .val (.ref o1), .val (.int (1 : Int32)), .val (.int (4 : Int32))] [(.int (8 : Int32)), (.int (4 : Int32))])) (fun _ k => XS.bipush X4.here hx rfl (hb hby d1_5) k) ?_
  refine own_go (g' := (mkF m 10 #[.val (.long q0), .second, .val (.ref o1), .val (.int (1 : Int32)), .val (.int (4 : Int32))] [])) (fun _ k => XS.icmpNo X4.here hx rfl (hb hby d1_7) rfl (tlt (by decide)).2.1 k) ?_
  refine own_go (g' := (mkF m 11 #[.val (.long q0), .second, .val (.ref o1), .val (.int (1 : Int32)), .val (.int (4 : Int32))] [(.ref o1)])) (fun _ k => XS.aloadN X4.here hx rfl (hb hby d1_10) rfl rfl k) ?_
  refine own_go (g' := (mkF m 12 #[.val (.long q0), .second, .val (.ref o1), .val (.int (1 : Int32)), .val (.int (4 : Int32))] [(.int (1 : Int32)), (.ref o1)])) (fun _ k => XS.iloadN X4.here hx rfl (hb hby d1_11) rfl k) ?_
  refine own_go (g' := (mkF m 14 #[.val (.long q0), .second, .val (.ref o1), .val (.int (1 : Int32)), .val (.int (4 : Int32))] [(.int (4 : Int32)), (.int (1 : Int32)), (.ref o1)])) (fun _ k => XS.iload X4.here hx rfl (hb hby d1_12) rfl k) ?_
  refine own_go (g' := (mkF m 15 #[.val (.long q0), .second, .val (.ref o1), .val (.int (1 : Int32)), .val (.int (4 : Int32))] [(.int (5 : Int32)), (.ref o1)])) (fun _ k => XS.iadd X4.here hx rfl (hb hby d1_14) rfl k) ?_
  refine own_go (g' := (mkF m 16 #[.val (.long q0), .second, .val (.ref o1), .val (.int (1 : Int32)), .val (.int (4 : Int32))] [(.long q0), (.int (5 : Int32)), (.ref o1)])) (fun _ k => XS.lloadN X4.here hx rfl (hb hby d1_15) rfl k) ?_
  refine own_go (g' := (mkF m 18 #[.val (.long q0), .second, .val (.ref o1), .val (.int (1 : Int32)), .val (.int (4 : Int32))] [(.int (8 : Int32)), (.long q0), (.int (5 : Int32)), (.ref o1)])) (fun _ k => XS.bipush X4.here hx rfl (hb hby d1_16) k) ?_
  refine own_go (g' := (mkF m 20 #[.val (.long q0), .second, .val (.ref o1), .val (.int (1 : Int32)), .val (.int (4 : Int32))] [(.int (7 : Int32)), (.int (8 : Int32)), (.long q0), (.int (5 : Int32)), (.ref o1)])) (fun _ k => XS.bipush X4.here hx rfl (hb hby d1_18) k) ?_
  refine own_go (g' := (mkF m 22 #[.val (.long q0), .second, .val (.ref o1), .val (.int (1 : Int32)), .val (.int (4 : Int32))] [(.int (4 : Int32)), (.int (7 : Int32)), (.int (8 : Int32)), (.long q0), (.int (5 : Int32)), (.ref o1)])) (fun _ k => XS.iload X4.here hx rfl (hb hby d1_20) rfl k) ?_
  refine own_go (g' := (mkF m 23 #[.val (.long q0), .second, .val (.ref o1), .val (.int (1 : Int32)), .val (.int (4 : Int32))] [(.int (3 : Int32)), (.int (8 : Int32)), (.long q0), (.int (5 : Int32)), (.ref o1)])) (fun _ k => XS.isub X4.here hx rfl (hb hby d1_22) rfl k) ?_
  refine own_go (g' := (mkF m 24 #[.val (.long q0), .second, .val (.ref o1), .val (.int (1 : Int32)), .val (.int (4 : Int32))] [(.int (24 : Int32)), (.long q0), (.int (5 : Int32)), (.ref o1)])) (fun _ k => XS.imul X4.here hx rfl (hb hby d1_23) rfl k) ?_
  refine own_go (g' := (mkF m 25 #[.val (.long q0), .second, .val (.ref o1), .val (.int (1 : Int32)), .val (.int (4 : Int32))] [(.long ((q0.toUInt64 >>> ((24 : Int32) &&& 0x3f).toInt64.toUInt64).toInt64)), (.int (5 : Int32)), (.ref o1)])) (fun _ k => XS.lushr X4.here hx rfl (hb hby d1_24) rfl k) ?_
  refine own_go (g' := (mkF m 26 #[.val (.long q0), .second, .val (.ref o1), .val (.int (1 : Int32)), .val (.int (4 : Int32))] [(.int (((q0.toUInt64 >>> ((24 : Int32) &&& 0x3f).toInt64.toUInt64).toInt64).toInt32)), (.int (5 : Int32)), (.ref o1)])) (fun _ k => XS.l2i X4.here hx rfl (hb hby d1_25) rfl k) ?_
  refine own_go (g' := (mkF m 27 #[.val (.long q0), .second, .val (.ref o1), .val (.int (1 : Int32)), .val (.int (4 : Int32))] [(.int ((((q0.toUInt64 >>> ((24 : Int32) &&& 0x3f).toInt64.toUInt64).toInt64).toInt32).toInt8.toInt32)), (.int (5 : Int32)), (.ref o1)])) (fun _ k => XS.i2b X4.here hx rfl (hb hby d1_26) rfl k) ?_
  suffices JNhz5 : ∀ z5 : Int32, z5 = own_wb q0 (24 : Int32) → own_Go p e below (own_Post s QQ 0 0) T4 (mkF m 27 #[.val (.long q0), .second, .val (.ref o1), .val (.int (1 : Int32)), .val (.int (4 : Int32))] [(.int z5), (.int (5 : Int32)), (.ref o1)]) from JNhz5 _ (rfl)
  intro z5 hz5
  obtain ⟨cl5, Ar5, qk5, sz5, nn5, Hs5, Gs5⟩ := id V4
  have hin5 : ¬ ((5 : Int32) < 0 ∨ cl5.slots.size ≤ ((5 : Int32)).toNatClampNeg) := inb_of sz5 ⟨by decide, by decide⟩
  obtain ⟨T5, h5, X5, e5, W5, st5⟩ := stB X4 hx hZ e4 Ar5 (j := (5 : Int32)) hin5 (g := (mkF m 27 #[.val (.long q0), .second, .val (.ref o1), .val (.int (1 : Int32)), .val (.int (4 : Int32))] [(.int z5), (.int (5 : Int32)), (.ref o1)])) rfl rfl (hb hby d1_27)
  have V5 : Arv Z h5 o1 kk .byte (12 : Int32) [(.int x0), (.int (z1).toInt8.toInt32), (.int (z2).toInt8.toInt32), (.int (z3).toInt8.toInt32), (.int (z4).toInt8.toInt32), (.int (z5).toInt8.toInt32), (.int x6), (.int x7), (.int x8), (.int x9), (.int x10), (.int x11)] (.int (0 : Int32)) := Arv.set Ar5 qk5 sz5 nn5 Hs5 Gs5 (fits_nar_byte _) W5 5 rfl (Nat.le_of_ble_eq_true rfl)
  have N5 := Fr.snoc X5 N4 g_o1
  have Z5 : n0 ≤ h5.size := by rw [W5.size]; exact Z4
  have K5 : Keep h0 h5 [o1] := K4.wr W5 (Or.inl (List.mem_of_getElem? (i := 0) rfl))
  refine own_go (g' := (mkF m 28 #[.val (.long q0), .second, .val (.ref o1), .val (.int (1 : Int32)), .val (.int (4 : Int32))] [])) (st5) ?_
  refine own_go (g' := (mkF m 31 #[.val (.long q0), .second, .val (.ref o1), .val (.int (1 : Int32)), .val (.int (5 : Int32))] [])) (fun _ k => XS.iinc X5.here hx rfl (hb hby d1_28) rfl (l' := #[.val (.long q0), .second, .val (.ref o1), .val (.int (1 : Int32)), .val (.int (5 : Int32))]) rfl k) ?_
  refine own_go (g' := (mkF m 3 #[.val (.long q0), .second, .val (.ref o1), .val (.int (1 : Int32)), .val (.int (5 : Int32))] [])) (fun _ k => XS.goto X5.here hx rfl (pc0 := 31) (pc' := 3) rfl (hb hby d1_31) (by decide) (by decide) k) ?_
  refine own_go (g' := (mkF m 5 #[.val (.long q0), .second, .val (.ref o1), .val (.int (1 : Int32)), .val (.int (5 : Int32))] [(.int (5 : Int32))])) (fun _ k => XS.iload X5.here hx rfl (hb hby d1_3) rfl k) ?_
  refine own_go (g' := (mkF m 7 #[.val (.long q0), .second, .val (.ref o1), .val (.int (1 : Int32)), .val (.int (5 : Int32))] [(.int (8 : Int32)), (.int (5 : Int32))])) (fun _ k => XS.bipush X5.here hx rfl (hb hby d1_5) k) ?_
  refine own_go (g' := (mkF m 10 #[.val (.long q0), .second, .val (.ref o1), .val (.int (1 : Int32)), .val (.int (5 : Int32))] [])) (fun _ k => XS.icmpNo X5.here hx rfl (hb hby d1_7) rfl (tlt (by decide)).2.1 k) ?_
  refine own_go (g' := (mkF m 11 #[.val (.long q0), .second, .val (.ref o1), .val (.int (1 : Int32)), .val (.int (5 : Int32))] [(.ref o1)])) (fun _ k => XS.aloadN X5.here hx rfl (hb hby d1_10) rfl rfl k) ?_
  refine own_go (g' := (mkF m 12 #[.val (.long q0), .second, .val (.ref o1), .val (.int (1 : Int32)), .val (.int (5 : Int32))] [(.int (1 : Int32)), (.ref o1)])) (fun _ k => XS.iloadN X5.here hx rfl (hb hby d1_11) rfl k) ?_
  refine own_go (g' := (mkF m 14 #[.val (.long q0), .second, .val (.ref o1), .val (.int (1 : Int32)), .val (.int (5 : Int32))] [(.int (5 : Int32)), (.int (1 : Int32)), (.ref o1)])) (fun _ k => XS.iload X5.here hx rfl (hb hby d1_12) rfl k) ?_
  refine own_go (g' := (mkF m 15 #[.val (.long q0), .second, .val (.ref o1), .val (.int (1 : Int32)), .val (.int (5 : Int32))] [(.int (6 : Int32)), (.ref o1)])) (fun _ k => XS.iadd X5.here hx rfl (hb hby d1_14) rfl k) ?_
  refine own_go (g' := (mkF m 16 #[.val (.long q0), .second, .val (.ref o1), .val (.int (1 : Int32)), .val (.int (5 : Int32))] [(.long q0), (.int (6 : Int32)), (.ref o1)])) (fun _ k => XS.lloadN X5.here hx rfl (hb hby d1_15) rfl k) ?_
  refine own_go (g' := (mkF m 18 #[.val (.long q0), .second, .val (.ref o1), .val (.int (1 : Int32)), .val (.int (5 : Int32))] [(.int (8 : Int32)), (.long q0), (.int (6 : Int32)), (.ref o1)])) (fun _ k => XS.bipush X5.here hx rfl (hb hby d1_16) k) ?_
  refine own_go (g' := (mkF m 20 #[.val (.long q0), .second, .val (.ref o1), .val (.int (1 : Int32)), .val (.int (5 : Int32))] [(.int (7 : Int32)), (.int (8 : Int32)), (.long q0), (.int (6 : Int32)), (.ref o1)])) (fun _ k => XS.bipush X5.here hx rfl (hb hby d1_18) k) ?_
  refine own_go (g' := (mkF m 22 #[.val (.long q0), .second, .val (.ref o1), .val (.int (1 : Int32)), .val (.int (5 : Int32))] [(.int (5 : Int32)), (.int (7 : Int32)), (.int (8 : Int32)), (.long q0), (.int (6 : Int32)), (.ref o1)])) (fun _ k => XS.iload X5.here hx rfl (hb hby d1_20) rfl k) ?_
  refine own_go (g' := (mkF m 23 #[.val (.long q0), .second, .val (.ref o1), .val (.int (1 : Int32)), .val (.int (5 : Int32))] [(.int (2 : Int32)), (.int (8 : Int32)), (.long q0), (.int (6 : Int32)), (.ref o1)])) (fun _ k => XS.isub X5.here hx rfl (hb hby d1_22) rfl k) ?_
  refine own_go (g' := (mkF m 24 #[.val (.long q0), .second, .val (.ref o1), .val (.int (1 : Int32)), .val (.int (5 : Int32))] [(.int (16 : Int32)), (.long q0), (.int (6 : Int32)), (.ref o1)])) (fun _ k => XS.imul X5.here hx rfl (hb hby d1_23) rfl k) ?_
  refine own_go (g' := (mkF m 25 #[.val (.long q0), .second, .val (.ref o1), .val (.int (1 : Int32)), .val (.int (5 : Int32))] [(.long ((q0.toUInt64 >>> ((16 : Int32) &&& 0x3f).toInt64.toUInt64).toInt64)), (.int (6 : Int32)), (.ref o1)])) (fun _ k => XS.lushr X5.here hx rfl (hb hby d1_24) rfl k) ?_
  refine own_go (g' := (mkF m 26 #[.val (.long q0), .second, .val (.ref o1), .val (.int (1 : Int32)), .val (.int (5 : Int32))] [(.int (((q0.toUInt64 >>> ((16 : Int32) &&& 0x3f).toInt64.toUInt64).toInt64).toInt32)), (.int (6 : Int32)), (.ref o1)])) (fun _ k => XS.l2i X5.here hx rfl (hb hby d1_25) rfl k) ?_
  refine own_go (g' := (mkF m 27 #[.val (.long q0), .second, .val (.ref o1), .val (.int (1 : Int32)), .val (.int (5 : Int32))] [(.int ((((q0.toUInt64 >>> ((16 : Int32) &&& 0x3f).toInt64.toUInt64).toInt64).toInt32).toInt8.toInt32)), (.int (6 : Int32)), (.ref o1)])) (fun _ k => XS.i2b X5.here hx rfl (hb hby d1_26) rfl k) ?_
  suffices JNhz6 : ∀ z6 : Int32, z6 = own_wb q0 (16 : Int32) → own_Go p e below (own_Post s QQ 0 0) T5 (mkF m 27 #[.val (.long q0), .second, .val (.ref o1), .val (.int (1 : Int32)), .val (.int (5 : Int32))] [(.int z6), (.int (6 : Int32)), (.ref o1)]) from JNhz6 _ (rfl)
  intro z6 hz6
  obtain ⟨cl6, Ar6, qk6, sz6, nn6, Hs6, Gs6⟩ := id V5
  have hin6 : ¬ ((6 : Int32) < 0 ∨ cl6.slots.size ≤ ((6 : Int32)).toNatClampNeg) := inb_of sz6 ⟨by decide, by decide⟩
  obtain ⟨T6, h6, X6, e6, W6, st6⟩ := stB X5 hx hZ e5 Ar6 (j := (6 : Int32)) hin6 (g := (mkF m 27 #[.val (.long q0), .second, .val (.ref o1), .val (.int (1 : Int32)), .val (.int (5 : Int32))] [(.int z6), (.int (6 : Int32)), (.ref o1)])) rfl rfl (hb hby d1_27)
  have V6 : Arv Z h6 o1 kk .byte (12 : Int32) [(.int x0), (.int (z1).toInt8.toInt32), (.int (z2).toInt8.toInt32), (.int (z3).toInt8.toInt32), (.int (z4).toInt8.toInt32), (.int (z5).toInt8.toInt32), (.int (z6).toInt8.toInt32), (.int x7), (.int x8), (.int x9), (.int x10), (.int x11)] (.int (0 : Int32)) := Arv.set Ar6 qk6 sz6 nn6 Hs6 Gs6 (fits_nar_byte _) W6 6 rfl (Nat.le_of_ble_eq_true rfl)
  have N6 := Fr.snoc X6 N5 g_o1
  have Z6 : n0 ≤ h6.size := by rw [W6.size]; exact Z5
  have K6 : Keep h0 h6 [o1] := K5.wr W6 (Or.inl (List.mem_of_getElem? (i := 0) rfl))
  refine own_go (g' := (mkF m 28 #[.val (.long q0), .second, .val (.ref o1), .val (.int (1 : Int32)), .val (.int (5 : Int32))] [])) (st6) ?_
  refine own_go (g' := (mkF m 31 #[.val (.long q0), .second, .val (.ref o1), .val (.int (1 : Int32)), .val (.int (6 : Int32))] [])) (fun _ k => XS.iinc X6.here hx rfl (hb hby d1_28) rfl (l' := #[.val (.long q0), .second, .val (.ref o1), .val (.int (1 : Int32)), .val (.int (6 : Int32))]) rfl k) ?_
  refine own_go (g' := (mkF m 3 #[.val (.long q0), .second, .val (.ref o1), .val (.int (1 : Int32)), .val (.int (6 : Int32))] [])) (fun _ k => XS.goto X6.here hx rfl (pc0 := 31) (pc' := 3) rfl (hb hby d1_31) (by decide) (by decide) k) ?_
  refine own_go (g' := (mkF m 5 #[.val (.long q0), .second, .val (.ref o1), .val (.int (1 : Int32)), .val (.int (6 : Int32))] [(.int (6 : Int32))])) (fun _ k => XS.iload X6.here hx rfl (hb hby d1_3) rfl k) ?_
  refine own_go (g' := (mkF m 7 #[.val (.long q0), .second, .val (.ref o1), .val (.int (1 : Int32)), .val (.int (6 : Int32))] [(.int (8 : Int32)), (.int (6 : Int32))])) (fun _ k => XS.bipush X6.here hx rfl (hb hby d1_5) k) ?_
  refine own_go (g' := (mkF m 10 #[.val (.long q0), .second, .val (.ref o1), .val (.int (1 : Int32)), .val (.int (6 : Int32))] [])) (fun _ k => XS.icmpNo X6.here hx rfl (hb hby d1_7) rfl (tlt (by decide)).2.1 k) ?_
  refine own_go (g' := (mkF m 11 #[.val (.long q0), .second, .val (.ref o1), .val (.int (1 : Int32)), .val (.int (6 : Int32))] [(.ref o1)])) (fun _ k => XS.aloadN X6.here hx rfl (hb hby d1_10) rfl rfl k) ?_
  refine own_go (g' := (mkF m 12 #[.val (.long q0), .second, .val (.ref o1), .val (.int (1 : Int32)), .val (.int (6 : Int32))] [(.int (1 : Int32)), (.ref o1)])) (fun _ k => XS.iloadN X6.here hx rfl (hb hby d1_11) rfl k) ?_
  refine own_go (g' := (mkF m 14 #[.val (.long q0), .second, .val (.ref o1), .val (.int (1 : Int32)), .val (.int (6 : Int32))] [(.int (6 : Int32)), (.int (1 : Int32)), (.ref o1)])) (fun _ k => XS.iload X6.here hx rfl (hb hby d1_12) rfl k) ?_
  refine own_go (g' := (mkF m 15 #[.val (.long q0), .second, .val (.ref o1), .val (.int (1 : Int32)), .val (.int (6 : Int32))] [(.int (7 : Int32)), (.ref o1)])) (fun _ k => XS.iadd X6.here hx rfl (hb hby d1_14) rfl k) ?_
  refine own_go (g' := (mkF m 16 #[.val (.long q0), .second, .val (.ref o1), .val (.int (1 : Int32)), .val (.int (6 : Int32))] [(.long q0), (.int (7 : Int32)), (.ref o1)])) (fun _ k => XS.lloadN X6.here hx rfl (hb hby d1_15) rfl k) ?_
  refine own_go (g' := (mkF m 18 #[.val (.long q0), .second, .val (.ref o1), .val (.int (1 : Int32)), .val (.int (6 : Int32))] [(.int (8 : Int32)), (.long q0), (.int (7 : Int32)), (.ref o1)])) (fun _ k => XS.bipush X6.here hx rfl (hb hby d1_16) k) ?_
  refine own_go (g' := (mkF m 20 #[.val (.long q0), .second, .val (.ref o1), .val (.int (1 : Int32)), .val (.int (6 : Int32))] [(.int (7 : Int32)), (.int (8 : Int32)), (.long q0), (.int (7 : Int32)), (.ref o1)])) (fun _ k => XS.bipush X6.here hx rfl (hb hby d1_18) k) ?_
  refine own_go (g' := (mkF m 22 #[.val (.long q0), .second, .val (.ref o1), .val (.int (1 : Int32)), .val (.int (6 : Int32))] [(.int (6 : Int32)), (.int (7 : Int32)), (.int (8 : Int32)), (.long q0), (.int (7 : Int32)), (.ref o1)])) (fun _ k => XS.iload X6.here hx rfl (hb hby d1_20) rfl k) ?_
  refine own_go (g' := (mkF m 23 #[.val (.long q0), .second, .val (.ref o1), .val (.int (1 : Int32)), .val (.int (6 : Int32))] [(.int (1 : Int32)), (.int (8 : Int32)), (.long q0), (.int (7 : Int32)), (.ref o1)])) (fun _ k => XS.isub X6.here hx rfl (hb hby d1_22) rfl k) ?_
  refine own_go (g' := (mkF m 24 #[.val (.long q0), .second, .val (.ref o1), .val (.int (1 : Int32)), .val (.int (6 : Int32))] [(.int (8 : Int32)), (.long q0), (.int (7 : Int32)), (.ref o1)])) (fun _ k => XS.imul X6.here hx rfl (hb hby d1_23) rfl k) ?_
  refine own_go (g' := (mkF m 25 #[.val (.long q0), .second, .val (.ref o1), .val (.int (1 : Int32)), .val (.int (6 : Int32))] [(.long ((q0.toUInt64 >>> ((8 : Int32) &&& 0x3f).toInt64.toUInt64).toInt64)), (.int (7 : Int32)), (.ref o1)])) (fun _ k => XS.lushr X6.here hx rfl (hb hby d1_24) rfl k) ?_
  refine own_go (g' := (mkF m 26 #[.val (.long q0), .second, .val (.ref o1), .val (.int (1 : Int32)), .val (.int (6 : Int32))] [(.int (((q0.toUInt64 >>> ((8 : Int32) &&& 0x3f).toInt64.toUInt64).toInt64).toInt32)), (.int (7 : Int32)), (.ref o1)])) (fun _ k => XS.l2i X6.here hx rfl (hb hby d1_25) rfl k) ?_
  refine own_go (g' := (mkF m 27 #[.val (.long q0), .second, .val (.ref o1), .val (.int (1 : Int32)), .val (.int (6 : Int32))] [(.int ((((q0.toUInt64 >>> ((8 : Int32) &&& 0x3f).toInt64.toUInt64).toInt64).toInt32).toInt8.toInt32)), (.int (7 : Int32)), (.ref o1)])) (fun _ k => XS.i2b X6.here hx rfl (hb hby d1_26) rfl k) ?_
  suffices JNhz7 : ∀ z7 : Int32, z7 = own_wb q0 (8 : Int32) → own_Go p e below (own_Post s QQ 0 0) T6 (mkF m 27 #[.val (.long q0), .second, .val (.ref o1), .val (.int (1 : Int32)), .val (.int (6 : Int32))] [(.int z7), (.int (7 : Int32)), (.ref o1)]) from JNhz7 _ (rfl)
  intro z7 hz7
  obtain ⟨cl7, Ar7, qk7, sz7, nn7, Hs7, Gs7⟩ := id V6
  have hin7 : ¬ ((7 : Int32) < 0 ∨ cl7.slots.size ≤ ((7 : Int32)).toNatClampNeg) := inb_of sz7 ⟨by decide, by decide⟩
  obtain ⟨T7, h7, X7, e7, W7, st7⟩ := stB X6 hx hZ e6 Ar7 (j := (7 : Int32)) hin7 (g := (mkF m 27 #[.val (.long q0), .second, .val (.ref o1), .val (.int (1 : Int32)), .val (.int (6 : Int32))] [(.int z7), (.int (7 : Int32)), (.ref o1)])) rfl rfl (hb hby d1_27)
  have V7 : Arv Z h7 o1 kk .byte (12 : Int32) [(.int x0), (.int (z1).toInt8.toInt32), (.int (z2).toInt8.toInt32), (.int (z3).toInt8.toInt32), (.int (z4).toInt8.toInt32), (.int (z5).toInt8.toInt32), (.int (z6).toInt8.toInt32), (.int (z7).toInt8.toInt32), (.int x8), (.int x9), (.int x10), (.int x11)] (.int (0 : Int32)) := Arv.set Ar7 qk7 sz7 nn7 Hs7 Gs7 (fits_nar_byte _) W7 7 rfl (Nat.le_of_ble_eq_true rfl)
  have N7 := Fr.snoc X7 N6 g_o1
  have Z7 : n0 ≤ h7.size := by rw [W7.size]; exact Z6
  have K7 : Keep h0 h7 [o1] := K6.wr W7 (Or.inl (List.mem_of_getElem? (i := 0) rfl))
  refine own_go (g' := (mkF m 28 #[.val (.long q0), .second, .val (.ref o1), .val (.int (1 : Int32)), .val (.int (6 : Int32))] [])) (st7) ?_
  refine own_go (g' := (mkF m 31 #[.val (.long q0), .second, .val (.ref o1), .val (.int (1 : Int32)), .val (.int (7 : Int32))] [])) (fun _ k => XS.iinc X7.here hx rfl (hb hby d1_28) rfl (l' := #[.val (.long q0), .second, .val (.ref o1), .val (.int (1 : Int32)), .val (.int (7 : Int32))]) rfl k) ?_
  refine own_go (g' := (mkF m 3 #[.val (.long q0), .second, .val (.ref o1), .val (.int (1 : Int32)), .val (.int (7 : Int32))] [])) (fun _ k => XS.goto X7.here hx rfl (pc0 := 31) (pc' := 3) rfl (hb hby d1_31) (by decide) (by decide) k) ?_
  refine own_go (g' := (mkF m 5 #[.val (.long q0), .second, .val (.ref o1), .val (.int (1 : Int32)), .val (.int (7 : Int32))] [(.int (7 : Int32))])) (fun _ k => XS.iload X7.here hx rfl (hb hby d1_3) rfl k) ?_
  refine own_go (g' := (mkF m 7 #[.val (.long q0), .second, .val (.ref o1), .val (.int (1 : Int32)), .val (.int (7 : Int32))] [(.int (8 : Int32)), (.int (7 : Int32))])) (fun _ k => XS.bipush X7.here hx rfl (hb hby d1_5) k) ?_
  refine own_go (g' := (mkF m 10 #[.val (.long q0), .second, .val (.ref o1), .val (.int (1 : Int32)), .val (.int (7 : Int32))] [])) (fun _ k => XS.icmpNo X7.here hx rfl (hb hby d1_7) rfl (tlt (by decide)).2.1 k) ?_
  refine own_go (g' := (mkF m 11 #[.val (.long q0), .second, .val (.ref o1), .val (.int (1 : Int32)), .val (.int (7 : Int32))] [(.ref o1)])) (fun _ k => XS.aloadN X7.here hx rfl (hb hby d1_10) rfl rfl k) ?_
  refine own_go (g' := (mkF m 12 #[.val (.long q0), .second, .val (.ref o1), .val (.int (1 : Int32)), .val (.int (7 : Int32))] [(.int (1 : Int32)), (.ref o1)])) (fun _ k => XS.iloadN X7.here hx rfl (hb hby d1_11) rfl k) ?_
  refine own_go (g' := (mkF m 14 #[.val (.long q0), .second, .val (.ref o1), .val (.int (1 : Int32)), .val (.int (7 : Int32))] [(.int (7 : Int32)), (.int (1 : Int32)), (.ref o1)])) (fun _ k => XS.iload X7.here hx rfl (hb hby d1_12) rfl k) ?_
  refine own_go (g' := (mkF m 15 #[.val (.long q0), .second, .val (.ref o1), .val (.int (1 : Int32)), .val (.int (7 : Int32))] [(.int (8 : Int32)), (.ref o1)])) (fun _ k => XS.iadd X7.here hx rfl (hb hby d1_14) rfl k) ?_
  refine own_go (g' := (mkF m 16 #[.val (.long q0), .second, .val (.ref o1), .val (.int (1 : Int32)), .val (.int (7 : Int32))] [(.long q0), (.int (8 : Int32)), (.ref o1)])) (fun _ k => XS.lloadN X7.here hx rfl (hb hby d1_15) rfl k) ?_
  refine own_go (g' := (mkF m 18 #[.val (.long q0), .second, .val (.ref o1), .val (.int (1 : Int32)), .val (.int (7 : Int32))] [(.int (8 : Int32)), (.long q0), (.int (8 : Int32)), (.ref o1)])) (fun _ k => XS.bipush X7.here hx rfl (hb hby d1_16) k) ?_
  refine own_go (g' := (mkF m 20 #[.val (.long q0), .second, .val (.ref o1), .val (.int (1 : Int32)), .val (.int (7 : Int32))] [(.int (7 : Int32)), (.int (8 : Int32)), (.long q0), (.int (8 : Int32)), (.ref o1)])) (fun _ k => XS.bipush X7.here hx rfl (hb hby d1_18) k) ?_
  refine own_go (g' := (mkF m 22 #[.val (.long q0), .second, .val (.ref o1), .val (.int (1 : Int32)), .val (.int (7 : Int32))] [(.int (7 : Int32)), (.int (7 : Int32)), (.int (8 : Int32)), (.long q0), (.int (8 : Int32)), (.ref o1)])) (fun _ k => XS.iload X7.here hx rfl (hb hby d1_20) rfl k) ?_
  refine own_go (g' := (mkF m 23 #[.val (.long q0), .second, .val (.ref o1), .val (.int (1 : Int32)), .val (.int (7 : Int32))] [(.int (0 : Int32)), (.int (8 : Int32)), (.long q0), (.int (8 : Int32)), (.ref o1)])) (fun _ k => XS.isub X7.here hx rfl (hb hby d1_22) rfl k) ?_
  refine own_go (g' := (mkF m 24 #[.val (.long q0), .second, .val (.ref o1), .val (.int (1 : Int32)), .val (.int (7 : Int32))] [(.int (0 : Int32)), (.long q0), (.int (8 : Int32)), (.ref o1)])) (fun _ k => XS.imul X7.here hx rfl (hb hby d1_23) rfl k) ?_
  refine own_go (g' := (mkF m 25 #[.val (.long q0), .second, .val (.ref o1), .val (.int (1 : Int32)), .val (.int (7 : Int32))] [(.long ((q0.toUInt64 >>> ((0 : Int32) &&& 0x3f).toInt64.toUInt64).toInt64)), (.int (8 : Int32)), (.ref o1)])) (fun _ k => XS.lushr X7.here hx rfl (hb hby d1_24) rfl k) ?_
  refine own_go (g' := (mkF m 26 #[.val (.long q0), .second, .val (.ref o1), .val (.int (1 : Int32)), .val (.int (7 : Int32))] [(.int (((q0.toUInt64 >>> ((0 : Int32) &&& 0x3f).toInt64.toUInt64).toInt64).toInt32)), (.int (8 : Int32)), (.ref o1)])) (fun _ k => XS.l2i X7.here hx rfl (hb hby d1_25) rfl k) ?_
  refine own_go (g' := (mkF m 27 #[.val (.long q0), .second, .val (.ref o1), .val (.int (1 : Int32)), .val (.int (7 : Int32))] [(.int ((((q0.toUInt64 >>> ((0 : Int32) &&& 0x3f).toInt64.toUInt64).toInt64).toInt32).toInt8.toInt32)), (.int (8 : Int32)), (.ref o1)])) (fun _ k => XS.i2b X7.here hx rfl (hb hby d1_26) rfl k) ?_
  suffices JNhz8 : ∀ z8 : Int32, z8 = own_wb q0 (0 : Int32) → own_Go p e below (own_Post s QQ 0 0) T7 (mkF m 27 #[.val (.long q0), .second, .val (.ref o1), .val (.int (1 : Int32)), .val (.int (7 : Int32))] [(.int z8), (.int (8 : Int32)), (.ref o1)]) from JNhz8 _ (rfl)
  intro z8 hz8
  obtain ⟨cl8, Ar8, qk8, sz8, nn8, Hs8, Gs8⟩ := id V7
  have hin8 : ¬ ((8 : Int32) < 0 ∨ cl8.slots.size ≤ ((8 : Int32)).toNatClampNeg) := inb_of sz8 ⟨by decide, by decide⟩
  obtain ⟨T8, h8, X8, e8, W8, st8⟩ := stB X7 hx hZ e7 Ar8 (j := (8 : Int32)) hin8 (g := (mkF m 27 #[.val (.long q0), .second, .val (.ref o1), .val (.int (1 : Int32)), .val (.int (7 : Int32))] [(.int z8), (.int (8 : Int32)), (.ref o1)])) rfl rfl (hb hby d1_27)
  have V8 : Arv Z h8 o1 kk .byte (12 : Int32) [(.int x0), (.int (z1).toInt8.toInt32), (.int (z2).toInt8.toInt32), (.int (z3).toInt8.toInt32), (.int (z4).toInt8.toInt32), (.int (z5).toInt8.toInt32), (.int (z6).toInt8.toInt32), (.int (z7).toInt8.toInt32), (.int (z8).toInt8.toInt32), (.int x9), (.int x10), (.int x11)] (.int (0 : Int32)) := Arv.set Ar8 qk8 sz8 nn8 Hs8 Gs8 (fits_nar_byte _) W8 8 rfl (Nat.le_of_ble_eq_true rfl)
  have N8 := Fr.snoc X8 N7 g_o1
  have Z8 : n0 ≤ h8.size := by rw [W8.size]; exact Z7
  have K8 : Keep h0 h8 [o1] := K7.wr W8 (Or.inl (List.mem_of_getElem? (i := 0) rfl))
  refine own_go (g' := (mkF m 28 #[.val (.long q0), .second, .val (.ref o1), .val (.int (1 : Int32)), .val (.int (7 : Int32))] [])) (st8) ?_
  refine own_go (g' := (mkF m 31 #[.val (.long q0), .second, .val (.ref o1), .val (.int (1 : Int32)), .val (.int (8 : Int32))] [])) (fun _ k => XS.iinc X8.here hx rfl (hb hby d1_28) rfl (l' := #[.val (.long q0), .second, .val (.ref o1), .val (.int (1 : Int32)), .val (.int (8 : Int32))]) rfl k) ?_
  refine own_go (g' := (mkF m 3 #[.val (.long q0), .second, .val (.ref o1), .val (.int (1 : Int32)), .val (.int (8 : Int32))] [])) (fun _ k => XS.goto X8.here hx rfl (pc0 := 31) (pc' := 3) rfl (hb hby d1_31) (by decide) (by decide) k) ?_
  refine own_go (g' := (mkF m 5 #[.val (.long q0), .second, .val (.ref o1), .val (.int (1 : Int32)), .val (.int (8 : Int32))] [(.int (8 : Int32))])) (fun _ k => XS.iload X8.here hx rfl (hb hby d1_3) rfl k) ?_
  refine own_go (g' := (mkF m 7 #[.val (.long q0), .second, .val (.ref o1), .val (.int (1 : Int32)), .val (.int (8 : Int32))] [(.int (8 : Int32)), (.int (8 : Int32))])) (fun _ k => XS.bipush X8.here hx rfl (hb hby d1_5) k) ?_
  refine own_go (g' := (mkF m 34 #[.val (.long q0), .second, .val (.ref o1), .val (.int (1 : Int32)), .val (.int (8 : Int32))] [])) (fun _ k => XS.icmpYes X8.here hx rfl (pc0 := 7) (pc' := 34) rfl (hb hby d1_7) rfl (flt (by decide)).2.1 (by decide) (by decide) k) ?_
  refine own_retV X8 hx Bd.returns Bd.notSynchronized (hb hby d1_34) (by decide) (by decide) ?_
  show QQ _ T8.heap _
  rw [e8]
  subst hz8 hz7 hz6 hz5 hz4 hz3 hz2 hz1
  rw [← hQQ]
  exact ⟨rfl, N8, K8, V8⟩
theorem pn_wr2 : plainName "com/example/table_salt/tablesalt/layout/Int64" = true := by first | (simp [plainName, overriddenIn]; done) | decide +kernel
theorem ef_wr2 (m : MethodId) (q0 : Int64) (o1 : Addr) : entryFrame m #[(.long q0), (.ref o1), (.int (2 : Int32))] 5 = mkF m 0 #[.val (.long q0), .second, .val (.ref o1), .val (.int (2 : Int32)), .unset] [] := by first | (simp [entryFrame, mkF, argsToLocals, Value.category]; done) | rfl
set_option maxRecDepth 65536 in
set_option maxHeartbeats 40000000 in
theorem wr2 (l : Launch) (Z : State) (a0 : Array Value) (hw : ∀ d ∈ tables_1, d.before a0 Z = true) (q0 : Int64) (o1 : Addr) (x0 : Int32) (x1 : Int32) (x2 : Int32) (x3 : Int32) (x4 : Int32) (x5 : Int32) (x6 : Int32) (x7 : Int32) (x8 : Int32) (x9 : Int32) (x10 : Int32) (x11 : Int32) (kk : ClassId) (h0 : Heap) (n0 : Nat) (Z0 : n0 ≤ h0.size) (g_o1 : n0 ≤ o1) (P0 : Arv Z h0 o1 kk .byte (12 : Int32) [(.int x0), (.int x1), (.int x2), (.int x3), (.int x4), (.int x5), (.int x6), (.int x7), (.int x8), (.int x9), (.int x10), (.int x11)] (.int (0 : Int32))) :
    own_Met l Z (⟨"com/example/table_salt/tablesalt/layout/Int64", "write", "(J[BI)V"⟩ : MethodName) prog_11_method_2_code 5 none [] ({ frames := 0, cells := 0, slots := 0, locals := 0 } : Room) #[(.long q0), (.ref o1), (.int (2 : Int32))] h0 0 0 (fun v h L => v = none ∧ Fr n0 L ∧ Keep h0 h [o1] ∧ Arv Z h o1 kk .byte (12 : Int32) [(.int x0), (.int x1), (.int (own_wb q0 (56 : Int32)).toInt8.toInt32), (.int (own_wb q0 (48 : Int32)).toInt8.toInt32), (.int (own_wb q0 (40 : Int32)).toInt8.toInt32), (.int (own_wb q0 (32 : Int32)).toInt8.toInt32), (.int (own_wb q0 (24 : Int32)).toInt8.toInt32), (.int (own_wb q0 (16 : Int32)).toInt8.toInt32), (.int (own_wb q0 (8 : Int32)).toInt8.toInt32), (.int (own_wb q0 (0 : Int32)).toInt8.toInt32), (.int x10), (.int x11)] (.int (0 : Int32))) := by
  refine own_met (plainFor_of_name pn_wr2) ?_
  intro p e s m below meth c s₁ Bd hml0 hZ X0 e0
  have hx := Bd.exec
  have hby := Bd.bytes
  have hml : c.maxLocals = 5 := hml0
  have hown : s.vm.findClass "com/example/table_salt/tablesalt/layout/Int64" = some m.cls := findClass_of_methodNamed Bd.named
  have hnm := (name_of_methodNamed Bd.named Bd.method).1
  refine own_cast (ef_wr2 m q0 o1) ?_
  generalize hQQ : (fun (v : Option Value) (h : Heap) (L : List Loc) => v = none ∧ Fr n0 L ∧ Keep h0 h [o1] ∧ Arv Z h o1 kk .byte (12 : Int32) [(.int x0), (.int x1), (.int (own_wb q0 (56 : Int32)).toInt8.toInt32), (.int (own_wb q0 (48 : Int32)).toInt8.toInt32), (.int (own_wb q0 (40 : Int32)).toInt8.toInt32), (.int (own_wb q0 (32 : Int32)).toInt8.toInt32), (.int (own_wb q0 (24 : Int32)).toInt8.toInt32), (.int (own_wb q0 (16 : Int32)).toInt8.toInt32), (.int (own_wb q0 (8 : Int32)).toInt8.toInt32), (.int (own_wb q0 (0 : Int32)).toInt8.toInt32), (.int x10), (.int x11)] (.int (0 : Int32))) = QQ
  have N0 := Fr.nil n0
  have K0 := Keep.refl h0 [o1]
  refine own_go (g' := (mkF m 1 #[.val (.long q0), .second, .val (.ref o1), .val (.int (2 : Int32)), .unset] [(.int (0 : Int32))])) (fun _ k => XS.iconst X0.here hx rfl (hb hby d1_0) k) ?_
  refine own_go (g' := (mkF m 3 #[.val (.long q0), .second, .val (.ref o1), .val (.int (2 : Int32)), .val (.int (0 : Int32))] [])) (fun _ k => XS.istore X0.here hx rfl (hb hby d1_1) rfl (l' := #[.val (.long q0), .second, .val (.ref o1), .val (.int (2 : Int32)), .val (.int (0 : Int32))]) rfl k) ?_
  refine own_go (g' := (mkF m 5 #[.val (.long q0), .second, .val (.ref o1), .val (.int (2 : Int32)), .val (.int (0 : Int32))] [(.int (0 : Int32))])) (fun _ k => XS.iload X0.here hx rfl (hb hby d1_3) rfl k) ?_
  refine own_go (g' := (mkF m 7 #[.val (.long q0), .second, .val (.ref o1), .val (.int (2 : Int32)), .val (.int (0 : Int32))] [(.int (8 : Int32)), (.int (0 : Int32))])) (fun _ k => XS.bipush X0.here hx rfl (hb hby d1_5) k) ?_
  refine own_go (g' := (mkF m 10 #[.val (.long q0), .second, .val (.ref o1), .val (.int (2 : Int32)), .val (.int (0 : Int32))] [])) (fun _ k => XS.icmpNo X0.here hx rfl (hb hby d1_7) rfl (tlt (by decide)).2.1 k) ?_
  refine own_go (g' := (mkF m 11 #[.val (.long q0), .second, .val (.ref o1), .val (.int (2 : Int32)), .val (.int (0 : Int32))] [(.ref o1)])) (fun _ k => XS.aloadN X0.here hx rfl (hb hby d1_10) rfl rfl k) ?_
  refine own_go (g' := (mkF m 12 #[.val (.long q0), .second, .val (.ref o1), .val (.int (2 : Int32)), .val (.int (0 : Int32))] [(.int (2 : Int32)), (.ref o1)])) (fun _ k => XS.iloadN X0.here hx rfl (hb hby d1_11) rfl k) ?_
  refine own_go (g' := (mkF m 14 #[.val (.long q0), .second, .val (.ref o1), .val (.int (2 : Int32)), .val (.int (0 : Int32))] [(.int (0 : Int32)), (.int (2 : Int32)), (.ref o1)])) (fun _ k => XS.iload X0.here hx rfl (hb hby d1_12) rfl k) ?_
  refine own_go (g' := (mkF m 15 #[.val (.long q0), .second, .val (.ref o1), .val (.int (2 : Int32)), .val (.int (0 : Int32))] [(.int (2 : Int32)), (.ref o1)])) (fun _ k => XS.iadd X0.here hx rfl (hb hby d1_14) rfl k) ?_
  refine own_go (g' := (mkF m 16 #[.val (.long q0), .second, .val (.ref o1), .val (.int (2 : Int32)), .val (.int (0 : Int32))] [(.long q0), (.int (2 : Int32)), (.ref o1)])) (fun _ k => XS.lloadN X0.here hx rfl (hb hby d1_15) rfl k) ?_
  refine own_go (g' := (mkF m 18 #[.val (.long q0), .second, .val (.ref o1), .val (.int (2 : Int32)), .val (.int (0 : Int32))] [(.int (8 : Int32)), (.long q0), (.int (2 : Int32)), (.ref o1)])) (fun _ k => XS.bipush X0.here hx rfl (hb hby d1_16) k) ?_
  refine own_go (g' := (mkF m 20 #[.val (.long q0), .second, .val (.ref o1), .val (.int (2 : Int32)), .val (.int (0 : Int32))] [(.int (7 : Int32)), (.int (8 : Int32)), (.long q0), (.int (2 : Int32)), (.ref o1)])) (fun _ k => XS.bipush X0.here hx rfl (hb hby d1_18) k) ?_
  refine own_go (g' := (mkF m 22 #[.val (.long q0), .second, .val (.ref o1), .val (.int (2 : Int32)), .val (.int (0 : Int32))] [(.int (0 : Int32)), (.int (7 : Int32)), (.int (8 : Int32)), (.long q0), (.int (2 : Int32)), (.ref o1)])) (fun _ k => XS.iload X0.here hx rfl (hb hby d1_20) rfl k) ?_
  refine own_go (g' := (mkF m 23 #[.val (.long q0), .second, .val (.ref o1), .val (.int (2 : Int32)), .val (.int (0 : Int32))] [(.int (7 : Int32)), (.int (8 : Int32)), (.long q0), (.int (2 : Int32)), (.ref o1)])) (fun _ k => XS.isub X0.here hx rfl (hb hby d1_22) rfl k) ?_
  refine own_go (g' := (mkF m 24 #[.val (.long q0), .second, .val (.ref o1), .val (.int (2 : Int32)), .val (.int (0 : Int32))] [(.int (56 : Int32)), (.long q0), (.int (2 : Int32)), (.ref o1)])) (fun _ k => XS.imul X0.here hx rfl (hb hby d1_23) rfl k) ?_
  refine own_go (g' := (mkF m 25 #[.val (.long q0), .second, .val (.ref o1), .val (.int (2 : Int32)), .val (.int (0 : Int32))] [(.long ((q0.toUInt64 >>> ((56 : Int32) &&& 0x3f).toInt64.toUInt64).toInt64)), (.int (2 : Int32)), (.ref o1)])) (fun _ k => XS.lushr X0.here hx rfl (hb hby d1_24) rfl k) ?_
  refine own_go (g' := (mkF m 26 #[.val (.long q0), .second, .val (.ref o1), .val (.int (2 : Int32)), .val (.int (0 : Int32))] [(.int (((q0.toUInt64 >>> ((56 : Int32) &&& 0x3f).toInt64.toUInt64).toInt64).toInt32)), (.int (2 : Int32)), (.ref o1)])) (fun _ k => XS.l2i X0.here hx rfl (hb hby d1_25) rfl k) ?_
  refine own_go (g' := (mkF m 27 #[.val (.long q0), .second, .val (.ref o1), .val (.int (2 : Int32)), .val (.int (0 : Int32))] [(.int ((((q0.toUInt64 >>> ((56 : Int32) &&& 0x3f).toInt64.toUInt64).toInt64).toInt32).toInt8.toInt32)), (.int (2 : Int32)), (.ref o1)])) (fun _ k => XS.i2b X0.here hx rfl (hb hby d1_26) rfl k) ?_
  suffices JNhz1 : ∀ z1 : Int32, z1 = own_wb q0 (56 : Int32) → own_Go p e below (own_Post s QQ 0 0) s₁ (mkF m 27 #[.val (.long q0), .second, .val (.ref o1), .val (.int (2 : Int32)), .val (.int (0 : Int32))] [(.int z1), (.int (2 : Int32)), (.ref o1)]) from JNhz1 _ (rfl)
  intro z1 hz1
  obtain ⟨cl1, Ar1, qk1, sz1, nn1, Hs1, Gs1⟩ := id P0
  have hin1 : ¬ ((2 : Int32) < 0 ∨ cl1.slots.size ≤ ((2 : Int32)).toNatClampNeg) := inb_of sz1 ⟨by decide, by decide⟩
  obtain ⟨T1, h1, X1, e1, W1, st1⟩ := stB X0 hx hZ e0 Ar1 (j := (2 : Int32)) hin1 (g := (mkF m 27 #[.val (.long q0), .second, .val (.ref o1), .val (.int (2 : Int32)), .val (.int (0 : Int32))] [(.int z1), (.int (2 : Int32)), (.ref o1)])) rfl rfl (hb hby d1_27)
  have V1 : Arv Z h1 o1 kk .byte (12 : Int32) [(.int x0), (.int x1), (.int (z1).toInt8.toInt32), (.int x3), (.int x4), (.int x5), (.int x6), (.int x7), (.int x8), (.int x9), (.int x10), (.int x11)] (.int (0 : Int32)) := Arv.set Ar1 qk1 sz1 nn1 Hs1 Gs1 (fits_nar_byte _) W1 2 rfl (Nat.le_of_ble_eq_true rfl)
  have N1 := Fr.snoc X1 N0 g_o1
  have Z1 : n0 ≤ h1.size := by rw [W1.size]; exact Z0
  have K1 : Keep h0 h1 [o1] := K0.wr W1 (Or.inl (List.mem_of_getElem? (i := 0) rfl))
  refine own_go (g' := (mkF m 28 #[.val (.long q0), .second, .val (.ref o1), .val (.int (2 : Int32)), .val (.int (0 : Int32))] [])) (st1) ?_
  refine own_go (g' := (mkF m 31 #[.val (.long q0), .second, .val (.ref o1), .val (.int (2 : Int32)), .val (.int (1 : Int32))] [])) (fun _ k => XS.iinc X1.here hx rfl (hb hby d1_28) rfl (l' := #[.val (.long q0), .second, .val (.ref o1), .val (.int (2 : Int32)), .val (.int (1 : Int32))]) rfl k) ?_
  refine own_go (g' := (mkF m 3 #[.val (.long q0), .second, .val (.ref o1), .val (.int (2 : Int32)), .val (.int (1 : Int32))] [])) (fun _ k => XS.goto X1.here hx rfl (pc0 := 31) (pc' := 3) rfl (hb hby d1_31) (by decide) (by decide) k) ?_
  refine own_go (g' := (mkF m 5 #[.val (.long q0), .second, .val (.ref o1), .val (.int (2 : Int32)), .val (.int (1 : Int32))] [(.int (1 : Int32))])) (fun _ k => XS.iload X1.here hx rfl (hb hby d1_3) rfl k) ?_
  refine own_go (g' := (mkF m 7 #[.val (.long q0), .second, .val (.ref o1), .val (.int (2 : Int32)), .val (.int (1 : Int32))] [(.int (8 : Int32)), (.int (1 : Int32))])) (fun _ k => XS.bipush X1.here hx rfl (hb hby d1_5) k) ?_
  refine own_go (g' := (mkF m 10 #[.val (.long q0), .second, .val (.ref o1), .val (.int (2 : Int32)), .val (.int (1 : Int32))] [])) (fun _ k => XS.icmpNo X1.here hx rfl (hb hby d1_7) rfl (tlt (by decide)).2.1 k) ?_
  refine own_go (g' := (mkF m 11 #[.val (.long q0), .second, .val (.ref o1), .val (.int (2 : Int32)), .val (.int (1 : Int32))] [(.ref o1)])) (fun _ k => XS.aloadN X1.here hx rfl (hb hby d1_10) rfl rfl k) ?_
  refine own_go (g' := (mkF m 12 #[.val (.long q0), .second, .val (.ref o1), .val (.int (2 : Int32)), .val (.int (1 : Int32))] [(.int (2 : Int32)), (.ref o1)])) (fun _ k => XS.iloadN X1.here hx rfl (hb hby d1_11) rfl k) ?_
  refine own_go (g' := (mkF m 14 #[.val (.long q0), .second, .val (.ref o1), .val (.int (2 : Int32)), .val (.int (1 : Int32))] [(.int (1 : Int32)), (.int (2 : Int32)), (.ref o1)])) (fun _ k => XS.iload X1.here hx rfl (hb hby d1_12) rfl k) ?_
  refine own_go (g' := (mkF m 15 #[.val (.long q0), .second, .val (.ref o1), .val (.int (2 : Int32)), .val (.int (1 : Int32))] [(.int (3 : Int32)), (.ref o1)])) (fun _ k => XS.iadd X1.here hx rfl (hb hby d1_14) rfl k) ?_
  refine own_go (g' := (mkF m 16 #[.val (.long q0), .second, .val (.ref o1), .val (.int (2 : Int32)), .val (.int (1 : Int32))] [(.long q0), (.int (3 : Int32)), (.ref o1)])) (fun _ k => XS.lloadN X1.here hx rfl (hb hby d1_15) rfl k) ?_
  refine own_go (g' := (mkF m 18 #[.val (.long q0), .second, .val (.ref o1), .val (.int (2 : Int32)), .val (.int (1 : Int32))] [(.int (8 : Int32)), (.long q0), (.int (3 : Int32)), (.ref o1)])) (fun _ k => XS.bipush X1.here hx rfl (hb hby d1_16) k) ?_
  refine own_go (g' := (mkF m 20 #[.val (.long q0), .second, .val (.ref o1), .val (.int (2 : Int32)), .val (.int (1 : Int32))] [(.int (7 : Int32)), (.int (8 : Int32)), (.long q0), (.int (3 : Int32)), (.ref o1)])) (fun _ k => XS.bipush X1.here hx rfl (hb hby d1_18) k) ?_
  refine own_go (g' := (mkF m 22 #[.val (.long q0), .second, .val (.ref o1), .val (.int (2 : Int32)), .val (.int (1 : Int32))] [(.int (1 : Int32)), (.int (7 : Int32)), (.int (8 : Int32)), (.long q0), (.int (3 : Int32)), (.ref o1)])) (fun _ k => XS.iload X1.here hx rfl (hb hby d1_20) rfl k) ?_
  refine own_go (g' := (mkF m 23 #[.val (.long q0), .second, .val (.ref o1), .val (.int (2 : Int32)), .val (.int (1 : Int32))] [(.int (6 : Int32)), (.int (8 : Int32)), (.long q0), (.int (3 : Int32)), (.ref o1)])) (fun _ k => XS.isub X1.here hx rfl (hb hby d1_22) rfl k) ?_
  refine own_go (g' := (mkF m 24 #[.val (.long q0), .second, .val (.ref o1), .val (.int (2 : Int32)), .val (.int (1 : Int32))] [(.int (48 : Int32)), (.long q0), (.int (3 : Int32)), (.ref o1)])) (fun _ k => XS.imul X1.here hx rfl (hb hby d1_23) rfl k) ?_
  refine own_go (g' := (mkF m 25 #[.val (.long q0), .second, .val (.ref o1), .val (.int (2 : Int32)), .val (.int (1 : Int32))] [(.long ((q0.toUInt64 >>> ((48 : Int32) &&& 0x3f).toInt64.toUInt64).toInt64)), (.int (3 : Int32)), (.ref o1)])) (fun _ k => XS.lushr X1.here hx rfl (hb hby d1_24) rfl k) ?_
  refine own_go (g' := (mkF m 26 #[.val (.long q0), .second, .val (.ref o1), .val (.int (2 : Int32)), .val (.int (1 : Int32))] [(.int (((q0.toUInt64 >>> ((48 : Int32) &&& 0x3f).toInt64.toUInt64).toInt64).toInt32)), (.int (3 : Int32)), (.ref o1)])) (fun _ k => XS.l2i X1.here hx rfl (hb hby d1_25) rfl k) ?_
  refine own_go (g' := (mkF m 27 #[.val (.long q0), .second, .val (.ref o1), .val (.int (2 : Int32)), .val (.int (1 : Int32))] [(.int ((((q0.toUInt64 >>> ((48 : Int32) &&& 0x3f).toInt64.toUInt64).toInt64).toInt32).toInt8.toInt32)), (.int (3 : Int32)), (.ref o1)])) (fun _ k => XS.i2b X1.here hx rfl (hb hby d1_26) rfl k) ?_
  suffices JNhz2 : ∀ z2 : Int32, z2 = own_wb q0 (48 : Int32) → own_Go p e below (own_Post s QQ 0 0) T1 (mkF m 27 #[.val (.long q0), .second, .val (.ref o1), .val (.int (2 : Int32)), .val (.int (1 : Int32))] [(.int z2), (.int (3 : Int32)), (.ref o1)]) from JNhz2 _ (rfl)
  intro z2 hz2
  obtain ⟨cl2, Ar2, qk2, sz2, nn2, Hs2, Gs2⟩ := id V1
  have hin2 : ¬ ((3 : Int32) < 0 ∨ cl2.slots.size ≤ ((3 : Int32)).toNatClampNeg) := inb_of sz2 ⟨by decide, by decide⟩
  obtain ⟨T2, h2, X2, e2, W2, st2⟩ := stB X1 hx hZ e1 Ar2 (j := (3 : Int32)) hin2 (g := (mkF m 27 #[.val (.long q0), .second, .val (.ref o1), .val (.int (2 : Int32)), .val (.int (1 : Int32))] [(.int z2), (.int (3 : Int32)), (.ref o1)])) rfl rfl (hb hby d1_27)
  have V2 : Arv Z h2 o1 kk .byte (12 : Int32) [(.int x0), (.int x1), (.int (z1).toInt8.toInt32), (.int (z2).toInt8.toInt32), (.int x4), (.int x5), (.int x6), (.int x7), (.int x8), (.int x9), (.int x10), (.int x11)] (.int (0 : Int32)) := Arv.set Ar2 qk2 sz2 nn2 Hs2 Gs2 (fits_nar_byte _) W2 3 rfl (Nat.le_of_ble_eq_true rfl)
  have N2 := Fr.snoc X2 N1 g_o1
  have Z2 : n0 ≤ h2.size := by rw [W2.size]; exact Z1
  have K2 : Keep h0 h2 [o1] := K1.wr W2 (Or.inl (List.mem_of_getElem? (i := 0) rfl))
  refine own_go (g' := (mkF m 28 #[.val (.long q0), .second, .val (.ref o1), .val (.int (2 : Int32)), .val (.int (1 : Int32))] [])) (st2) ?_
  refine own_go (g' := (mkF m 31 #[.val (.long q0), .second, .val (.ref o1), .val (.int (2 : Int32)), .val (.int (2 : Int32))] [])) (fun _ k => XS.iinc X2.here hx rfl (hb hby d1_28) rfl (l' := #[.val (.long q0), .second, .val (.ref o1), .val (.int (2 : Int32)), .val (.int (2 : Int32))]) rfl k) ?_
  refine own_go (g' := (mkF m 3 #[.val (.long q0), .second, .val (.ref o1), .val (.int (2 : Int32)), .val (.int (2 : Int32))] [])) (fun _ k => XS.goto X2.here hx rfl (pc0 := 31) (pc' := 3) rfl (hb hby d1_31) (by decide) (by decide) k) ?_
  refine own_go (g' := (mkF m 5 #[.val (.long q0), .second, .val (.ref o1), .val (.int (2 : Int32)), .val (.int (2 : Int32))] [(.int (2 : Int32))])) (fun _ k => XS.iload X2.here hx rfl (hb hby d1_3) rfl k) ?_
  refine own_go (g' := (mkF m 7 #[.val (.long q0), .second, .val (.ref o1), .val (.int (2 : Int32)), .val (.int (2 : Int32))] [(.int (8 : Int32)), (.int (2 : Int32))])) (fun _ k => XS.bipush X2.here hx rfl (hb hby d1_5) k) ?_
  refine own_go (g' := (mkF m 10 #[.val (.long q0), .second, .val (.ref o1), .val (.int (2 : Int32)), .val (.int (2 : Int32))] [])) (fun _ k => XS.icmpNo X2.here hx rfl (hb hby d1_7) rfl (tlt (by decide)).2.1 k) ?_
  refine own_go (g' := (mkF m 11 #[.val (.long q0), .second, .val (.ref o1), .val (.int (2 : Int32)), .val (.int (2 : Int32))] [(.ref o1)])) (fun _ k => XS.aloadN X2.here hx rfl (hb hby d1_10) rfl rfl k) ?_
  refine own_go (g' := (mkF m 12 #[.val (.long q0), .second, .val (.ref o1), .val (.int (2 : Int32)), .val (.int (2 : Int32))] [(.int (2 : Int32)), (.ref o1)])) (fun _ k => XS.iloadN X2.here hx rfl (hb hby d1_11) rfl k) ?_
  refine own_go (g' := (mkF m 14 #[.val (.long q0), .second, .val (.ref o1), .val (.int (2 : Int32)), .val (.int (2 : Int32))] [(.int (2 : Int32)), (.int (2 : Int32)), (.ref o1)])) (fun _ k => XS.iload X2.here hx rfl (hb hby d1_12) rfl k) ?_
  refine own_go (g' := (mkF m 15 #[.val (.long q0), .second, .val (.ref o1), .val (.int (2 : Int32)), .val (.int (2 : Int32))] [(.int (4 : Int32)), (.ref o1)])) (fun _ k => XS.iadd X2.here hx rfl (hb hby d1_14) rfl k) ?_
  refine own_go (g' := (mkF m 16 #[.val (.long q0), .second, .val (.ref o1), .val (.int (2 : Int32)), .val (.int (2 : Int32))] [(.long q0), (.int (4 : Int32)), (.ref o1)])) (fun _ k => XS.lloadN X2.here hx rfl (hb hby d1_15) rfl k) ?_
  refine own_go (g' := (mkF m 18 #[.val (.long q0), .second, .val (.ref o1), .val (.int (2 : Int32)), .val (.int (2 : Int32))] [(.int (8 : Int32)), (.long q0), (.int (4 : Int32)), (.ref o1)])) (fun _ k => XS.bipush X2.here hx rfl (hb hby d1_16) k) ?_
  refine own_go (g' := (mkF m 20 #[.val (.long q0), .second, .val (.ref o1), .val (.int (2 : Int32)), .val (.int (2 : Int32))] [(.int (7 : Int32)), (.int (8 : Int32)), (.long q0), (.int (4 : Int32)), (.ref o1)])) (fun _ k => XS.bipush X2.here hx rfl (hb hby d1_18) k) ?_
  refine own_go (g' := (mkF m 22 #[.val (.long q0), .second, .val (.ref o1), .val (.int (2 : Int32)), .val (.int (2 : Int32))] [(.int (2 : Int32)), (.int (7 : Int32)), (.int (8 : Int32)), (.long q0), (.int (4 : Int32)), (.ref o1)])) (fun _ k => XS.iload X2.here hx rfl (hb hby d1_20) rfl k) ?_
  refine own_go (g' := (mkF m 23 #[.val (.long q0), .second, .val (.ref o1), .val (.int (2 : Int32)), .val (.int (2 : Int32))] [(.int (5 : Int32)), (.int (8 : Int32)), (.long q0), (.int (4 : Int32)), (.ref o1)])) (fun _ k => XS.isub X2.here hx rfl (hb hby d1_22) rfl k) ?_
  refine own_go (g' := (mkF m 24 #[.val (.long q0), .second, .val (.ref o1), .val (.int (2 : Int32)), .val (.int (2 : Int32))] [(.int (40 : Int32)), (.long q0), (.int (4 : Int32)), (.ref o1)])) (fun _ k => XS.imul X2.here hx rfl (hb hby d1_23) rfl k) ?_
  refine own_go (g' := (mkF m 25 #[.val (.long q0), .second, .val (.ref o1), .val (.int (2 : Int32)), .val (.int (2 : Int32))] [(.long ((q0.toUInt64 >>> ((40 : Int32) &&& 0x3f).toInt64.toUInt64).toInt64)), (.int (4 : Int32)), (.ref o1)])) (fun _ k => XS.lushr X2.here hx rfl (hb hby d1_24) rfl k) ?_
  refine own_go (g' := (mkF m 26 #[.val (.long q0), .second, .val (.ref o1), .val (.int (2 : Int32)), .val (.int (2 : Int32))] [(.int (((q0.toUInt64 >>> ((40 : Int32) &&& 0x3f).toInt64.toUInt64).toInt64).toInt32)), (.int (4 : Int32)), (.ref o1)])) (fun _ k => XS.l2i X2.here hx rfl (hb hby d1_25) rfl k) ?_
  refine own_go (g' := (mkF m 27 #[.val (.long q0), .second, .val (.ref o1), .val (.int (2 : Int32)), .val (.int (2 : Int32))] [(.int ((((q0.toUInt64 >>> ((40 : Int32) &&& 0x3f).toInt64.toUInt64).toInt64).toInt32).toInt8.toInt32)), (.int (4 : Int32)), (.ref o1)])) (fun _ k => XS.i2b X2.here hx rfl (hb hby d1_26) rfl k) ?_
  suffices JNhz3 : ∀ z3 : Int32, z3 = own_wb q0 (40 : Int32) → own_Go p e below (own_Post s QQ 0 0) T2 (mkF m 27 #[.val (.long q0), .second, .val (.ref o1), .val (.int (2 : Int32)), .val (.int (2 : Int32))] [(.int z3), (.int (4 : Int32)), (.ref o1)]) from JNhz3 _ (rfl)
  intro z3 hz3
  obtain ⟨cl3, Ar3, qk3, sz3, nn3, Hs3, Gs3⟩ := id V2
  have hin3 : ¬ ((4 : Int32) < 0 ∨ cl3.slots.size ≤ ((4 : Int32)).toNatClampNeg) := inb_of sz3 ⟨by decide, by decide⟩
  obtain ⟨T3, h3, X3, e3, W3, st3⟩ := stB X2 hx hZ e2 Ar3 (j := (4 : Int32)) hin3 (g := (mkF m 27 #[.val (.long q0), .second, .val (.ref o1), .val (.int (2 : Int32)), .val (.int (2 : Int32))] [(.int z3), (.int (4 : Int32)), (.ref o1)])) rfl rfl (hb hby d1_27)
  have V3 : Arv Z h3 o1 kk .byte (12 : Int32) [(.int x0), (.int x1), (.int (z1).toInt8.toInt32), (.int (z2).toInt8.toInt32), (.int (z3).toInt8.toInt32), (.int x5), (.int x6), (.int x7), (.int x8), (.int x9), (.int x10), (.int x11)] (.int (0 : Int32)) := Arv.set Ar3 qk3 sz3 nn3 Hs3 Gs3 (fits_nar_byte _) W3 4 rfl (Nat.le_of_ble_eq_true rfl)
  have N3 := Fr.snoc X3 N2 g_o1
  have Z3 : n0 ≤ h3.size := by rw [W3.size]; exact Z2
  have K3 : Keep h0 h3 [o1] := K2.wr W3 (Or.inl (List.mem_of_getElem? (i := 0) rfl))
  refine own_go (g' := (mkF m 28 #[.val (.long q0), .second, .val (.ref o1), .val (.int (2 : Int32)), .val (.int (2 : Int32))] [])) (st3) ?_
  refine own_go (g' := (mkF m 31 #[.val (.long q0), .second, .val (.ref o1), .val (.int (2 : Int32)), .val (.int (3 : Int32))] [])) (fun _ k => XS.iinc X3.here hx rfl (hb hby d1_28) rfl (l' := #[.val (.long q0), .second, .val (.ref o1), .val (.int (2 : Int32)), .val (.int (3 : Int32))]) rfl k) ?_
  refine own_go (g' := (mkF m 3 #[.val (.long q0), .second, .val (.ref o1), .val (.int (2 : Int32)), .val (.int (3 : Int32))] [])) (fun _ k => XS.goto X3.here hx rfl (pc0 := 31) (pc' := 3) rfl (hb hby d1_31) (by decide) (by decide) k) ?_
  refine own_go (g' := (mkF m 5 #[.val (.long q0), .second, .val (.ref o1), .val (.int (2 : Int32)), .val (.int (3 : Int32))] [(.int (3 : Int32))])) (fun _ k => XS.iload X3.here hx rfl (hb hby d1_3) rfl k) ?_
  refine own_go (g' := (mkF m 7 #[.val (.long q0), .second, .val (.ref o1), .val (.int (2 : Int32)), .val (.int (3 : Int32))] [(.int (8 : Int32)), (.int (3 : Int32))])) (fun _ k => XS.bipush X3.here hx rfl (hb hby d1_5) k) ?_
  refine own_go (g' := (mkF m 10 #[.val (.long q0), .second, .val (.ref o1), .val (.int (2 : Int32)), .val (.int (3 : Int32))] [])) (fun _ k => XS.icmpNo X3.here hx rfl (hb hby d1_7) rfl (tlt (by decide)).2.1 k) ?_
  refine own_go (g' := (mkF m 11 #[.val (.long q0), .second, .val (.ref o1), .val (.int (2 : Int32)), .val (.int (3 : Int32))] [(.ref o1)])) (fun _ k => XS.aloadN X3.here hx rfl (hb hby d1_10) rfl rfl k) ?_
  refine own_go (g' := (mkF m 12 #[.val (.long q0), .second, .val (.ref o1), .val (.int (2 : Int32)), .val (.int (3 : Int32))] [(.int (2 : Int32)), (.ref o1)])) (fun _ k => XS.iloadN X3.here hx rfl (hb hby d1_11) rfl k) ?_
  refine own_go (g' := (mkF m 14 #[.val (.long q0), .second, .val (.ref o1), .val (.int (2 : Int32)), .val (.int (3 : Int32))] [(.int (3 : Int32)), (.int (2 : Int32)), (.ref o1)])) (fun _ k => XS.iload X3.here hx rfl (hb hby d1_12) rfl k) ?_
  refine own_go (g' := (mkF m 15 #[.val (.long q0), .second, .val (.ref o1), .val (.int (2 : Int32)), .val (.int (3 : Int32))] [(.int (5 : Int32)), (.ref o1)])) (fun _ k => XS.iadd X3.here hx rfl (hb hby d1_14) rfl k) ?_
  refine own_go (g' := (mkF m 16 #[.val (.long q0), .second, .val (.ref o1), .val (.int (2 : Int32)), .val (.int (3 : Int32))] [(.long q0), (.int (5 : Int32)), (.ref o1)])) (fun _ k => XS.lloadN X3.here hx rfl (hb hby d1_15) rfl k) ?_
  refine own_go (g' := (mkF m 18 #[.val (.long q0), .second, .val (.ref o1), .val (.int (2 : Int32)), .val (.int (3 : Int32))] [(.int (8 : Int32)), (.long q0), (.int (5 : Int32)), (.ref o1)])) (fun _ k => XS.bipush X3.here hx rfl (hb hby d1_16) k) ?_
  refine own_go (g' := (mkF m 20 #[.val (.long q0), .second, .val (.ref o1), .val (.int (2 : Int32)), .val (.int (3 : Int32))] [(.int (7 : Int32)), (.int (8 : Int32)), (.long q0), (.int (5 : Int32)), (.ref o1)])) (fun _ k => XS.bipush X3.here hx rfl (hb hby d1_18) k) ?_
  refine own_go (g' := (mkF m 22 #[.val (.long q0), .second, .val (.ref o1), .val (.int (2 : Int32)), .val (.int (3 : Int32))] [(.int (3 : Int32)), (.int (7 : Int32)), (.int (8 : Int32)), (.long q0), (.int (5 : Int32)), (.ref o1)])) (fun _ k => XS.iload X3.here hx rfl (hb hby d1_20) rfl k) ?_
  refine own_go (g' := (mkF m 23 #[.val (.long q0), .second, .val (.ref o1), .val (.int (2 : Int32)), .val (.int (3 : Int32))] [(.int (4 : Int32)), (.int (8 : Int32)), (.long q0), (.int (5 : Int32)), (.ref o1)])) (fun _ k => XS.isub X3.here hx rfl (hb hby d1_22) rfl k) ?_
  refine own_go (g' := (mkF m 24 #[.val (.long q0), .second, .val (.ref o1), .val (.int (2 : Int32)), .val (.int (3 : Int32))] [(.int (32 : Int32)), (.long q0), (.int (5 : Int32)), (.ref o1)])) (fun _ k => XS.imul X3.here hx rfl (hb hby d1_23) rfl k) ?_
  refine own_go (g' := (mkF m 25 #[.val (.long q0), .second, .val (.ref o1), .val (.int (2 : Int32)), .val (.int (3 : Int32))] [(.long ((q0.toUInt64 >>> ((32 : Int32) &&& 0x3f).toInt64.toUInt64).toInt64)), (.int (5 : Int32)), (.ref o1)])) (fun _ k => XS.lushr X3.here hx rfl (hb hby d1_24) rfl k) ?_
  refine own_go (g' := (mkF m 26 #[.val (.long q0), .second, .val (.ref o1), .val (.int (2 : Int32)), .val (.int (3 : Int32))] [(.int (((q0.toUInt64 >>> ((32 : Int32) &&& 0x3f).toInt64.toUInt64).toInt64).toInt32)), (.int (5 : Int32)), (.ref o1)])) (fun _ k => XS.l2i X3.here hx rfl (hb hby d1_25) rfl k) ?_
  refine own_go (g' := (mkF m 27 #[.val (.long q0), .second, .val (.ref o1), .val (.int (2 : Int32)), .val (.int (3 : Int32))] [(.int ((((q0.toUInt64 >>> ((32 : Int32) &&& 0x3f).toInt64.toUInt64).toInt64).toInt32).toInt8.toInt32)), (.int (5 : Int32)), (.ref o1)])) (fun _ k => XS.i2b X3.here hx rfl (hb hby d1_26) rfl k) ?_
  suffices JNhz4 : ∀ z4 : Int32, z4 = own_wb q0 (32 : Int32) → own_Go p e below (own_Post s QQ 0 0) T3 (mkF m 27 #[.val (.long q0), .second, .val (.ref o1), .val (.int (2 : Int32)), .val (.int (3 : Int32))] [(.int z4), (.int (5 : Int32)), (.ref o1)]) from JNhz4 _ (rfl)
  intro z4 hz4
  obtain ⟨cl4, Ar4, qk4, sz4, nn4, Hs4, Gs4⟩ := id V3
  have hin4 : ¬ ((5 : Int32) < 0 ∨ cl4.slots.size ≤ ((5 : Int32)).toNatClampNeg) := inb_of sz4 ⟨by decide, by decide⟩
  obtain ⟨T4, h4, X4, e4, W4, st4⟩ := stB X3 hx hZ e3 Ar4 (j := (5 : Int32)) hin4 (g := (mkF m 27 #[.val (.long q0), .second, .val (.ref o1), .val (.int (2 : Int32)), .val (.int (3 : Int32))] [(.int z4), (.int (5 : Int32)), (.ref o1)])) rfl rfl (hb hby d1_27)
  have V4 : Arv Z h4 o1 kk .byte (12 : Int32) [(.int x0), (.int x1), (.int (z1).toInt8.toInt32), (.int (z2).toInt8.toInt32), (.int (z3).toInt8.toInt32), (.int (z4).toInt8.toInt32), (.int x6), (.int x7), (.int x8), (.int x9), (.int x10), (.int x11)] (.int (0 : Int32)) := Arv.set Ar4 qk4 sz4 nn4 Hs4 Gs4 (fits_nar_byte _) W4 5 rfl (Nat.le_of_ble_eq_true rfl)
  have N4 := Fr.snoc X4 N3 g_o1
  have Z4 : n0 ≤ h4.size := by rw [W4.size]; exact Z3
  have K4 : Keep h0 h4 [o1] := K3.wr W4 (Or.inl (List.mem_of_getElem? (i := 0) rfl))
  refine own_go (g' := (mkF m 28 #[.val (.long q0), .second, .val (.ref o1), .val (.int (2 : Int32)), .val (.int (3 : Int32))] [])) (st4) ?_
  refine own_go (g' := (mkF m 31 #[.val (.long q0), .second, .val (.ref o1), .val (.int (2 : Int32)), .val (.int (4 : Int32))] [])) (fun _ k => XS.iinc X4.here hx rfl (hb hby d1_28) rfl (l' := #[.val (.long q0), .second, .val (.ref o1), .val (.int (2 : Int32)), .val (.int (4 : Int32))]) rfl k) ?_
  refine own_go (g' := (mkF m 3 #[.val (.long q0), .second, .val (.ref o1), .val (.int (2 : Int32)), .val (.int (4 : Int32))] [])) (fun _ k => XS.goto X4.here hx rfl (pc0 := 31) (pc' := 3) rfl (hb hby d1_31) (by decide) (by decide) k) ?_
  refine own_go (g' := (mkF m 5 #[.val (.long q0), .second, .val (.ref o1), .val (.int (2 : Int32)), .val (.int (4 : Int32))] [(.int (4 : Int32))])) (fun _ k => XS.iload X4.here hx rfl (hb hby d1_3) rfl k) ?_
  refine own_go (g' := (mkF m 7 #[.val (.long q0), .second, .val (.ref o1), .val (.int (2 : Int32)), .val (.int (4 : Int32))] [(.int (8 : Int32)), (.int (4 : Int32))])) (fun _ k => XS.bipush X4.here hx rfl (hb hby d1_5) k) ?_
  refine own_go (g' := (mkF m 10 #[.val (.long q0), .second, .val (.ref o1), .val (.int (2 : Int32)), .val (.int (4 : Int32))] [])) (fun _ k => XS.icmpNo X4.here hx rfl (hb hby d1_7) rfl (tlt (by decide)).2.1 k) ?_
  refine own_go (g' := (mkF m 11 #[.val (.long q0), .second, .val (.ref o1), .val (.int (2 : Int32)), .val (.int (4 : Int32))] [(.ref o1)])) (fun _ k => XS.aloadN X4.here hx rfl (hb hby d1_10) rfl rfl k) ?_
  refine own_go (g' := (mkF m 12 #[.val (.long q0), .second, .val (.ref o1), .val (.int (2 : Int32)), .val (.int (4 : Int32))] [(.int (2 : Int32)), (.ref o1)])) (fun _ k => XS.iloadN X4.here hx rfl (hb hby d1_11) rfl k) ?_
  refine own_go (g' := (mkF m 14 #[.val (.long q0), .second, .val (.ref o1), .val (.int (2 : Int32)), .val (.int (4 : Int32))] [(.int (4 : Int32)), (.int (2 : Int32)), (.ref o1)])) (fun _ k => XS.iload X4.here hx rfl (hb hby d1_12) rfl k) ?_
  refine own_go (g' := (mkF m 15 #[.val (.long q0), .second, .val (.ref o1), .val (.int (2 : Int32)), .val (.int (4 : Int32))] [(.int (6 : Int32)), (.ref o1)])) (fun _ k => XS.iadd X4.here hx rfl (hb hby d1_14) rfl k) ?_
  refine own_go (g' := (mkF m 16 #[.val (.long q0), .second, .val (.ref o1), .val (.int (2 : Int32)), .val (.int (4 : Int32))] [(.long q0), (.int (6 : Int32)), (.ref o1)])) (fun _ k => XS.lloadN X4.here hx rfl (hb hby d1_15) rfl k) ?_
  refine own_go (g' := (mkF m 18 #[.val (.long q0), .second, .val (.ref o1), .val (.int (2 : Int32)), .val (.int (4 : Int32))] [(.int (8 : Int32)), (.long q0), (.int (6 : Int32)), (.ref o1)])) (fun _ k => XS.bipush X4.here hx rfl (hb hby d1_16) k) ?_
  refine own_go (g' := (mkF m 20 #[.val (.long q0), .second, .val (.ref o1), .val (.int (2 : Int32)), .val (.int (4 : Int32))] [(.int (7 : Int32)), (.int (8 : Int32)), (.long q0), (.int (6 : Int32)), (.ref o1)])) (fun _ k => XS.bipush X4.here hx rfl (hb hby d1_18) k) ?_
  refine own_go (g' := (mkF m 22 #[.val (.long q0), .second, .val (.ref o1), .val (.int (2 : Int32)), .val (.int (4 : Int32))] [(.int (4 : Int32)), (.int (7 : Int32)), (.int (8 : Int32)), (.long q0), (.int (6 : Int32)), (.ref o1)])) (fun _ k => XS.iload X4.here hx rfl (hb hby d1_20) rfl k) ?_
  refine own_go (g' := (mkF m 23 #[.val (.long q0), .second, .val (.ref o1), .val (.int (2 : Int32)), .val (.int (4 : Int32))] [(.int (3 : Int32)), (.int (8 : Int32)), (.long q0), (.int (6 : Int32)), (.ref o1)])) (fun _ k => XS.isub X4.here hx rfl (hb hby d1_22) rfl k) ?_
  refine own_go (g' := (mkF m 24 #[.val (.long q0), .second, .val (.ref o1), .val (.int (2 : Int32)), .val (.int (4 : Int32))] [(.int (24 : Int32)), (.long q0), (.int (6 : Int32)), (.ref o1)])) (fun _ k => XS.imul X4.here hx rfl (hb hby d1_23) rfl k) ?_
  refine own_go (g' := (mkF m 25 #[.val (.long q0), .second, .val (.ref o1), .val (.int (2 : Int32)), .val (.int (4 : Int32))] [(.long ((q0.toUInt64 >>> ((24 : Int32) &&& 0x3f).toInt64.toUInt64).toInt64)), (.int (6 : Int32)), (.ref o1)])) (fun _ k => XS.lushr X4.here hx rfl (hb hby d1_24) rfl k) ?_
  refine own_go (g' := (mkF m 26 #[.val (.long q0), .second, .val (.ref o1), .val (.int (2 : Int32)), .val (.int (4 : Int32))] [(.int (((q0.toUInt64 >>> ((24 : Int32) &&& 0x3f).toInt64.toUInt64).toInt64).toInt32)), (.int (6 : Int32)), (.ref o1)])) (fun _ k => XS.l2i X4.here hx rfl (hb hby d1_25) rfl k) ?_
  refine own_go (g' := (mkF m 27 #[.val (.long q0), .second, .val (.ref o1), .val (.int (2 : Int32)), .val (.int (4 : Int32))] [(.int ((((q0.toUInt64 >>> ((24 : Int32) &&& 0x3f).toInt64.toUInt64).toInt64).toInt32).toInt8.toInt32)), (.int (6 : Int32)), (.ref o1)])) (fun _ k => XS.i2b X4.here hx rfl (hb hby d1_26) rfl k) ?_
  suffices JNhz5 : ∀ z5 : Int32, z5 = own_wb q0 (24 : Int32) → own_Go p e below (own_Post s QQ 0 0) T4 (mkF m 27 #[.val (.long q0), .second, .val (.ref o1), .val (.int (2 : Int32)), .val (.int (4 : Int32))] [(.int z5), (.int (6 : Int32)), (.ref o1)]) from JNhz5 _ (rfl)
  intro z5 hz5
  obtain ⟨cl5, Ar5, qk5, sz5, nn5, Hs5, Gs5⟩ := id V4
  have hin5 : ¬ ((6 : Int32) < 0 ∨ cl5.slots.size ≤ ((6 : Int32)).toNatClampNeg) := inb_of sz5 ⟨by decide, by decide⟩
  obtain ⟨T5, h5, X5, e5, W5, st5⟩ := stB X4 hx hZ e4 Ar5 (j := (6 : Int32)) hin5 (g := (mkF m 27 #[.val (.long q0), .second, .val (.ref o1), .val (.int (2 : Int32)), .val (.int (4 : Int32))] [(.int z5), (.int (6 : Int32)), (.ref o1)])) rfl rfl (hb hby d1_27)
  have V5 : Arv Z h5 o1 kk .byte (12 : Int32) [(.int x0), (.int x1), (.int (z1).toInt8.toInt32), (.int (z2).toInt8.toInt32), (.int (z3).toInt8.toInt32), (.int (z4).toInt8.toInt32), (.int (z5).toInt8.toInt32), (.int x7), (.int x8), (.int x9), (.int x10), (.int x11)] (.int (0 : Int32)) := Arv.set Ar5 qk5 sz5 nn5 Hs5 Gs5 (fits_nar_byte _) W5 6 rfl (Nat.le_of_ble_eq_true rfl)
  have N5 := Fr.snoc X5 N4 g_o1
  have Z5 : n0 ≤ h5.size := by rw [W5.size]; exact Z4
  have K5 : Keep h0 h5 [o1] := K4.wr W5 (Or.inl (List.mem_of_getElem? (i := 0) rfl))
  refine own_go (g' := (mkF m 28 #[.val (.long q0), .second, .val (.ref o1), .val (.int (2 : Int32)), .val (.int (4 : Int32))] [])) (st5) ?_
  refine own_go (g' := (mkF m 31 #[.val (.long q0), .second, .val (.ref o1), .val (.int (2 : Int32)), .val (.int (5 : Int32))] [])) (fun _ k => XS.iinc X5.here hx rfl (hb hby d1_28) rfl (l' := #[.val (.long q0), .second, .val (.ref o1), .val (.int (2 : Int32)), .val (.int (5 : Int32))]) rfl k) ?_
  refine own_go (g' := (mkF m 3 #[.val (.long q0), .second, .val (.ref o1), .val (.int (2 : Int32)), .val (.int (5 : Int32))] [])) (fun _ k => XS.goto X5.here hx rfl (pc0 := 31) (pc' := 3) rfl (hb hby d1_31) (by decide) (by decide) k) ?_
  refine own_go (g' := (mkF m 5 #[.val (.long q0), .second, .val (.ref o1), .val (.int (2 : Int32)), .val (.int (5 : Int32))] [(.int (5 : Int32))])) (fun _ k => XS.iload X5.here hx rfl (hb hby d1_3) rfl k) ?_
  refine own_go (g' := (mkF m 7 #[.val (.long q0), .second, .val (.ref o1), .val (.int (2 : Int32)), .val (.int (5 : Int32))] [(.int (8 : Int32)), (.int (5 : Int32))])) (fun _ k => XS.bipush X5.here hx rfl (hb hby d1_5) k) ?_
  refine own_go (g' := (mkF m 10 #[.val (.long q0), .second, .val (.ref o1), .val (.int (2 : Int32)), .val (.int (5 : Int32))] [])) (fun _ k => XS.icmpNo X5.here hx rfl (hb hby d1_7) rfl (tlt (by decide)).2.1 k) ?_
  refine own_go (g' := (mkF m 11 #[.val (.long q0), .second, .val (.ref o1), .val (.int (2 : Int32)), .val (.int (5 : Int32))] [(.ref o1)])) (fun _ k => XS.aloadN X5.here hx rfl (hb hby d1_10) rfl rfl k) ?_
  refine own_go (g' := (mkF m 12 #[.val (.long q0), .second, .val (.ref o1), .val (.int (2 : Int32)), .val (.int (5 : Int32))] [(.int (2 : Int32)), (.ref o1)])) (fun _ k => XS.iloadN X5.here hx rfl (hb hby d1_11) rfl k) ?_
  refine own_go (g' := (mkF m 14 #[.val (.long q0), .second, .val (.ref o1), .val (.int (2 : Int32)), .val (.int (5 : Int32))] [(.int (5 : Int32)), (.int (2 : Int32)), (.ref o1)])) (fun _ k => XS.iload X5.here hx rfl (hb hby d1_12) rfl k) ?_
  refine own_go (g' := (mkF m 15 #[.val (.long q0), .second, .val (.ref o1), .val (.int (2 : Int32)), .val (.int (5 : Int32))] [(.int (7 : Int32)), (.ref o1)])) (fun _ k => XS.iadd X5.here hx rfl (hb hby d1_14) rfl k) ?_
  refine own_go (g' := (mkF m 16 #[.val (.long q0), .second, .val (.ref o1), .val (.int (2 : Int32)), .val (.int (5 : Int32))] [(.long q0), (.int (7 : Int32)), (.ref o1)])) (fun _ k => XS.lloadN X5.here hx rfl (hb hby d1_15) rfl k) ?_
  refine own_go (g' := (mkF m 18 #[.val (.long q0), .second, .val (.ref o1), .val (.int (2 : Int32)), .val (.int (5 : Int32))] [(.int (8 : Int32)), (.long q0), (.int (7 : Int32)), (.ref o1)])) (fun _ k => XS.bipush X5.here hx rfl (hb hby d1_16) k) ?_
  refine own_go (g' := (mkF m 20 #[.val (.long q0), .second, .val (.ref o1), .val (.int (2 : Int32)), .val (.int (5 : Int32))] [(.int (7 : Int32)), (.int (8 : Int32)), (.long q0), (.int (7 : Int32)), (.ref o1)])) (fun _ k => XS.bipush X5.here hx rfl (hb hby d1_18) k) ?_
  refine own_go (g' := (mkF m 22 #[.val (.long q0), .second, .val (.ref o1), .val (.int (2 : Int32)), .val (.int (5 : Int32))] [(.int (5 : Int32)), (.int (7 : Int32)), (.int (8 : Int32)), (.long q0), (.int (7 : Int32)), (.ref o1)])) (fun _ k => XS.iload X5.here hx rfl (hb hby d1_20) rfl k) ?_
  refine own_go (g' := (mkF m 23 #[.val (.long q0), .second, .val (.ref o1), .val (.int (2 : Int32)), .val (.int (5 : Int32))] [(.int (2 : Int32)), (.int (8 : Int32)), (.long q0), (.int (7 : Int32)), (.ref o1)])) (fun _ k => XS.isub X5.here hx rfl (hb hby d1_22) rfl k) ?_
  refine own_go (g' := (mkF m 24 #[.val (.long q0), .second, .val (.ref o1), .val (.int (2 : Int32)), .val (.int (5 : Int32))] [(.int (16 : Int32)), (.long q0), (.int (7 : Int32)), (.ref o1)])) (fun _ k => XS.imul X5.here hx rfl (hb hby d1_23) rfl k) ?_
  refine own_go (g' := (mkF m 25 #[.val (.long q0), .second, .val (.ref o1), .val (.int (2 : Int32)), .val (.int (5 : Int32))] [(.long ((q0.toUInt64 >>> ((16 : Int32) &&& 0x3f).toInt64.toUInt64).toInt64)), (.int (7 : Int32)), (.ref o1)])) (fun _ k => XS.lushr X5.here hx rfl (hb hby d1_24) rfl k) ?_
  refine own_go (g' := (mkF m 26 #[.val (.long q0), .second, .val (.ref o1), .val (.int (2 : Int32)), .val (.int (5 : Int32))] [(.int (((q0.toUInt64 >>> ((16 : Int32) &&& 0x3f).toInt64.toUInt64).toInt64).toInt32)), (.int (7 : Int32)), (.ref o1)])) (fun _ k => XS.l2i X5.here hx rfl (hb hby d1_25) rfl k) ?_
  refine own_go (g' := (mkF m 27 #[.val (.long q0), .second, .val (.ref o1), .val (.int (2 : Int32)), .val (.int (5 : Int32))] [(.int ((((q0.toUInt64 >>> ((16 : Int32) &&& 0x3f).toInt64.toUInt64).toInt64).toInt32).toInt8.toInt32)), (.int (7 : Int32)), (.ref o1)])) (fun _ k => XS.i2b X5.here hx rfl (hb hby d1_26) rfl k) ?_
  suffices JNhz6 : ∀ z6 : Int32, z6 = own_wb q0 (16 : Int32) → own_Go p e below (own_Post s QQ 0 0) T5 (mkF m 27 #[.val (.long q0), .second, .val (.ref o1), .val (.int (2 : Int32)), .val (.int (5 : Int32))] [(.int z6), (.int (7 : Int32)), (.ref o1)]) from JNhz6 _ (rfl)
  intro z6 hz6
  obtain ⟨cl6, Ar6, qk6, sz6, nn6, Hs6, Gs6⟩ := id V5
  have hin6 : ¬ ((7 : Int32) < 0 ∨ cl6.slots.size ≤ ((7 : Int32)).toNatClampNeg) := inb_of sz6 ⟨by decide, by decide⟩
  obtain ⟨T6, h6, X6, e6, W6, st6⟩ := stB X5 hx hZ e5 Ar6 (j := (7 : Int32)) hin6 (g := (mkF m 27 #[.val (.long q0), .second, .val (.ref o1), .val (.int (2 : Int32)), .val (.int (5 : Int32))] [(.int z6), (.int (7 : Int32)), (.ref o1)])) rfl rfl (hb hby d1_27)
  have V6 : Arv Z h6 o1 kk .byte (12 : Int32) [(.int x0), (.int x1), (.int (z1).toInt8.toInt32), (.int (z2).toInt8.toInt32), (.int (z3).toInt8.toInt32), (.int (z4).toInt8.toInt32), (.int (z5).toInt8.toInt32), (.int (z6).toInt8.toInt32), (.int x8), (.int x9), (.int x10), (.int x11)] (.int (0 : Int32)) := Arv.set Ar6 qk6 sz6 nn6 Hs6 Gs6 (fits_nar_byte _) W6 7 rfl (Nat.le_of_ble_eq_true rfl)
  have N6 := Fr.snoc X6 N5 g_o1
  have Z6 : n0 ≤ h6.size := by rw [W6.size]; exact Z5
  have K6 : Keep h0 h6 [o1] := K5.wr W6 (Or.inl (List.mem_of_getElem? (i := 0) rfl))
  refine own_go (g' := (mkF m 28 #[.val (.long q0), .second, .val (.ref o1), .val (.int (2 : Int32)), .val (.int (5 : Int32))] [])) (st6) ?_
  refine own_go (g' := (mkF m 31 #[.val (.long q0), .second, .val (.ref o1), .val (.int (2 : Int32)), .val (.int (6 : Int32))] [])) (fun _ k => XS.iinc X6.here hx rfl (hb hby d1_28) rfl (l' := #[.val (.long q0), .second, .val (.ref o1), .val (.int (2 : Int32)), .val (.int (6 : Int32))]) rfl k) ?_
  refine own_go (g' := (mkF m 3 #[.val (.long q0), .second, .val (.ref o1), .val (.int (2 : Int32)), .val (.int (6 : Int32))] [])) (fun _ k => XS.goto X6.here hx rfl (pc0 := 31) (pc' := 3) rfl (hb hby d1_31) (by decide) (by decide) k) ?_
  refine own_go (g' := (mkF m 5 #[.val (.long q0), .second, .val (.ref o1), .val (.int (2 : Int32)), .val (.int (6 : Int32))] [(.int (6 : Int32))])) (fun _ k => XS.iload X6.here hx rfl (hb hby d1_3) rfl k) ?_
  refine own_go (g' := (mkF m 7 #[.val (.long q0), .second, .val (.ref o1), .val (.int (2 : Int32)), .val (.int (6 : Int32))] [(.int (8 : Int32)), (.int (6 : Int32))])) (fun _ k => XS.bipush X6.here hx rfl (hb hby d1_5) k) ?_
  refine own_go (g' := (mkF m 10 #[.val (.long q0), .second, .val (.ref o1), .val (.int (2 : Int32)), .val (.int (6 : Int32))] [])) (fun _ k => XS.icmpNo X6.here hx rfl (hb hby d1_7) rfl (tlt (by decide)).2.1 k) ?_
  refine own_go (g' := (mkF m 11 #[.val (.long q0), .second, .val (.ref o1), .val (.int (2 : Int32)), .val (.int (6 : Int32))] [(.ref o1)])) (fun _ k => XS.aloadN X6.here hx rfl (hb hby d1_10) rfl rfl k) ?_
  refine own_go (g' := (mkF m 12 #[.val (.long q0), .second, .val (.ref o1), .val (.int (2 : Int32)), .val (.int (6 : Int32))] [(.int (2 : Int32)), (.ref o1)])) (fun _ k => XS.iloadN X6.here hx rfl (hb hby d1_11) rfl k) ?_
  refine own_go (g' := (mkF m 14 #[.val (.long q0), .second, .val (.ref o1), .val (.int (2 : Int32)), .val (.int (6 : Int32))] [(.int (6 : Int32)), (.int (2 : Int32)), (.ref o1)])) (fun _ k => XS.iload X6.here hx rfl (hb hby d1_12) rfl k) ?_
  refine own_go (g' := (mkF m 15 #[.val (.long q0), .second, .val (.ref o1), .val (.int (2 : Int32)), .val (.int (6 : Int32))] [(.int (8 : Int32)), (.ref o1)])) (fun _ k => XS.iadd X6.here hx rfl (hb hby d1_14) rfl k) ?_
  refine own_go (g' := (mkF m 16 #[.val (.long q0), .second, .val (.ref o1), .val (.int (2 : Int32)), .val (.int (6 : Int32))] [(.long q0), (.int (8 : Int32)), (.ref o1)])) (fun _ k => XS.lloadN X6.here hx rfl (hb hby d1_15) rfl k) ?_
  refine own_go (g' := (mkF m 18 #[.val (.long q0), .second, .val (.ref o1), .val (.int (2 : Int32)), .val (.int (6 : Int32))] [(.int (8 : Int32)), (.long q0), (.int (8 : Int32)), (.ref o1)])) (fun _ k => XS.bipush X6.here hx rfl (hb hby d1_16) k) ?_
  refine own_go (g' := (mkF m 20 #[.val (.long q0), .second, .val (.ref o1), .val (.int (2 : Int32)), .val (.int (6 : Int32))] [(.int (7 : Int32)), (.int (8 : Int32)), (.long q0), (.int (8 : Int32)), (.ref o1)])) (fun _ k => XS.bipush X6.here hx rfl (hb hby d1_18) k) ?_
  refine own_go (g' := (mkF m 22 #[.val (.long q0), .second, .val (.ref o1), .val (.int (2 : Int32)), .val (.int (6 : Int32))] [(.int (6 : Int32)), (.int (7 : Int32)), (.int (8 : Int32)), (.long q0), (.int (8 : Int32)), (.ref o1)])) (fun _ k => XS.iload X6.here hx rfl (hb hby d1_20) rfl k) ?_
  refine own_go (g' := (mkF m 23 #[.val (.long q0), .second, .val (.ref o1), .val (.int (2 : Int32)), .val (.int (6 : Int32))] [(.int (1 : Int32)), (.int (8 : Int32)), (.long q0), (.int (8 : Int32)), (.ref o1)])) (fun _ k => XS.isub X6.here hx rfl (hb hby d1_22) rfl k) ?_
  refine own_go (g' := (mkF m 24 #[.val (.long q0), .second, .val (.ref o1), .val (.int (2 : Int32)), .val (.int (6 : Int32))] [(.int (8 : Int32)), (.long q0), (.int (8 : Int32)), (.ref o1)])) (fun _ k => XS.imul X6.here hx rfl (hb hby d1_23) rfl k) ?_
  refine own_go (g' := (mkF m 25 #[.val (.long q0), .second, .val (.ref o1), .val (.int (2 : Int32)), .val (.int (6 : Int32))] [(.long ((q0.toUInt64 >>> ((8 : Int32) &&& 0x3f).toInt64.toUInt64).toInt64)), (.int (8 : Int32)), (.ref o1)])) (fun _ k => XS.lushr X6.here hx rfl (hb hby d1_24) rfl k) ?_
  refine own_go (g' := (mkF m 26 #[.val (.long q0), .second, .val (.ref o1), .val (.int (2 : Int32)), .val (.int (6 : Int32))] [(.int (((q0.toUInt64 >>> ((8 : Int32) &&& 0x3f).toInt64.toUInt64).toInt64).toInt32)), (.int (8 : Int32)), (.ref o1)])) (fun _ k => XS.l2i X6.here hx rfl (hb hby d1_25) rfl k) ?_
  refine own_go (g' := (mkF m 27 #[.val (.long q0), .second, .val (.ref o1), .val (.int (2 : Int32)), .val (.int (6 : Int32))] [(.int ((((q0.toUInt64 >>> ((8 : Int32) &&& 0x3f).toInt64.toUInt64).toInt64).toInt32).toInt8.toInt32)), (.int (8 : Int32)), (.ref o1)])) (fun _ k => XS.i2b X6.here hx rfl (hb hby d1_26) rfl k) ?_
  suffices JNhz7 : ∀ z7 : Int32, z7 = own_wb q0 (8 : Int32) → own_Go p e below (own_Post s QQ 0 0) T6 (mkF m 27 #[.val (.long q0), .second, .val (.ref o1), .val (.int (2 : Int32)), .val (.int (6 : Int32))] [(.int z7), (.int (8 : Int32)), (.ref o1)]) from JNhz7 _ (rfl)
  intro z7 hz7
  obtain ⟨cl7, Ar7, qk7, sz7, nn7, Hs7, Gs7⟩ := id V6
  have hin7 : ¬ ((8 : Int32) < 0 ∨ cl7.slots.size ≤ ((8 : Int32)).toNatClampNeg) := inb_of sz7 ⟨by decide, by decide⟩
  obtain ⟨T7, h7, X7, e7, W7, st7⟩ := stB X6 hx hZ e6 Ar7 (j := (8 : Int32)) hin7 (g := (mkF m 27 #[.val (.long q0), .second, .val (.ref o1), .val (.int (2 : Int32)), .val (.int (6 : Int32))] [(.int z7), (.int (8 : Int32)), (.ref o1)])) rfl rfl (hb hby d1_27)
  have V7 : Arv Z h7 o1 kk .byte (12 : Int32) [(.int x0), (.int x1), (.int (z1).toInt8.toInt32), (.int (z2).toInt8.toInt32), (.int (z3).toInt8.toInt32), (.int (z4).toInt8.toInt32), (.int (z5).toInt8.toInt32), (.int (z6).toInt8.toInt32), (.int (z7).toInt8.toInt32), (.int x9), (.int x10), (.int x11)] (.int (0 : Int32)) := Arv.set Ar7 qk7 sz7 nn7 Hs7 Gs7 (fits_nar_byte _) W7 8 rfl (Nat.le_of_ble_eq_true rfl)
  have N7 := Fr.snoc X7 N6 g_o1
  have Z7 : n0 ≤ h7.size := by rw [W7.size]; exact Z6
  have K7 : Keep h0 h7 [o1] := K6.wr W7 (Or.inl (List.mem_of_getElem? (i := 0) rfl))
  refine own_go (g' := (mkF m 28 #[.val (.long q0), .second, .val (.ref o1), .val (.int (2 : Int32)), .val (.int (6 : Int32))] [])) (st7) ?_
  refine own_go (g' := (mkF m 31 #[.val (.long q0), .second, .val (.ref o1), .val (.int (2 : Int32)), .val (.int (7 : Int32))] [])) (fun _ k => XS.iinc X7.here hx rfl (hb hby d1_28) rfl (l' := #[.val (.long q0), .second, .val (.ref o1), .val (.int (2 : Int32)), .val (.int (7 : Int32))]) rfl k) ?_
  refine own_go (g' := (mkF m 3 #[.val (.long q0), .second, .val (.ref o1), .val (.int (2 : Int32)), .val (.int (7 : Int32))] [])) (fun _ k => XS.goto X7.here hx rfl (pc0 := 31) (pc' := 3) rfl (hb hby d1_31) (by decide) (by decide) k) ?_
  refine own_go (g' := (mkF m 5 #[.val (.long q0), .second, .val (.ref o1), .val (.int (2 : Int32)), .val (.int (7 : Int32))] [(.int (7 : Int32))])) (fun _ k => XS.iload X7.here hx rfl (hb hby d1_3) rfl k) ?_
  refine own_go (g' := (mkF m 7 #[.val (.long q0), .second, .val (.ref o1), .val (.int (2 : Int32)), .val (.int (7 : Int32))] [(.int (8 : Int32)), (.int (7 : Int32))])) (fun _ k => XS.bipush X7.here hx rfl (hb hby d1_5) k) ?_
  refine own_go (g' := (mkF m 10 #[.val (.long q0), .second, .val (.ref o1), .val (.int (2 : Int32)), .val (.int (7 : Int32))] [])) (fun _ k => XS.icmpNo X7.here hx rfl (hb hby d1_7) rfl (tlt (by decide)).2.1 k) ?_
  refine own_go (g' := (mkF m 11 #[.val (.long q0), .second, .val (.ref o1), .val (.int (2 : Int32)), .val (.int (7 : Int32))] [(.ref o1)])) (fun _ k => XS.aloadN X7.here hx rfl (hb hby d1_10) rfl rfl k) ?_
  refine own_go (g' := (mkF m 12 #[.val (.long q0), .second, .val (.ref o1), .val (.int (2 : Int32)), .val (.int (7 : Int32))] [(.int (2 : Int32)), (.ref o1)])) (fun _ k => XS.iloadN X7.here hx rfl (hb hby d1_11) rfl k) ?_
  refine own_go (g' := (mkF m 14 #[.val (.long q0), .second, .val (.ref o1), .val (.int (2 : Int32)), .val (.int (7 : Int32))] [(.int (7 : Int32)), (.int (2 : Int32)), (.ref o1)])) (fun _ k => XS.iload X7.here hx rfl (hb hby d1_12) rfl k) ?_
  refine own_go (g' := (mkF m 15 #[.val (.long q0), .second, .val (.ref o1), .val (.int (2 : Int32)), .val (.int (7 : Int32))] [(.int (9 : Int32)), (.ref o1)])) (fun _ k => XS.iadd X7.here hx rfl (hb hby d1_14) rfl k) ?_
  refine own_go (g' := (mkF m 16 #[.val (.long q0), .second, .val (.ref o1), .val (.int (2 : Int32)), .val (.int (7 : Int32))] [(.long q0), (.int (9 : Int32)), (.ref o1)])) (fun _ k => XS.lloadN X7.here hx rfl (hb hby d1_15) rfl k) ?_
  refine own_go (g' := (mkF m 18 #[.val (.long q0), .second, .val (.ref o1), .val (.int (2 : Int32)), .val (.int (7 : Int32))] [(.int (8 : Int32)), (.long q0), (.int (9 : Int32)), (.ref o1)])) (fun _ k => XS.bipush X7.here hx rfl (hb hby d1_16) k) ?_
  refine own_go (g' := (mkF m 20 #[.val (.long q0), .second, .val (.ref o1), .val (.int (2 : Int32)), .val (.int (7 : Int32))] [(.int (7 : Int32)), (.int (8 : Int32)), (.long q0), (.int (9 : Int32)), (.ref o1)])) (fun _ k => XS.bipush X7.here hx rfl (hb hby d1_18) k) ?_
  refine own_go (g' := (mkF m 22 #[.val (.long q0), .second, .val (.ref o1), .val (.int (2 : Int32)), .val (.int (7 : Int32))] [(.int (7 : Int32)), (.int (7 : Int32)), (.int (8 : Int32)), (.long q0), (.int (9 : Int32)), (.ref o1)])) (fun _ k => XS.iload X7.here hx rfl (hb hby d1_20) rfl k) ?_
  refine own_go (g' := (mkF m 23 #[.val (.long q0), .second, .val (.ref o1), .val (.int (2 : Int32)), .val (.int (7 : Int32))] [(.int (0 : Int32)), (.int (8 : Int32)), (.long q0), (.int (9 : Int32)), (.ref o1)])) (fun _ k => XS.isub X7.here hx rfl (hb hby d1_22) rfl k) ?_
  refine own_go (g' := (mkF m 24 #[.val (.long q0), .second, .val (.ref o1), .val (.int (2 : Int32)), .val (.int (7 : Int32))] [(.int (0 : Int32)), (.long q0), (.int (9 : Int32)), (.ref o1)])) (fun _ k => XS.imul X7.here hx rfl (hb hby d1_23) rfl k) ?_
  refine own_go (g' := (mkF m 25 #[.val (.long q0), .second, .val (.ref o1), .val (.int (2 : Int32)), .val (.int (7 : Int32))] [(.long ((q0.toUInt64 >>> ((0 : Int32) &&& 0x3f).toInt64.toUInt64).toInt64)), (.int (9 : Int32)), (.ref o1)])) (fun _ k => XS.lushr X7.here hx rfl (hb hby d1_24) rfl k) ?_
  refine own_go (g' := (mkF m 26 #[.val (.long q0), .second, .val (.ref o1), .val (.int (2 : Int32)), .val (.int (7 : Int32))] [(.int (((q0.toUInt64 >>> ((0 : Int32) &&& 0x3f).toInt64.toUInt64).toInt64).toInt32)), (.int (9 : Int32)), (.ref o1)])) (fun _ k => XS.l2i X7.here hx rfl (hb hby d1_25) rfl k) ?_
  refine own_go (g' := (mkF m 27 #[.val (.long q0), .second, .val (.ref o1), .val (.int (2 : Int32)), .val (.int (7 : Int32))] [(.int ((((q0.toUInt64 >>> ((0 : Int32) &&& 0x3f).toInt64.toUInt64).toInt64).toInt32).toInt8.toInt32)), (.int (9 : Int32)), (.ref o1)])) (fun _ k => XS.i2b X7.here hx rfl (hb hby d1_26) rfl k) ?_
  suffices JNhz8 : ∀ z8 : Int32, z8 = own_wb q0 (0 : Int32) → own_Go p e below (own_Post s QQ 0 0) T7 (mkF m 27 #[.val (.long q0), .second, .val (.ref o1), .val (.int (2 : Int32)), .val (.int (7 : Int32))] [(.int z8), (.int (9 : Int32)), (.ref o1)]) from JNhz8 _ (rfl)
  intro z8 hz8
  obtain ⟨cl8, Ar8, qk8, sz8, nn8, Hs8, Gs8⟩ := id V7
  have hin8 : ¬ ((9 : Int32) < 0 ∨ cl8.slots.size ≤ ((9 : Int32)).toNatClampNeg) := inb_of sz8 ⟨by decide, by decide⟩
  obtain ⟨T8, h8, X8, e8, W8, st8⟩ := stB X7 hx hZ e7 Ar8 (j := (9 : Int32)) hin8 (g := (mkF m 27 #[.val (.long q0), .second, .val (.ref o1), .val (.int (2 : Int32)), .val (.int (7 : Int32))] [(.int z8), (.int (9 : Int32)), (.ref o1)])) rfl rfl (hb hby d1_27)
  have V8 : Arv Z h8 o1 kk .byte (12 : Int32) [(.int x0), (.int x1), (.int (z1).toInt8.toInt32), (.int (z2).toInt8.toInt32), (.int (z3).toInt8.toInt32), (.int (z4).toInt8.toInt32), (.int (z5).toInt8.toInt32), (.int (z6).toInt8.toInt32), (.int (z7).toInt8.toInt32), (.int (z8).toInt8.toInt32), (.int x10), (.int x11)] (.int (0 : Int32)) := Arv.set Ar8 qk8 sz8 nn8 Hs8 Gs8 (fits_nar_byte _) W8 9 rfl (Nat.le_of_ble_eq_true rfl)
  have N8 := Fr.snoc X8 N7 g_o1
  have Z8 : n0 ≤ h8.size := by rw [W8.size]; exact Z7
  have K8 : Keep h0 h8 [o1] := K7.wr W8 (Or.inl (List.mem_of_getElem? (i := 0) rfl))
  refine own_go (g' := (mkF m 28 #[.val (.long q0), .second, .val (.ref o1), .val (.int (2 : Int32)), .val (.int (7 : Int32))] [])) (st8) ?_
  refine own_go (g' := (mkF m 31 #[.val (.long q0), .second, .val (.ref o1), .val (.int (2 : Int32)), .val (.int (8 : Int32))] [])) (fun _ k => XS.iinc X8.here hx rfl (hb hby d1_28) rfl (l' := #[.val (.long q0), .second, .val (.ref o1), .val (.int (2 : Int32)), .val (.int (8 : Int32))]) rfl k) ?_
  refine own_go (g' := (mkF m 3 #[.val (.long q0), .second, .val (.ref o1), .val (.int (2 : Int32)), .val (.int (8 : Int32))] [])) (fun _ k => XS.goto X8.here hx rfl (pc0 := 31) (pc' := 3) rfl (hb hby d1_31) (by decide) (by decide) k) ?_
  refine own_go (g' := (mkF m 5 #[.val (.long q0), .second, .val (.ref o1), .val (.int (2 : Int32)), .val (.int (8 : Int32))] [(.int (8 : Int32))])) (fun _ k => XS.iload X8.here hx rfl (hb hby d1_3) rfl k) ?_
  refine own_go (g' := (mkF m 7 #[.val (.long q0), .second, .val (.ref o1), .val (.int (2 : Int32)), .val (.int (8 : Int32))] [(.int (8 : Int32)), (.int (8 : Int32))])) (fun _ k => XS.bipush X8.here hx rfl (hb hby d1_5) k) ?_
  refine own_go (g' := (mkF m 34 #[.val (.long q0), .second, .val (.ref o1), .val (.int (2 : Int32)), .val (.int (8 : Int32))] [])) (fun _ k => XS.icmpYes X8.here hx rfl (pc0 := 7) (pc' := 34) rfl (hb hby d1_7) rfl (flt (by decide)).2.1 (by decide) (by decide) k) ?_
  refine own_retV X8 hx Bd.returns Bd.notSynchronized (hb hby d1_34) (by decide) (by decide) ?_
  show QQ _ T8.heap _
  rw [e8]
  subst hz8 hz7 hz6 hz5 hz4 hz3 hz2 hz1
  rw [← hQQ]
  exact ⟨rfl, N8, K8, V8⟩
theorem pn_wr3 : plainName "com/example/table_salt/tablesalt/layout/Int64" = true := by first | (simp [plainName, overriddenIn]; done) | decide +kernel
theorem ef_wr3 (m : MethodId) (q0 : Int64) (o1 : Addr) : entryFrame m #[(.long q0), (.ref o1), (.int (3 : Int32))] 5 = mkF m 0 #[.val (.long q0), .second, .val (.ref o1), .val (.int (3 : Int32)), .unset] [] := by first | (simp [entryFrame, mkF, argsToLocals, Value.category]; done) | rfl
set_option maxRecDepth 65536 in
set_option maxHeartbeats 40000000 in
theorem wr3 (l : Launch) (Z : State) (a0 : Array Value) (hw : ∀ d ∈ tables_1, d.before a0 Z = true) (q0 : Int64) (o1 : Addr) (x0 : Int32) (x1 : Int32) (x2 : Int32) (x3 : Int32) (x4 : Int32) (x5 : Int32) (x6 : Int32) (x7 : Int32) (x8 : Int32) (x9 : Int32) (x10 : Int32) (x11 : Int32) (kk : ClassId) (h0 : Heap) (n0 : Nat) (Z0 : n0 ≤ h0.size) (g_o1 : n0 ≤ o1) (P0 : Arv Z h0 o1 kk .byte (12 : Int32) [(.int x0), (.int x1), (.int x2), (.int x3), (.int x4), (.int x5), (.int x6), (.int x7), (.int x8), (.int x9), (.int x10), (.int x11)] (.int (0 : Int32))) :
    own_Met l Z (⟨"com/example/table_salt/tablesalt/layout/Int64", "write", "(J[BI)V"⟩ : MethodName) prog_11_method_2_code 5 none [] ({ frames := 0, cells := 0, slots := 0, locals := 0 } : Room) #[(.long q0), (.ref o1), (.int (3 : Int32))] h0 0 0 (fun v h L => v = none ∧ Fr n0 L ∧ Keep h0 h [o1] ∧ Arv Z h o1 kk .byte (12 : Int32) [(.int x0), (.int x1), (.int x2), (.int (own_wb q0 (56 : Int32)).toInt8.toInt32), (.int (own_wb q0 (48 : Int32)).toInt8.toInt32), (.int (own_wb q0 (40 : Int32)).toInt8.toInt32), (.int (own_wb q0 (32 : Int32)).toInt8.toInt32), (.int (own_wb q0 (24 : Int32)).toInt8.toInt32), (.int (own_wb q0 (16 : Int32)).toInt8.toInt32), (.int (own_wb q0 (8 : Int32)).toInt8.toInt32), (.int (own_wb q0 (0 : Int32)).toInt8.toInt32), (.int x11)] (.int (0 : Int32))) := by
  refine own_met (plainFor_of_name pn_wr3) ?_
  intro p e s m below meth c s₁ Bd hml0 hZ X0 e0
  have hx := Bd.exec
  have hby := Bd.bytes
  have hml : c.maxLocals = 5 := hml0
  have hown : s.vm.findClass "com/example/table_salt/tablesalt/layout/Int64" = some m.cls := findClass_of_methodNamed Bd.named
  have hnm := (name_of_methodNamed Bd.named Bd.method).1
  refine own_cast (ef_wr3 m q0 o1) ?_
  generalize hQQ : (fun (v : Option Value) (h : Heap) (L : List Loc) => v = none ∧ Fr n0 L ∧ Keep h0 h [o1] ∧ Arv Z h o1 kk .byte (12 : Int32) [(.int x0), (.int x1), (.int x2), (.int (own_wb q0 (56 : Int32)).toInt8.toInt32), (.int (own_wb q0 (48 : Int32)).toInt8.toInt32), (.int (own_wb q0 (40 : Int32)).toInt8.toInt32), (.int (own_wb q0 (32 : Int32)).toInt8.toInt32), (.int (own_wb q0 (24 : Int32)).toInt8.toInt32), (.int (own_wb q0 (16 : Int32)).toInt8.toInt32), (.int (own_wb q0 (8 : Int32)).toInt8.toInt32), (.int (own_wb q0 (0 : Int32)).toInt8.toInt32), (.int x11)] (.int (0 : Int32))) = QQ
  have N0 := Fr.nil n0
  have K0 := Keep.refl h0 [o1]
  refine own_go (g' := (mkF m 1 #[.val (.long q0), .second, .val (.ref o1), .val (.int (3 : Int32)), .unset] [(.int (0 : Int32))])) (fun _ k => XS.iconst X0.here hx rfl (hb hby d1_0) k) ?_
  refine own_go (g' := (mkF m 3 #[.val (.long q0), .second, .val (.ref o1), .val (.int (3 : Int32)), .val (.int (0 : Int32))] [])) (fun _ k => XS.istore X0.here hx rfl (hb hby d1_1) rfl (l' := #[.val (.long q0), .second, .val (.ref o1), .val (.int (3 : Int32)), .val (.int (0 : Int32))]) rfl k) ?_
  refine own_go (g' := (mkF m 5 #[.val (.long q0), .second, .val (.ref o1), .val (.int (3 : Int32)), .val (.int (0 : Int32))] [(.int (0 : Int32))])) (fun _ k => XS.iload X0.here hx rfl (hb hby d1_3) rfl k) ?_
  refine own_go (g' := (mkF m 7 #[.val (.long q0), .second, .val (.ref o1), .val (.int (3 : Int32)), .val (.int (0 : Int32))] [(.int (8 : Int32)), (.int (0 : Int32))])) (fun _ k => XS.bipush X0.here hx rfl (hb hby d1_5) k) ?_
  refine own_go (g' := (mkF m 10 #[.val (.long q0), .second, .val (.ref o1), .val (.int (3 : Int32)), .val (.int (0 : Int32))] [])) (fun _ k => XS.icmpNo X0.here hx rfl (hb hby d1_7) rfl (tlt (by decide)).2.1 k) ?_
  refine own_go (g' := (mkF m 11 #[.val (.long q0), .second, .val (.ref o1), .val (.int (3 : Int32)), .val (.int (0 : Int32))] [(.ref o1)])) (fun _ k => XS.aloadN X0.here hx rfl (hb hby d1_10) rfl rfl k) ?_
  refine own_go (g' := (mkF m 12 #[.val (.long q0), .second, .val (.ref o1), .val (.int (3 : Int32)), .val (.int (0 : Int32))] [(.int (3 : Int32)), (.ref o1)])) (fun _ k => XS.iloadN X0.here hx rfl (hb hby d1_11) rfl k) ?_
  refine own_go (g' := (mkF m 14 #[.val (.long q0), .second, .val (.ref o1), .val (.int (3 : Int32)), .val (.int (0 : Int32))] [(.int (0 : Int32)), (.int (3 : Int32)), (.ref o1)])) (fun _ k => XS.iload X0.here hx rfl (hb hby d1_12) rfl k) ?_
  refine own_go (g' := (mkF m 15 #[.val (.long q0), .second, .val (.ref o1), .val (.int (3 : Int32)), .val (.int (0 : Int32))] [(.int (3 : Int32)), (.ref o1)])) (fun _ k => XS.iadd X0.here hx rfl (hb hby d1_14) rfl k) ?_
  refine own_go (g' := (mkF m 16 #[.val (.long q0), .second, .val (.ref o1), .val (.int (3 : Int32)), .val (.int (0 : Int32))] [(.long q0), (.int (3 : Int32)), (.ref o1)])) (fun _ k => XS.lloadN X0.here hx rfl (hb hby d1_15) rfl k) ?_
  refine own_go (g' := (mkF m 18 #[.val (.long q0), .second, .val (.ref o1), .val (.int (3 : Int32)), .val (.int (0 : Int32))] [(.int (8 : Int32)), (.long q0), (.int (3 : Int32)), (.ref o1)])) (fun _ k => XS.bipush X0.here hx rfl (hb hby d1_16) k) ?_
  refine own_go (g' := (mkF m 20 #[.val (.long q0), .second, .val (.ref o1), .val (.int (3 : Int32)), .val (.int (0 : Int32))] [(.int (7 : Int32)), (.int (8 : Int32)), (.long q0), (.int (3 : Int32)), (.ref o1)])) (fun _ k => XS.bipush X0.here hx rfl (hb hby d1_18) k) ?_
  refine own_go (g' := (mkF m 22 #[.val (.long q0), .second, .val (.ref o1), .val (.int (3 : Int32)), .val (.int (0 : Int32))] [(.int (0 : Int32)), (.int (7 : Int32)), (.int (8 : Int32)), (.long q0), (.int (3 : Int32)), (.ref o1)])) (fun _ k => XS.iload X0.here hx rfl (hb hby d1_20) rfl k) ?_
  refine own_go (g' := (mkF m 23 #[.val (.long q0), .second, .val (.ref o1), .val (.int (3 : Int32)), .val (.int (0 : Int32))] [(.int (7 : Int32)), (.int (8 : Int32)), (.long q0), (.int (3 : Int32)), (.ref o1)])) (fun _ k => XS.isub X0.here hx rfl (hb hby d1_22) rfl k) ?_
  refine own_go (g' := (mkF m 24 #[.val (.long q0), .second, .val (.ref o1), .val (.int (3 : Int32)), .val (.int (0 : Int32))] [(.int (56 : Int32)), (.long q0), (.int (3 : Int32)), (.ref o1)])) (fun _ k => XS.imul X0.here hx rfl (hb hby d1_23) rfl k) ?_
  refine own_go (g' := (mkF m 25 #[.val (.long q0), .second, .val (.ref o1), .val (.int (3 : Int32)), .val (.int (0 : Int32))] [(.long ((q0.toUInt64 >>> ((56 : Int32) &&& 0x3f).toInt64.toUInt64).toInt64)), (.int (3 : Int32)), (.ref o1)])) (fun _ k => XS.lushr X0.here hx rfl (hb hby d1_24) rfl k) ?_
  refine own_go (g' := (mkF m 26 #[.val (.long q0), .second, .val (.ref o1), .val (.int (3 : Int32)), .val (.int (0 : Int32))] [(.int (((q0.toUInt64 >>> ((56 : Int32) &&& 0x3f).toInt64.toUInt64).toInt64).toInt32)), (.int (3 : Int32)), (.ref o1)])) (fun _ k => XS.l2i X0.here hx rfl (hb hby d1_25) rfl k) ?_
  refine own_go (g' := (mkF m 27 #[.val (.long q0), .second, .val (.ref o1), .val (.int (3 : Int32)), .val (.int (0 : Int32))] [(.int ((((q0.toUInt64 >>> ((56 : Int32) &&& 0x3f).toInt64.toUInt64).toInt64).toInt32).toInt8.toInt32)), (.int (3 : Int32)), (.ref o1)])) (fun _ k => XS.i2b X0.here hx rfl (hb hby d1_26) rfl k) ?_
  suffices JNhz1 : ∀ z1 : Int32, z1 = own_wb q0 (56 : Int32) → own_Go p e below (own_Post s QQ 0 0) s₁ (mkF m 27 #[.val (.long q0), .second, .val (.ref o1), .val (.int (3 : Int32)), .val (.int (0 : Int32))] [(.int z1), (.int (3 : Int32)), (.ref o1)]) from JNhz1 _ (rfl)
  intro z1 hz1
  obtain ⟨cl1, Ar1, qk1, sz1, nn1, Hs1, Gs1⟩ := id P0
  have hin1 : ¬ ((3 : Int32) < 0 ∨ cl1.slots.size ≤ ((3 : Int32)).toNatClampNeg) := inb_of sz1 ⟨by decide, by decide⟩
  obtain ⟨T1, h1, X1, e1, W1, st1⟩ := stB X0 hx hZ e0 Ar1 (j := (3 : Int32)) hin1 (g := (mkF m 27 #[.val (.long q0), .second, .val (.ref o1), .val (.int (3 : Int32)), .val (.int (0 : Int32))] [(.int z1), (.int (3 : Int32)), (.ref o1)])) rfl rfl (hb hby d1_27)
  have V1 : Arv Z h1 o1 kk .byte (12 : Int32) [(.int x0), (.int x1), (.int x2), (.int (z1).toInt8.toInt32), (.int x4), (.int x5), (.int x6), (.int x7), (.int x8), (.int x9), (.int x10), (.int x11)] (.int (0 : Int32)) := Arv.set Ar1 qk1 sz1 nn1 Hs1 Gs1 (fits_nar_byte _) W1 3 rfl (Nat.le_of_ble_eq_true rfl)
  have N1 := Fr.snoc X1 N0 g_o1
  have Z1 : n0 ≤ h1.size := by rw [W1.size]; exact Z0
  have K1 : Keep h0 h1 [o1] := K0.wr W1 (Or.inl (List.mem_of_getElem? (i := 0) rfl))
  refine own_go (g' := (mkF m 28 #[.val (.long q0), .second, .val (.ref o1), .val (.int (3 : Int32)), .val (.int (0 : Int32))] [])) (st1) ?_
  refine own_go (g' := (mkF m 31 #[.val (.long q0), .second, .val (.ref o1), .val (.int (3 : Int32)), .val (.int (1 : Int32))] [])) (fun _ k => XS.iinc X1.here hx rfl (hb hby d1_28) rfl (l' := #[.val (.long q0), .second, .val (.ref o1), .val (.int (3 : Int32)), .val (.int (1 : Int32))]) rfl k) ?_
  refine own_go (g' := (mkF m 3 #[.val (.long q0), .second, .val (.ref o1), .val (.int (3 : Int32)), .val (.int (1 : Int32))] [])) (fun _ k => XS.goto X1.here hx rfl (pc0 := 31) (pc' := 3) rfl (hb hby d1_31) (by decide) (by decide) k) ?_
  refine own_go (g' := (mkF m 5 #[.val (.long q0), .second, .val (.ref o1), .val (.int (3 : Int32)), .val (.int (1 : Int32))] [(.int (1 : Int32))])) (fun _ k => XS.iload X1.here hx rfl (hb hby d1_3) rfl k) ?_
  refine own_go (g' := (mkF m 7 #[.val (.long q0), .second, .val (.ref o1), .val (.int (3 : Int32)), .val (.int (1 : Int32))] [(.int (8 : Int32)), (.int (1 : Int32))])) (fun _ k => XS.bipush X1.here hx rfl (hb hby d1_5) k) ?_
  refine own_go (g' := (mkF m 10 #[.val (.long q0), .second, .val (.ref o1), .val (.int (3 : Int32)), .val (.int (1 : Int32))] [])) (fun _ k => XS.icmpNo X1.here hx rfl (hb hby d1_7) rfl (tlt (by decide)).2.1 k) ?_
  refine own_go (g' := (mkF m 11 #[.val (.long q0), .second, .val (.ref o1), .val (.int (3 : Int32)), .val (.int (1 : Int32))] [(.ref o1)])) (fun _ k => XS.aloadN X1.here hx rfl (hb hby d1_10) rfl rfl k) ?_
  refine own_go (g' := (mkF m 12 #[.val (.long q0), .second, .val (.ref o1), .val (.int (3 : Int32)), .val (.int (1 : Int32))] [(.int (3 : Int32)), (.ref o1)])) (fun _ k => XS.iloadN X1.here hx rfl (hb hby d1_11) rfl k) ?_
  refine own_go (g' := (mkF m 14 #[.val (.long q0), .second, .val (.ref o1), .val (.int (3 : Int32)), .val (.int (1 : Int32))] [(.int (1 : Int32)), (.int (3 : Int32)), (.ref o1)])) (fun _ k => XS.iload X1.here hx rfl (hb hby d1_12) rfl k) ?_
  refine own_go (g' := (mkF m 15 #[.val (.long q0), .second, .val (.ref o1), .val (.int (3 : Int32)), .val (.int (1 : Int32))] [(.int (4 : Int32)), (.ref o1)])) (fun _ k => XS.iadd X1.here hx rfl (hb hby d1_14) rfl k) ?_
  refine own_go (g' := (mkF m 16 #[.val (.long q0), .second, .val (.ref o1), .val (.int (3 : Int32)), .val (.int (1 : Int32))] [(.long q0), (.int (4 : Int32)), (.ref o1)])) (fun _ k => XS.lloadN X1.here hx rfl (hb hby d1_15) rfl k) ?_
  refine own_go (g' := (mkF m 18 #[.val (.long q0), .second, .val (.ref o1), .val (.int (3 : Int32)), .val (.int (1 : Int32))] [(.int (8 : Int32)), (.long q0), (.int (4 : Int32)), (.ref o1)])) (fun _ k => XS.bipush X1.here hx rfl (hb hby d1_16) k) ?_
  refine own_go (g' := (mkF m 20 #[.val (.long q0), .second, .val (.ref o1), .val (.int (3 : Int32)), .val (.int (1 : Int32))] [(.int (7 : Int32)), (.int (8 : Int32)), (.long q0), (.int (4 : Int32)), (.ref o1)])) (fun _ k => XS.bipush X1.here hx rfl (hb hby d1_18) k) ?_
  refine own_go (g' := (mkF m 22 #[.val (.long q0), .second, .val (.ref o1), .val (.int (3 : Int32)), .val (.int (1 : Int32))] [(.int (1 : Int32)), (.int (7 : Int32)), (.int (8 : Int32)), (.long q0), (.int (4 : Int32)), (.ref o1)])) (fun _ k => XS.iload X1.here hx rfl (hb hby d1_20) rfl k) ?_
  refine own_go (g' := (mkF m 23 #[.val (.long q0), .second, .val (.ref o1), .val (.int (3 : Int32)), .val (.int (1 : Int32))] [(.int (6 : Int32)), (.int (8 : Int32)), (.long q0), (.int (4 : Int32)), (.ref o1)])) (fun _ k => XS.isub X1.here hx rfl (hb hby d1_22) rfl k) ?_
  refine own_go (g' := (mkF m 24 #[.val (.long q0), .second, .val (.ref o1), .val (.int (3 : Int32)), .val (.int (1 : Int32))] [(.int (48 : Int32)), (.long q0), (.int (4 : Int32)), (.ref o1)])) (fun _ k => XS.imul X1.here hx rfl (hb hby d1_23) rfl k) ?_
  refine own_go (g' := (mkF m 25 #[.val (.long q0), .second, .val (.ref o1), .val (.int (3 : Int32)), .val (.int (1 : Int32))] [(.long ((q0.toUInt64 >>> ((48 : Int32) &&& 0x3f).toInt64.toUInt64).toInt64)), (.int (4 : Int32)), (.ref o1)])) (fun _ k => XS.lushr X1.here hx rfl (hb hby d1_24) rfl k) ?_
  refine own_go (g' := (mkF m 26 #[.val (.long q0), .second, .val (.ref o1), .val (.int (3 : Int32)), .val (.int (1 : Int32))] [(.int (((q0.toUInt64 >>> ((48 : Int32) &&& 0x3f).toInt64.toUInt64).toInt64).toInt32)), (.int (4 : Int32)), (.ref o1)])) (fun _ k => XS.l2i X1.here hx rfl (hb hby d1_25) rfl k) ?_
  refine own_go (g' := (mkF m 27 #[.val (.long q0), .second, .val (.ref o1), .val (.int (3 : Int32)), .val (.int (1 : Int32))] [(.int ((((q0.toUInt64 >>> ((48 : Int32) &&& 0x3f).toInt64.toUInt64).toInt64).toInt32).toInt8.toInt32)), (.int (4 : Int32)), (.ref o1)])) (fun _ k => XS.i2b X1.here hx rfl (hb hby d1_26) rfl k) ?_
  suffices JNhz2 : ∀ z2 : Int32, z2 = own_wb q0 (48 : Int32) → own_Go p e below (own_Post s QQ 0 0) T1 (mkF m 27 #[.val (.long q0), .second, .val (.ref o1), .val (.int (3 : Int32)), .val (.int (1 : Int32))] [(.int z2), (.int (4 : Int32)), (.ref o1)]) from JNhz2 _ (rfl)
  intro z2 hz2
  obtain ⟨cl2, Ar2, qk2, sz2, nn2, Hs2, Gs2⟩ := id V1
  have hin2 : ¬ ((4 : Int32) < 0 ∨ cl2.slots.size ≤ ((4 : Int32)).toNatClampNeg) := inb_of sz2 ⟨by decide, by decide⟩
  obtain ⟨T2, h2, X2, e2, W2, st2⟩ := stB X1 hx hZ e1 Ar2 (j := (4 : Int32)) hin2 (g := (mkF m 27 #[.val (.long q0), .second, .val (.ref o1), .val (.int (3 : Int32)), .val (.int (1 : Int32))] [(.int z2), (.int (4 : Int32)), (.ref o1)])) rfl rfl (hb hby d1_27)
  have V2 : Arv Z h2 o1 kk .byte (12 : Int32) [(.int x0), (.int x1), (.int x2), (.int (z1).toInt8.toInt32), (.int (z2).toInt8.toInt32), (.int x5), (.int x6), (.int x7), (.int x8), (.int x9), (.int x10), (.int x11)] (.int (0 : Int32)) := Arv.set Ar2 qk2 sz2 nn2 Hs2 Gs2 (fits_nar_byte _) W2 4 rfl (Nat.le_of_ble_eq_true rfl)
  have N2 := Fr.snoc X2 N1 g_o1
  have Z2 : n0 ≤ h2.size := by rw [W2.size]; exact Z1
  have K2 : Keep h0 h2 [o1] := K1.wr W2 (Or.inl (List.mem_of_getElem? (i := 0) rfl))
  refine own_go (g' := (mkF m 28 #[.val (.long q0), .second, .val (.ref o1), .val (.int (3 : Int32)), .val (.int (1 : Int32))] [])) (st2) ?_
  refine own_go (g' := (mkF m 31 #[.val (.long q0), .second, .val (.ref o1), .val (.int (3 : Int32)), .val (.int (2 : Int32))] [])) (fun _ k => XS.iinc X2.here hx rfl (hb hby d1_28) rfl (l' := #[.val (.long q0), .second, .val (.ref o1), .val (.int (3 : Int32)), .val (.int (2 : Int32))]) rfl k) ?_
  refine own_go (g' := (mkF m 3 #[.val (.long q0), .second, .val (.ref o1), .val (.int (3 : Int32)), .val (.int (2 : Int32))] [])) (fun _ k => XS.goto X2.here hx rfl (pc0 := 31) (pc' := 3) rfl (hb hby d1_31) (by decide) (by decide) k) ?_
  refine own_go (g' := (mkF m 5 #[.val (.long q0), .second, .val (.ref o1), .val (.int (3 : Int32)), .val (.int (2 : Int32))] [(.int (2 : Int32))])) (fun _ k => XS.iload X2.here hx rfl (hb hby d1_3) rfl k) ?_
  refine own_go (g' := (mkF m 7 #[.val (.long q0), .second, .val (.ref o1), .val (.int (3 : Int32)), .val (.int (2 : Int32))] [(.int (8 : Int32)), (.int (2 : Int32))])) (fun _ k => XS.bipush X2.here hx rfl (hb hby d1_5) k) ?_
  refine own_go (g' := (mkF m 10 #[.val (.long q0), .second, .val (.ref o1), .val (.int (3 : Int32)), .val (.int (2 : Int32))] [])) (fun _ k => XS.icmpNo X2.here hx rfl (hb hby d1_7) rfl (tlt (by decide)).2.1 k) ?_
  refine own_go (g' := (mkF m 11 #[.val (.long q0), .second, .val (.ref o1), .val (.int (3 : Int32)), .val (.int (2 : Int32))] [(.ref o1)])) (fun _ k => XS.aloadN X2.here hx rfl (hb hby d1_10) rfl rfl k) ?_
  refine own_go (g' := (mkF m 12 #[.val (.long q0), .second, .val (.ref o1), .val (.int (3 : Int32)), .val (.int (2 : Int32))] [(.int (3 : Int32)), (.ref o1)])) (fun _ k => XS.iloadN X2.here hx rfl (hb hby d1_11) rfl k) ?_
  refine own_go (g' := (mkF m 14 #[.val (.long q0), .second, .val (.ref o1), .val (.int (3 : Int32)), .val (.int (2 : Int32))] [(.int (2 : Int32)), (.int (3 : Int32)), (.ref o1)])) (fun _ k => XS.iload X2.here hx rfl (hb hby d1_12) rfl k) ?_
  refine own_go (g' := (mkF m 15 #[.val (.long q0), .second, .val (.ref o1), .val (.int (3 : Int32)), .val (.int (2 : Int32))] [(.int (5 : Int32)), (.ref o1)])) (fun _ k => XS.iadd X2.here hx rfl (hb hby d1_14) rfl k) ?_
  refine own_go (g' := (mkF m 16 #[.val (.long q0), .second, .val (.ref o1), .val (.int (3 : Int32)), .val (.int (2 : Int32))] [(.long q0), (.int (5 : Int32)), (.ref o1)])) (fun _ k => XS.lloadN X2.here hx rfl (hb hby d1_15) rfl k) ?_
  refine own_go (g' := (mkF m 18 #[.val (.long q0), .second, .val (.ref o1), .val (.int (3 : Int32)), .val (.int (2 : Int32))] [(.int (8 : Int32)), (.long q0), (.int (5 : Int32)), (.ref o1)])) (fun _ k => XS.bipush X2.here hx rfl (hb hby d1_16) k) ?_
  refine own_go (g' := (mkF m 20 #[.val (.long q0), .second, .val (.ref o1), .val (.int (3 : Int32)), .val (.int (2 : Int32))] [(.int (7 : Int32)), (.int (8 : Int32)), (.long q0), (.int (5 : Int32)), (.ref o1)])) (fun _ k => XS.bipush X2.here hx rfl (hb hby d1_18) k) ?_
  refine own_go (g' := (mkF m 22 #[.val (.long q0), .second, .val (.ref o1), .val (.int (3 : Int32)), .val (.int (2 : Int32))] [(.int (2 : Int32)), (.int (7 : Int32)), (.int (8 : Int32)), (.long q0), (.int (5 : Int32)), (.ref o1)])) (fun _ k => XS.iload X2.here hx rfl (hb hby d1_20) rfl k) ?_
  refine own_go (g' := (mkF m 23 #[.val (.long q0), .second, .val (.ref o1), .val (.int (3 : Int32)), .val (.int (2 : Int32))] [(.int (5 : Int32)), (.int (8 : Int32)), (.long q0), (.int (5 : Int32)), (.ref o1)])) (fun _ k => XS.isub X2.here hx rfl (hb hby d1_22) rfl k) ?_
  refine own_go (g' := (mkF m 24 #[.val (.long q0), .second, .val (.ref o1), .val (.int (3 : Int32)), .val (.int (2 : Int32))] [(.int (40 : Int32)), (.long q0), (.int (5 : Int32)), (.ref o1)])) (fun _ k => XS.imul X2.here hx rfl (hb hby d1_23) rfl k) ?_
  refine own_go (g' := (mkF m 25 #[.val (.long q0), .second, .val (.ref o1), .val (.int (3 : Int32)), .val (.int (2 : Int32))] [(.long ((q0.toUInt64 >>> ((40 : Int32) &&& 0x3f).toInt64.toUInt64).toInt64)), (.int (5 : Int32)), (.ref o1)])) (fun _ k => XS.lushr X2.here hx rfl (hb hby d1_24) rfl k) ?_
  refine own_go (g' := (mkF m 26 #[.val (.long q0), .second, .val (.ref o1), .val (.int (3 : Int32)), .val (.int (2 : Int32))] [(.int (((q0.toUInt64 >>> ((40 : Int32) &&& 0x3f).toInt64.toUInt64).toInt64).toInt32)), (.int (5 : Int32)), (.ref o1)])) (fun _ k => XS.l2i X2.here hx rfl (hb hby d1_25) rfl k) ?_
  refine own_go (g' := (mkF m 27 #[.val (.long q0), .second, .val (.ref o1), .val (.int (3 : Int32)), .val (.int (2 : Int32))] [(.int ((((q0.toUInt64 >>> ((40 : Int32) &&& 0x3f).toInt64.toUInt64).toInt64).toInt32).toInt8.toInt32)), (.int (5 : Int32)), (.ref o1)])) (fun _ k => XS.i2b X2.here hx rfl (hb hby d1_26) rfl k) ?_
  suffices JNhz3 : ∀ z3 : Int32, z3 = own_wb q0 (40 : Int32) → own_Go p e below (own_Post s QQ 0 0) T2 (mkF m 27 #[.val (.long q0), .second, .val (.ref o1), .val (.int (3 : Int32)), .val (.int (2 : Int32))] [(.int z3), (.int (5 : Int32)), (.ref o1)]) from JNhz3 _ (rfl)
  intro z3 hz3
  obtain ⟨cl3, Ar3, qk3, sz3, nn3, Hs3, Gs3⟩ := id V2
  have hin3 : ¬ ((5 : Int32) < 0 ∨ cl3.slots.size ≤ ((5 : Int32)).toNatClampNeg) := inb_of sz3 ⟨by decide, by decide⟩
  obtain ⟨T3, h3, X3, e3, W3, st3⟩ := stB X2 hx hZ e2 Ar3 (j := (5 : Int32)) hin3 (g := (mkF m 27 #[.val (.long q0), .second, .val (.ref o1), .val (.int (3 : Int32)), .val (.int (2 : Int32))] [(.int z3), (.int (5 : Int32)), (.ref o1)])) rfl rfl (hb hby d1_27)
  have V3 : Arv Z h3 o1 kk .byte (12 : Int32) [(.int x0), (.int x1), (.int x2), (.int (z1).toInt8.toInt32), (.int (z2).toInt8.toInt32), (.int (z3).toInt8.toInt32), (.int x6), (.int x7), (.int x8), (.int x9), (.int x10), (.int x11)] (.int (0 : Int32)) := Arv.set Ar3 qk3 sz3 nn3 Hs3 Gs3 (fits_nar_byte _) W3 5 rfl (Nat.le_of_ble_eq_true rfl)
  have N3 := Fr.snoc X3 N2 g_o1
  have Z3 : n0 ≤ h3.size := by rw [W3.size]; exact Z2
  have K3 : Keep h0 h3 [o1] := K2.wr W3 (Or.inl (List.mem_of_getElem? (i := 0) rfl))
  refine own_go (g' := (mkF m 28 #[.val (.long q0), .second, .val (.ref o1), .val (.int (3 : Int32)), .val (.int (2 : Int32))] [])) (st3) ?_
  refine own_go (g' := (mkF m 31 #[.val (.long q0), .second, .val (.ref o1), .val (.int (3 : Int32)), .val (.int (3 : Int32))] [])) (fun _ k => XS.iinc X3.here hx rfl (hb hby d1_28) rfl (l' := #[.val (.long q0), .second, .val (.ref o1), .val (.int (3 : Int32)), .val (.int (3 : Int32))]) rfl k) ?_
  refine own_go (g' := (mkF m 3 #[.val (.long q0), .second, .val (.ref o1), .val (.int (3 : Int32)), .val (.int (3 : Int32))] [])) (fun _ k => XS.goto X3.here hx rfl (pc0 := 31) (pc' := 3) rfl (hb hby d1_31) (by decide) (by decide) k) ?_
  refine own_go (g' := (mkF m 5 #[.val (.long q0), .second, .val (.ref o1), .val (.int (3 : Int32)), .val (.int (3 : Int32))] [(.int (3 : Int32))])) (fun _ k => XS.iload X3.here hx rfl (hb hby d1_3) rfl k) ?_
  refine own_go (g' := (mkF m 7 #[.val (.long q0), .second, .val (.ref o1), .val (.int (3 : Int32)), .val (.int (3 : Int32))] [(.int (8 : Int32)), (.int (3 : Int32))])) (fun _ k => XS.bipush X3.here hx rfl (hb hby d1_5) k) ?_
  refine own_go (g' := (mkF m 10 #[.val (.long q0), .second, .val (.ref o1), .val (.int (3 : Int32)), .val (.int (3 : Int32))] [])) (fun _ k => XS.icmpNo X3.here hx rfl (hb hby d1_7) rfl (tlt (by decide)).2.1 k) ?_
  refine own_go (g' := (mkF m 11 #[.val (.long q0), .second, .val (.ref o1), .val (.int (3 : Int32)), .val (.int (3 : Int32))] [(.ref o1)])) (fun _ k => XS.aloadN X3.here hx rfl (hb hby d1_10) rfl rfl k) ?_
  refine own_go (g' := (mkF m 12 #[.val (.long q0), .second, .val (.ref o1), .val (.int (3 : Int32)), .val (.int (3 : Int32))] [(.int (3 : Int32)), (.ref o1)])) (fun _ k => XS.iloadN X3.here hx rfl (hb hby d1_11) rfl k) ?_
  refine own_go (g' := (mkF m 14 #[.val (.long q0), .second, .val (.ref o1), .val (.int (3 : Int32)), .val (.int (3 : Int32))] [(.int (3 : Int32)), (.int (3 : Int32)), (.ref o1)])) (fun _ k => XS.iload X3.here hx rfl (hb hby d1_12) rfl k) ?_
  refine own_go (g' := (mkF m 15 #[.val (.long q0), .second, .val (.ref o1), .val (.int (3 : Int32)), .val (.int (3 : Int32))] [(.int (6 : Int32)), (.ref o1)])) (fun _ k => XS.iadd X3.here hx rfl (hb hby d1_14) rfl k) ?_
  refine own_go (g' := (mkF m 16 #[.val (.long q0), .second, .val (.ref o1), .val (.int (3 : Int32)), .val (.int (3 : Int32))] [(.long q0), (.int (6 : Int32)), (.ref o1)])) (fun _ k => XS.lloadN X3.here hx rfl (hb hby d1_15) rfl k) ?_
  refine own_go (g' := (mkF m 18 #[.val (.long q0), .second, .val (.ref o1), .val (.int (3 : Int32)), .val (.int (3 : Int32))] [(.int (8 : Int32)), (.long q0), (.int (6 : Int32)), (.ref o1)])) (fun _ k => XS.bipush X3.here hx rfl (hb hby d1_16) k) ?_
  refine own_go (g' := (mkF m 20 #[.val (.long q0), .second, .val (.ref o1), .val (.int (3 : Int32)), .val (.int (3 : Int32))] [(.int (7 : Int32)), (.int (8 : Int32)), (.long q0), (.int (6 : Int32)), (.ref o1)])) (fun _ k => XS.bipush X3.here hx rfl (hb hby d1_18) k) ?_
  refine own_go (g' := (mkF m 22 #[.val (.long q0), .second, .val (.ref o1), .val (.int (3 : Int32)), .val (.int (3 : Int32))] [(.int (3 : Int32)), (.int (7 : Int32)), (.int (8 : Int32)), (.long q0), (.int (6 : Int32)), (.ref o1)])) (fun _ k => XS.iload X3.here hx rfl (hb hby d1_20) rfl k) ?_
  refine own_go (g' := (mkF m 23 #[.val (.long q0), .second, .val (.ref o1), .val (.int (3 : Int32)), .val (.int (3 : Int32))] [(.int (4 : Int32)), (.int (8 : Int32)), (.long q0), (.int (6 : Int32)), (.ref o1)])) (fun _ k => XS.isub X3.here hx rfl (hb hby d1_22) rfl k) ?_
  refine own_go (g' := (mkF m 24 #[.val (.long q0), .second, .val (.ref o1), .val (.int (3 : Int32)), .val (.int (3 : Int32))] [(.int (32 : Int32)), (.long q0), (.int (6 : Int32)), (.ref o1)])) (fun _ k => XS.imul X3.here hx rfl (hb hby d1_23) rfl k) ?_
  refine own_go (g' := (mkF m 25 #[.val (.long q0), .second, .val (.ref o1), .val (.int (3 : Int32)), .val (.int (3 : Int32))] [(.long ((q0.toUInt64 >>> ((32 : Int32) &&& 0x3f).toInt64.toUInt64).toInt64)), (.int (6 : Int32)), (.ref o1)])) (fun _ k => XS.lushr X3.here hx rfl (hb hby d1_24) rfl k) ?_
  refine own_go (g' := (mkF m 26 #[.val (.long q0), .second, .val (.ref o1), .val (.int (3 : Int32)), .val (.int (3 : Int32))] [(.int (((q0.toUInt64 >>> ((32 : Int32) &&& 0x3f).toInt64.toUInt64).toInt64).toInt32)), (.int (6 : Int32)), (.ref o1)])) (fun _ k => XS.l2i X3.here hx rfl (hb hby d1_25) rfl k) ?_
  refine own_go (g' := (mkF m 27 #[.val (.long q0), .second, .val (.ref o1), .val (.int (3 : Int32)), .val (.int (3 : Int32))] [(.int ((((q0.toUInt64 >>> ((32 : Int32) &&& 0x3f).toInt64.toUInt64).toInt64).toInt32).toInt8.toInt32)), (.int (6 : Int32)), (.ref o1)])) (fun _ k => XS.i2b X3.here hx rfl (hb hby d1_26) rfl k) ?_
  suffices JNhz4 : ∀ z4 : Int32, z4 = own_wb q0 (32 : Int32) → own_Go p e below (own_Post s QQ 0 0) T3 (mkF m 27 #[.val (.long q0), .second, .val (.ref o1), .val (.int (3 : Int32)), .val (.int (3 : Int32))] [(.int z4), (.int (6 : Int32)), (.ref o1)]) from JNhz4 _ (rfl)
  intro z4 hz4
  obtain ⟨cl4, Ar4, qk4, sz4, nn4, Hs4, Gs4⟩ := id V3
  have hin4 : ¬ ((6 : Int32) < 0 ∨ cl4.slots.size ≤ ((6 : Int32)).toNatClampNeg) := inb_of sz4 ⟨by decide, by decide⟩
  obtain ⟨T4, h4, X4, e4, W4, st4⟩ := stB X3 hx hZ e3 Ar4 (j := (6 : Int32)) hin4 (g := (mkF m 27 #[.val (.long q0), .second, .val (.ref o1), .val (.int (3 : Int32)), .val (.int (3 : Int32))] [(.int z4), (.int (6 : Int32)), (.ref o1)])) rfl rfl (hb hby d1_27)
  have V4 : Arv Z h4 o1 kk .byte (12 : Int32) [(.int x0), (.int x1), (.int x2), (.int (z1).toInt8.toInt32), (.int (z2).toInt8.toInt32), (.int (z3).toInt8.toInt32), (.int (z4).toInt8.toInt32), (.int x7), (.int x8), (.int x9), (.int x10), (.int x11)] (.int (0 : Int32)) := Arv.set Ar4 qk4 sz4 nn4 Hs4 Gs4 (fits_nar_byte _) W4 6 rfl (Nat.le_of_ble_eq_true rfl)
  have N4 := Fr.snoc X4 N3 g_o1
  have Z4 : n0 ≤ h4.size := by rw [W4.size]; exact Z3
  have K4 : Keep h0 h4 [o1] := K3.wr W4 (Or.inl (List.mem_of_getElem? (i := 0) rfl))
  refine own_go (g' := (mkF m 28 #[.val (.long q0), .second, .val (.ref o1), .val (.int (3 : Int32)), .val (.int (3 : Int32))] [])) (st4) ?_
  refine own_go (g' := (mkF m 31 #[.val (.long q0), .second, .val (.ref o1), .val (.int (3 : Int32)), .val (.int (4 : Int32))] [])) (fun _ k => XS.iinc X4.here hx rfl (hb hby d1_28) rfl (l' := #[.val (.long q0), .second, .val (.ref o1), .val (.int (3 : Int32)), .val (.int (4 : Int32))]) rfl k) ?_
  refine own_go (g' := (mkF m 3 #[.val (.long q0), .second, .val (.ref o1), .val (.int (3 : Int32)), .val (.int (4 : Int32))] [])) (fun _ k => XS.goto X4.here hx rfl (pc0 := 31) (pc' := 3) rfl (hb hby d1_31) (by decide) (by decide) k) ?_
  refine own_go (g' := (mkF m 5 #[.val (.long q0), .second, .val (.ref o1), .val (.int (3 : Int32)), .val (.int (4 : Int32))] [(.int (4 : Int32))])) (fun _ k => XS.iload X4.here hx rfl (hb hby d1_3) rfl k) ?_
  refine own_go (g' := (mkF m 7 #[.val (.long q0), .second, .val (.ref o1), .val (.int (3 : Int32)), .val (.int (4 : Int32))] [(.int (8 : Int32)), (.int (4 : Int32))])) (fun _ k => XS.bipush X4.here hx rfl (hb hby d1_5) k) ?_
  refine own_go (g' := (mkF m 10 #[.val (.long q0), .second, .val (.ref o1), .val (.int (3 : Int32)), .val (.int (4 : Int32))] [])) (fun _ k => XS.icmpNo X4.here hx rfl (hb hby d1_7) rfl (tlt (by decide)).2.1 k) ?_
  refine own_go (g' := (mkF m 11 #[.val (.long q0), .second, .val (.ref o1), .val (.int (3 : Int32)), .val (.int (4 : Int32))] [(.ref o1)])) (fun _ k => XS.aloadN X4.here hx rfl (hb hby d1_10) rfl rfl k) ?_
  refine own_go (g' := (mkF m 12 #[.val (.long q0), .second, .val (.ref o1), .val (.int (3 : Int32)), .val (.int (4 : Int32))] [(.int (3 : Int32)), (.ref o1)])) (fun _ k => XS.iloadN X4.here hx rfl (hb hby d1_11) rfl k) ?_
  refine own_go (g' := (mkF m 14 #[.val (.long q0), .second, .val (.ref o1), .val (.int (3 : Int32)), .val (.int (4 : Int32))] [(.int (4 : Int32)), (.int (3 : Int32)), (.ref o1)])) (fun _ k => XS.iload X4.here hx rfl (hb hby d1_12) rfl k) ?_
  refine own_go (g' := (mkF m 15 #[.val (.long q0), .second, .val (.ref o1), .val (.int (3 : Int32)), .val (.int (4 : Int32))] [(.int (7 : Int32)), (.ref o1)])) (fun _ k => XS.iadd X4.here hx rfl (hb hby d1_14) rfl k) ?_
  refine own_go (g' := (mkF m 16 #[.val (.long q0), .second, .val (.ref o1), .val (.int (3 : Int32)), .val (.int (4 : Int32))] [(.long q0), (.int (7 : Int32)), (.ref o1)])) (fun _ k => XS.lloadN X4.here hx rfl (hb hby d1_15) rfl k) ?_
  refine own_go (g' := (mkF m 18 #[.val (.long q0), .second, .val (.ref o1), .val (.int (3 : Int32)), .val (.int (4 : Int32))] [(.int (8 : Int32)), (.long q0), (.int (7 : Int32)), (.ref o1)])) (fun _ k => XS.bipush X4.here hx rfl (hb hby d1_16) k) ?_
  refine own_go (g' := (mkF m 20 #[.val (.long q0), .second, .val (.ref o1), .val (.int (3 : Int32)), .val (.int (4 : Int32))] [(.int (7 : Int32)), (.int (8 : Int32)), (.long q0), (.int (7 : Int32)), (.ref o1)])) (fun _ k => XS.bipush X4.here hx rfl (hb hby d1_18) k) ?_
  refine own_go (g' := (mkF m 22 #[.val (.long q0), .second, .val (.ref o1), .val (.int (3 : Int32)), .val (.int (4 : Int32))] [(.int (4 : Int32)), (.int (7 : Int32)), (.int (8 : Int32)), (.long q0), (.int (7 : Int32)), (.ref o1)])) (fun _ k => XS.iload X4.here hx rfl (hb hby d1_20) rfl k) ?_
  refine own_go (g' := (mkF m 23 #[.val (.long q0), .second, .val (.ref o1), .val (.int (3 : Int32)), .val (.int (4 : Int32))] [(.int (3 : Int32)), (.int (8 : Int32)), (.long q0), (.int (7 : Int32)), (.ref o1)])) (fun _ k => XS.isub X4.here hx rfl (hb hby d1_22) rfl k) ?_
  refine own_go (g' := (mkF m 24 #[.val (.long q0), .second, .val (.ref o1), .val (.int (3 : Int32)), .val (.int (4 : Int32))] [(.int (24 : Int32)), (.long q0), (.int (7 : Int32)), (.ref o1)])) (fun _ k => XS.imul X4.here hx rfl (hb hby d1_23) rfl k) ?_
  refine own_go (g' := (mkF m 25 #[.val (.long q0), .second, .val (.ref o1), .val (.int (3 : Int32)), .val (.int (4 : Int32))] [(.long ((q0.toUInt64 >>> ((24 : Int32) &&& 0x3f).toInt64.toUInt64).toInt64)), (.int (7 : Int32)), (.ref o1)])) (fun _ k => XS.lushr X4.here hx rfl (hb hby d1_24) rfl k) ?_
  refine own_go (g' := (mkF m 26 #[.val (.long q0), .second, .val (.ref o1), .val (.int (3 : Int32)), .val (.int (4 : Int32))] [(.int (((q0.toUInt64 >>> ((24 : Int32) &&& 0x3f).toInt64.toUInt64).toInt64).toInt32)), (.int (7 : Int32)), (.ref o1)])) (fun _ k => XS.l2i X4.here hx rfl (hb hby d1_25) rfl k) ?_
  refine own_go (g' := (mkF m 27 #[.val (.long q0), .second, .val (.ref o1), .val (.int (3 : Int32)), .val (.int (4 : Int32))] [(.int ((((q0.toUInt64 >>> ((24 : Int32) &&& 0x3f).toInt64.toUInt64).toInt64).toInt32).toInt8.toInt32)), (.int (7 : Int32)), (.ref o1)])) (fun _ k => XS.i2b X4.here hx rfl (hb hby d1_26) rfl k) ?_
  suffices JNhz5 : ∀ z5 : Int32, z5 = own_wb q0 (24 : Int32) → own_Go p e below (own_Post s QQ 0 0) T4 (mkF m 27 #[.val (.long q0), .second, .val (.ref o1), .val (.int (3 : Int32)), .val (.int (4 : Int32))] [(.int z5), (.int (7 : Int32)), (.ref o1)]) from JNhz5 _ (rfl)
  intro z5 hz5
  obtain ⟨cl5, Ar5, qk5, sz5, nn5, Hs5, Gs5⟩ := id V4
  have hin5 : ¬ ((7 : Int32) < 0 ∨ cl5.slots.size ≤ ((7 : Int32)).toNatClampNeg) := inb_of sz5 ⟨by decide, by decide⟩
  obtain ⟨T5, h5, X5, e5, W5, st5⟩ := stB X4 hx hZ e4 Ar5 (j := (7 : Int32)) hin5 (g := (mkF m 27 #[.val (.long q0), .second, .val (.ref o1), .val (.int (3 : Int32)), .val (.int (4 : Int32))] [(.int z5), (.int (7 : Int32)), (.ref o1)])) rfl rfl (hb hby d1_27)
  have V5 : Arv Z h5 o1 kk .byte (12 : Int32) [(.int x0), (.int x1), (.int x2), (.int (z1).toInt8.toInt32), (.int (z2).toInt8.toInt32), (.int (z3).toInt8.toInt32), (.int (z4).toInt8.toInt32), (.int (z5).toInt8.toInt32), (.int x8), (.int x9), (.int x10), (.int x11)] (.int (0 : Int32)) := Arv.set Ar5 qk5 sz5 nn5 Hs5 Gs5 (fits_nar_byte _) W5 7 rfl (Nat.le_of_ble_eq_true rfl)
  have N5 := Fr.snoc X5 N4 g_o1
  have Z5 : n0 ≤ h5.size := by rw [W5.size]; exact Z4
  have K5 : Keep h0 h5 [o1] := K4.wr W5 (Or.inl (List.mem_of_getElem? (i := 0) rfl))
  refine own_go (g' := (mkF m 28 #[.val (.long q0), .second, .val (.ref o1), .val (.int (3 : Int32)), .val (.int (4 : Int32))] [])) (st5) ?_
  refine own_go (g' := (mkF m 31 #[.val (.long q0), .second, .val (.ref o1), .val (.int (3 : Int32)), .val (.int (5 : Int32))] [])) (fun _ k => XS.iinc X5.here hx rfl (hb hby d1_28) rfl (l' := #[.val (.long q0), .second, .val (.ref o1), .val (.int (3 : Int32)), .val (.int (5 : Int32))]) rfl k) ?_
  refine own_go (g' := (mkF m 3 #[.val (.long q0), .second, .val (.ref o1), .val (.int (3 : Int32)), .val (.int (5 : Int32))] [])) (fun _ k => XS.goto X5.here hx rfl (pc0 := 31) (pc' := 3) rfl (hb hby d1_31) (by decide) (by decide) k) ?_
  refine own_go (g' := (mkF m 5 #[.val (.long q0), .second, .val (.ref o1), .val (.int (3 : Int32)), .val (.int (5 : Int32))] [(.int (5 : Int32))])) (fun _ k => XS.iload X5.here hx rfl (hb hby d1_3) rfl k) ?_
  refine own_go (g' := (mkF m 7 #[.val (.long q0), .second, .val (.ref o1), .val (.int (3 : Int32)), .val (.int (5 : Int32))] [(.int (8 : Int32)), (.int (5 : Int32))])) (fun _ k => XS.bipush X5.here hx rfl (hb hby d1_5) k) ?_
  refine own_go (g' := (mkF m 10 #[.val (.long q0), .second, .val (.ref o1), .val (.int (3 : Int32)), .val (.int (5 : Int32))] [])) (fun _ k => XS.icmpNo X5.here hx rfl (hb hby d1_7) rfl (tlt (by decide)).2.1 k) ?_
  refine own_go (g' := (mkF m 11 #[.val (.long q0), .second, .val (.ref o1), .val (.int (3 : Int32)), .val (.int (5 : Int32))] [(.ref o1)])) (fun _ k => XS.aloadN X5.here hx rfl (hb hby d1_10) rfl rfl k) ?_
  refine own_go (g' := (mkF m 12 #[.val (.long q0), .second, .val (.ref o1), .val (.int (3 : Int32)), .val (.int (5 : Int32))] [(.int (3 : Int32)), (.ref o1)])) (fun _ k => XS.iloadN X5.here hx rfl (hb hby d1_11) rfl k) ?_
  refine own_go (g' := (mkF m 14 #[.val (.long q0), .second, .val (.ref o1), .val (.int (3 : Int32)), .val (.int (5 : Int32))] [(.int (5 : Int32)), (.int (3 : Int32)), (.ref o1)])) (fun _ k => XS.iload X5.here hx rfl (hb hby d1_12) rfl k) ?_
  refine own_go (g' := (mkF m 15 #[.val (.long q0), .second, .val (.ref o1), .val (.int (3 : Int32)), .val (.int (5 : Int32))] [(.int (8 : Int32)), (.ref o1)])) (fun _ k => XS.iadd X5.here hx rfl (hb hby d1_14) rfl k) ?_
  refine own_go (g' := (mkF m 16 #[.val (.long q0), .second, .val (.ref o1), .val (.int (3 : Int32)), .val (.int (5 : Int32))] [(.long q0), (.int (8 : Int32)), (.ref o1)])) (fun _ k => XS.lloadN X5.here hx rfl (hb hby d1_15) rfl k) ?_
  refine own_go (g' := (mkF m 18 #[.val (.long q0), .second, .val (.ref o1), .val (.int (3 : Int32)), .val (.int (5 : Int32))] [(.int (8 : Int32)), (.long q0), (.int (8 : Int32)), (.ref o1)])) (fun _ k => XS.bipush X5.here hx rfl (hb hby d1_16) k) ?_
  refine own_go (g' := (mkF m 20 #[.val (.long q0), .second, .val (.ref o1), .val (.int (3 : Int32)), .val (.int (5 : Int32))] [(.int (7 : Int32)), (.int (8 : Int32)), (.long q0), (.int (8 : Int32)), (.ref o1)])) (fun _ k => XS.bipush X5.here hx rfl (hb hby d1_18) k) ?_
  refine own_go (g' := (mkF m 22 #[.val (.long q0), .second, .val (.ref o1), .val (.int (3 : Int32)), .val (.int (5 : Int32))] [(.int (5 : Int32)), (.int (7 : Int32)), (.int (8 : Int32)), (.long q0), (.int (8 : Int32)), (.ref o1)])) (fun _ k => XS.iload X5.here hx rfl (hb hby d1_20) rfl k) ?_
  refine own_go (g' := (mkF m 23 #[.val (.long q0), .second, .val (.ref o1), .val (.int (3 : Int32)), .val (.int (5 : Int32))] [(.int (2 : Int32)), (.int (8 : Int32)), (.long q0), (.int (8 : Int32)), (.ref o1)])) (fun _ k => XS.isub X5.here hx rfl (hb hby d1_22) rfl k) ?_
  refine own_go (g' := (mkF m 24 #[.val (.long q0), .second, .val (.ref o1), .val (.int (3 : Int32)), .val (.int (5 : Int32))] [(.int (16 : Int32)), (.long q0), (.int (8 : Int32)), (.ref o1)])) (fun _ k => XS.imul X5.here hx rfl (hb hby d1_23) rfl k) ?_
  refine own_go (g' := (mkF m 25 #[.val (.long q0), .second, .val (.ref o1), .val (.int (3 : Int32)), .val (.int (5 : Int32))] [(.long ((q0.toUInt64 >>> ((16 : Int32) &&& 0x3f).toInt64.toUInt64).toInt64)), (.int (8 : Int32)), (.ref o1)])) (fun _ k => XS.lushr X5.here hx rfl (hb hby d1_24) rfl k) ?_
  refine own_go (g' := (mkF m 26 #[.val (.long q0), .second, .val (.ref o1), .val (.int (3 : Int32)), .val (.int (5 : Int32))] [(.int (((q0.toUInt64 >>> ((16 : Int32) &&& 0x3f).toInt64.toUInt64).toInt64).toInt32)), (.int (8 : Int32)), (.ref o1)])) (fun _ k => XS.l2i X5.here hx rfl (hb hby d1_25) rfl k) ?_
  refine own_go (g' := (mkF m 27 #[.val (.long q0), .second, .val (.ref o1), .val (.int (3 : Int32)), .val (.int (5 : Int32))] [(.int ((((q0.toUInt64 >>> ((16 : Int32) &&& 0x3f).toInt64.toUInt64).toInt64).toInt32).toInt8.toInt32)), (.int (8 : Int32)), (.ref o1)])) (fun _ k => XS.i2b X5.here hx rfl (hb hby d1_26) rfl k) ?_
  suffices JNhz6 : ∀ z6 : Int32, z6 = own_wb q0 (16 : Int32) → own_Go p e below (own_Post s QQ 0 0) T5 (mkF m 27 #[.val (.long q0), .second, .val (.ref o1), .val (.int (3 : Int32)), .val (.int (5 : Int32))] [(.int z6), (.int (8 : Int32)), (.ref o1)]) from JNhz6 _ (rfl)
  intro z6 hz6
  obtain ⟨cl6, Ar6, qk6, sz6, nn6, Hs6, Gs6⟩ := id V5
  have hin6 : ¬ ((8 : Int32) < 0 ∨ cl6.slots.size ≤ ((8 : Int32)).toNatClampNeg) := inb_of sz6 ⟨by decide, by decide⟩
  obtain ⟨T6, h6, X6, e6, W6, st6⟩ := stB X5 hx hZ e5 Ar6 (j := (8 : Int32)) hin6 (g := (mkF m 27 #[.val (.long q0), .second, .val (.ref o1), .val (.int (3 : Int32)), .val (.int (5 : Int32))] [(.int z6), (.int (8 : Int32)), (.ref o1)])) rfl rfl (hb hby d1_27)
  have V6 : Arv Z h6 o1 kk .byte (12 : Int32) [(.int x0), (.int x1), (.int x2), (.int (z1).toInt8.toInt32), (.int (z2).toInt8.toInt32), (.int (z3).toInt8.toInt32), (.int (z4).toInt8.toInt32), (.int (z5).toInt8.toInt32), (.int (z6).toInt8.toInt32), (.int x9), (.int x10), (.int x11)] (.int (0 : Int32)) := Arv.set Ar6 qk6 sz6 nn6 Hs6 Gs6 (fits_nar_byte _) W6 8 rfl (Nat.le_of_ble_eq_true rfl)
  have N6 := Fr.snoc X6 N5 g_o1
  have Z6 : n0 ≤ h6.size := by rw [W6.size]; exact Z5
  have K6 : Keep h0 h6 [o1] := K5.wr W6 (Or.inl (List.mem_of_getElem? (i := 0) rfl))
  refine own_go (g' := (mkF m 28 #[.val (.long q0), .second, .val (.ref o1), .val (.int (3 : Int32)), .val (.int (5 : Int32))] [])) (st6) ?_
  refine own_go (g' := (mkF m 31 #[.val (.long q0), .second, .val (.ref o1), .val (.int (3 : Int32)), .val (.int (6 : Int32))] [])) (fun _ k => XS.iinc X6.here hx rfl (hb hby d1_28) rfl (l' := #[.val (.long q0), .second, .val (.ref o1), .val (.int (3 : Int32)), .val (.int (6 : Int32))]) rfl k) ?_
  refine own_go (g' := (mkF m 3 #[.val (.long q0), .second, .val (.ref o1), .val (.int (3 : Int32)), .val (.int (6 : Int32))] [])) (fun _ k => XS.goto X6.here hx rfl (pc0 := 31) (pc' := 3) rfl (hb hby d1_31) (by decide) (by decide) k) ?_
  refine own_go (g' := (mkF m 5 #[.val (.long q0), .second, .val (.ref o1), .val (.int (3 : Int32)), .val (.int (6 : Int32))] [(.int (6 : Int32))])) (fun _ k => XS.iload X6.here hx rfl (hb hby d1_3) rfl k) ?_
  refine own_go (g' := (mkF m 7 #[.val (.long q0), .second, .val (.ref o1), .val (.int (3 : Int32)), .val (.int (6 : Int32))] [(.int (8 : Int32)), (.int (6 : Int32))])) (fun _ k => XS.bipush X6.here hx rfl (hb hby d1_5) k) ?_
  refine own_go (g' := (mkF m 10 #[.val (.long q0), .second, .val (.ref o1), .val (.int (3 : Int32)), .val (.int (6 : Int32))] [])) (fun _ k => XS.icmpNo X6.here hx rfl (hb hby d1_7) rfl (tlt (by decide)).2.1 k) ?_
  refine own_go (g' := (mkF m 11 #[.val (.long q0), .second, .val (.ref o1), .val (.int (3 : Int32)), .val (.int (6 : Int32))] [(.ref o1)])) (fun _ k => XS.aloadN X6.here hx rfl (hb hby d1_10) rfl rfl k) ?_
  refine own_go (g' := (mkF m 12 #[.val (.long q0), .second, .val (.ref o1), .val (.int (3 : Int32)), .val (.int (6 : Int32))] [(.int (3 : Int32)), (.ref o1)])) (fun _ k => XS.iloadN X6.here hx rfl (hb hby d1_11) rfl k) ?_
  refine own_go (g' := (mkF m 14 #[.val (.long q0), .second, .val (.ref o1), .val (.int (3 : Int32)), .val (.int (6 : Int32))] [(.int (6 : Int32)), (.int (3 : Int32)), (.ref o1)])) (fun _ k => XS.iload X6.here hx rfl (hb hby d1_12) rfl k) ?_
  refine own_go (g' := (mkF m 15 #[.val (.long q0), .second, .val (.ref o1), .val (.int (3 : Int32)), .val (.int (6 : Int32))] [(.int (9 : Int32)), (.ref o1)])) (fun _ k => XS.iadd X6.here hx rfl (hb hby d1_14) rfl k) ?_
  refine own_go (g' := (mkF m 16 #[.val (.long q0), .second, .val (.ref o1), .val (.int (3 : Int32)), .val (.int (6 : Int32))] [(.long q0), (.int (9 : Int32)), (.ref o1)])) (fun _ k => XS.lloadN X6.here hx rfl (hb hby d1_15) rfl k) ?_
  refine own_go (g' := (mkF m 18 #[.val (.long q0), .second, .val (.ref o1), .val (.int (3 : Int32)), .val (.int (6 : Int32))] [(.int (8 : Int32)), (.long q0), (.int (9 : Int32)), (.ref o1)])) (fun _ k => XS.bipush X6.here hx rfl (hb hby d1_16) k) ?_
  refine own_go (g' := (mkF m 20 #[.val (.long q0), .second, .val (.ref o1), .val (.int (3 : Int32)), .val (.int (6 : Int32))] [(.int (7 : Int32)), (.int (8 : Int32)), (.long q0), (.int (9 : Int32)), (.ref o1)])) (fun _ k => XS.bipush X6.here hx rfl (hb hby d1_18) k) ?_
  refine own_go (g' := (mkF m 22 #[.val (.long q0), .second, .val (.ref o1), .val (.int (3 : Int32)), .val (.int (6 : Int32))] [(.int (6 : Int32)), (.int (7 : Int32)), (.int (8 : Int32)), (.long q0), (.int (9 : Int32)), (.ref o1)])) (fun _ k => XS.iload X6.here hx rfl (hb hby d1_20) rfl k) ?_
  refine own_go (g' := (mkF m 23 #[.val (.long q0), .second, .val (.ref o1), .val (.int (3 : Int32)), .val (.int (6 : Int32))] [(.int (1 : Int32)), (.int (8 : Int32)), (.long q0), (.int (9 : Int32)), (.ref o1)])) (fun _ k => XS.isub X6.here hx rfl (hb hby d1_22) rfl k) ?_
  refine own_go (g' := (mkF m 24 #[.val (.long q0), .second, .val (.ref o1), .val (.int (3 : Int32)), .val (.int (6 : Int32))] [(.int (8 : Int32)), (.long q0), (.int (9 : Int32)), (.ref o1)])) (fun _ k => XS.imul X6.here hx rfl (hb hby d1_23) rfl k) ?_
  refine own_go (g' := (mkF m 25 #[.val (.long q0), .second, .val (.ref o1), .val (.int (3 : Int32)), .val (.int (6 : Int32))] [(.long ((q0.toUInt64 >>> ((8 : Int32) &&& 0x3f).toInt64.toUInt64).toInt64)), (.int (9 : Int32)), (.ref o1)])) (fun _ k => XS.lushr X6.here hx rfl (hb hby d1_24) rfl k) ?_
  refine own_go (g' := (mkF m 26 #[.val (.long q0), .second, .val (.ref o1), .val (.int (3 : Int32)), .val (.int (6 : Int32))] [(.int (((q0.toUInt64 >>> ((8 : Int32) &&& 0x3f).toInt64.toUInt64).toInt64).toInt32)), (.int (9 : Int32)), (.ref o1)])) (fun _ k => XS.l2i X6.here hx rfl (hb hby d1_25) rfl k) ?_
  refine own_go (g' := (mkF m 27 #[.val (.long q0), .second, .val (.ref o1), .val (.int (3 : Int32)), .val (.int (6 : Int32))] [(.int ((((q0.toUInt64 >>> ((8 : Int32) &&& 0x3f).toInt64.toUInt64).toInt64).toInt32).toInt8.toInt32)), (.int (9 : Int32)), (.ref o1)])) (fun _ k => XS.i2b X6.here hx rfl (hb hby d1_26) rfl k) ?_
  suffices JNhz7 : ∀ z7 : Int32, z7 = own_wb q0 (8 : Int32) → own_Go p e below (own_Post s QQ 0 0) T6 (mkF m 27 #[.val (.long q0), .second, .val (.ref o1), .val (.int (3 : Int32)), .val (.int (6 : Int32))] [(.int z7), (.int (9 : Int32)), (.ref o1)]) from JNhz7 _ (rfl)
  intro z7 hz7
  obtain ⟨cl7, Ar7, qk7, sz7, nn7, Hs7, Gs7⟩ := id V6
  have hin7 : ¬ ((9 : Int32) < 0 ∨ cl7.slots.size ≤ ((9 : Int32)).toNatClampNeg) := inb_of sz7 ⟨by decide, by decide⟩
  obtain ⟨T7, h7, X7, e7, W7, st7⟩ := stB X6 hx hZ e6 Ar7 (j := (9 : Int32)) hin7 (g := (mkF m 27 #[.val (.long q0), .second, .val (.ref o1), .val (.int (3 : Int32)), .val (.int (6 : Int32))] [(.int z7), (.int (9 : Int32)), (.ref o1)])) rfl rfl (hb hby d1_27)
  have V7 : Arv Z h7 o1 kk .byte (12 : Int32) [(.int x0), (.int x1), (.int x2), (.int (z1).toInt8.toInt32), (.int (z2).toInt8.toInt32), (.int (z3).toInt8.toInt32), (.int (z4).toInt8.toInt32), (.int (z5).toInt8.toInt32), (.int (z6).toInt8.toInt32), (.int (z7).toInt8.toInt32), (.int x10), (.int x11)] (.int (0 : Int32)) := Arv.set Ar7 qk7 sz7 nn7 Hs7 Gs7 (fits_nar_byte _) W7 9 rfl (Nat.le_of_ble_eq_true rfl)
  have N7 := Fr.snoc X7 N6 g_o1
  have Z7 : n0 ≤ h7.size := by rw [W7.size]; exact Z6
  have K7 : Keep h0 h7 [o1] := K6.wr W7 (Or.inl (List.mem_of_getElem? (i := 0) rfl))
  refine own_go (g' := (mkF m 28 #[.val (.long q0), .second, .val (.ref o1), .val (.int (3 : Int32)), .val (.int (6 : Int32))] [])) (st7) ?_
  refine own_go (g' := (mkF m 31 #[.val (.long q0), .second, .val (.ref o1), .val (.int (3 : Int32)), .val (.int (7 : Int32))] [])) (fun _ k => XS.iinc X7.here hx rfl (hb hby d1_28) rfl (l' := #[.val (.long q0), .second, .val (.ref o1), .val (.int (3 : Int32)), .val (.int (7 : Int32))]) rfl k) ?_
  refine own_go (g' := (mkF m 3 #[.val (.long q0), .second, .val (.ref o1), .val (.int (3 : Int32)), .val (.int (7 : Int32))] [])) (fun _ k => XS.goto X7.here hx rfl (pc0 := 31) (pc' := 3) rfl (hb hby d1_31) (by decide) (by decide) k) ?_
  refine own_go (g' := (mkF m 5 #[.val (.long q0), .second, .val (.ref o1), .val (.int (3 : Int32)), .val (.int (7 : Int32))] [(.int (7 : Int32))])) (fun _ k => XS.iload X7.here hx rfl (hb hby d1_3) rfl k) ?_
  refine own_go (g' := (mkF m 7 #[.val (.long q0), .second, .val (.ref o1), .val (.int (3 : Int32)), .val (.int (7 : Int32))] [(.int (8 : Int32)), (.int (7 : Int32))])) (fun _ k => XS.bipush X7.here hx rfl (hb hby d1_5) k) ?_
  refine own_go (g' := (mkF m 10 #[.val (.long q0), .second, .val (.ref o1), .val (.int (3 : Int32)), .val (.int (7 : Int32))] [])) (fun _ k => XS.icmpNo X7.here hx rfl (hb hby d1_7) rfl (tlt (by decide)).2.1 k) ?_
  refine own_go (g' := (mkF m 11 #[.val (.long q0), .second, .val (.ref o1), .val (.int (3 : Int32)), .val (.int (7 : Int32))] [(.ref o1)])) (fun _ k => XS.aloadN X7.here hx rfl (hb hby d1_10) rfl rfl k) ?_
  refine own_go (g' := (mkF m 12 #[.val (.long q0), .second, .val (.ref o1), .val (.int (3 : Int32)), .val (.int (7 : Int32))] [(.int (3 : Int32)), (.ref o1)])) (fun _ k => XS.iloadN X7.here hx rfl (hb hby d1_11) rfl k) ?_
  refine own_go (g' := (mkF m 14 #[.val (.long q0), .second, .val (.ref o1), .val (.int (3 : Int32)), .val (.int (7 : Int32))] [(.int (7 : Int32)), (.int (3 : Int32)), (.ref o1)])) (fun _ k => XS.iload X7.here hx rfl (hb hby d1_12) rfl k) ?_
  refine own_go (g' := (mkF m 15 #[.val (.long q0), .second, .val (.ref o1), .val (.int (3 : Int32)), .val (.int (7 : Int32))] [(.int (10 : Int32)), (.ref o1)])) (fun _ k => XS.iadd X7.here hx rfl (hb hby d1_14) rfl k) ?_
  refine own_go (g' := (mkF m 16 #[.val (.long q0), .second, .val (.ref o1), .val (.int (3 : Int32)), .val (.int (7 : Int32))] [(.long q0), (.int (10 : Int32)), (.ref o1)])) (fun _ k => XS.lloadN X7.here hx rfl (hb hby d1_15) rfl k) ?_
  refine own_go (g' := (mkF m 18 #[.val (.long q0), .second, .val (.ref o1), .val (.int (3 : Int32)), .val (.int (7 : Int32))] [(.int (8 : Int32)), (.long q0), (.int (10 : Int32)), (.ref o1)])) (fun _ k => XS.bipush X7.here hx rfl (hb hby d1_16) k) ?_
  refine own_go (g' := (mkF m 20 #[.val (.long q0), .second, .val (.ref o1), .val (.int (3 : Int32)), .val (.int (7 : Int32))] [(.int (7 : Int32)), (.int (8 : Int32)), (.long q0), (.int (10 : Int32)), (.ref o1)])) (fun _ k => XS.bipush X7.here hx rfl (hb hby d1_18) k) ?_
  refine own_go (g' := (mkF m 22 #[.val (.long q0), .second, .val (.ref o1), .val (.int (3 : Int32)), .val (.int (7 : Int32))] [(.int (7 : Int32)), (.int (7 : Int32)), (.int (8 : Int32)), (.long q0), (.int (10 : Int32)), (.ref o1)])) (fun _ k => XS.iload X7.here hx rfl (hb hby d1_20) rfl k) ?_
  refine own_go (g' := (mkF m 23 #[.val (.long q0), .second, .val (.ref o1), .val (.int (3 : Int32)), .val (.int (7 : Int32))] [(.int (0 : Int32)), (.int (8 : Int32)), (.long q0), (.int (10 : Int32)), (.ref o1)])) (fun _ k => XS.isub X7.here hx rfl (hb hby d1_22) rfl k) ?_
  refine own_go (g' := (mkF m 24 #[.val (.long q0), .second, .val (.ref o1), .val (.int (3 : Int32)), .val (.int (7 : Int32))] [(.int (0 : Int32)), (.long q0), (.int (10 : Int32)), (.ref o1)])) (fun _ k => XS.imul X7.here hx rfl (hb hby d1_23) rfl k) ?_
  refine own_go (g' := (mkF m 25 #[.val (.long q0), .second, .val (.ref o1), .val (.int (3 : Int32)), .val (.int (7 : Int32))] [(.long ((q0.toUInt64 >>> ((0 : Int32) &&& 0x3f).toInt64.toUInt64).toInt64)), (.int (10 : Int32)), (.ref o1)])) (fun _ k => XS.lushr X7.here hx rfl (hb hby d1_24) rfl k) ?_
  refine own_go (g' := (mkF m 26 #[.val (.long q0), .second, .val (.ref o1), .val (.int (3 : Int32)), .val (.int (7 : Int32))] [(.int (((q0.toUInt64 >>> ((0 : Int32) &&& 0x3f).toInt64.toUInt64).toInt64).toInt32)), (.int (10 : Int32)), (.ref o1)])) (fun _ k => XS.l2i X7.here hx rfl (hb hby d1_25) rfl k) ?_
  refine own_go (g' := (mkF m 27 #[.val (.long q0), .second, .val (.ref o1), .val (.int (3 : Int32)), .val (.int (7 : Int32))] [(.int ((((q0.toUInt64 >>> ((0 : Int32) &&& 0x3f).toInt64.toUInt64).toInt64).toInt32).toInt8.toInt32)), (.int (10 : Int32)), (.ref o1)])) (fun _ k => XS.i2b X7.here hx rfl (hb hby d1_26) rfl k) ?_
  suffices JNhz8 : ∀ z8 : Int32, z8 = own_wb q0 (0 : Int32) → own_Go p e below (own_Post s QQ 0 0) T7 (mkF m 27 #[.val (.long q0), .second, .val (.ref o1), .val (.int (3 : Int32)), .val (.int (7 : Int32))] [(.int z8), (.int (10 : Int32)), (.ref o1)]) from JNhz8 _ (rfl)
  intro z8 hz8
  obtain ⟨cl8, Ar8, qk8, sz8, nn8, Hs8, Gs8⟩ := id V7
  have hin8 : ¬ ((10 : Int32) < 0 ∨ cl8.slots.size ≤ ((10 : Int32)).toNatClampNeg) := inb_of sz8 ⟨by decide, by decide⟩
  obtain ⟨T8, h8, X8, e8, W8, st8⟩ := stB X7 hx hZ e7 Ar8 (j := (10 : Int32)) hin8 (g := (mkF m 27 #[.val (.long q0), .second, .val (.ref o1), .val (.int (3 : Int32)), .val (.int (7 : Int32))] [(.int z8), (.int (10 : Int32)), (.ref o1)])) rfl rfl (hb hby d1_27)
  have V8 : Arv Z h8 o1 kk .byte (12 : Int32) [(.int x0), (.int x1), (.int x2), (.int (z1).toInt8.toInt32), (.int (z2).toInt8.toInt32), (.int (z3).toInt8.toInt32), (.int (z4).toInt8.toInt32), (.int (z5).toInt8.toInt32), (.int (z6).toInt8.toInt32), (.int (z7).toInt8.toInt32), (.int (z8).toInt8.toInt32), (.int x11)] (.int (0 : Int32)) := Arv.set Ar8 qk8 sz8 nn8 Hs8 Gs8 (fits_nar_byte _) W8 10 rfl (Nat.le_of_ble_eq_true rfl)
  have N8 := Fr.snoc X8 N7 g_o1
  have Z8 : n0 ≤ h8.size := by rw [W8.size]; exact Z7
  have K8 : Keep h0 h8 [o1] := K7.wr W8 (Or.inl (List.mem_of_getElem? (i := 0) rfl))
  refine own_go (g' := (mkF m 28 #[.val (.long q0), .second, .val (.ref o1), .val (.int (3 : Int32)), .val (.int (7 : Int32))] [])) (st8) ?_
  refine own_go (g' := (mkF m 31 #[.val (.long q0), .second, .val (.ref o1), .val (.int (3 : Int32)), .val (.int (8 : Int32))] [])) (fun _ k => XS.iinc X8.here hx rfl (hb hby d1_28) rfl (l' := #[.val (.long q0), .second, .val (.ref o1), .val (.int (3 : Int32)), .val (.int (8 : Int32))]) rfl k) ?_
  refine own_go (g' := (mkF m 3 #[.val (.long q0), .second, .val (.ref o1), .val (.int (3 : Int32)), .val (.int (8 : Int32))] [])) (fun _ k => XS.goto X8.here hx rfl (pc0 := 31) (pc' := 3) rfl (hb hby d1_31) (by decide) (by decide) k) ?_
  refine own_go (g' := (mkF m 5 #[.val (.long q0), .second, .val (.ref o1), .val (.int (3 : Int32)), .val (.int (8 : Int32))] [(.int (8 : Int32))])) (fun _ k => XS.iload X8.here hx rfl (hb hby d1_3) rfl k) ?_
  refine own_go (g' := (mkF m 7 #[.val (.long q0), .second, .val (.ref o1), .val (.int (3 : Int32)), .val (.int (8 : Int32))] [(.int (8 : Int32)), (.int (8 : Int32))])) (fun _ k => XS.bipush X8.here hx rfl (hb hby d1_5) k) ?_
  refine own_go (g' := (mkF m 34 #[.val (.long q0), .second, .val (.ref o1), .val (.int (3 : Int32)), .val (.int (8 : Int32))] [])) (fun _ k => XS.icmpYes X8.here hx rfl (pc0 := 7) (pc' := 34) rfl (hb hby d1_7) rfl (flt (by decide)).2.1 (by decide) (by decide) k) ?_
  refine own_retV X8 hx Bd.returns Bd.notSynchronized (hb hby d1_34) (by decide) (by decide) ?_
  show QQ _ T8.heap _
  rw [e8]
  subst hz8 hz7 hz6 hz5 hz4 hz3 hz2 hz1
  rw [← hQQ]
  exact ⟨rfl, N8, K8, V8⟩
theorem d3_0 : decode method_3_code 0 = .ok (.iload_n 2, 1) := by decide +kernel
theorem d3_1 : decode method_3_code 1 = .ok (.ifCond .ne 10, 3) := by decide +kernel
theorem d3_4 : decode method_3_code 4 = .ok (.lload_n 0, 1) := by decide +kernel
theorem d3_5 : decode method_3_code 5 = .ok (.bipush 56, 2) := by decide +kernel
theorem d3_7 : decode method_3_code 7 = .ok (.lshr, 1) := by decide +kernel
theorem d3_8 : decode method_3_code 8 = .ok (.l2i, 1) := by decide +kernel
theorem d3_9 : decode method_3_code 9 = .ok (.i2b, 1) := by decide +kernel
theorem d3_10 : decode method_3_code 10 = .ok (.ireturn, 1) := by decide +kernel
theorem d3_11 : decode method_3_code 11 = .ok (.iload_n 2, 1) := by decide +kernel
theorem d3_12 : decode method_3_code 12 = .ok (.iconst 1, 1) := by decide +kernel
theorem d3_13 : decode method_3_code 13 = .ok (.if_icmp .ne 10, 3) := by decide +kernel
theorem d3_16 : decode method_3_code 16 = .ok (.lload_n 0, 1) := by decide +kernel
theorem d3_17 : decode method_3_code 17 = .ok (.bipush 48, 2) := by decide +kernel
theorem d3_19 : decode method_3_code 19 = .ok (.lshr, 1) := by decide +kernel
theorem d3_20 : decode method_3_code 20 = .ok (.l2i, 1) := by decide +kernel
theorem d3_21 : decode method_3_code 21 = .ok (.i2b, 1) := by decide +kernel
theorem d3_22 : decode method_3_code 22 = .ok (.ireturn, 1) := by decide +kernel
theorem d3_23 : decode method_3_code 23 = .ok (.iload_n 2, 1) := by decide +kernel
theorem d3_24 : decode method_3_code 24 = .ok (.iconst 2, 1) := by decide +kernel
theorem d3_25 : decode method_3_code 25 = .ok (.if_icmp .ne 10, 3) := by decide +kernel
theorem d3_28 : decode method_3_code 28 = .ok (.lload_n 0, 1) := by decide +kernel
theorem d3_29 : decode method_3_code 29 = .ok (.bipush 40, 2) := by decide +kernel
theorem d3_31 : decode method_3_code 31 = .ok (.lshr, 1) := by decide +kernel
theorem d3_32 : decode method_3_code 32 = .ok (.l2i, 1) := by decide +kernel
theorem d3_33 : decode method_3_code 33 = .ok (.i2b, 1) := by decide +kernel
theorem d3_34 : decode method_3_code 34 = .ok (.ireturn, 1) := by decide +kernel
theorem d3_35 : decode method_3_code 35 = .ok (.iload_n 2, 1) := by decide +kernel
theorem d3_36 : decode method_3_code 36 = .ok (.iconst 3, 1) := by decide +kernel
theorem d3_37 : decode method_3_code 37 = .ok (.if_icmp .ne 10, 3) := by decide +kernel
theorem d3_40 : decode method_3_code 40 = .ok (.lload_n 0, 1) := by decide +kernel
theorem d3_41 : decode method_3_code 41 = .ok (.bipush 32, 2) := by decide +kernel
theorem d3_43 : decode method_3_code 43 = .ok (.lshr, 1) := by decide +kernel
theorem d3_44 : decode method_3_code 44 = .ok (.l2i, 1) := by decide +kernel
theorem d3_45 : decode method_3_code 45 = .ok (.i2b, 1) := by decide +kernel
theorem d3_46 : decode method_3_code 46 = .ok (.ireturn, 1) := by decide +kernel
theorem d3_47 : decode method_3_code 47 = .ok (.iload_n 2, 1) := by decide +kernel
theorem d3_48 : decode method_3_code 48 = .ok (.iconst 4, 1) := by decide +kernel
theorem d3_49 : decode method_3_code 49 = .ok (.if_icmp .ne 10, 3) := by decide +kernel
theorem d3_52 : decode method_3_code 52 = .ok (.lload_n 0, 1) := by decide +kernel
theorem d3_53 : decode method_3_code 53 = .ok (.bipush 24, 2) := by decide +kernel
theorem d3_55 : decode method_3_code 55 = .ok (.lshr, 1) := by decide +kernel
theorem d3_56 : decode method_3_code 56 = .ok (.l2i, 1) := by decide +kernel
theorem d3_57 : decode method_3_code 57 = .ok (.i2b, 1) := by decide +kernel
theorem d3_58 : decode method_3_code 58 = .ok (.ireturn, 1) := by decide +kernel
theorem d3_59 : decode method_3_code 59 = .ok (.iload_n 2, 1) := by decide +kernel
theorem d3_60 : decode method_3_code 60 = .ok (.iconst 5, 1) := by decide +kernel
theorem d3_61 : decode method_3_code 61 = .ok (.if_icmp .ne 10, 3) := by decide +kernel
theorem d3_64 : decode method_3_code 64 = .ok (.lload_n 0, 1) := by decide +kernel
theorem d3_65 : decode method_3_code 65 = .ok (.bipush 16, 2) := by decide +kernel
theorem d3_67 : decode method_3_code 67 = .ok (.lshr, 1) := by decide +kernel
theorem d3_68 : decode method_3_code 68 = .ok (.l2i, 1) := by decide +kernel
theorem d3_69 : decode method_3_code 69 = .ok (.i2b, 1) := by decide +kernel
theorem d3_70 : decode method_3_code 70 = .ok (.ireturn, 1) := by decide +kernel
theorem d3_71 : decode method_3_code 71 = .ok (.iload_n 2, 1) := by decide +kernel
theorem d3_72 : decode method_3_code 72 = .ok (.bipush 6, 2) := by decide +kernel
theorem d3_74 : decode method_3_code 74 = .ok (.if_icmp .ne 10, 3) := by decide +kernel
theorem d3_77 : decode method_3_code 77 = .ok (.lload_n 0, 1) := by decide +kernel
theorem d3_78 : decode method_3_code 78 = .ok (.bipush 8, 2) := by decide +kernel
theorem d3_80 : decode method_3_code 80 = .ok (.lshr, 1) := by decide +kernel
theorem d3_81 : decode method_3_code 81 = .ok (.l2i, 1) := by decide +kernel
theorem d3_82 : decode method_3_code 82 = .ok (.i2b, 1) := by decide +kernel
theorem d3_83 : decode method_3_code 83 = .ok (.ireturn, 1) := by decide +kernel
theorem d3_84 : decode method_3_code 84 = .ok (.lload_n 0, 1) := by decide +kernel
theorem d3_85 : decode method_3_code 85 = .ok (.l2i, 1) := by decide +kernel
theorem d3_86 : decode method_3_code 86 = .ok (.i2b, 1) := by decide +kernel
theorem d3_87 : decode method_3_code 87 = .ok (.ireturn, 1) := by decide +kernel
theorem pn_rm3 : plainName "com/example/table_salt/tablesalt/layout/Int64WritePinLaw" = true := by first | (simp [plainName, overriddenIn]; done) | decide +kernel
theorem ef_rm3 (m : MethodId) (q0 : Int64) (p1 : Int32) : entryFrame m #[(.long q0), (.int p1)] 3 = mkF m 0 #[.val (.long q0), .second, .val (.int p1)] [] := by first | (simp [entryFrame, mkF, argsToLocals, Value.category]; done) | rfl
set_option maxRecDepth 65536 in
set_option maxHeartbeats 40000000 in
theorem rm3 (l : Launch) (Z : State) (a0 : Array Value) (hw : ∀ d ∈ tables_1, d.before a0 Z = true) (q0 : Int64) (p1 : Int32)  (h0 : Heap) :
    own_Met l Z (⟨"com/example/table_salt/tablesalt/layout/Int64WritePinLaw", "expected", "(JI)B"⟩ : MethodName) method_3_code 3 (some .byte) [] ({ frames := 0, cells := 0, slots := 0, locals := 0 } : Room) #[(.long q0), (.int p1)] h0 0 0 (fun v h L => v = some (.int (own_exp q0 p1)) ∧ h = h0 ∧ L = []) := by
  refine own_met (plainFor_of_name pn_rm3) ?_
  intro p e s m below meth c s₁ Bd hml0 hZ X0 e0
  have hx := Bd.exec
  have hby := Bd.bytes
  have hml : c.maxLocals = 3 := hml0
  have hown : s.vm.findClass "com/example/table_salt/tablesalt/layout/Int64WritePinLaw" = some m.cls := findClass_of_methodNamed Bd.named
  have hnm := (name_of_methodNamed Bd.named Bd.method).1
  refine own_cast (ef_rm3 m q0 p1) ?_
  generalize hQQ : (fun (v : Option Value) (h : Heap) (L : List Loc) => v = some (.int (own_exp q0 p1)) ∧ h = h0 ∧ L = []) = QQ
  refine own_go (g' := (mkF m 1 #[.val (.long q0), .second, .val (.int p1)] [(.int p1)])) (fun _ k => XS.iloadN X0.here hx rfl (hb hby d3_0) rfl k) ?_
  by_cases hc1 : p1 = (0 : Int32)
  ·
    refine own_go (g' := (mkF m 4 #[.val (.long q0), .second, .val (.int p1)] [])) (fun _ k => XS.ifNo X0.here hx rfl (hb hby d3_1) rfl ((if0 _ _).trans (teq hc1).2) k) ?_
    refine own_go (g' := (mkF m 5 #[.val (.long q0), .second, .val (.int p1)] [(.long q0)])) (fun _ k => XS.lloadN X0.here hx rfl (hb hby d3_4) rfl k) ?_
    refine own_go (g' := (mkF m 7 #[.val (.long q0), .second, .val (.int p1)] [(.int (56 : Int32)), (.long q0)])) (fun _ k => XS.bipush X0.here hx rfl (hb hby d3_5) k) ?_
    refine own_go (g' := (mkF m 8 #[.val (.long q0), .second, .val (.int p1)] [(.long (q0 >>> ((56 : Int32) &&& 0x3f).toInt64))])) (fun _ k => XS.lshr X0.here hx rfl (hb hby d3_7) rfl k) ?_
    refine own_go (g' := (mkF m 9 #[.val (.long q0), .second, .val (.int p1)] [(.int ((q0 >>> ((56 : Int32) &&& 0x3f).toInt64).toInt32))])) (fun _ k => XS.l2i X0.here hx rfl (hb hby d3_8) rfl k) ?_
    refine own_go (g' := (mkF m 10 #[.val (.long q0), .second, .val (.int p1)] [(.int (((q0 >>> ((56 : Int32) &&& 0x3f).toInt64).toInt32).toInt8.toInt32))])) (fun _ k => XS.i2b X0.here hx rfl (hb hby d3_9) rfl k) ?_
    refine own_retN X0 hx .byte Bd.returns Bd.notSynchronized (by simp) (hb hby d3_10) (by decide) (by decide) ?_
    show QQ _ s₁.heap _
    rw [e0]
    have hv : own_exp q0 p1 = ((((q0 >>> ((56 : Int32) &&& 0x3f).toInt64).toInt32).toInt8.toInt32)).toInt8.toInt32 := by simp only [own_exp, if_pos hc1, if_true, if_false]; first | done | rfl
    rw [← hQQ]
    exact ⟨by rw [hv]; rfl, rfl, rfl⟩
  ·
    refine own_go (g' := (mkF m 11 #[.val (.long q0), .second, .val (.int p1)] [])) (fun _ k => XS.ifYes X0.here hx rfl (pc0 := 1) (pc' := 11) rfl (hb hby d3_1) rfl ((if0 _ _).trans (feq hc1).2) (by decide) (by decide) k) ?_
    refine own_go (g' := (mkF m 12 #[.val (.long q0), .second, .val (.int p1)] [(.int p1)])) (fun _ k => XS.iloadN X0.here hx rfl (hb hby d3_11) rfl k) ?_
    refine own_go (g' := (mkF m 13 #[.val (.long q0), .second, .val (.int p1)] [(.int (1 : Int32)), (.int p1)])) (fun _ k => XS.iconst X0.here hx rfl (hb hby d3_12) k) ?_
    by_cases hc2 : p1 = (1 : Int32)
    ·
      refine own_go (g' := (mkF m 16 #[.val (.long q0), .second, .val (.int p1)] [])) (fun _ k => XS.icmpNo X0.here hx rfl (hb hby d3_13) rfl (teq hc2).2 k) ?_
      refine own_go (g' := (mkF m 17 #[.val (.long q0), .second, .val (.int p1)] [(.long q0)])) (fun _ k => XS.lloadN X0.here hx rfl (hb hby d3_16) rfl k) ?_
      refine own_go (g' := (mkF m 19 #[.val (.long q0), .second, .val (.int p1)] [(.int (48 : Int32)), (.long q0)])) (fun _ k => XS.bipush X0.here hx rfl (hb hby d3_17) k) ?_
      refine own_go (g' := (mkF m 20 #[.val (.long q0), .second, .val (.int p1)] [(.long (q0 >>> ((48 : Int32) &&& 0x3f).toInt64))])) (fun _ k => XS.lshr X0.here hx rfl (hb hby d3_19) rfl k) ?_
      refine own_go (g' := (mkF m 21 #[.val (.long q0), .second, .val (.int p1)] [(.int ((q0 >>> ((48 : Int32) &&& 0x3f).toInt64).toInt32))])) (fun _ k => XS.l2i X0.here hx rfl (hb hby d3_20) rfl k) ?_
      refine own_go (g' := (mkF m 22 #[.val (.long q0), .second, .val (.int p1)] [(.int (((q0 >>> ((48 : Int32) &&& 0x3f).toInt64).toInt32).toInt8.toInt32))])) (fun _ k => XS.i2b X0.here hx rfl (hb hby d3_21) rfl k) ?_
      refine own_retN X0 hx .byte Bd.returns Bd.notSynchronized (by simp) (hb hby d3_22) (by decide) (by decide) ?_
      show QQ _ s₁.heap _
      rw [e0]
      have hv : own_exp q0 p1 = ((((q0 >>> ((48 : Int32) &&& 0x3f).toInt64).toInt32).toInt8.toInt32)).toInt8.toInt32 := by simp only [own_exp, if_neg hc1, if_pos hc2, if_true, if_false]; first | done | rfl
      rw [← hQQ]
      exact ⟨by rw [hv]; rfl, rfl, rfl⟩
    ·
      refine own_go (g' := (mkF m 23 #[.val (.long q0), .second, .val (.int p1)] [])) (fun _ k => XS.icmpYes X0.here hx rfl (pc0 := 13) (pc' := 23) rfl (hb hby d3_13) rfl (feq hc2).2 (by decide) (by decide) k) ?_
      refine own_go (g' := (mkF m 24 #[.val (.long q0), .second, .val (.int p1)] [(.int p1)])) (fun _ k => XS.iloadN X0.here hx rfl (hb hby d3_23) rfl k) ?_
      refine own_go (g' := (mkF m 25 #[.val (.long q0), .second, .val (.int p1)] [(.int (2 : Int32)), (.int p1)])) (fun _ k => XS.iconst X0.here hx rfl (hb hby d3_24) k) ?_
      by_cases hc3 : p1 = (2 : Int32)
      ·
        refine own_go (g' := (mkF m 28 #[.val (.long q0), .second, .val (.int p1)] [])) (fun _ k => XS.icmpNo X0.here hx rfl (hb hby d3_25) rfl (teq hc3).2 k) ?_
        refine own_go (g' := (mkF m 29 #[.val (.long q0), .second, .val (.int p1)] [(.long q0)])) (fun _ k => XS.lloadN X0.here hx rfl (hb hby d3_28) rfl k) ?_
        refine own_go (g' := (mkF m 31 #[.val (.long q0), .second, .val (.int p1)] [(.int (40 : Int32)), (.long q0)])) (fun _ k => XS.bipush X0.here hx rfl (hb hby d3_29) k) ?_
        refine own_go (g' := (mkF m 32 #[.val (.long q0), .second, .val (.int p1)] [(.long (q0 >>> ((40 : Int32) &&& 0x3f).toInt64))])) (fun _ k => XS.lshr X0.here hx rfl (hb hby d3_31) rfl k) ?_
        refine own_go (g' := (mkF m 33 #[.val (.long q0), .second, .val (.int p1)] [(.int ((q0 >>> ((40 : Int32) &&& 0x3f).toInt64).toInt32))])) (fun _ k => XS.l2i X0.here hx rfl (hb hby d3_32) rfl k) ?_
        refine own_go (g' := (mkF m 34 #[.val (.long q0), .second, .val (.int p1)] [(.int (((q0 >>> ((40 : Int32) &&& 0x3f).toInt64).toInt32).toInt8.toInt32))])) (fun _ k => XS.i2b X0.here hx rfl (hb hby d3_33) rfl k) ?_
        refine own_retN X0 hx .byte Bd.returns Bd.notSynchronized (by simp) (hb hby d3_34) (by decide) (by decide) ?_
        show QQ _ s₁.heap _
        rw [e0]
        have hv : own_exp q0 p1 = ((((q0 >>> ((40 : Int32) &&& 0x3f).toInt64).toInt32).toInt8.toInt32)).toInt8.toInt32 := by simp only [own_exp, if_neg hc1, if_neg hc2, if_pos hc3, if_true, if_false]; first | done | rfl
        rw [← hQQ]
        exact ⟨by rw [hv]; rfl, rfl, rfl⟩
      ·
        refine own_go (g' := (mkF m 35 #[.val (.long q0), .second, .val (.int p1)] [])) (fun _ k => XS.icmpYes X0.here hx rfl (pc0 := 25) (pc' := 35) rfl (hb hby d3_25) rfl (feq hc3).2 (by decide) (by decide) k) ?_
        refine own_go (g' := (mkF m 36 #[.val (.long q0), .second, .val (.int p1)] [(.int p1)])) (fun _ k => XS.iloadN X0.here hx rfl (hb hby d3_35) rfl k) ?_
        refine own_go (g' := (mkF m 37 #[.val (.long q0), .second, .val (.int p1)] [(.int (3 : Int32)), (.int p1)])) (fun _ k => XS.iconst X0.here hx rfl (hb hby d3_36) k) ?_
        by_cases hc4 : p1 = (3 : Int32)
        ·
          refine own_go (g' := (mkF m 40 #[.val (.long q0), .second, .val (.int p1)] [])) (fun _ k => XS.icmpNo X0.here hx rfl (hb hby d3_37) rfl (teq hc4).2 k) ?_
          refine own_go (g' := (mkF m 41 #[.val (.long q0), .second, .val (.int p1)] [(.long q0)])) (fun _ k => XS.lloadN X0.here hx rfl (hb hby d3_40) rfl k) ?_
          refine own_go (g' := (mkF m 43 #[.val (.long q0), .second, .val (.int p1)] [(.int (32 : Int32)), (.long q0)])) (fun _ k => XS.bipush X0.here hx rfl (hb hby d3_41) k) ?_
          refine own_go (g' := (mkF m 44 #[.val (.long q0), .second, .val (.int p1)] [(.long (q0 >>> ((32 : Int32) &&& 0x3f).toInt64))])) (fun _ k => XS.lshr X0.here hx rfl (hb hby d3_43) rfl k) ?_
          refine own_go (g' := (mkF m 45 #[.val (.long q0), .second, .val (.int p1)] [(.int ((q0 >>> ((32 : Int32) &&& 0x3f).toInt64).toInt32))])) (fun _ k => XS.l2i X0.here hx rfl (hb hby d3_44) rfl k) ?_
          refine own_go (g' := (mkF m 46 #[.val (.long q0), .second, .val (.int p1)] [(.int (((q0 >>> ((32 : Int32) &&& 0x3f).toInt64).toInt32).toInt8.toInt32))])) (fun _ k => XS.i2b X0.here hx rfl (hb hby d3_45) rfl k) ?_
          refine own_retN X0 hx .byte Bd.returns Bd.notSynchronized (by simp) (hb hby d3_46) (by decide) (by decide) ?_
          show QQ _ s₁.heap _
          rw [e0]
          have hv : own_exp q0 p1 = ((((q0 >>> ((32 : Int32) &&& 0x3f).toInt64).toInt32).toInt8.toInt32)).toInt8.toInt32 := by simp only [own_exp, if_neg hc1, if_neg hc2, if_neg hc3, if_pos hc4, if_true, if_false]; first | done | rfl
          rw [← hQQ]
          exact ⟨by rw [hv]; rfl, rfl, rfl⟩
        ·
          refine own_go (g' := (mkF m 47 #[.val (.long q0), .second, .val (.int p1)] [])) (fun _ k => XS.icmpYes X0.here hx rfl (pc0 := 37) (pc' := 47) rfl (hb hby d3_37) rfl (feq hc4).2 (by decide) (by decide) k) ?_
          refine own_go (g' := (mkF m 48 #[.val (.long q0), .second, .val (.int p1)] [(.int p1)])) (fun _ k => XS.iloadN X0.here hx rfl (hb hby d3_47) rfl k) ?_
          refine own_go (g' := (mkF m 49 #[.val (.long q0), .second, .val (.int p1)] [(.int (4 : Int32)), (.int p1)])) (fun _ k => XS.iconst X0.here hx rfl (hb hby d3_48) k) ?_
          by_cases hc5 : p1 = (4 : Int32)
          ·
            refine own_go (g' := (mkF m 52 #[.val (.long q0), .second, .val (.int p1)] [])) (fun _ k => XS.icmpNo X0.here hx rfl (hb hby d3_49) rfl (teq hc5).2 k) ?_
            refine own_go (g' := (mkF m 53 #[.val (.long q0), .second, .val (.int p1)] [(.long q0)])) (fun _ k => XS.lloadN X0.here hx rfl (hb hby d3_52) rfl k) ?_
            refine own_go (g' := (mkF m 55 #[.val (.long q0), .second, .val (.int p1)] [(.int (24 : Int32)), (.long q0)])) (fun _ k => XS.bipush X0.here hx rfl (hb hby d3_53) k) ?_
            refine own_go (g' := (mkF m 56 #[.val (.long q0), .second, .val (.int p1)] [(.long (q0 >>> ((24 : Int32) &&& 0x3f).toInt64))])) (fun _ k => XS.lshr X0.here hx rfl (hb hby d3_55) rfl k) ?_
            refine own_go (g' := (mkF m 57 #[.val (.long q0), .second, .val (.int p1)] [(.int ((q0 >>> ((24 : Int32) &&& 0x3f).toInt64).toInt32))])) (fun _ k => XS.l2i X0.here hx rfl (hb hby d3_56) rfl k) ?_
            refine own_go (g' := (mkF m 58 #[.val (.long q0), .second, .val (.int p1)] [(.int (((q0 >>> ((24 : Int32) &&& 0x3f).toInt64).toInt32).toInt8.toInt32))])) (fun _ k => XS.i2b X0.here hx rfl (hb hby d3_57) rfl k) ?_
            refine own_retN X0 hx .byte Bd.returns Bd.notSynchronized (by simp) (hb hby d3_58) (by decide) (by decide) ?_
            show QQ _ s₁.heap _
            rw [e0]
            have hv : own_exp q0 p1 = ((((q0 >>> ((24 : Int32) &&& 0x3f).toInt64).toInt32).toInt8.toInt32)).toInt8.toInt32 := by simp only [own_exp, if_neg hc1, if_neg hc2, if_neg hc3, if_neg hc4, if_pos hc5, if_true, if_false]; first | done | rfl
            rw [← hQQ]
            exact ⟨by rw [hv]; rfl, rfl, rfl⟩
          ·
            refine own_go (g' := (mkF m 59 #[.val (.long q0), .second, .val (.int p1)] [])) (fun _ k => XS.icmpYes X0.here hx rfl (pc0 := 49) (pc' := 59) rfl (hb hby d3_49) rfl (feq hc5).2 (by decide) (by decide) k) ?_
            refine own_go (g' := (mkF m 60 #[.val (.long q0), .second, .val (.int p1)] [(.int p1)])) (fun _ k => XS.iloadN X0.here hx rfl (hb hby d3_59) rfl k) ?_
            refine own_go (g' := (mkF m 61 #[.val (.long q0), .second, .val (.int p1)] [(.int (5 : Int32)), (.int p1)])) (fun _ k => XS.iconst X0.here hx rfl (hb hby d3_60) k) ?_
            by_cases hc6 : p1 = (5 : Int32)
            ·
              refine own_go (g' := (mkF m 64 #[.val (.long q0), .second, .val (.int p1)] [])) (fun _ k => XS.icmpNo X0.here hx rfl (hb hby d3_61) rfl (teq hc6).2 k) ?_
              refine own_go (g' := (mkF m 65 #[.val (.long q0), .second, .val (.int p1)] [(.long q0)])) (fun _ k => XS.lloadN X0.here hx rfl (hb hby d3_64) rfl k) ?_
              refine own_go (g' := (mkF m 67 #[.val (.long q0), .second, .val (.int p1)] [(.int (16 : Int32)), (.long q0)])) (fun _ k => XS.bipush X0.here hx rfl (hb hby d3_65) k) ?_
              refine own_go (g' := (mkF m 68 #[.val (.long q0), .second, .val (.int p1)] [(.long (q0 >>> ((16 : Int32) &&& 0x3f).toInt64))])) (fun _ k => XS.lshr X0.here hx rfl (hb hby d3_67) rfl k) ?_
              refine own_go (g' := (mkF m 69 #[.val (.long q0), .second, .val (.int p1)] [(.int ((q0 >>> ((16 : Int32) &&& 0x3f).toInt64).toInt32))])) (fun _ k => XS.l2i X0.here hx rfl (hb hby d3_68) rfl k) ?_
              refine own_go (g' := (mkF m 70 #[.val (.long q0), .second, .val (.int p1)] [(.int (((q0 >>> ((16 : Int32) &&& 0x3f).toInt64).toInt32).toInt8.toInt32))])) (fun _ k => XS.i2b X0.here hx rfl (hb hby d3_69) rfl k) ?_
              refine own_retN X0 hx .byte Bd.returns Bd.notSynchronized (by simp) (hb hby d3_70) (by decide) (by decide) ?_
              show QQ _ s₁.heap _
              rw [e0]
              have hv : own_exp q0 p1 = ((((q0 >>> ((16 : Int32) &&& 0x3f).toInt64).toInt32).toInt8.toInt32)).toInt8.toInt32 := by simp only [own_exp, if_neg hc1, if_neg hc2, if_neg hc3, if_neg hc4, if_neg hc5, if_pos hc6, if_true, if_false]; first | done | rfl
              rw [← hQQ]
              exact ⟨by rw [hv]; rfl, rfl, rfl⟩
            ·
              refine own_go (g' := (mkF m 71 #[.val (.long q0), .second, .val (.int p1)] [])) (fun _ k => XS.icmpYes X0.here hx rfl (pc0 := 61) (pc' := 71) rfl (hb hby d3_61) rfl (feq hc6).2 (by decide) (by decide) k) ?_
              refine own_go (g' := (mkF m 72 #[.val (.long q0), .second, .val (.int p1)] [(.int p1)])) (fun _ k => XS.iloadN X0.here hx rfl (hb hby d3_71) rfl k) ?_
              refine own_go (g' := (mkF m 74 #[.val (.long q0), .second, .val (.int p1)] [(.int (6 : Int32)), (.int p1)])) (fun _ k => XS.bipush X0.here hx rfl (hb hby d3_72) k) ?_
              by_cases hc7 : p1 = (6 : Int32)
              ·
                refine own_go (g' := (mkF m 77 #[.val (.long q0), .second, .val (.int p1)] [])) (fun _ k => XS.icmpNo X0.here hx rfl (hb hby d3_74) rfl (teq hc7).2 k) ?_
                refine own_go (g' := (mkF m 78 #[.val (.long q0), .second, .val (.int p1)] [(.long q0)])) (fun _ k => XS.lloadN X0.here hx rfl (hb hby d3_77) rfl k) ?_
                refine own_go (g' := (mkF m 80 #[.val (.long q0), .second, .val (.int p1)] [(.int (8 : Int32)), (.long q0)])) (fun _ k => XS.bipush X0.here hx rfl (hb hby d3_78) k) ?_
                refine own_go (g' := (mkF m 81 #[.val (.long q0), .second, .val (.int p1)] [(.long (q0 >>> ((8 : Int32) &&& 0x3f).toInt64))])) (fun _ k => XS.lshr X0.here hx rfl (hb hby d3_80) rfl k) ?_
                refine own_go (g' := (mkF m 82 #[.val (.long q0), .second, .val (.int p1)] [(.int ((q0 >>> ((8 : Int32) &&& 0x3f).toInt64).toInt32))])) (fun _ k => XS.l2i X0.here hx rfl (hb hby d3_81) rfl k) ?_
                refine own_go (g' := (mkF m 83 #[.val (.long q0), .second, .val (.int p1)] [(.int (((q0 >>> ((8 : Int32) &&& 0x3f).toInt64).toInt32).toInt8.toInt32))])) (fun _ k => XS.i2b X0.here hx rfl (hb hby d3_82) rfl k) ?_
                refine own_retN X0 hx .byte Bd.returns Bd.notSynchronized (by simp) (hb hby d3_83) (by decide) (by decide) ?_
                show QQ _ s₁.heap _
                rw [e0]
                have hv : own_exp q0 p1 = ((((q0 >>> ((8 : Int32) &&& 0x3f).toInt64).toInt32).toInt8.toInt32)).toInt8.toInt32 := by simp only [own_exp, if_neg hc1, if_neg hc2, if_neg hc3, if_neg hc4, if_neg hc5, if_neg hc6, if_pos hc7, if_true, if_false]; first | done | rfl
                rw [← hQQ]
                exact ⟨by rw [hv]; rfl, rfl, rfl⟩
              ·
                refine own_go (g' := (mkF m 84 #[.val (.long q0), .second, .val (.int p1)] [])) (fun _ k => XS.icmpYes X0.here hx rfl (pc0 := 74) (pc' := 84) rfl (hb hby d3_74) rfl (feq hc7).2 (by decide) (by decide) k) ?_
                refine own_go (g' := (mkF m 85 #[.val (.long q0), .second, .val (.int p1)] [(.long q0)])) (fun _ k => XS.lloadN X0.here hx rfl (hb hby d3_84) rfl k) ?_
                refine own_go (g' := (mkF m 86 #[.val (.long q0), .second, .val (.int p1)] [(.int (q0.toInt32))])) (fun _ k => XS.l2i X0.here hx rfl (hb hby d3_85) rfl k) ?_
                refine own_go (g' := (mkF m 87 #[.val (.long q0), .second, .val (.int p1)] [(.int ((q0.toInt32).toInt8.toInt32))])) (fun _ k => XS.i2b X0.here hx rfl (hb hby d3_86) rfl k) ?_
                refine own_retN X0 hx .byte Bd.returns Bd.notSynchronized (by simp) (hb hby d3_87) (by decide) (by decide) ?_
                show QQ _ s₁.heap _
                rw [e0]
                have hv : own_exp q0 p1 = (((q0.toInt32).toInt8.toInt32)).toInt8.toInt32 := by simp only [own_exp, if_neg hc1, if_neg hc2, if_neg hc3, if_neg hc4, if_neg hc5, if_neg hc6, if_neg hc7, if_true, if_false]; first | done | rfl
                rw [← hQQ]
                exact ⟨by rw [hv]; rfl, rfl, rfl⟩
theorem d2_0 : decode method_4_code 0 = .ok (.iload_n 1, 1) := by decide +kernel
theorem d2_1 : decode method_4_code 1 = .ok (.iload_n 2, 1) := by decide +kernel
theorem d2_2 : decode method_4_code 2 = .ok (.if_icmp .lt 11, 3) := by decide +kernel
theorem d2_5 : decode method_4_code 5 = .ok (.iload_n 1, 1) := by decide +kernel
theorem d2_6 : decode method_4_code 6 = .ok (.iload_n 2, 1) := by decide +kernel
theorem d2_7 : decode method_4_code 7 = .ok (.bipush 8, 2) := by decide +kernel
theorem d2_9 : decode method_4_code 9 = .ok (.iadd, 1) := by decide +kernel
theorem d2_10 : decode method_4_code 10 = .ok (.if_icmp .lt 17, 3) := by decide +kernel
theorem d2_13 : decode method_4_code 13 = .ok (.aload_n 0, 1) := by decide +kernel
theorem d2_14 : decode method_4_code 14 = .ok (.iload_n 1, 1) := by decide +kernel
theorem d2_15 : decode method_4_code 15 = .ok (.baload, 1) := by decide +kernel
theorem d2_16 : decode method_4_code 16 = .ok (.iload 5, 2) := by decide +kernel
theorem d2_18 : decode method_4_code 18 = .ok (.if_icmp .ne 7, 3) := by decide +kernel
theorem d2_21 : decode method_4_code 21 = .ok (.iconst 1, 1) := by decide +kernel
theorem d2_22 : decode method_4_code 22 = .ok (.goto 4, 3) := by decide +kernel
theorem d2_26 : decode method_4_code 26 = .ok (.ireturn, 1) := by decide +kernel
theorem pn_ok_o : plainName "com/example/table_salt/tablesalt/layout/Int64WritePinLaw" = true := by first | (simp [plainName, overriddenIn]; done) | decide +kernel
theorem ef_ok_o (m : MethodId) (o0 : Addr) (p1 : Int32) (p2 : Int32) (q3 : Int64) (p4 : Int32) : entryFrame m #[(.ref o0), (.int p1), (.int p2), (.long q3), (.int p4)] 6 = mkF m 0 #[.val (.ref o0), .val (.int p1), .val (.int p2), .val (.long q3), .second, .val (.int p4)] [] := by first | (simp [entryFrame, mkF, argsToLocals, Value.category]; done) | rfl
set_option maxRecDepth 65536 in
set_option maxHeartbeats 40000000 in
theorem ok_o (l : Launch) (Z : State) (a0 : Array Value) (hw : ∀ d ∈ tables_1, d.before a0 Z = true) (o0 : Addr) (p1 : Int32) (p2 : Int32) (q3 : Int64) (p4 : Int32) (vs : List Value) (kk : ClassId) (xv : Int32) (h0 : Heap) (P0 : Arv Z h0 o0 kk .byte (12 : Int32) vs (.int (0 : Int32))) (hin : ¬ p1 < 0 ∧ p1 < (12 : Int32)) (hat : vs.getD p1.toNatClampNeg (.int (0 : Int32)) = .int xv) (hcond : p1 < p2 ∨ ¬ p1 < p2 + (8 : Int32)) (hxv : xv = p4) :
    own_Met l Z (⟨"com/example/table_salt/tablesalt/layout/Int64WritePinLaw", "ok", "([BIIJB)Z"⟩ : MethodName) method_4_code 6 (some .boolean) [] ({ frames := 0, cells := 0, slots := 0, locals := 0 } : Room) #[(.ref o0), (.int p1), (.int p2), (.long q3), (.int p4)] h0 0 0 (fun v h L => v = some (.int (1 : Int32)) ∧ h = h0 ∧ L = []) := by
  refine own_met (plainFor_of_name pn_ok_o) ?_
  intro p e s m below meth c s₁ Bd hml0 hZ X0 e0
  have hx := Bd.exec
  have hby := Bd.bytes
  have hml : c.maxLocals = 6 := hml0
  have hown : s.vm.findClass "com/example/table_salt/tablesalt/layout/Int64WritePinLaw" = some m.cls := findClass_of_methodNamed Bd.named
  have hnm := (name_of_methodNamed Bd.named Bd.method).1
  refine own_cast (ef_ok_o m o0 p1 p2 q3 p4) ?_
  generalize hQQ : (fun (v : Option Value) (h : Heap) (L : List Loc) => v = some (.int (1 : Int32)) ∧ h = h0 ∧ L = []) = QQ
  refine own_go (g' := (mkF m 1 #[.val (.ref o0), .val (.int p1), .val (.int p2), .val (.long q3), .second, .val (.int p4)] [(.int p1)])) (fun _ k => XS.iloadN X0.here hx rfl (hb hby d2_0) rfl k) ?_
  refine own_go (g' := (mkF m 2 #[.val (.ref o0), .val (.int p1), .val (.int p2), .val (.long q3), .second, .val (.int p4)] [(.int p2), (.int p1)])) (fun _ k => XS.iloadN X0.here hx rfl (hb hby d2_1) rfl k) ?_
  by_cases hc1 : p1 < p2
  ·
    refine own_go (g' := (mkF m 13 #[.val (.ref o0), .val (.int p1), .val (.int p2), .val (.long q3), .second, .val (.int p4)] [])) (fun _ k => XS.icmpYes X0.here hx rfl (pc0 := 2) (pc' := 13) rfl (hb hby d2_2) rfl (tlt hc1).1 (by decide) (by decide) k) ?_
    refine own_go (g' := (mkF m 14 #[.val (.ref o0), .val (.int p1), .val (.int p2), .val (.long q3), .second, .val (.int p4)] [(.ref o0)])) (fun _ k => XS.aloadN X0.here hx rfl (hb hby d2_13) rfl rfl k) ?_
    refine own_go (g' := (mkF m 15 #[.val (.ref o0), .val (.int p1), .val (.int p2), .val (.long q3), .second, .val (.int p4)] [(.int p1), (.ref o0)])) (fun _ k => XS.iloadN X0.here hx rfl (hb hby d2_14) rfl k) ?_
    obtain ⟨cl2, Ar2, qk2, sz2, nn2, Hs2, Gs2⟩ := id P0
    have hin2 : ¬ (p1 < 0 ∨ cl2.slots.size ≤ (p1).toNatClampNeg) := inb_of sz2 hin
    have hat2 : cl2.slots[(p1).toNatClampNeg]? = some (.int xv) := Has.at Hs2 hin2 hat
    refine own_go (g' := (mkF m 16 #[.val (.ref o0), .val (.int p1), .val (.int p2), .val (.long q3), .second, .val (.int p4)] [(.int xv)])) (X0.baloadBytes hx (j := p1) (v := (.int xv)) (by rw [e0]; exact Ar2.1) (State.isArrayOf_alike hZ.alike Ar2.2.1) Ar2.2.2 hin2 hat2 (g := (mkF m 15 #[.val (.ref o0), .val (.int p1), .val (.int p2), .val (.long q3), .second, .val (.int p4)] [(.int p1), (.ref o0)])) rfl rfl (hb hby d2_15)) ?_
    refine own_go (g' := (mkF m 18 #[.val (.ref o0), .val (.int p1), .val (.int p2), .val (.long q3), .second, .val (.int p4)] [(.int p4), (.int xv)])) (fun _ k => XS.iload X0.here hx rfl (hb hby d2_16) rfl k) ?_
    refine own_go (g' := (mkF m 21 #[.val (.ref o0), .val (.int p1), .val (.int p2), .val (.long q3), .second, .val (.int p4)] [])) (fun _ k => XS.icmpNo X0.here hx rfl (hb hby d2_18) rfl (teq hxv).2 k) ?_
    refine own_go (g' := (mkF m 22 #[.val (.ref o0), .val (.int p1), .val (.int p2), .val (.long q3), .second, .val (.int p4)] [(.int (1 : Int32))])) (fun _ k => XS.iconst X0.here hx rfl (hb hby d2_21) k) ?_
    refine own_go (g' := (mkF m 26 #[.val (.ref o0), .val (.int p1), .val (.int p2), .val (.long q3), .second, .val (.int p4)] [(.int (1 : Int32))])) (fun _ k => XS.goto X0.here hx rfl (pc0 := 22) (pc' := 26) rfl (hb hby d2_22) (by decide) (by decide) k) ?_
    refine own_retN X0 hx .boolean Bd.returns Bd.notSynchronized (by simp) (hb hby d2_26) (by decide) (by decide) ?_
    show QQ _ s₁.heap _
    rw [e0]
    rw [← hQQ]
    exact ⟨rfl, rfl, rfl⟩
  ·
    refine own_go (g' := (mkF m 5 #[.val (.ref o0), .val (.int p1), .val (.int p2), .val (.long q3), .second, .val (.int p4)] [])) (fun _ k => XS.icmpNo X0.here hx rfl (hb hby d2_2) rfl (flt hc1).1 k) ?_
    refine own_go (g' := (mkF m 6 #[.val (.ref o0), .val (.int p1), .val (.int p2), .val (.long q3), .second, .val (.int p4)] [(.int p1)])) (fun _ k => XS.iloadN X0.here hx rfl (hb hby d2_5) rfl k) ?_
    refine own_go (g' := (mkF m 7 #[.val (.ref o0), .val (.int p1), .val (.int p2), .val (.long q3), .second, .val (.int p4)] [(.int p2), (.int p1)])) (fun _ k => XS.iloadN X0.here hx rfl (hb hby d2_6) rfl k) ?_
    refine own_go (g' := (mkF m 9 #[.val (.ref o0), .val (.int p1), .val (.int p2), .val (.long q3), .second, .val (.int p4)] [(.int (8 : Int32)), (.int p2), (.int p1)])) (fun _ k => XS.bipush X0.here hx rfl (hb hby d2_7) k) ?_
    refine own_go (g' := (mkF m 10 #[.val (.ref o0), .val (.int p1), .val (.int p2), .val (.long q3), .second, .val (.int p4)] [(.int (p2 + (8 : Int32))), (.int p1)])) (fun _ k => XS.iadd X0.here hx rfl (hb hby d2_9) rfl k) ?_
    refine own_go (g' := (mkF m 13 #[.val (.ref o0), .val (.int p1), .val (.int p2), .val (.long q3), .second, .val (.int p4)] [])) (fun _ k => XS.icmpNo X0.here hx rfl (hb hby d2_10) rfl (flt (hcond.resolve_left hc1)).1 k) ?_
    refine own_go (g' := (mkF m 14 #[.val (.ref o0), .val (.int p1), .val (.int p2), .val (.long q3), .second, .val (.int p4)] [(.ref o0)])) (fun _ k => XS.aloadN X0.here hx rfl (hb hby d2_13) rfl rfl k) ?_
    refine own_go (g' := (mkF m 15 #[.val (.ref o0), .val (.int p1), .val (.int p2), .val (.long q3), .second, .val (.int p4)] [(.int p1), (.ref o0)])) (fun _ k => XS.iloadN X0.here hx rfl (hb hby d2_14) rfl k) ?_
    obtain ⟨cl3, Ar3, qk3, sz3, nn3, Hs3, Gs3⟩ := id P0
    have hin3 : ¬ (p1 < 0 ∨ cl3.slots.size ≤ (p1).toNatClampNeg) := inb_of sz3 hin
    have hat3 : cl3.slots[(p1).toNatClampNeg]? = some (.int xv) := Has.at Hs3 hin3 hat
    refine own_go (g' := (mkF m 16 #[.val (.ref o0), .val (.int p1), .val (.int p2), .val (.long q3), .second, .val (.int p4)] [(.int xv)])) (X0.baloadBytes hx (j := p1) (v := (.int xv)) (by rw [e0]; exact Ar3.1) (State.isArrayOf_alike hZ.alike Ar3.2.1) Ar3.2.2 hin3 hat3 (g := (mkF m 15 #[.val (.ref o0), .val (.int p1), .val (.int p2), .val (.long q3), .second, .val (.int p4)] [(.int p1), (.ref o0)])) rfl rfl (hb hby d2_15)) ?_
    refine own_go (g' := (mkF m 18 #[.val (.ref o0), .val (.int p1), .val (.int p2), .val (.long q3), .second, .val (.int p4)] [(.int p4), (.int xv)])) (fun _ k => XS.iload X0.here hx rfl (hb hby d2_16) rfl k) ?_
    refine own_go (g' := (mkF m 21 #[.val (.ref o0), .val (.int p1), .val (.int p2), .val (.long q3), .second, .val (.int p4)] [])) (fun _ k => XS.icmpNo X0.here hx rfl (hb hby d2_18) rfl (teq hxv).2 k) ?_
    refine own_go (g' := (mkF m 22 #[.val (.ref o0), .val (.int p1), .val (.int p2), .val (.long q3), .second, .val (.int p4)] [(.int (1 : Int32))])) (fun _ k => XS.iconst X0.here hx rfl (hb hby d2_21) k) ?_
    refine own_go (g' := (mkF m 26 #[.val (.ref o0), .val (.int p1), .val (.int p2), .val (.long q3), .second, .val (.int p4)] [(.int (1 : Int32))])) (fun _ k => XS.goto X0.here hx rfl (pc0 := 22) (pc' := 26) rfl (hb hby d2_22) (by decide) (by decide) k) ?_
    refine own_retN X0 hx .boolean Bd.returns Bd.notSynchronized (by simp) (hb hby d2_26) (by decide) (by decide) ?_
    show QQ _ s₁.heap _
    rw [e0]
    rw [← hQQ]
    exact ⟨rfl, rfl, rfl⟩
theorem d2_27 : decode method_4_code 27 = .ok (.aload_n 0, 1) := by decide +kernel
theorem d2_28 : decode method_4_code 28 = .ok (.iload_n 1, 1) := by decide +kernel
theorem d2_29 : decode method_4_code 29 = .ok (.baload, 1) := by decide +kernel
theorem d2_30 : decode method_4_code 30 = .ok (.lload_n 3, 1) := by decide +kernel
theorem d2_31 : decode method_4_code 31 = .ok (.iload_n 1, 1) := by decide +kernel
theorem d2_32 : decode method_4_code 32 = .ok (.iload_n 2, 1) := by decide +kernel
theorem d2_33 : decode method_4_code 33 = .ok (.isub, 1) := by decide +kernel
theorem d2_34 : decode method_4_code 34 = .ok (.invokestatic 19, 3) := by decide +kernel
theorem d2_37 : decode method_4_code 37 = .ok (.if_icmp .ne 7, 3) := by decide +kernel
theorem d2_40 : decode method_4_code 40 = .ok (.iconst 1, 1) := by decide +kernel
theorem d2_41 : decode method_4_code 41 = .ok (.goto 4, 3) := by decide +kernel
theorem d2_45 : decode method_4_code 45 = .ok (.ireturn, 1) := by decide +kernel
theorem pn_ok_i : plainName "com/example/table_salt/tablesalt/layout/Int64WritePinLaw" = true := by first | (simp [plainName, overriddenIn]; done) | decide +kernel
theorem pd2_0 : parseMethodDescriptor "(JI)B" = some ⟨[.long, .int], some .byte⟩ := by decide +kernel
theorem ef_ok_i (m : MethodId) (o0 : Addr) (p1 : Int32) (p2 : Int32) (q3 : Int64) (p4 : Int32) : entryFrame m #[(.ref o0), (.int p1), (.int p2), (.long q3), (.int p4)] 6 = mkF m 0 #[.val (.ref o0), .val (.int p1), .val (.int p2), .val (.long q3), .second, .val (.int p4)] [] := by first | (simp [entryFrame, mkF, argsToLocals, Value.category]; done) | rfl
set_option maxRecDepth 65536 in
set_option maxHeartbeats 40000000 in
theorem ok_i (l : Launch) (Z : State) (a0 : Array Value) (hw : ∀ d ∈ tables_1, d.before a0 Z = true) (o0 : Addr) (p1 : Int32) (p2 : Int32) (q3 : Int64) (p4 : Int32) (vs : List Value) (kk : ClassId) (xv : Int32) (h0 : Heap) (P0 : Arv Z h0 o0 kk .byte (12 : Int32) vs (.int (0 : Int32))) (hin : ¬ p1 < 0 ∧ p1 < (12 : Int32)) (hat : vs.getD p1.toNatClampNeg (.int (0 : Int32)) = .int xv) (hcond : ¬ p1 < p2 ∧ p1 < p2 + (8 : Int32)) (hxv : xv = own_exp q3 (p1 - p2)) :
    own_Met l Z (⟨"com/example/table_salt/tablesalt/layout/Int64WritePinLaw", "ok", "([BIIJB)Z"⟩ : MethodName) method_4_code 6 (some .boolean) [] ({ frames := 1, cells := 0, slots := 0, locals := 15 } : Room) #[(.ref o0), (.int p1), (.int p2), (.long q3), (.int p4)] h0 0 0 (fun v h L => v = some (.int (1 : Int32)) ∧ h = h0 ∧ L = []) := by
  refine own_met (plainFor_of_name pn_ok_i) ?_
  intro p e s m below meth c s₁ Bd hml0 hZ X0 e0
  have hx := Bd.exec
  have hby := Bd.bytes
  have hml : c.maxLocals = 6 := hml0
  have hown : s.vm.findClass "com/example/table_salt/tablesalt/layout/Int64WritePinLaw" = some m.cls := findClass_of_methodNamed Bd.named
  have hnm := (name_of_methodNamed Bd.named Bd.method).1
  refine own_cast (ef_ok_i m o0 p1 p2 q3 p4) ?_
  generalize hQQ : (fun (v : Option Value) (h : Heap) (L : List Loc) => v = some (.int (1 : Int32)) ∧ h = h0 ∧ L = []) = QQ
  refine own_go (g' := (mkF m 1 #[.val (.ref o0), .val (.int p1), .val (.int p2), .val (.long q3), .second, .val (.int p4)] [(.int p1)])) (fun _ k => XS.iloadN X0.here hx rfl (hb hby d2_0) rfl k) ?_
  refine own_go (g' := (mkF m 2 #[.val (.ref o0), .val (.int p1), .val (.int p2), .val (.long q3), .second, .val (.int p4)] [(.int p2), (.int p1)])) (fun _ k => XS.iloadN X0.here hx rfl (hb hby d2_1) rfl k) ?_
  refine own_go (g' := (mkF m 5 #[.val (.ref o0), .val (.int p1), .val (.int p2), .val (.long q3), .second, .val (.int p4)] [])) (fun _ k => XS.icmpNo X0.here hx rfl (hb hby d2_2) rfl (flt hcond.1).1 k) ?_
  refine own_go (g' := (mkF m 6 #[.val (.ref o0), .val (.int p1), .val (.int p2), .val (.long q3), .second, .val (.int p4)] [(.int p1)])) (fun _ k => XS.iloadN X0.here hx rfl (hb hby d2_5) rfl k) ?_
  refine own_go (g' := (mkF m 7 #[.val (.ref o0), .val (.int p1), .val (.int p2), .val (.long q3), .second, .val (.int p4)] [(.int p2), (.int p1)])) (fun _ k => XS.iloadN X0.here hx rfl (hb hby d2_6) rfl k) ?_
  refine own_go (g' := (mkF m 9 #[.val (.ref o0), .val (.int p1), .val (.int p2), .val (.long q3), .second, .val (.int p4)] [(.int (8 : Int32)), (.int p2), (.int p1)])) (fun _ k => XS.bipush X0.here hx rfl (hb hby d2_7) k) ?_
  refine own_go (g' := (mkF m 10 #[.val (.ref o0), .val (.int p1), .val (.int p2), .val (.long q3), .second, .val (.int p4)] [(.int (p2 + (8 : Int32))), (.int p1)])) (fun _ k => XS.iadd X0.here hx rfl (hb hby d2_9) rfl k) ?_
  refine own_go (g' := (mkF m 27 #[.val (.ref o0), .val (.int p1), .val (.int p2), .val (.long q3), .second, .val (.int p4)] [])) (fun _ k => XS.icmpYes X0.here hx rfl (pc0 := 10) (pc' := 27) rfl (hb hby d2_10) rfl (tlt hcond.2).1 (by decide) (by decide) k) ?_
  refine own_go (g' := (mkF m 28 #[.val (.ref o0), .val (.int p1), .val (.int p2), .val (.long q3), .second, .val (.int p4)] [(.ref o0)])) (fun _ k => XS.aloadN X0.here hx rfl (hb hby d2_27) rfl rfl k) ?_
  refine own_go (g' := (mkF m 29 #[.val (.ref o0), .val (.int p1), .val (.int p2), .val (.long q3), .second, .val (.int p4)] [(.int p1), (.ref o0)])) (fun _ k => XS.iloadN X0.here hx rfl (hb hby d2_28) rfl k) ?_
  obtain ⟨cl1, Ar1, qk1, sz1, nn1, Hs1, Gs1⟩ := id P0
  have hin1 : ¬ (p1 < 0 ∨ cl1.slots.size ≤ (p1).toNatClampNeg) := inb_of sz1 hin
  have hat1 : cl1.slots[(p1).toNatClampNeg]? = some (.int xv) := Has.at Hs1 hin1 hat
  refine own_go (g' := (mkF m 30 #[.val (.ref o0), .val (.int p1), .val (.int p2), .val (.long q3), .second, .val (.int p4)] [(.int xv)])) (X0.baloadBytes hx (j := p1) (v := (.int xv)) (by rw [e0]; exact Ar1.1) (State.isArrayOf_alike hZ.alike Ar1.2.1) Ar1.2.2 hin1 hat1 (g := (mkF m 29 #[.val (.ref o0), .val (.int p1), .val (.int p2), .val (.long q3), .second, .val (.int p4)] [(.int p1), (.ref o0)])) rfl rfl (hb hby d2_29)) ?_
  refine own_go (g' := (mkF m 31 #[.val (.ref o0), .val (.int p1), .val (.int p2), .val (.long q3), .second, .val (.int p4)] [(.long q3), (.int xv)])) (fun _ k => XS.lloadN X0.here hx rfl (hb hby d2_30) rfl k) ?_
  refine own_go (g' := (mkF m 32 #[.val (.ref o0), .val (.int p1), .val (.int p2), .val (.long q3), .second, .val (.int p4)] [(.int p1), (.long q3), (.int xv)])) (fun _ k => XS.iloadN X0.here hx rfl (hb hby d2_31) rfl k) ?_
  refine own_go (g' := (mkF m 33 #[.val (.ref o0), .val (.int p1), .val (.int p2), .val (.long q3), .second, .val (.int p4)] [(.int p2), (.int p1), (.long q3), (.int xv)])) (fun _ k => XS.iloadN X0.here hx rfl (hb hby d2_32) rfl k) ?_
  refine own_go (g' := (mkF m 34 #[.val (.ref o0), .val (.int p1), .val (.int p2), .val (.long q3), .second, .val (.int p4)] [(.int (p1 - p2)), (.long q3), (.int xv)])) (fun _ k => XS.isub X0.here hx rfl (hb hby d2_33) rfl k) ?_
  obtain ⟨v2, T2, L2, hQ2, X2, st2⟩ := own_callS X0 hx hZ (y := (⟨"com/example/table_salt/tablesalt/layout/Int64WritePinLaw", "expected", "(JI)B"⟩ : MethodName)) hown (hw _ (List.mem_of_getElem? (i := 9) rfl)) (hw _ (List.mem_of_getElem? (i := 10) rfl)) (hw _ (List.mem_of_getElem? (i := 7) rfl)) (hw _ (List.mem_of_getElem? (i := 11) rfl)) ⟨by decide, by decide⟩ (argsL := [(.long q3), (.int (p1 - p2))]) (rm3 l Z a0 hw q3 (p1 - p2) h0) e0 (g := (mkF m 34 #[.val (.ref o0), .val (.int p1), .val (.int p2), .val (.long q3), .second, .val (.int p4)] [(.int (p1 - p2)), (.long q3), (.int xv)])) rfl (by rw [hml]; rfl) (rest := [(.int xv)]) (lenOf pd2_0 rfl) rfl (hb hby d2_34) (W := 1) (by show 2 * 0 + _ ≤ _; exact Nat.le_of_eq rfl) (by decide) (by decide) (by decide) (by decide)
  obtain ⟨rfl, e2, rfl⟩ := hQ2
  refine own_go (g' := (mkF m 37 #[.val (.ref o0), .val (.int p1), .val (.int p2), .val (.long q3), .second, .val (.int p4)] [(.int (own_exp q3 (p1 - p2))), (.int xv)])) (st2) ?_
  refine own_go (g' := (mkF m 40 #[.val (.ref o0), .val (.int p1), .val (.int p2), .val (.long q3), .second, .val (.int p4)] [])) (fun _ k => XS.icmpNo X2.here hx rfl (hb hby d2_37) rfl (teq hxv).2 k) ?_
  refine own_go (g' := (mkF m 41 #[.val (.ref o0), .val (.int p1), .val (.int p2), .val (.long q3), .second, .val (.int p4)] [(.int (1 : Int32))])) (fun _ k => XS.iconst X2.here hx rfl (hb hby d2_40) k) ?_
  refine own_go (g' := (mkF m 45 #[.val (.ref o0), .val (.int p1), .val (.int p2), .val (.long q3), .second, .val (.int p4)] [(.int (1 : Int32))])) (fun _ k => XS.goto X2.here hx rfl (pc0 := 41) (pc' := 45) rfl (hb hby d2_41) (by decide) (by decide) k) ?_
  refine own_retN X2 hx .boolean Bd.returns Bd.notSynchronized (by simp) (hb hby d2_45) (by decide) (by decide) ?_
  show QQ _ T2.heap _
  rw [e2]
  rw [← hQQ]
  exact ⟨rfl, rfl, rfl⟩
theorem pn_rm0 : plainName "com/example/table_salt/tablesalt/layout/Int64WritePinLaw" = true := by first | (simp [plainName, overriddenIn]; done) | decide +kernel
theorem pd0_0 : parseMethodDescriptor "(J[BI)V" = some ⟨[.long, (.array .byte), .int], none⟩ := by decide +kernel
theorem pd0_1 : parseMethodDescriptor "([BIIJB)Z" = some ⟨[(.array .byte), .int, .int, .long, .byte], some .boolean⟩ := by decide +kernel
theorem ef_rm0 (m : MethodId) (q0 : Int64) (p1 : Int32) (p2 : Int32) : entryFrame m #[(.long q0), (.int p1), (.int p2)] maxLocals = mkF m 0 #[.val (.long q0), .second, .val (.int p1), .val (.int p2), .unset, .unset, .unset] [] := by first | (simp [entryFrame, mkF, argsToLocals, Value.category, maxLocals]; done) | rfl
set_option maxRecDepth 65536 in
set_option maxHeartbeats 40000000 in
theorem rm0 (l : Launch) (Z : State) (a0 : Array Value) (hw : ∀ d ∈ tables_1, d.before a0 Z = true) (q0 : Int64) (p1 : Int32) (p2 : Int32)  (h0 : Heap) (n0 : Nat) (Z0 : n0 ≤ h0.size) :
    own_Met l Z x code maxLocals ret tables_1 room_1 #[(.long q0), (.int p1), (.int p2)] h0 16 128 (fun v h L => v = some (.int 1) ∧ Fr n0 L) := by
  refine own_met (plainFor_of_name pn_rm0) ?_
  intro p e s m below meth c s₁ Bd hml0 hZ X0 e0
  have hx := Bd.exec
  have hby := Bd.bytes
  have hml : c.maxLocals = 7 := hml0
  have hown : s.vm.findClass "com/example/table_salt/tablesalt/layout/Int64WritePinLaw" = some m.cls := findClass_of_methodNamed Bd.named
  have hnm := (name_of_methodNamed Bd.named Bd.method).1
  refine own_cast (ef_rm0 m q0 p1 p2) ?_
  generalize hQQ : (fun (v : Option Value) (h : Heap) (L : List Loc) => v = some (.int 1) ∧ Fr n0 L) = QQ
  have N0 := Fr.nil n0
  refine own_go (g' := (mkF m 1 #[.val (.long q0), .second, .val (.int p1), .val (.int p2), .unset, .unset, .unset] [(.int p1)])) (fun _ k => XS.iloadN X0.here hx rfl (hb hby at_0) rfl k) ?_
  refine own_go (g' := (mkF m 2 #[.val (.long q0), .second, .val (.int p1), .val (.int p2), .unset, .unset, .unset] [(.int (3 : Int32)), (.int p1)])) (fun _ k => XS.iconst X0.here hx rfl (hb hby at_1) k) ?_
  refine own_go (g' := (mkF m 3 #[.val (.long q0), .second, .val (.int p1), .val (.int p2), .unset, .unset, .unset] [(.int (p1 &&& (3 : Int32)))])) (fun _ k => XS.iand X0.here hx rfl (hb hby at_2) rfl k) ?_
  suffices JNhoo : ∀ oo : Int32, oo = (p1 &&& (3 : Int32)) → own_Go p e below (own_Post s QQ 16 128) s₁ (mkF m 3 #[.val (.long q0), .second, .val (.int p1), .val (.int p2), .unset, .unset, .unset] [(.int oo)]) from JNhoo _ (rfl)
  intro oo hoo
  refine own_go (g' := (mkF m 5 #[.val (.long q0), .second, .val (.int p1), .val (.int p2), .val (.int oo), .unset, .unset] [])) (fun _ k => XS.istore X0.here hx rfl (hb hby at_3) rfl (l' := #[.val (.long q0), .second, .val (.int p1), .val (.int p2), .val (.int oo), .unset, .unset]) rfl k) ?_
  refine own_go (g' := (mkF m 6 #[.val (.long q0), .second, .val (.int p1), .val (.int p2), .val (.int oo), .unset, .unset] [(.int p2)])) (fun _ k => XS.iloadN X0.here hx rfl (hb hby at_5) rfl k) ?_
  refine own_go (g' := (mkF m 7 #[.val (.long q0), .second, .val (.int p1), .val (.int p2), .val (.int oo), .unset, .unset] [(.int (p2.toInt8.toInt32))])) (fun _ k => XS.i2b X0.here hx rfl (hb hby at_6) rfl k) ?_
  suffices JNhsb : ∀ sb : Int32, sb = (p2.toInt8.toInt32) → own_Go p e below (own_Post s QQ 16 128) s₁ (mkF m 7 #[.val (.long q0), .second, .val (.int p1), .val (.int p2), .val (.int oo), .unset, .unset] [(.int sb)]) from JNhsb _ (rfl)
  intro sb hsb
  refine own_go (g' := (mkF m 9 #[.val (.long q0), .second, .val (.int p1), .val (.int p2), .val (.int oo), .val (.int sb), .unset] [])) (fun _ k => XS.istore X0.here hx rfl (hb hby at_7) rfl (l' := #[.val (.long q0), .second, .val (.int p1), .val (.int p2), .val (.int oo), .val (.int sb), .unset]) rfl k) ?_
  refine own_go (g' := (mkF m 11 #[.val (.long q0), .second, .val (.int p1), .val (.int p2), .val (.int oo), .val (.int sb), .unset] [(.int (12 : Int32))])) (fun _ k => XS.bipush X0.here hx rfl (hb hby at_9) k) ?_
  obtain ⟨T1, h1, k1, X1, e1, E1, A1, st1⟩ := newP X0 hx hZ (hw _ (List.mem_of_getElem? (i := 0) rfl)) e0 (g := (mkF m 11 #[.val (.long q0), .second, .val (.int p1), .val (.int p2), .val (.int oo), .val (.int sb), .unset] [(.int (12 : Int32))])) rfl (hb hby at_11) rfl (by decide) (cap := 12) (by decide) (by decide) (by decide) (by decide)
  obtain ⟨b1, g1⟩ : ∃ z, z = h0.size := ⟨_, rfl⟩
  rw [← g1] at A1 st1
  have ge_b1 : n0 ≤ b1 := by rw [g1]; exact Z0
  have Z1 : n0 ≤ h1.size := Nat.le_trans Z0 E1.1
  have V1 : Arv Z h1 b1 k1 .byte (12 : Int32) [(.int (0 : Int32)), (.int (0 : Int32)), (.int (0 : Int32)), (.int (0 : Int32)), (.int (0 : Int32)), (.int (0 : Int32)), (.int (0 : Int32)), (.int (0 : Int32)), (.int (0 : Int32)), (.int (0 : Int32)), (.int (0 : Int32)), (.int (0 : Int32))] (.int (0 : Int32)) := (Arv.new A1 (by decide)).pad (pad_rep [] (.int (0 : Int32)) 12)
  refine own_go (g' := (mkF m 13 #[.val (.long q0), .second, .val (.int p1), .val (.int p2), .val (.int oo), .val (.int sb), .unset] [(.ref b1)])) (st1) ?_
  refine own_go (g' := (mkF m 14 #[.val (.long q0), .second, .val (.int p1), .val (.int p2), .val (.int oo), .val (.int sb), .unset] [(.ref b1), (.ref b1)])) (fun _ k => XS.dup X1.here hx rfl (hb hby at_13) rfl rfl k) ?_
  refine own_go (g' := (mkF m 15 #[.val (.long q0), .second, .val (.int p1), .val (.int p2), .val (.int oo), .val (.int sb), .unset] [(.int (0 : Int32)), (.ref b1), (.ref b1)])) (fun _ k => XS.iconst X1.here hx rfl (hb hby at_14) k) ?_
  refine own_go (g' := (mkF m 17 #[.val (.long q0), .second, .val (.int p1), .val (.int p2), .val (.int oo), .val (.int sb), .unset] [(.int sb), (.int (0 : Int32)), (.ref b1), (.ref b1)])) (fun _ k => XS.iload X1.here hx rfl (hb hby at_15) rfl k) ?_
  obtain ⟨cl2, Ar2, qk2, sz2, nn2, Hs2, Gs2⟩ := id V1
  have hin2 : ¬ ((0 : Int32) < 0 ∨ cl2.slots.size ≤ ((0 : Int32)).toNatClampNeg) := inb_of sz2 ⟨by decide, by decide⟩
  obtain ⟨T2, h2, X2, e2, W2, st2⟩ := stB X1 hx hZ e1 Ar2 (j := (0 : Int32)) hin2 (g := (mkF m 17 #[.val (.long q0), .second, .val (.int p1), .val (.int p2), .val (.int oo), .val (.int sb), .unset] [(.int sb), (.int (0 : Int32)), (.ref b1), (.ref b1)])) rfl rfl (hb hby at_17)
  have V2 : Arv Z h2 b1 k1 .byte (12 : Int32) [(.int (sb).toInt8.toInt32), (.int (0 : Int32)), (.int (0 : Int32)), (.int (0 : Int32)), (.int (0 : Int32)), (.int (0 : Int32)), (.int (0 : Int32)), (.int (0 : Int32)), (.int (0 : Int32)), (.int (0 : Int32)), (.int (0 : Int32)), (.int (0 : Int32))] (.int (0 : Int32)) := Arv.set Ar2 qk2 sz2 nn2 Hs2 Gs2 (fits_nar_byte _) W2 0 rfl (Nat.le_of_ble_eq_true rfl)
  have N2 := Fr.snoc X2 N0 ge_b1
  have Z2 : n0 ≤ h2.size := by rw [W2.size]; exact Z1
  refine own_go (g' := (mkF m 18 #[.val (.long q0), .second, .val (.int p1), .val (.int p2), .val (.int oo), .val (.int sb), .unset] [(.ref b1)])) (st2) ?_
  refine own_go (g' := (mkF m 19 #[.val (.long q0), .second, .val (.int p1), .val (.int p2), .val (.int oo), .val (.int sb), .unset] [(.ref b1), (.ref b1)])) (fun _ k => XS.dup X2.here hx rfl (hb hby at_18) rfl rfl k) ?_
  refine own_go (g' := (mkF m 20 #[.val (.long q0), .second, .val (.int p1), .val (.int p2), .val (.int oo), .val (.int sb), .unset] [(.int (1 : Int32)), (.ref b1), (.ref b1)])) (fun _ k => XS.iconst X2.here hx rfl (hb hby at_19) k) ?_
  refine own_go (g' := (mkF m 22 #[.val (.long q0), .second, .val (.int p1), .val (.int p2), .val (.int oo), .val (.int sb), .unset] [(.int sb), (.int (1 : Int32)), (.ref b1), (.ref b1)])) (fun _ k => XS.iload X2.here hx rfl (hb hby at_20) rfl k) ?_
  obtain ⟨cl3, Ar3, qk3, sz3, nn3, Hs3, Gs3⟩ := id V2
  have hin3 : ¬ ((1 : Int32) < 0 ∨ cl3.slots.size ≤ ((1 : Int32)).toNatClampNeg) := inb_of sz3 ⟨by decide, by decide⟩
  obtain ⟨T3, h3, X3, e3, W3, st3⟩ := stB X2 hx hZ e2 Ar3 (j := (1 : Int32)) hin3 (g := (mkF m 22 #[.val (.long q0), .second, .val (.int p1), .val (.int p2), .val (.int oo), .val (.int sb), .unset] [(.int sb), (.int (1 : Int32)), (.ref b1), (.ref b1)])) rfl rfl (hb hby at_22)
  have V3 : Arv Z h3 b1 k1 .byte (12 : Int32) [(.int (sb).toInt8.toInt32), (.int (sb).toInt8.toInt32), (.int (0 : Int32)), (.int (0 : Int32)), (.int (0 : Int32)), (.int (0 : Int32)), (.int (0 : Int32)), (.int (0 : Int32)), (.int (0 : Int32)), (.int (0 : Int32)), (.int (0 : Int32)), (.int (0 : Int32))] (.int (0 : Int32)) := Arv.set Ar3 qk3 sz3 nn3 Hs3 Gs3 (fits_nar_byte _) W3 1 rfl (Nat.le_of_ble_eq_true rfl)
  have N3 := Fr.snoc X3 N2 ge_b1
  have Z3 : n0 ≤ h3.size := by rw [W3.size]; exact Z2
  refine own_go (g' := (mkF m 23 #[.val (.long q0), .second, .val (.int p1), .val (.int p2), .val (.int oo), .val (.int sb), .unset] [(.ref b1)])) (st3) ?_
  refine own_go (g' := (mkF m 24 #[.val (.long q0), .second, .val (.int p1), .val (.int p2), .val (.int oo), .val (.int sb), .unset] [(.ref b1), (.ref b1)])) (fun _ k => XS.dup X3.here hx rfl (hb hby at_23) rfl rfl k) ?_
  refine own_go (g' := (mkF m 25 #[.val (.long q0), .second, .val (.int p1), .val (.int p2), .val (.int oo), .val (.int sb), .unset] [(.int (2 : Int32)), (.ref b1), (.ref b1)])) (fun _ k => XS.iconst X3.here hx rfl (hb hby at_24) k) ?_
  refine own_go (g' := (mkF m 27 #[.val (.long q0), .second, .val (.int p1), .val (.int p2), .val (.int oo), .val (.int sb), .unset] [(.int sb), (.int (2 : Int32)), (.ref b1), (.ref b1)])) (fun _ k => XS.iload X3.here hx rfl (hb hby at_25) rfl k) ?_
  obtain ⟨cl4, Ar4, qk4, sz4, nn4, Hs4, Gs4⟩ := id V3
  have hin4 : ¬ ((2 : Int32) < 0 ∨ cl4.slots.size ≤ ((2 : Int32)).toNatClampNeg) := inb_of sz4 ⟨by decide, by decide⟩
  obtain ⟨T4, h4, X4, e4, W4, st4⟩ := stB X3 hx hZ e3 Ar4 (j := (2 : Int32)) hin4 (g := (mkF m 27 #[.val (.long q0), .second, .val (.int p1), .val (.int p2), .val (.int oo), .val (.int sb), .unset] [(.int sb), (.int (2 : Int32)), (.ref b1), (.ref b1)])) rfl rfl (hb hby at_27)
  have V4 : Arv Z h4 b1 k1 .byte (12 : Int32) [(.int (sb).toInt8.toInt32), (.int (sb).toInt8.toInt32), (.int (sb).toInt8.toInt32), (.int (0 : Int32)), (.int (0 : Int32)), (.int (0 : Int32)), (.int (0 : Int32)), (.int (0 : Int32)), (.int (0 : Int32)), (.int (0 : Int32)), (.int (0 : Int32)), (.int (0 : Int32))] (.int (0 : Int32)) := Arv.set Ar4 qk4 sz4 nn4 Hs4 Gs4 (fits_nar_byte _) W4 2 rfl (Nat.le_of_ble_eq_true rfl)
  have N4 := Fr.snoc X4 N3 ge_b1
  have Z4 : n0 ≤ h4.size := by rw [W4.size]; exact Z3
  refine own_go (g' := (mkF m 28 #[.val (.long q0), .second, .val (.int p1), .val (.int p2), .val (.int oo), .val (.int sb), .unset] [(.ref b1)])) (st4) ?_
  refine own_go (g' := (mkF m 29 #[.val (.long q0), .second, .val (.int p1), .val (.int p2), .val (.int oo), .val (.int sb), .unset] [(.ref b1), (.ref b1)])) (fun _ k => XS.dup X4.here hx rfl (hb hby at_28) rfl rfl k) ?_
  refine own_go (g' := (mkF m 30 #[.val (.long q0), .second, .val (.int p1), .val (.int p2), .val (.int oo), .val (.int sb), .unset] [(.int (3 : Int32)), (.ref b1), (.ref b1)])) (fun _ k => XS.iconst X4.here hx rfl (hb hby at_29) k) ?_
  refine own_go (g' := (mkF m 32 #[.val (.long q0), .second, .val (.int p1), .val (.int p2), .val (.int oo), .val (.int sb), .unset] [(.int sb), (.int (3 : Int32)), (.ref b1), (.ref b1)])) (fun _ k => XS.iload X4.here hx rfl (hb hby at_30) rfl k) ?_
  obtain ⟨cl5, Ar5, qk5, sz5, nn5, Hs5, Gs5⟩ := id V4
  have hin5 : ¬ ((3 : Int32) < 0 ∨ cl5.slots.size ≤ ((3 : Int32)).toNatClampNeg) := inb_of sz5 ⟨by decide, by decide⟩
  obtain ⟨T5, h5, X5, e5, W5, st5⟩ := stB X4 hx hZ e4 Ar5 (j := (3 : Int32)) hin5 (g := (mkF m 32 #[.val (.long q0), .second, .val (.int p1), .val (.int p2), .val (.int oo), .val (.int sb), .unset] [(.int sb), (.int (3 : Int32)), (.ref b1), (.ref b1)])) rfl rfl (hb hby at_32)
  have V5 : Arv Z h5 b1 k1 .byte (12 : Int32) [(.int (sb).toInt8.toInt32), (.int (sb).toInt8.toInt32), (.int (sb).toInt8.toInt32), (.int (sb).toInt8.toInt32), (.int (0 : Int32)), (.int (0 : Int32)), (.int (0 : Int32)), (.int (0 : Int32)), (.int (0 : Int32)), (.int (0 : Int32)), (.int (0 : Int32)), (.int (0 : Int32))] (.int (0 : Int32)) := Arv.set Ar5 qk5 sz5 nn5 Hs5 Gs5 (fits_nar_byte _) W5 3 rfl (Nat.le_of_ble_eq_true rfl)
  have N5 := Fr.snoc X5 N4 ge_b1
  have Z5 : n0 ≤ h5.size := by rw [W5.size]; exact Z4
  refine own_go (g' := (mkF m 33 #[.val (.long q0), .second, .val (.int p1), .val (.int p2), .val (.int oo), .val (.int sb), .unset] [(.ref b1)])) (st5) ?_
  refine own_go (g' := (mkF m 34 #[.val (.long q0), .second, .val (.int p1), .val (.int p2), .val (.int oo), .val (.int sb), .unset] [(.ref b1), (.ref b1)])) (fun _ k => XS.dup X5.here hx rfl (hb hby at_33) rfl rfl k) ?_
  refine own_go (g' := (mkF m 35 #[.val (.long q0), .second, .val (.int p1), .val (.int p2), .val (.int oo), .val (.int sb), .unset] [(.int (4 : Int32)), (.ref b1), (.ref b1)])) (fun _ k => XS.iconst X5.here hx rfl (hb hby at_34) k) ?_
  refine own_go (g' := (mkF m 37 #[.val (.long q0), .second, .val (.int p1), .val (.int p2), .val (.int oo), .val (.int sb), .unset] [(.int sb), (.int (4 : Int32)), (.ref b1), (.ref b1)])) (fun _ k => XS.iload X5.here hx rfl (hb hby at_35) rfl k) ?_
  obtain ⟨cl6, Ar6, qk6, sz6, nn6, Hs6, Gs6⟩ := id V5
  have hin6 : ¬ ((4 : Int32) < 0 ∨ cl6.slots.size ≤ ((4 : Int32)).toNatClampNeg) := inb_of sz6 ⟨by decide, by decide⟩
  obtain ⟨T6, h6, X6, e6, W6, st6⟩ := stB X5 hx hZ e5 Ar6 (j := (4 : Int32)) hin6 (g := (mkF m 37 #[.val (.long q0), .second, .val (.int p1), .val (.int p2), .val (.int oo), .val (.int sb), .unset] [(.int sb), (.int (4 : Int32)), (.ref b1), (.ref b1)])) rfl rfl (hb hby at_37)
  have V6 : Arv Z h6 b1 k1 .byte (12 : Int32) [(.int (sb).toInt8.toInt32), (.int (sb).toInt8.toInt32), (.int (sb).toInt8.toInt32), (.int (sb).toInt8.toInt32), (.int (sb).toInt8.toInt32), (.int (0 : Int32)), (.int (0 : Int32)), (.int (0 : Int32)), (.int (0 : Int32)), (.int (0 : Int32)), (.int (0 : Int32)), (.int (0 : Int32))] (.int (0 : Int32)) := Arv.set Ar6 qk6 sz6 nn6 Hs6 Gs6 (fits_nar_byte _) W6 4 rfl (Nat.le_of_ble_eq_true rfl)
  have N6 := Fr.snoc X6 N5 ge_b1
  have Z6 : n0 ≤ h6.size := by rw [W6.size]; exact Z5
  refine own_go (g' := (mkF m 38 #[.val (.long q0), .second, .val (.int p1), .val (.int p2), .val (.int oo), .val (.int sb), .unset] [(.ref b1)])) (st6) ?_
  refine own_go (g' := (mkF m 39 #[.val (.long q0), .second, .val (.int p1), .val (.int p2), .val (.int oo), .val (.int sb), .unset] [(.ref b1), (.ref b1)])) (fun _ k => XS.dup X6.here hx rfl (hb hby at_38) rfl rfl k) ?_
  refine own_go (g' := (mkF m 40 #[.val (.long q0), .second, .val (.int p1), .val (.int p2), .val (.int oo), .val (.int sb), .unset] [(.int (5 : Int32)), (.ref b1), (.ref b1)])) (fun _ k => XS.iconst X6.here hx rfl (hb hby at_39) k) ?_
  refine own_go (g' := (mkF m 42 #[.val (.long q0), .second, .val (.int p1), .val (.int p2), .val (.int oo), .val (.int sb), .unset] [(.int sb), (.int (5 : Int32)), (.ref b1), (.ref b1)])) (fun _ k => XS.iload X6.here hx rfl (hb hby at_40) rfl k) ?_
  obtain ⟨cl7, Ar7, qk7, sz7, nn7, Hs7, Gs7⟩ := id V6
  have hin7 : ¬ ((5 : Int32) < 0 ∨ cl7.slots.size ≤ ((5 : Int32)).toNatClampNeg) := inb_of sz7 ⟨by decide, by decide⟩
  obtain ⟨T7, h7, X7, e7, W7, st7⟩ := stB X6 hx hZ e6 Ar7 (j := (5 : Int32)) hin7 (g := (mkF m 42 #[.val (.long q0), .second, .val (.int p1), .val (.int p2), .val (.int oo), .val (.int sb), .unset] [(.int sb), (.int (5 : Int32)), (.ref b1), (.ref b1)])) rfl rfl (hb hby at_42)
  have V7 : Arv Z h7 b1 k1 .byte (12 : Int32) [(.int (sb).toInt8.toInt32), (.int (sb).toInt8.toInt32), (.int (sb).toInt8.toInt32), (.int (sb).toInt8.toInt32), (.int (sb).toInt8.toInt32), (.int (sb).toInt8.toInt32), (.int (0 : Int32)), (.int (0 : Int32)), (.int (0 : Int32)), (.int (0 : Int32)), (.int (0 : Int32)), (.int (0 : Int32))] (.int (0 : Int32)) := Arv.set Ar7 qk7 sz7 nn7 Hs7 Gs7 (fits_nar_byte _) W7 5 rfl (Nat.le_of_ble_eq_true rfl)
  have N7 := Fr.snoc X7 N6 ge_b1
  have Z7 : n0 ≤ h7.size := by rw [W7.size]; exact Z6
  refine own_go (g' := (mkF m 43 #[.val (.long q0), .second, .val (.int p1), .val (.int p2), .val (.int oo), .val (.int sb), .unset] [(.ref b1)])) (st7) ?_
  refine own_go (g' := (mkF m 44 #[.val (.long q0), .second, .val (.int p1), .val (.int p2), .val (.int oo), .val (.int sb), .unset] [(.ref b1), (.ref b1)])) (fun _ k => XS.dup X7.here hx rfl (hb hby at_43) rfl rfl k) ?_
  refine own_go (g' := (mkF m 46 #[.val (.long q0), .second, .val (.int p1), .val (.int p2), .val (.int oo), .val (.int sb), .unset] [(.int (6 : Int32)), (.ref b1), (.ref b1)])) (fun _ k => XS.bipush X7.here hx rfl (hb hby at_44) k) ?_
  refine own_go (g' := (mkF m 48 #[.val (.long q0), .second, .val (.int p1), .val (.int p2), .val (.int oo), .val (.int sb), .unset] [(.int sb), (.int (6 : Int32)), (.ref b1), (.ref b1)])) (fun _ k => XS.iload X7.here hx rfl (hb hby at_46) rfl k) ?_
  obtain ⟨cl8, Ar8, qk8, sz8, nn8, Hs8, Gs8⟩ := id V7
  have hin8 : ¬ ((6 : Int32) < 0 ∨ cl8.slots.size ≤ ((6 : Int32)).toNatClampNeg) := inb_of sz8 ⟨by decide, by decide⟩
  obtain ⟨T8, h8, X8, e8, W8, st8⟩ := stB X7 hx hZ e7 Ar8 (j := (6 : Int32)) hin8 (g := (mkF m 48 #[.val (.long q0), .second, .val (.int p1), .val (.int p2), .val (.int oo), .val (.int sb), .unset] [(.int sb), (.int (6 : Int32)), (.ref b1), (.ref b1)])) rfl rfl (hb hby at_48)
  have V8 : Arv Z h8 b1 k1 .byte (12 : Int32) [(.int (sb).toInt8.toInt32), (.int (sb).toInt8.toInt32), (.int (sb).toInt8.toInt32), (.int (sb).toInt8.toInt32), (.int (sb).toInt8.toInt32), (.int (sb).toInt8.toInt32), (.int (sb).toInt8.toInt32), (.int (0 : Int32)), (.int (0 : Int32)), (.int (0 : Int32)), (.int (0 : Int32)), (.int (0 : Int32))] (.int (0 : Int32)) := Arv.set Ar8 qk8 sz8 nn8 Hs8 Gs8 (fits_nar_byte _) W8 6 rfl (Nat.le_of_ble_eq_true rfl)
  have N8 := Fr.snoc X8 N7 ge_b1
  have Z8 : n0 ≤ h8.size := by rw [W8.size]; exact Z7
  refine own_go (g' := (mkF m 49 #[.val (.long q0), .second, .val (.int p1), .val (.int p2), .val (.int oo), .val (.int sb), .unset] [(.ref b1)])) (st8) ?_
  refine own_go (g' := (mkF m 50 #[.val (.long q0), .second, .val (.int p1), .val (.int p2), .val (.int oo), .val (.int sb), .unset] [(.ref b1), (.ref b1)])) (fun _ k => XS.dup X8.here hx rfl (hb hby at_49) rfl rfl k) ?_
  refine own_go (g' := (mkF m 52 #[.val (.long q0), .second, .val (.int p1), .val (.int p2), .val (.int oo), .val (.int sb), .unset] [(.int (7 : Int32)), (.ref b1), (.ref b1)])) (fun _ k => XS.bipush X8.here hx rfl (hb hby at_50) k) ?_
  refine own_go (g' := (mkF m 54 #[.val (.long q0), .second, .val (.int p1), .val (.int p2), .val (.int oo), .val (.int sb), .unset] [(.int sb), (.int (7 : Int32)), (.ref b1), (.ref b1)])) (fun _ k => XS.iload X8.here hx rfl (hb hby at_52) rfl k) ?_
  obtain ⟨cl9, Ar9, qk9, sz9, nn9, Hs9, Gs9⟩ := id V8
  have hin9 : ¬ ((7 : Int32) < 0 ∨ cl9.slots.size ≤ ((7 : Int32)).toNatClampNeg) := inb_of sz9 ⟨by decide, by decide⟩
  obtain ⟨T9, h9, X9, e9, W9, st9⟩ := stB X8 hx hZ e8 Ar9 (j := (7 : Int32)) hin9 (g := (mkF m 54 #[.val (.long q0), .second, .val (.int p1), .val (.int p2), .val (.int oo), .val (.int sb), .unset] [(.int sb), (.int (7 : Int32)), (.ref b1), (.ref b1)])) rfl rfl (hb hby at_54)
  have V9 : Arv Z h9 b1 k1 .byte (12 : Int32) [(.int (sb).toInt8.toInt32), (.int (sb).toInt8.toInt32), (.int (sb).toInt8.toInt32), (.int (sb).toInt8.toInt32), (.int (sb).toInt8.toInt32), (.int (sb).toInt8.toInt32), (.int (sb).toInt8.toInt32), (.int (sb).toInt8.toInt32), (.int (0 : Int32)), (.int (0 : Int32)), (.int (0 : Int32)), (.int (0 : Int32))] (.int (0 : Int32)) := Arv.set Ar9 qk9 sz9 nn9 Hs9 Gs9 (fits_nar_byte _) W9 7 rfl (Nat.le_of_ble_eq_true rfl)
  have N9 := Fr.snoc X9 N8 ge_b1
  have Z9 : n0 ≤ h9.size := by rw [W9.size]; exact Z8
  refine own_go (g' := (mkF m 55 #[.val (.long q0), .second, .val (.int p1), .val (.int p2), .val (.int oo), .val (.int sb), .unset] [(.ref b1)])) (st9) ?_
  refine own_go (g' := (mkF m 56 #[.val (.long q0), .second, .val (.int p1), .val (.int p2), .val (.int oo), .val (.int sb), .unset] [(.ref b1), (.ref b1)])) (fun _ k => XS.dup X9.here hx rfl (hb hby at_55) rfl rfl k) ?_
  refine own_go (g' := (mkF m 58 #[.val (.long q0), .second, .val (.int p1), .val (.int p2), .val (.int oo), .val (.int sb), .unset] [(.int (8 : Int32)), (.ref b1), (.ref b1)])) (fun _ k => XS.bipush X9.here hx rfl (hb hby at_56) k) ?_
  refine own_go (g' := (mkF m 60 #[.val (.long q0), .second, .val (.int p1), .val (.int p2), .val (.int oo), .val (.int sb), .unset] [(.int sb), (.int (8 : Int32)), (.ref b1), (.ref b1)])) (fun _ k => XS.iload X9.here hx rfl (hb hby at_58) rfl k) ?_
  obtain ⟨cl10, Ar10, qk10, sz10, nn10, Hs10, Gs10⟩ := id V9
  have hin10 : ¬ ((8 : Int32) < 0 ∨ cl10.slots.size ≤ ((8 : Int32)).toNatClampNeg) := inb_of sz10 ⟨by decide, by decide⟩
  obtain ⟨T10, h10, X10, e10, W10, st10⟩ := stB X9 hx hZ e9 Ar10 (j := (8 : Int32)) hin10 (g := (mkF m 60 #[.val (.long q0), .second, .val (.int p1), .val (.int p2), .val (.int oo), .val (.int sb), .unset] [(.int sb), (.int (8 : Int32)), (.ref b1), (.ref b1)])) rfl rfl (hb hby at_60)
  have V10 : Arv Z h10 b1 k1 .byte (12 : Int32) [(.int (sb).toInt8.toInt32), (.int (sb).toInt8.toInt32), (.int (sb).toInt8.toInt32), (.int (sb).toInt8.toInt32), (.int (sb).toInt8.toInt32), (.int (sb).toInt8.toInt32), (.int (sb).toInt8.toInt32), (.int (sb).toInt8.toInt32), (.int (sb).toInt8.toInt32), (.int (0 : Int32)), (.int (0 : Int32)), (.int (0 : Int32))] (.int (0 : Int32)) := Arv.set Ar10 qk10 sz10 nn10 Hs10 Gs10 (fits_nar_byte _) W10 8 rfl (Nat.le_of_ble_eq_true rfl)
  have N10 := Fr.snoc X10 N9 ge_b1
  have Z10 : n0 ≤ h10.size := by rw [W10.size]; exact Z9
  refine own_go (g' := (mkF m 61 #[.val (.long q0), .second, .val (.int p1), .val (.int p2), .val (.int oo), .val (.int sb), .unset] [(.ref b1)])) (st10) ?_
  refine own_go (g' := (mkF m 62 #[.val (.long q0), .second, .val (.int p1), .val (.int p2), .val (.int oo), .val (.int sb), .unset] [(.ref b1), (.ref b1)])) (fun _ k => XS.dup X10.here hx rfl (hb hby at_61) rfl rfl k) ?_
  refine own_go (g' := (mkF m 64 #[.val (.long q0), .second, .val (.int p1), .val (.int p2), .val (.int oo), .val (.int sb), .unset] [(.int (9 : Int32)), (.ref b1), (.ref b1)])) (fun _ k => XS.bipush X10.here hx rfl (hb hby at_62) k) ?_
  refine own_go (g' := (mkF m 66 #[.val (.long q0), .second, .val (.int p1), .val (.int p2), .val (.int oo), .val (.int sb), .unset] [(.int sb), (.int (9 : Int32)), (.ref b1), (.ref b1)])) (fun _ k => XS.iload X10.here hx rfl (hb hby at_64) rfl k) ?_
  obtain ⟨cl11, Ar11, qk11, sz11, nn11, Hs11, Gs11⟩ := id V10
  have hin11 : ¬ ((9 : Int32) < 0 ∨ cl11.slots.size ≤ ((9 : Int32)).toNatClampNeg) := inb_of sz11 ⟨by decide, by decide⟩
  obtain ⟨T11, h11, X11, e11, W11, st11⟩ := stB X10 hx hZ e10 Ar11 (j := (9 : Int32)) hin11 (g := (mkF m 66 #[.val (.long q0), .second, .val (.int p1), .val (.int p2), .val (.int oo), .val (.int sb), .unset] [(.int sb), (.int (9 : Int32)), (.ref b1), (.ref b1)])) rfl rfl (hb hby at_66)
  have V11 : Arv Z h11 b1 k1 .byte (12 : Int32) [(.int (sb).toInt8.toInt32), (.int (sb).toInt8.toInt32), (.int (sb).toInt8.toInt32), (.int (sb).toInt8.toInt32), (.int (sb).toInt8.toInt32), (.int (sb).toInt8.toInt32), (.int (sb).toInt8.toInt32), (.int (sb).toInt8.toInt32), (.int (sb).toInt8.toInt32), (.int (sb).toInt8.toInt32), (.int (0 : Int32)), (.int (0 : Int32))] (.int (0 : Int32)) := Arv.set Ar11 qk11 sz11 nn11 Hs11 Gs11 (fits_nar_byte _) W11 9 rfl (Nat.le_of_ble_eq_true rfl)
  have N11 := Fr.snoc X11 N10 ge_b1
  have Z11 : n0 ≤ h11.size := by rw [W11.size]; exact Z10
  refine own_go (g' := (mkF m 67 #[.val (.long q0), .second, .val (.int p1), .val (.int p2), .val (.int oo), .val (.int sb), .unset] [(.ref b1)])) (st11) ?_
  refine own_go (g' := (mkF m 68 #[.val (.long q0), .second, .val (.int p1), .val (.int p2), .val (.int oo), .val (.int sb), .unset] [(.ref b1), (.ref b1)])) (fun _ k => XS.dup X11.here hx rfl (hb hby at_67) rfl rfl k) ?_
  refine own_go (g' := (mkF m 70 #[.val (.long q0), .second, .val (.int p1), .val (.int p2), .val (.int oo), .val (.int sb), .unset] [(.int (10 : Int32)), (.ref b1), (.ref b1)])) (fun _ k => XS.bipush X11.here hx rfl (hb hby at_68) k) ?_
  refine own_go (g' := (mkF m 72 #[.val (.long q0), .second, .val (.int p1), .val (.int p2), .val (.int oo), .val (.int sb), .unset] [(.int sb), (.int (10 : Int32)), (.ref b1), (.ref b1)])) (fun _ k => XS.iload X11.here hx rfl (hb hby at_70) rfl k) ?_
  obtain ⟨cl12, Ar12, qk12, sz12, nn12, Hs12, Gs12⟩ := id V11
  have hin12 : ¬ ((10 : Int32) < 0 ∨ cl12.slots.size ≤ ((10 : Int32)).toNatClampNeg) := inb_of sz12 ⟨by decide, by decide⟩
  obtain ⟨T12, h12, X12, e12, W12, st12⟩ := stB X11 hx hZ e11 Ar12 (j := (10 : Int32)) hin12 (g := (mkF m 72 #[.val (.long q0), .second, .val (.int p1), .val (.int p2), .val (.int oo), .val (.int sb), .unset] [(.int sb), (.int (10 : Int32)), (.ref b1), (.ref b1)])) rfl rfl (hb hby at_72)
  have V12 : Arv Z h12 b1 k1 .byte (12 : Int32) [(.int (sb).toInt8.toInt32), (.int (sb).toInt8.toInt32), (.int (sb).toInt8.toInt32), (.int (sb).toInt8.toInt32), (.int (sb).toInt8.toInt32), (.int (sb).toInt8.toInt32), (.int (sb).toInt8.toInt32), (.int (sb).toInt8.toInt32), (.int (sb).toInt8.toInt32), (.int (sb).toInt8.toInt32), (.int (sb).toInt8.toInt32), (.int (0 : Int32))] (.int (0 : Int32)) := Arv.set Ar12 qk12 sz12 nn12 Hs12 Gs12 (fits_nar_byte _) W12 10 rfl (Nat.le_of_ble_eq_true rfl)
  have N12 := Fr.snoc X12 N11 ge_b1
  have Z12 : n0 ≤ h12.size := by rw [W12.size]; exact Z11
  refine own_go (g' := (mkF m 73 #[.val (.long q0), .second, .val (.int p1), .val (.int p2), .val (.int oo), .val (.int sb), .unset] [(.ref b1)])) (st12) ?_
  refine own_go (g' := (mkF m 74 #[.val (.long q0), .second, .val (.int p1), .val (.int p2), .val (.int oo), .val (.int sb), .unset] [(.ref b1), (.ref b1)])) (fun _ k => XS.dup X12.here hx rfl (hb hby at_73) rfl rfl k) ?_
  refine own_go (g' := (mkF m 76 #[.val (.long q0), .second, .val (.int p1), .val (.int p2), .val (.int oo), .val (.int sb), .unset] [(.int (11 : Int32)), (.ref b1), (.ref b1)])) (fun _ k => XS.bipush X12.here hx rfl (hb hby at_74) k) ?_
  refine own_go (g' := (mkF m 78 #[.val (.long q0), .second, .val (.int p1), .val (.int p2), .val (.int oo), .val (.int sb), .unset] [(.int sb), (.int (11 : Int32)), (.ref b1), (.ref b1)])) (fun _ k => XS.iload X12.here hx rfl (hb hby at_76) rfl k) ?_
  obtain ⟨cl13, Ar13, qk13, sz13, nn13, Hs13, Gs13⟩ := id V12
  have hin13 : ¬ ((11 : Int32) < 0 ∨ cl13.slots.size ≤ ((11 : Int32)).toNatClampNeg) := inb_of sz13 ⟨by decide, by decide⟩
  obtain ⟨T13, h13, X13, e13, W13, st13⟩ := stB X12 hx hZ e12 Ar13 (j := (11 : Int32)) hin13 (g := (mkF m 78 #[.val (.long q0), .second, .val (.int p1), .val (.int p2), .val (.int oo), .val (.int sb), .unset] [(.int sb), (.int (11 : Int32)), (.ref b1), (.ref b1)])) rfl rfl (hb hby at_78)
  have V13 : Arv Z h13 b1 k1 .byte (12 : Int32) [(.int (sb).toInt8.toInt32), (.int (sb).toInt8.toInt32), (.int (sb).toInt8.toInt32), (.int (sb).toInt8.toInt32), (.int (sb).toInt8.toInt32), (.int (sb).toInt8.toInt32), (.int (sb).toInt8.toInt32), (.int (sb).toInt8.toInt32), (.int (sb).toInt8.toInt32), (.int (sb).toInt8.toInt32), (.int (sb).toInt8.toInt32), (.int (sb).toInt8.toInt32)] (.int (0 : Int32)) := Arv.set Ar13 qk13 sz13 nn13 Hs13 Gs13 (fits_nar_byte _) W13 11 rfl (Nat.le_of_ble_eq_true rfl)
  have N13 := Fr.snoc X13 N12 ge_b1
  have Z13 : n0 ≤ h13.size := by rw [W13.size]; exact Z12
  refine own_go (g' := (mkF m 79 #[.val (.long q0), .second, .val (.int p1), .val (.int p2), .val (.int oo), .val (.int sb), .unset] [(.ref b1)])) (st13) ?_
  refine own_go (g' := (mkF m 81 #[.val (.long q0), .second, .val (.int p1), .val (.int p2), .val (.int oo), .val (.int sb), .val (.ref b1)] [])) (fun _ k => XS.astore X13.here hx rfl (hb hby at_79) rfl rfl (l' := #[.val (.long q0), .second, .val (.int p1), .val (.int p2), .val (.int oo), .val (.int sb), .val (.ref b1)]) rfl k) ?_
  have ho4 := own_o4 p1
  rw [← hoo] at ho4
  rcases ho4 with rfl | rfl | rfl | rfl
  ·
    refine own_go (g' := (mkF m 82 #[.val (.long q0), .second, .val (.int p1), .val (.int p2), .val (.int (0 : Int32)), .val (.int sb), .val (.ref b1)] [(.long q0)])) (fun _ k => XS.lloadN X13.here hx rfl (hb hby at_81) rfl k) ?_
    refine own_go (g' := (mkF m 84 #[.val (.long q0), .second, .val (.int p1), .val (.int p2), .val (.int (0 : Int32)), .val (.int sb), .val (.ref b1)] [(.ref b1), (.long q0)])) (fun _ k => XS.aload X13.here hx rfl (hb hby at_82) rfl rfl k) ?_
    refine own_go (g' := (mkF m 86 #[.val (.long q0), .second, .val (.int p1), .val (.int p2), .val (.int (0 : Int32)), .val (.int sb), .val (.ref b1)] [(.int (0 : Int32)), (.ref b1), (.long q0)])) (fun _ k => XS.iload X13.here hx rfl (hb hby at_84) rfl k) ?_
    obtain ⟨v14, T14, L14, hQ14, X14, st14⟩ := own_callS X13 hx hZ (y := (⟨"com/example/table_salt/tablesalt/layout/Int64", "write", "(J[BI)V"⟩ : MethodName)) hown (hw _ (List.mem_of_getElem? (i := 1) rfl)) (hw _ (List.mem_of_getElem? (i := 2) rfl)) (hw _ (List.mem_of_getElem? (i := 3) rfl)) (hw _ (List.mem_of_getElem? (i := 4) rfl)) ⟨by decide, by decide⟩ (argsL := [(.long q0), (.ref b1), (.int (0 : Int32))]) (wr0 l Z a0 hw q0 b1 ((sb).toInt8.toInt32) ((sb).toInt8.toInt32) ((sb).toInt8.toInt32) ((sb).toInt8.toInt32) ((sb).toInt8.toInt32) ((sb).toInt8.toInt32) ((sb).toInt8.toInt32) ((sb).toInt8.toInt32) ((sb).toInt8.toInt32) ((sb).toInt8.toInt32) ((sb).toInt8.toInt32) ((sb).toInt8.toInt32) k1 h13 n0 Z13 ge_b1 V13) e13 (g := (mkF m 86 #[.val (.long q0), .second, .val (.int p1), .val (.int p2), .val (.int (0 : Int32)), .val (.int sb), .val (.ref b1)] [(.int (0 : Int32)), (.ref b1), (.long q0)])) rfl (by rw [hml]; rfl) (rest := []) (lenOf pd0_0 rfl) rfl (hb hby at_86) (W := 0) (by show 2 * 0 + _ ≤ _; exact Nat.le_of_eq rfl) (by decide) (by decide) (by decide) (by decide)
    obtain ⟨rfl, Nq14, Kq14, q14_0⟩ := hQ14
    have N14 := Fr.app N13 Nq14
    have Z14 : n0 ≤ T14.heap.size := Nat.le_trans Z13 Kq14.1
    refine own_go (g' := (mkF m 89 #[.val (.long q0), .second, .val (.int p1), .val (.int p2), .val (.int (0 : Int32)), .val (.int sb), .val (.ref b1)] [])) (st14) ?_
    refine own_go (g' := (mkF m 91 #[.val (.long q0), .second, .val (.int p1), .val (.int p2), .val (.int (0 : Int32)), .val (.int sb), .val (.ref b1)] [(.ref b1)])) (fun _ k => XS.aload X14.here hx rfl (hb hby at_89) rfl rfl k) ?_
    refine own_go (g' := (mkF m 92 #[.val (.long q0), .second, .val (.int p1), .val (.int p2), .val (.int (0 : Int32)), .val (.int sb), .val (.ref b1)] [(.int (0 : Int32)), (.ref b1)])) (fun _ k => XS.iconst X14.here hx rfl (hb hby at_91) k) ?_
    refine own_go (g' := (mkF m 94 #[.val (.long q0), .second, .val (.int p1), .val (.int p2), .val (.int (0 : Int32)), .val (.int sb), .val (.ref b1)] [(.int (0 : Int32)), (.int (0 : Int32)), (.ref b1)])) (fun _ k => XS.iload X14.here hx rfl (hb hby at_92) rfl k) ?_
    refine own_go (g' := (mkF m 95 #[.val (.long q0), .second, .val (.int p1), .val (.int p2), .val (.int (0 : Int32)), .val (.int sb), .val (.ref b1)] [(.long q0), (.int (0 : Int32)), (.int (0 : Int32)), (.ref b1)])) (fun _ k => XS.lloadN X14.here hx rfl (hb hby at_94) rfl k) ?_
    refine own_go (g' := (mkF m 97 #[.val (.long q0), .second, .val (.int p1), .val (.int p2), .val (.int (0 : Int32)), .val (.int sb), .val (.ref b1)] [(.int sb), (.long q0), (.int (0 : Int32)), (.int (0 : Int32)), (.ref b1)])) (fun _ k => XS.iload X14.here hx rfl (hb hby at_95) rfl k) ?_
    obtain ⟨v15, T15, L15, hQ15, X15, st15⟩ := own_callS X14 hx hZ (y := (⟨"com/example/table_salt/tablesalt/layout/Int64WritePinLaw", "ok", "([BIIJB)Z"⟩ : MethodName)) hown (hw _ (List.mem_of_getElem? (i := 5) rfl)) (hw _ (List.mem_of_getElem? (i := 6) rfl)) (hw _ (List.mem_of_getElem? (i := 7) rfl)) (hw _ (List.mem_of_getElem? (i := 8) rfl)) ⟨by decide, by decide⟩ (argsL := [(.ref b1), (.int (0 : Int32)), (.int (0 : Int32)), (.long q0), (.int sb)]) (ok_i l Z a0 hw b1 (0 : Int32) (0 : Int32) q0 sb [(.int (own_wb q0 (56 : Int32)).toInt8.toInt32), (.int (own_wb q0 (48 : Int32)).toInt8.toInt32), (.int (own_wb q0 (40 : Int32)).toInt8.toInt32), (.int (own_wb q0 (32 : Int32)).toInt8.toInt32), (.int (own_wb q0 (24 : Int32)).toInt8.toInt32), (.int (own_wb q0 (16 : Int32)).toInt8.toInt32), (.int (own_wb q0 (8 : Int32)).toInt8.toInt32), (.int (own_wb q0 (0 : Int32)).toInt8.toInt32), (.int ((sb).toInt8.toInt32)), (.int ((sb).toInt8.toInt32)), (.int ((sb).toInt8.toInt32)), (.int ((sb).toInt8.toInt32))] k1 ((own_wb q0 (56 : Int32)).toInt8.toInt32) T14.heap q14_0 ⟨by decide, by decide⟩ rfl (by decide) ((own_we q0 (56 : Int32) 56 1 (by decide) (by decide) (by decide) (by decide)).trans (show own_eb q0 (56 : Int32) = own_exp q0 ((0 : Int32) - (0 : Int32)) from rfl))) rfl (g := (mkF m 97 #[.val (.long q0), .second, .val (.int p1), .val (.int p2), .val (.int (0 : Int32)), .val (.int sb), .val (.ref b1)] [(.int sb), (.long q0), (.int (0 : Int32)), (.int (0 : Int32)), (.ref b1)])) rfl (by rw [hml]; rfl) (rest := []) (lenOf pd0_1 rfl) rfl (hb hby at_97) (W := 0) (by show 2 * 0 + _ ≤ _; exact Nat.le_of_eq rfl) (by decide) (by decide) (by decide) (by decide)
    obtain ⟨rfl, e15, rfl⟩ := hQ15
    have N15 := Fr.app N14 (Fr.nil n0)
    refine own_go (g' := (mkF m 100 #[.val (.long q0), .second, .val (.int p1), .val (.int p2), .val (.int (0 : Int32)), .val (.int sb), .val (.ref b1)] [(.int (1 : Int32))])) (st15) ?_
    refine own_go (g' := (mkF m 103 #[.val (.long q0), .second, .val (.int p1), .val (.int p2), .val (.int (0 : Int32)), .val (.int sb), .val (.ref b1)] [])) (fun _ k => XS.ifNo X15.here hx rfl (hb hby at_100) rfl ((if0 _ _).trans (feq (by decide)).1) k) ?_
    refine own_go (g' := (mkF m 105 #[.val (.long q0), .second, .val (.int p1), .val (.int p2), .val (.int (0 : Int32)), .val (.int sb), .val (.ref b1)] [(.ref b1)])) (fun _ k => XS.aload X15.here hx rfl (hb hby at_103) rfl rfl k) ?_
    refine own_go (g' := (mkF m 106 #[.val (.long q0), .second, .val (.int p1), .val (.int p2), .val (.int (0 : Int32)), .val (.int sb), .val (.ref b1)] [(.int (1 : Int32)), (.ref b1)])) (fun _ k => XS.iconst X15.here hx rfl (hb hby at_105) k) ?_
    refine own_go (g' := (mkF m 108 #[.val (.long q0), .second, .val (.int p1), .val (.int p2), .val (.int (0 : Int32)), .val (.int sb), .val (.ref b1)] [(.int (0 : Int32)), (.int (1 : Int32)), (.ref b1)])) (fun _ k => XS.iload X15.here hx rfl (hb hby at_106) rfl k) ?_
    refine own_go (g' := (mkF m 109 #[.val (.long q0), .second, .val (.int p1), .val (.int p2), .val (.int (0 : Int32)), .val (.int sb), .val (.ref b1)] [(.long q0), (.int (0 : Int32)), (.int (1 : Int32)), (.ref b1)])) (fun _ k => XS.lloadN X15.here hx rfl (hb hby at_108) rfl k) ?_
    refine own_go (g' := (mkF m 111 #[.val (.long q0), .second, .val (.int p1), .val (.int p2), .val (.int (0 : Int32)), .val (.int sb), .val (.ref b1)] [(.int sb), (.long q0), (.int (0 : Int32)), (.int (1 : Int32)), (.ref b1)])) (fun _ k => XS.iload X15.here hx rfl (hb hby at_109) rfl k) ?_
    obtain ⟨v16, T16, L16, hQ16, X16, st16⟩ := own_callS X15 hx hZ (y := (⟨"com/example/table_salt/tablesalt/layout/Int64WritePinLaw", "ok", "([BIIJB)Z"⟩ : MethodName)) hown (hw _ (List.mem_of_getElem? (i := 5) rfl)) (hw _ (List.mem_of_getElem? (i := 6) rfl)) (hw _ (List.mem_of_getElem? (i := 7) rfl)) (hw _ (List.mem_of_getElem? (i := 8) rfl)) ⟨by decide, by decide⟩ (argsL := [(.ref b1), (.int (1 : Int32)), (.int (0 : Int32)), (.long q0), (.int sb)]) (ok_i l Z a0 hw b1 (1 : Int32) (0 : Int32) q0 sb [(.int (own_wb q0 (56 : Int32)).toInt8.toInt32), (.int (own_wb q0 (48 : Int32)).toInt8.toInt32), (.int (own_wb q0 (40 : Int32)).toInt8.toInt32), (.int (own_wb q0 (32 : Int32)).toInt8.toInt32), (.int (own_wb q0 (24 : Int32)).toInt8.toInt32), (.int (own_wb q0 (16 : Int32)).toInt8.toInt32), (.int (own_wb q0 (8 : Int32)).toInt8.toInt32), (.int (own_wb q0 (0 : Int32)).toInt8.toInt32), (.int ((sb).toInt8.toInt32)), (.int ((sb).toInt8.toInt32)), (.int ((sb).toInt8.toInt32)), (.int ((sb).toInt8.toInt32))] k1 ((own_wb q0 (48 : Int32)).toInt8.toInt32) T14.heap q14_0 ⟨by decide, by decide⟩ rfl (by decide) ((own_we q0 (48 : Int32) 48 256 (by decide) (by decide) (by decide) (by decide)).trans (show own_eb q0 (48 : Int32) = own_exp q0 ((1 : Int32) - (0 : Int32)) from rfl))) e15 (g := (mkF m 111 #[.val (.long q0), .second, .val (.int p1), .val (.int p2), .val (.int (0 : Int32)), .val (.int sb), .val (.ref b1)] [(.int sb), (.long q0), (.int (0 : Int32)), (.int (1 : Int32)), (.ref b1)])) rfl (by rw [hml]; rfl) (rest := []) (lenOf pd0_1 rfl) rfl (hb hby at_111) (W := 0) (by show 2 * 0 + _ ≤ _; exact Nat.le_of_eq rfl) (by decide) (by decide) (by decide) (by decide)
    obtain ⟨rfl, e16, rfl⟩ := hQ16
    have N16 := Fr.app N15 (Fr.nil n0)
    refine own_go (g' := (mkF m 114 #[.val (.long q0), .second, .val (.int p1), .val (.int p2), .val (.int (0 : Int32)), .val (.int sb), .val (.ref b1)] [(.int (1 : Int32))])) (st16) ?_
    refine own_go (g' := (mkF m 117 #[.val (.long q0), .second, .val (.int p1), .val (.int p2), .val (.int (0 : Int32)), .val (.int sb), .val (.ref b1)] [])) (fun _ k => XS.ifNo X16.here hx rfl (hb hby at_114) rfl ((if0 _ _).trans (feq (by decide)).1) k) ?_
    refine own_go (g' := (mkF m 119 #[.val (.long q0), .second, .val (.int p1), .val (.int p2), .val (.int (0 : Int32)), .val (.int sb), .val (.ref b1)] [(.ref b1)])) (fun _ k => XS.aload X16.here hx rfl (hb hby at_117) rfl rfl k) ?_
    refine own_go (g' := (mkF m 120 #[.val (.long q0), .second, .val (.int p1), .val (.int p2), .val (.int (0 : Int32)), .val (.int sb), .val (.ref b1)] [(.int (2 : Int32)), (.ref b1)])) (fun _ k => XS.iconst X16.here hx rfl (hb hby at_119) k) ?_
    refine own_go (g' := (mkF m 122 #[.val (.long q0), .second, .val (.int p1), .val (.int p2), .val (.int (0 : Int32)), .val (.int sb), .val (.ref b1)] [(.int (0 : Int32)), (.int (2 : Int32)), (.ref b1)])) (fun _ k => XS.iload X16.here hx rfl (hb hby at_120) rfl k) ?_
    refine own_go (g' := (mkF m 123 #[.val (.long q0), .second, .val (.int p1), .val (.int p2), .val (.int (0 : Int32)), .val (.int sb), .val (.ref b1)] [(.long q0), (.int (0 : Int32)), (.int (2 : Int32)), (.ref b1)])) (fun _ k => XS.lloadN X16.here hx rfl (hb hby at_122) rfl k) ?_
    refine own_go (g' := (mkF m 125 #[.val (.long q0), .second, .val (.int p1), .val (.int p2), .val (.int (0 : Int32)), .val (.int sb), .val (.ref b1)] [(.int sb), (.long q0), (.int (0 : Int32)), (.int (2 : Int32)), (.ref b1)])) (fun _ k => XS.iload X16.here hx rfl (hb hby at_123) rfl k) ?_
    obtain ⟨v17, T17, L17, hQ17, X17, st17⟩ := own_callS X16 hx hZ (y := (⟨"com/example/table_salt/tablesalt/layout/Int64WritePinLaw", "ok", "([BIIJB)Z"⟩ : MethodName)) hown (hw _ (List.mem_of_getElem? (i := 5) rfl)) (hw _ (List.mem_of_getElem? (i := 6) rfl)) (hw _ (List.mem_of_getElem? (i := 7) rfl)) (hw _ (List.mem_of_getElem? (i := 8) rfl)) ⟨by decide, by decide⟩ (argsL := [(.ref b1), (.int (2 : Int32)), (.int (0 : Int32)), (.long q0), (.int sb)]) (ok_i l Z a0 hw b1 (2 : Int32) (0 : Int32) q0 sb [(.int (own_wb q0 (56 : Int32)).toInt8.toInt32), (.int (own_wb q0 (48 : Int32)).toInt8.toInt32), (.int (own_wb q0 (40 : Int32)).toInt8.toInt32), (.int (own_wb q0 (32 : Int32)).toInt8.toInt32), (.int (own_wb q0 (24 : Int32)).toInt8.toInt32), (.int (own_wb q0 (16 : Int32)).toInt8.toInt32), (.int (own_wb q0 (8 : Int32)).toInt8.toInt32), (.int (own_wb q0 (0 : Int32)).toInt8.toInt32), (.int ((sb).toInt8.toInt32)), (.int ((sb).toInt8.toInt32)), (.int ((sb).toInt8.toInt32)), (.int ((sb).toInt8.toInt32))] k1 ((own_wb q0 (40 : Int32)).toInt8.toInt32) T14.heap q14_0 ⟨by decide, by decide⟩ rfl (by decide) ((own_we q0 (40 : Int32) 40 65536 (by decide) (by decide) (by decide) (by decide)).trans (show own_eb q0 (40 : Int32) = own_exp q0 ((2 : Int32) - (0 : Int32)) from rfl))) e16 (g := (mkF m 125 #[.val (.long q0), .second, .val (.int p1), .val (.int p2), .val (.int (0 : Int32)), .val (.int sb), .val (.ref b1)] [(.int sb), (.long q0), (.int (0 : Int32)), (.int (2 : Int32)), (.ref b1)])) rfl (by rw [hml]; rfl) (rest := []) (lenOf pd0_1 rfl) rfl (hb hby at_125) (W := 0) (by show 2 * 0 + _ ≤ _; exact Nat.le_of_eq rfl) (by decide) (by decide) (by decide) (by decide)
    obtain ⟨rfl, e17, rfl⟩ := hQ17
    have N17 := Fr.app N16 (Fr.nil n0)
    refine own_go (g' := (mkF m 128 #[.val (.long q0), .second, .val (.int p1), .val (.int p2), .val (.int (0 : Int32)), .val (.int sb), .val (.ref b1)] [(.int (1 : Int32))])) (st17) ?_
    refine own_go (g' := (mkF m 131 #[.val (.long q0), .second, .val (.int p1), .val (.int p2), .val (.int (0 : Int32)), .val (.int sb), .val (.ref b1)] [])) (fun _ k => XS.ifNo X17.here hx rfl (hb hby at_128) rfl ((if0 _ _).trans (feq (by decide)).1) k) ?_
    refine own_go (g' := (mkF m 133 #[.val (.long q0), .second, .val (.int p1), .val (.int p2), .val (.int (0 : Int32)), .val (.int sb), .val (.ref b1)] [(.ref b1)])) (fun _ k => XS.aload X17.here hx rfl (hb hby at_131) rfl rfl k) ?_
    refine own_go (g' := (mkF m 134 #[.val (.long q0), .second, .val (.int p1), .val (.int p2), .val (.int (0 : Int32)), .val (.int sb), .val (.ref b1)] [(.int (3 : Int32)), (.ref b1)])) (fun _ k => XS.iconst X17.here hx rfl (hb hby at_133) k) ?_
    refine own_go (g' := (mkF m 136 #[.val (.long q0), .second, .val (.int p1), .val (.int p2), .val (.int (0 : Int32)), .val (.int sb), .val (.ref b1)] [(.int (0 : Int32)), (.int (3 : Int32)), (.ref b1)])) (fun _ k => XS.iload X17.here hx rfl (hb hby at_134) rfl k) ?_
    refine own_go (g' := (mkF m 137 #[.val (.long q0), .second, .val (.int p1), .val (.int p2), .val (.int (0 : Int32)), .val (.int sb), .val (.ref b1)] [(.long q0), (.int (0 : Int32)), (.int (3 : Int32)), (.ref b1)])) (fun _ k => XS.lloadN X17.here hx rfl (hb hby at_136) rfl k) ?_
    refine own_go (g' := (mkF m 139 #[.val (.long q0), .second, .val (.int p1), .val (.int p2), .val (.int (0 : Int32)), .val (.int sb), .val (.ref b1)] [(.int sb), (.long q0), (.int (0 : Int32)), (.int (3 : Int32)), (.ref b1)])) (fun _ k => XS.iload X17.here hx rfl (hb hby at_137) rfl k) ?_
    obtain ⟨v18, T18, L18, hQ18, X18, st18⟩ := own_callS X17 hx hZ (y := (⟨"com/example/table_salt/tablesalt/layout/Int64WritePinLaw", "ok", "([BIIJB)Z"⟩ : MethodName)) hown (hw _ (List.mem_of_getElem? (i := 5) rfl)) (hw _ (List.mem_of_getElem? (i := 6) rfl)) (hw _ (List.mem_of_getElem? (i := 7) rfl)) (hw _ (List.mem_of_getElem? (i := 8) rfl)) ⟨by decide, by decide⟩ (argsL := [(.ref b1), (.int (3 : Int32)), (.int (0 : Int32)), (.long q0), (.int sb)]) (ok_i l Z a0 hw b1 (3 : Int32) (0 : Int32) q0 sb [(.int (own_wb q0 (56 : Int32)).toInt8.toInt32), (.int (own_wb q0 (48 : Int32)).toInt8.toInt32), (.int (own_wb q0 (40 : Int32)).toInt8.toInt32), (.int (own_wb q0 (32 : Int32)).toInt8.toInt32), (.int (own_wb q0 (24 : Int32)).toInt8.toInt32), (.int (own_wb q0 (16 : Int32)).toInt8.toInt32), (.int (own_wb q0 (8 : Int32)).toInt8.toInt32), (.int (own_wb q0 (0 : Int32)).toInt8.toInt32), (.int ((sb).toInt8.toInt32)), (.int ((sb).toInt8.toInt32)), (.int ((sb).toInt8.toInt32)), (.int ((sb).toInt8.toInt32))] k1 ((own_wb q0 (32 : Int32)).toInt8.toInt32) T14.heap q14_0 ⟨by decide, by decide⟩ rfl (by decide) ((own_we q0 (32 : Int32) 32 16777216 (by decide) (by decide) (by decide) (by decide)).trans (show own_eb q0 (32 : Int32) = own_exp q0 ((3 : Int32) - (0 : Int32)) from rfl))) e17 (g := (mkF m 139 #[.val (.long q0), .second, .val (.int p1), .val (.int p2), .val (.int (0 : Int32)), .val (.int sb), .val (.ref b1)] [(.int sb), (.long q0), (.int (0 : Int32)), (.int (3 : Int32)), (.ref b1)])) rfl (by rw [hml]; rfl) (rest := []) (lenOf pd0_1 rfl) rfl (hb hby at_139) (W := 0) (by show 2 * 0 + _ ≤ _; exact Nat.le_of_eq rfl) (by decide) (by decide) (by decide) (by decide)
    obtain ⟨rfl, e18, rfl⟩ := hQ18
    have N18 := Fr.app N17 (Fr.nil n0)
    refine own_go (g' := (mkF m 142 #[.val (.long q0), .second, .val (.int p1), .val (.int p2), .val (.int (0 : Int32)), .val (.int sb), .val (.ref b1)] [(.int (1 : Int32))])) (st18) ?_
    refine own_go (g' := (mkF m 145 #[.val (.long q0), .second, .val (.int p1), .val (.int p2), .val (.int (0 : Int32)), .val (.int sb), .val (.ref b1)] [])) (fun _ k => XS.ifNo X18.here hx rfl (hb hby at_142) rfl ((if0 _ _).trans (feq (by decide)).1) k) ?_
    refine own_go (g' := (mkF m 147 #[.val (.long q0), .second, .val (.int p1), .val (.int p2), .val (.int (0 : Int32)), .val (.int sb), .val (.ref b1)] [(.ref b1)])) (fun _ k => XS.aload X18.here hx rfl (hb hby at_145) rfl rfl k) ?_
    refine own_go (g' := (mkF m 148 #[.val (.long q0), .second, .val (.int p1), .val (.int p2), .val (.int (0 : Int32)), .val (.int sb), .val (.ref b1)] [(.int (4 : Int32)), (.ref b1)])) (fun _ k => XS.iconst X18.here hx rfl (hb hby at_147) k) ?_
    refine own_go (g' := (mkF m 150 #[.val (.long q0), .second, .val (.int p1), .val (.int p2), .val (.int (0 : Int32)), .val (.int sb), .val (.ref b1)] [(.int (0 : Int32)), (.int (4 : Int32)), (.ref b1)])) (fun _ k => XS.iload X18.here hx rfl (hb hby at_148) rfl k) ?_
    refine own_go (g' := (mkF m 151 #[.val (.long q0), .second, .val (.int p1), .val (.int p2), .val (.int (0 : Int32)), .val (.int sb), .val (.ref b1)] [(.long q0), (.int (0 : Int32)), (.int (4 : Int32)), (.ref b1)])) (fun _ k => XS.lloadN X18.here hx rfl (hb hby at_150) rfl k) ?_
    refine own_go (g' := (mkF m 153 #[.val (.long q0), .second, .val (.int p1), .val (.int p2), .val (.int (0 : Int32)), .val (.int sb), .val (.ref b1)] [(.int sb), (.long q0), (.int (0 : Int32)), (.int (4 : Int32)), (.ref b1)])) (fun _ k => XS.iload X18.here hx rfl (hb hby at_151) rfl k) ?_
    obtain ⟨v19, T19, L19, hQ19, X19, st19⟩ := own_callS X18 hx hZ (y := (⟨"com/example/table_salt/tablesalt/layout/Int64WritePinLaw", "ok", "([BIIJB)Z"⟩ : MethodName)) hown (hw _ (List.mem_of_getElem? (i := 5) rfl)) (hw _ (List.mem_of_getElem? (i := 6) rfl)) (hw _ (List.mem_of_getElem? (i := 7) rfl)) (hw _ (List.mem_of_getElem? (i := 8) rfl)) ⟨by decide, by decide⟩ (argsL := [(.ref b1), (.int (4 : Int32)), (.int (0 : Int32)), (.long q0), (.int sb)]) (ok_i l Z a0 hw b1 (4 : Int32) (0 : Int32) q0 sb [(.int (own_wb q0 (56 : Int32)).toInt8.toInt32), (.int (own_wb q0 (48 : Int32)).toInt8.toInt32), (.int (own_wb q0 (40 : Int32)).toInt8.toInt32), (.int (own_wb q0 (32 : Int32)).toInt8.toInt32), (.int (own_wb q0 (24 : Int32)).toInt8.toInt32), (.int (own_wb q0 (16 : Int32)).toInt8.toInt32), (.int (own_wb q0 (8 : Int32)).toInt8.toInt32), (.int (own_wb q0 (0 : Int32)).toInt8.toInt32), (.int ((sb).toInt8.toInt32)), (.int ((sb).toInt8.toInt32)), (.int ((sb).toInt8.toInt32)), (.int ((sb).toInt8.toInt32))] k1 ((own_wb q0 (24 : Int32)).toInt8.toInt32) T14.heap q14_0 ⟨by decide, by decide⟩ rfl (by decide) ((own_we q0 (24 : Int32) 24 4294967296 (by decide) (by decide) (by decide) (by decide)).trans (show own_eb q0 (24 : Int32) = own_exp q0 ((4 : Int32) - (0 : Int32)) from rfl))) e18 (g := (mkF m 153 #[.val (.long q0), .second, .val (.int p1), .val (.int p2), .val (.int (0 : Int32)), .val (.int sb), .val (.ref b1)] [(.int sb), (.long q0), (.int (0 : Int32)), (.int (4 : Int32)), (.ref b1)])) rfl (by rw [hml]; rfl) (rest := []) (lenOf pd0_1 rfl) rfl (hb hby at_153) (W := 0) (by show 2 * 0 + _ ≤ _; exact Nat.le_of_eq rfl) (by decide) (by decide) (by decide) (by decide)
    obtain ⟨rfl, e19, rfl⟩ := hQ19
    have N19 := Fr.app N18 (Fr.nil n0)
    refine own_go (g' := (mkF m 156 #[.val (.long q0), .second, .val (.int p1), .val (.int p2), .val (.int (0 : Int32)), .val (.int sb), .val (.ref b1)] [(.int (1 : Int32))])) (st19) ?_
    refine own_go (g' := (mkF m 159 #[.val (.long q0), .second, .val (.int p1), .val (.int p2), .val (.int (0 : Int32)), .val (.int sb), .val (.ref b1)] [])) (fun _ k => XS.ifNo X19.here hx rfl (hb hby at_156) rfl ((if0 _ _).trans (feq (by decide)).1) k) ?_
    refine own_go (g' := (mkF m 161 #[.val (.long q0), .second, .val (.int p1), .val (.int p2), .val (.int (0 : Int32)), .val (.int sb), .val (.ref b1)] [(.ref b1)])) (fun _ k => XS.aload X19.here hx rfl (hb hby at_159) rfl rfl k) ?_
    refine own_go (g' := (mkF m 162 #[.val (.long q0), .second, .val (.int p1), .val (.int p2), .val (.int (0 : Int32)), .val (.int sb), .val (.ref b1)] [(.int (5 : Int32)), (.ref b1)])) (fun _ k => XS.iconst X19.here hx rfl (hb hby at_161) k) ?_
    refine own_go (g' := (mkF m 164 #[.val (.long q0), .second, .val (.int p1), .val (.int p2), .val (.int (0 : Int32)), .val (.int sb), .val (.ref b1)] [(.int (0 : Int32)), (.int (5 : Int32)), (.ref b1)])) (fun _ k => XS.iload X19.here hx rfl (hb hby at_162) rfl k) ?_
    refine own_go (g' := (mkF m 165 #[.val (.long q0), .second, .val (.int p1), .val (.int p2), .val (.int (0 : Int32)), .val (.int sb), .val (.ref b1)] [(.long q0), (.int (0 : Int32)), (.int (5 : Int32)), (.ref b1)])) (fun _ k => XS.lloadN X19.here hx rfl (hb hby at_164) rfl k) ?_
    refine own_go (g' := (mkF m 167 #[.val (.long q0), .second, .val (.int p1), .val (.int p2), .val (.int (0 : Int32)), .val (.int sb), .val (.ref b1)] [(.int sb), (.long q0), (.int (0 : Int32)), (.int (5 : Int32)), (.ref b1)])) (fun _ k => XS.iload X19.here hx rfl (hb hby at_165) rfl k) ?_
    obtain ⟨v20, T20, L20, hQ20, X20, st20⟩ := own_callS X19 hx hZ (y := (⟨"com/example/table_salt/tablesalt/layout/Int64WritePinLaw", "ok", "([BIIJB)Z"⟩ : MethodName)) hown (hw _ (List.mem_of_getElem? (i := 5) rfl)) (hw _ (List.mem_of_getElem? (i := 6) rfl)) (hw _ (List.mem_of_getElem? (i := 7) rfl)) (hw _ (List.mem_of_getElem? (i := 8) rfl)) ⟨by decide, by decide⟩ (argsL := [(.ref b1), (.int (5 : Int32)), (.int (0 : Int32)), (.long q0), (.int sb)]) (ok_i l Z a0 hw b1 (5 : Int32) (0 : Int32) q0 sb [(.int (own_wb q0 (56 : Int32)).toInt8.toInt32), (.int (own_wb q0 (48 : Int32)).toInt8.toInt32), (.int (own_wb q0 (40 : Int32)).toInt8.toInt32), (.int (own_wb q0 (32 : Int32)).toInt8.toInt32), (.int (own_wb q0 (24 : Int32)).toInt8.toInt32), (.int (own_wb q0 (16 : Int32)).toInt8.toInt32), (.int (own_wb q0 (8 : Int32)).toInt8.toInt32), (.int (own_wb q0 (0 : Int32)).toInt8.toInt32), (.int ((sb).toInt8.toInt32)), (.int ((sb).toInt8.toInt32)), (.int ((sb).toInt8.toInt32)), (.int ((sb).toInt8.toInt32))] k1 ((own_wb q0 (16 : Int32)).toInt8.toInt32) T14.heap q14_0 ⟨by decide, by decide⟩ rfl (by decide) ((own_we q0 (16 : Int32) 16 1099511627776 (by decide) (by decide) (by decide) (by decide)).trans (show own_eb q0 (16 : Int32) = own_exp q0 ((5 : Int32) - (0 : Int32)) from rfl))) e19 (g := (mkF m 167 #[.val (.long q0), .second, .val (.int p1), .val (.int p2), .val (.int (0 : Int32)), .val (.int sb), .val (.ref b1)] [(.int sb), (.long q0), (.int (0 : Int32)), (.int (5 : Int32)), (.ref b1)])) rfl (by rw [hml]; rfl) (rest := []) (lenOf pd0_1 rfl) rfl (hb hby at_167) (W := 0) (by show 2 * 0 + _ ≤ _; exact Nat.le_of_eq rfl) (by decide) (by decide) (by decide) (by decide)
    obtain ⟨rfl, e20, rfl⟩ := hQ20
    have N20 := Fr.app N19 (Fr.nil n0)
    refine own_go (g' := (mkF m 170 #[.val (.long q0), .second, .val (.int p1), .val (.int p2), .val (.int (0 : Int32)), .val (.int sb), .val (.ref b1)] [(.int (1 : Int32))])) (st20) ?_
    refine own_go (g' := (mkF m 173 #[.val (.long q0), .second, .val (.int p1), .val (.int p2), .val (.int (0 : Int32)), .val (.int sb), .val (.ref b1)] [])) (fun _ k => XS.ifNo X20.here hx rfl (hb hby at_170) rfl ((if0 _ _).trans (feq (by decide)).1) k) ?_
    refine own_go (g' := (mkF m 175 #[.val (.long q0), .second, .val (.int p1), .val (.int p2), .val (.int (0 : Int32)), .val (.int sb), .val (.ref b1)] [(.ref b1)])) (fun _ k => XS.aload X20.here hx rfl (hb hby at_173) rfl rfl k) ?_
    refine own_go (g' := (mkF m 177 #[.val (.long q0), .second, .val (.int p1), .val (.int p2), .val (.int (0 : Int32)), .val (.int sb), .val (.ref b1)] [(.int (6 : Int32)), (.ref b1)])) (fun _ k => XS.bipush X20.here hx rfl (hb hby at_175) k) ?_
    refine own_go (g' := (mkF m 179 #[.val (.long q0), .second, .val (.int p1), .val (.int p2), .val (.int (0 : Int32)), .val (.int sb), .val (.ref b1)] [(.int (0 : Int32)), (.int (6 : Int32)), (.ref b1)])) (fun _ k => XS.iload X20.here hx rfl (hb hby at_177) rfl k) ?_
    refine own_go (g' := (mkF m 180 #[.val (.long q0), .second, .val (.int p1), .val (.int p2), .val (.int (0 : Int32)), .val (.int sb), .val (.ref b1)] [(.long q0), (.int (0 : Int32)), (.int (6 : Int32)), (.ref b1)])) (fun _ k => XS.lloadN X20.here hx rfl (hb hby at_179) rfl k) ?_
    refine own_go (g' := (mkF m 182 #[.val (.long q0), .second, .val (.int p1), .val (.int p2), .val (.int (0 : Int32)), .val (.int sb), .val (.ref b1)] [(.int sb), (.long q0), (.int (0 : Int32)), (.int (6 : Int32)), (.ref b1)])) (fun _ k => XS.iload X20.here hx rfl (hb hby at_180) rfl k) ?_
    obtain ⟨v21, T21, L21, hQ21, X21, st21⟩ := own_callS X20 hx hZ (y := (⟨"com/example/table_salt/tablesalt/layout/Int64WritePinLaw", "ok", "([BIIJB)Z"⟩ : MethodName)) hown (hw _ (List.mem_of_getElem? (i := 5) rfl)) (hw _ (List.mem_of_getElem? (i := 6) rfl)) (hw _ (List.mem_of_getElem? (i := 7) rfl)) (hw _ (List.mem_of_getElem? (i := 8) rfl)) ⟨by decide, by decide⟩ (argsL := [(.ref b1), (.int (6 : Int32)), (.int (0 : Int32)), (.long q0), (.int sb)]) (ok_i l Z a0 hw b1 (6 : Int32) (0 : Int32) q0 sb [(.int (own_wb q0 (56 : Int32)).toInt8.toInt32), (.int (own_wb q0 (48 : Int32)).toInt8.toInt32), (.int (own_wb q0 (40 : Int32)).toInt8.toInt32), (.int (own_wb q0 (32 : Int32)).toInt8.toInt32), (.int (own_wb q0 (24 : Int32)).toInt8.toInt32), (.int (own_wb q0 (16 : Int32)).toInt8.toInt32), (.int (own_wb q0 (8 : Int32)).toInt8.toInt32), (.int (own_wb q0 (0 : Int32)).toInt8.toInt32), (.int ((sb).toInt8.toInt32)), (.int ((sb).toInt8.toInt32)), (.int ((sb).toInt8.toInt32)), (.int ((sb).toInt8.toInt32))] k1 ((own_wb q0 (8 : Int32)).toInt8.toInt32) T14.heap q14_0 ⟨by decide, by decide⟩ rfl (by decide) ((own_we q0 (8 : Int32) 8 281474976710656 (by decide) (by decide) (by decide) (by decide)).trans (show own_eb q0 (8 : Int32) = own_exp q0 ((6 : Int32) - (0 : Int32)) from rfl))) e20 (g := (mkF m 182 #[.val (.long q0), .second, .val (.int p1), .val (.int p2), .val (.int (0 : Int32)), .val (.int sb), .val (.ref b1)] [(.int sb), (.long q0), (.int (0 : Int32)), (.int (6 : Int32)), (.ref b1)])) rfl (by rw [hml]; rfl) (rest := []) (lenOf pd0_1 rfl) rfl (hb hby at_182) (W := 0) (by show 2 * 0 + _ ≤ _; exact Nat.le_of_eq rfl) (by decide) (by decide) (by decide) (by decide)
    obtain ⟨rfl, e21, rfl⟩ := hQ21
    have N21 := Fr.app N20 (Fr.nil n0)
    refine own_go (g' := (mkF m 185 #[.val (.long q0), .second, .val (.int p1), .val (.int p2), .val (.int (0 : Int32)), .val (.int sb), .val (.ref b1)] [(.int (1 : Int32))])) (st21) ?_
    refine own_go (g' := (mkF m 188 #[.val (.long q0), .second, .val (.int p1), .val (.int p2), .val (.int (0 : Int32)), .val (.int sb), .val (.ref b1)] [])) (fun _ k => XS.ifNo X21.here hx rfl (hb hby at_185) rfl ((if0 _ _).trans (feq (by decide)).1) k) ?_
    refine own_go (g' := (mkF m 190 #[.val (.long q0), .second, .val (.int p1), .val (.int p2), .val (.int (0 : Int32)), .val (.int sb), .val (.ref b1)] [(.ref b1)])) (fun _ k => XS.aload X21.here hx rfl (hb hby at_188) rfl rfl k) ?_
    refine own_go (g' := (mkF m 192 #[.val (.long q0), .second, .val (.int p1), .val (.int p2), .val (.int (0 : Int32)), .val (.int sb), .val (.ref b1)] [(.int (7 : Int32)), (.ref b1)])) (fun _ k => XS.bipush X21.here hx rfl (hb hby at_190) k) ?_
    refine own_go (g' := (mkF m 194 #[.val (.long q0), .second, .val (.int p1), .val (.int p2), .val (.int (0 : Int32)), .val (.int sb), .val (.ref b1)] [(.int (0 : Int32)), (.int (7 : Int32)), (.ref b1)])) (fun _ k => XS.iload X21.here hx rfl (hb hby at_192) rfl k) ?_
    refine own_go (g' := (mkF m 195 #[.val (.long q0), .second, .val (.int p1), .val (.int p2), .val (.int (0 : Int32)), .val (.int sb), .val (.ref b1)] [(.long q0), (.int (0 : Int32)), (.int (7 : Int32)), (.ref b1)])) (fun _ k => XS.lloadN X21.here hx rfl (hb hby at_194) rfl k) ?_
    refine own_go (g' := (mkF m 197 #[.val (.long q0), .second, .val (.int p1), .val (.int p2), .val (.int (0 : Int32)), .val (.int sb), .val (.ref b1)] [(.int sb), (.long q0), (.int (0 : Int32)), (.int (7 : Int32)), (.ref b1)])) (fun _ k => XS.iload X21.here hx rfl (hb hby at_195) rfl k) ?_
    obtain ⟨v22, T22, L22, hQ22, X22, st22⟩ := own_callS X21 hx hZ (y := (⟨"com/example/table_salt/tablesalt/layout/Int64WritePinLaw", "ok", "([BIIJB)Z"⟩ : MethodName)) hown (hw _ (List.mem_of_getElem? (i := 5) rfl)) (hw _ (List.mem_of_getElem? (i := 6) rfl)) (hw _ (List.mem_of_getElem? (i := 7) rfl)) (hw _ (List.mem_of_getElem? (i := 8) rfl)) ⟨by decide, by decide⟩ (argsL := [(.ref b1), (.int (7 : Int32)), (.int (0 : Int32)), (.long q0), (.int sb)]) (ok_i l Z a0 hw b1 (7 : Int32) (0 : Int32) q0 sb [(.int (own_wb q0 (56 : Int32)).toInt8.toInt32), (.int (own_wb q0 (48 : Int32)).toInt8.toInt32), (.int (own_wb q0 (40 : Int32)).toInt8.toInt32), (.int (own_wb q0 (32 : Int32)).toInt8.toInt32), (.int (own_wb q0 (24 : Int32)).toInt8.toInt32), (.int (own_wb q0 (16 : Int32)).toInt8.toInt32), (.int (own_wb q0 (8 : Int32)).toInt8.toInt32), (.int (own_wb q0 (0 : Int32)).toInt8.toInt32), (.int ((sb).toInt8.toInt32)), (.int ((sb).toInt8.toInt32)), (.int ((sb).toInt8.toInt32)), (.int ((sb).toInt8.toInt32))] k1 ((own_wb q0 (0 : Int32)).toInt8.toInt32) T14.heap q14_0 ⟨by decide, by decide⟩ rfl (by decide) (show (own_wb q0 (0 : Int32)).toInt8.toInt32 = own_exp q0 ((7 : Int32) - (0 : Int32)) from own_w0 q0)) e21 (g := (mkF m 197 #[.val (.long q0), .second, .val (.int p1), .val (.int p2), .val (.int (0 : Int32)), .val (.int sb), .val (.ref b1)] [(.int sb), (.long q0), (.int (0 : Int32)), (.int (7 : Int32)), (.ref b1)])) rfl (by rw [hml]; rfl) (rest := []) (lenOf pd0_1 rfl) rfl (hb hby at_197) (W := 0) (by show 2 * 0 + _ ≤ _; exact Nat.le_of_eq rfl) (by decide) (by decide) (by decide) (by decide)
    obtain ⟨rfl, e22, rfl⟩ := hQ22
    have N22 := Fr.app N21 (Fr.nil n0)
    refine own_go (g' := (mkF m 200 #[.val (.long q0), .second, .val (.int p1), .val (.int p2), .val (.int (0 : Int32)), .val (.int sb), .val (.ref b1)] [(.int (1 : Int32))])) (st22) ?_
    refine own_go (g' := (mkF m 203 #[.val (.long q0), .second, .val (.int p1), .val (.int p2), .val (.int (0 : Int32)), .val (.int sb), .val (.ref b1)] [])) (fun _ k => XS.ifNo X22.here hx rfl (hb hby at_200) rfl ((if0 _ _).trans (feq (by decide)).1) k) ?_
    refine own_go (g' := (mkF m 205 #[.val (.long q0), .second, .val (.int p1), .val (.int p2), .val (.int (0 : Int32)), .val (.int sb), .val (.ref b1)] [(.ref b1)])) (fun _ k => XS.aload X22.here hx rfl (hb hby at_203) rfl rfl k) ?_
    refine own_go (g' := (mkF m 207 #[.val (.long q0), .second, .val (.int p1), .val (.int p2), .val (.int (0 : Int32)), .val (.int sb), .val (.ref b1)] [(.int (8 : Int32)), (.ref b1)])) (fun _ k => XS.bipush X22.here hx rfl (hb hby at_205) k) ?_
    refine own_go (g' := (mkF m 209 #[.val (.long q0), .second, .val (.int p1), .val (.int p2), .val (.int (0 : Int32)), .val (.int sb), .val (.ref b1)] [(.int (0 : Int32)), (.int (8 : Int32)), (.ref b1)])) (fun _ k => XS.iload X22.here hx rfl (hb hby at_207) rfl k) ?_
    refine own_go (g' := (mkF m 210 #[.val (.long q0), .second, .val (.int p1), .val (.int p2), .val (.int (0 : Int32)), .val (.int sb), .val (.ref b1)] [(.long q0), (.int (0 : Int32)), (.int (8 : Int32)), (.ref b1)])) (fun _ k => XS.lloadN X22.here hx rfl (hb hby at_209) rfl k) ?_
    refine own_go (g' := (mkF m 212 #[.val (.long q0), .second, .val (.int p1), .val (.int p2), .val (.int (0 : Int32)), .val (.int sb), .val (.ref b1)] [(.int sb), (.long q0), (.int (0 : Int32)), (.int (8 : Int32)), (.ref b1)])) (fun _ k => XS.iload X22.here hx rfl (hb hby at_210) rfl k) ?_
    obtain ⟨v23, T23, L23, hQ23, X23, st23⟩ := own_callS X22 hx hZ (y := (⟨"com/example/table_salt/tablesalt/layout/Int64WritePinLaw", "ok", "([BIIJB)Z"⟩ : MethodName)) hown (hw _ (List.mem_of_getElem? (i := 5) rfl)) (hw _ (List.mem_of_getElem? (i := 6) rfl)) (hw _ (List.mem_of_getElem? (i := 7) rfl)) (hw _ (List.mem_of_getElem? (i := 8) rfl)) ⟨by decide, by decide⟩ (argsL := [(.ref b1), (.int (8 : Int32)), (.int (0 : Int32)), (.long q0), (.int sb)]) (ok_o l Z a0 hw b1 (8 : Int32) (0 : Int32) q0 sb [(.int (own_wb q0 (56 : Int32)).toInt8.toInt32), (.int (own_wb q0 (48 : Int32)).toInt8.toInt32), (.int (own_wb q0 (40 : Int32)).toInt8.toInt32), (.int (own_wb q0 (32 : Int32)).toInt8.toInt32), (.int (own_wb q0 (24 : Int32)).toInt8.toInt32), (.int (own_wb q0 (16 : Int32)).toInt8.toInt32), (.int (own_wb q0 (8 : Int32)).toInt8.toInt32), (.int (own_wb q0 (0 : Int32)).toInt8.toInt32), (.int ((sb).toInt8.toInt32)), (.int ((sb).toInt8.toInt32)), (.int ((sb).toInt8.toInt32)), (.int ((sb).toInt8.toInt32))] k1 (((sb).toInt8.toInt32)) T14.heap q14_0 ⟨by decide, by decide⟩ rfl (by decide) (by rw [hsb]; exact own_bb _)) e22 (g := (mkF m 212 #[.val (.long q0), .second, .val (.int p1), .val (.int p2), .val (.int (0 : Int32)), .val (.int sb), .val (.ref b1)] [(.int sb), (.long q0), (.int (0 : Int32)), (.int (8 : Int32)), (.ref b1)])) rfl (by rw [hml]; rfl) (rest := []) (lenOf pd0_1 rfl) rfl (hb hby at_212) (W := 0) (by show 2 * 0 + _ ≤ _; exact Nat.le_of_eq rfl) (by decide) (by decide) (by decide) (by decide)
    obtain ⟨rfl, e23, rfl⟩ := hQ23
    have N23 := Fr.app N22 (Fr.nil n0)
    refine own_go (g' := (mkF m 215 #[.val (.long q0), .second, .val (.int p1), .val (.int p2), .val (.int (0 : Int32)), .val (.int sb), .val (.ref b1)] [(.int (1 : Int32))])) (st23) ?_
    refine own_go (g' := (mkF m 218 #[.val (.long q0), .second, .val (.int p1), .val (.int p2), .val (.int (0 : Int32)), .val (.int sb), .val (.ref b1)] [])) (fun _ k => XS.ifNo X23.here hx rfl (hb hby at_215) rfl ((if0 _ _).trans (feq (by decide)).1) k) ?_
    refine own_go (g' := (mkF m 220 #[.val (.long q0), .second, .val (.int p1), .val (.int p2), .val (.int (0 : Int32)), .val (.int sb), .val (.ref b1)] [(.ref b1)])) (fun _ k => XS.aload X23.here hx rfl (hb hby at_218) rfl rfl k) ?_
    refine own_go (g' := (mkF m 222 #[.val (.long q0), .second, .val (.int p1), .val (.int p2), .val (.int (0 : Int32)), .val (.int sb), .val (.ref b1)] [(.int (9 : Int32)), (.ref b1)])) (fun _ k => XS.bipush X23.here hx rfl (hb hby at_220) k) ?_
    refine own_go (g' := (mkF m 224 #[.val (.long q0), .second, .val (.int p1), .val (.int p2), .val (.int (0 : Int32)), .val (.int sb), .val (.ref b1)] [(.int (0 : Int32)), (.int (9 : Int32)), (.ref b1)])) (fun _ k => XS.iload X23.here hx rfl (hb hby at_222) rfl k) ?_
    refine own_go (g' := (mkF m 225 #[.val (.long q0), .second, .val (.int p1), .val (.int p2), .val (.int (0 : Int32)), .val (.int sb), .val (.ref b1)] [(.long q0), (.int (0 : Int32)), (.int (9 : Int32)), (.ref b1)])) (fun _ k => XS.lloadN X23.here hx rfl (hb hby at_224) rfl k) ?_
    refine own_go (g' := (mkF m 227 #[.val (.long q0), .second, .val (.int p1), .val (.int p2), .val (.int (0 : Int32)), .val (.int sb), .val (.ref b1)] [(.int sb), (.long q0), (.int (0 : Int32)), (.int (9 : Int32)), (.ref b1)])) (fun _ k => XS.iload X23.here hx rfl (hb hby at_225) rfl k) ?_
    obtain ⟨v24, T24, L24, hQ24, X24, st24⟩ := own_callS X23 hx hZ (y := (⟨"com/example/table_salt/tablesalt/layout/Int64WritePinLaw", "ok", "([BIIJB)Z"⟩ : MethodName)) hown (hw _ (List.mem_of_getElem? (i := 5) rfl)) (hw _ (List.mem_of_getElem? (i := 6) rfl)) (hw _ (List.mem_of_getElem? (i := 7) rfl)) (hw _ (List.mem_of_getElem? (i := 8) rfl)) ⟨by decide, by decide⟩ (argsL := [(.ref b1), (.int (9 : Int32)), (.int (0 : Int32)), (.long q0), (.int sb)]) (ok_o l Z a0 hw b1 (9 : Int32) (0 : Int32) q0 sb [(.int (own_wb q0 (56 : Int32)).toInt8.toInt32), (.int (own_wb q0 (48 : Int32)).toInt8.toInt32), (.int (own_wb q0 (40 : Int32)).toInt8.toInt32), (.int (own_wb q0 (32 : Int32)).toInt8.toInt32), (.int (own_wb q0 (24 : Int32)).toInt8.toInt32), (.int (own_wb q0 (16 : Int32)).toInt8.toInt32), (.int (own_wb q0 (8 : Int32)).toInt8.toInt32), (.int (own_wb q0 (0 : Int32)).toInt8.toInt32), (.int ((sb).toInt8.toInt32)), (.int ((sb).toInt8.toInt32)), (.int ((sb).toInt8.toInt32)), (.int ((sb).toInt8.toInt32))] k1 (((sb).toInt8.toInt32)) T14.heap q14_0 ⟨by decide, by decide⟩ rfl (by decide) (by rw [hsb]; exact own_bb _)) e23 (g := (mkF m 227 #[.val (.long q0), .second, .val (.int p1), .val (.int p2), .val (.int (0 : Int32)), .val (.int sb), .val (.ref b1)] [(.int sb), (.long q0), (.int (0 : Int32)), (.int (9 : Int32)), (.ref b1)])) rfl (by rw [hml]; rfl) (rest := []) (lenOf pd0_1 rfl) rfl (hb hby at_227) (W := 0) (by show 2 * 0 + _ ≤ _; exact Nat.le_of_eq rfl) (by decide) (by decide) (by decide) (by decide)
    obtain ⟨rfl, e24, rfl⟩ := hQ24
    have N24 := Fr.app N23 (Fr.nil n0)
    refine own_go (g' := (mkF m 230 #[.val (.long q0), .second, .val (.int p1), .val (.int p2), .val (.int (0 : Int32)), .val (.int sb), .val (.ref b1)] [(.int (1 : Int32))])) (st24) ?_
    refine own_go (g' := (mkF m 233 #[.val (.long q0), .second, .val (.int p1), .val (.int p2), .val (.int (0 : Int32)), .val (.int sb), .val (.ref b1)] [])) (fun _ k => XS.ifNo X24.here hx rfl (hb hby at_230) rfl ((if0 _ _).trans (feq (by decide)).1) k) ?_
    refine own_go (g' := (mkF m 235 #[.val (.long q0), .second, .val (.int p1), .val (.int p2), .val (.int (0 : Int32)), .val (.int sb), .val (.ref b1)] [(.ref b1)])) (fun _ k => XS.aload X24.here hx rfl (hb hby at_233) rfl rfl k) ?_
    refine own_go (g' := (mkF m 237 #[.val (.long q0), .second, .val (.int p1), .val (.int p2), .val (.int (0 : Int32)), .val (.int sb), .val (.ref b1)] [(.int (10 : Int32)), (.ref b1)])) (fun _ k => XS.bipush X24.here hx rfl (hb hby at_235) k) ?_
    refine own_go (g' := (mkF m 239 #[.val (.long q0), .second, .val (.int p1), .val (.int p2), .val (.int (0 : Int32)), .val (.int sb), .val (.ref b1)] [(.int (0 : Int32)), (.int (10 : Int32)), (.ref b1)])) (fun _ k => XS.iload X24.here hx rfl (hb hby at_237) rfl k) ?_
    refine own_go (g' := (mkF m 240 #[.val (.long q0), .second, .val (.int p1), .val (.int p2), .val (.int (0 : Int32)), .val (.int sb), .val (.ref b1)] [(.long q0), (.int (0 : Int32)), (.int (10 : Int32)), (.ref b1)])) (fun _ k => XS.lloadN X24.here hx rfl (hb hby at_239) rfl k) ?_
    refine own_go (g' := (mkF m 242 #[.val (.long q0), .second, .val (.int p1), .val (.int p2), .val (.int (0 : Int32)), .val (.int sb), .val (.ref b1)] [(.int sb), (.long q0), (.int (0 : Int32)), (.int (10 : Int32)), (.ref b1)])) (fun _ k => XS.iload X24.here hx rfl (hb hby at_240) rfl k) ?_
    obtain ⟨v25, T25, L25, hQ25, X25, st25⟩ := own_callS X24 hx hZ (y := (⟨"com/example/table_salt/tablesalt/layout/Int64WritePinLaw", "ok", "([BIIJB)Z"⟩ : MethodName)) hown (hw _ (List.mem_of_getElem? (i := 5) rfl)) (hw _ (List.mem_of_getElem? (i := 6) rfl)) (hw _ (List.mem_of_getElem? (i := 7) rfl)) (hw _ (List.mem_of_getElem? (i := 8) rfl)) ⟨by decide, by decide⟩ (argsL := [(.ref b1), (.int (10 : Int32)), (.int (0 : Int32)), (.long q0), (.int sb)]) (ok_o l Z a0 hw b1 (10 : Int32) (0 : Int32) q0 sb [(.int (own_wb q0 (56 : Int32)).toInt8.toInt32), (.int (own_wb q0 (48 : Int32)).toInt8.toInt32), (.int (own_wb q0 (40 : Int32)).toInt8.toInt32), (.int (own_wb q0 (32 : Int32)).toInt8.toInt32), (.int (own_wb q0 (24 : Int32)).toInt8.toInt32), (.int (own_wb q0 (16 : Int32)).toInt8.toInt32), (.int (own_wb q0 (8 : Int32)).toInt8.toInt32), (.int (own_wb q0 (0 : Int32)).toInt8.toInt32), (.int ((sb).toInt8.toInt32)), (.int ((sb).toInt8.toInt32)), (.int ((sb).toInt8.toInt32)), (.int ((sb).toInt8.toInt32))] k1 (((sb).toInt8.toInt32)) T14.heap q14_0 ⟨by decide, by decide⟩ rfl (by decide) (by rw [hsb]; exact own_bb _)) e24 (g := (mkF m 242 #[.val (.long q0), .second, .val (.int p1), .val (.int p2), .val (.int (0 : Int32)), .val (.int sb), .val (.ref b1)] [(.int sb), (.long q0), (.int (0 : Int32)), (.int (10 : Int32)), (.ref b1)])) rfl (by rw [hml]; rfl) (rest := []) (lenOf pd0_1 rfl) rfl (hb hby at_242) (W := 0) (by show 2 * 0 + _ ≤ _; exact Nat.le_of_eq rfl) (by decide) (by decide) (by decide) (by decide)
    obtain ⟨rfl, e25, rfl⟩ := hQ25
    have N25 := Fr.app N24 (Fr.nil n0)
    refine own_go (g' := (mkF m 245 #[.val (.long q0), .second, .val (.int p1), .val (.int p2), .val (.int (0 : Int32)), .val (.int sb), .val (.ref b1)] [(.int (1 : Int32))])) (st25) ?_
    refine own_go (g' := (mkF m 248 #[.val (.long q0), .second, .val (.int p1), .val (.int p2), .val (.int (0 : Int32)), .val (.int sb), .val (.ref b1)] [])) (fun _ k => XS.ifNo X25.here hx rfl (hb hby at_245) rfl ((if0 _ _).trans (feq (by decide)).1) k) ?_
    refine own_go (g' := (mkF m 250 #[.val (.long q0), .second, .val (.int p1), .val (.int p2), .val (.int (0 : Int32)), .val (.int sb), .val (.ref b1)] [(.ref b1)])) (fun _ k => XS.aload X25.here hx rfl (hb hby at_248) rfl rfl k) ?_
    refine own_go (g' := (mkF m 252 #[.val (.long q0), .second, .val (.int p1), .val (.int p2), .val (.int (0 : Int32)), .val (.int sb), .val (.ref b1)] [(.int (11 : Int32)), (.ref b1)])) (fun _ k => XS.bipush X25.here hx rfl (hb hby at_250) k) ?_
    refine own_go (g' := (mkF m 254 #[.val (.long q0), .second, .val (.int p1), .val (.int p2), .val (.int (0 : Int32)), .val (.int sb), .val (.ref b1)] [(.int (0 : Int32)), (.int (11 : Int32)), (.ref b1)])) (fun _ k => XS.iload X25.here hx rfl (hb hby at_252) rfl k) ?_
    refine own_go (g' := (mkF m 255 #[.val (.long q0), .second, .val (.int p1), .val (.int p2), .val (.int (0 : Int32)), .val (.int sb), .val (.ref b1)] [(.long q0), (.int (0 : Int32)), (.int (11 : Int32)), (.ref b1)])) (fun _ k => XS.lloadN X25.here hx rfl (hb hby at_254) rfl k) ?_
    refine own_go (g' := (mkF m 257 #[.val (.long q0), .second, .val (.int p1), .val (.int p2), .val (.int (0 : Int32)), .val (.int sb), .val (.ref b1)] [(.int sb), (.long q0), (.int (0 : Int32)), (.int (11 : Int32)), (.ref b1)])) (fun _ k => XS.iload X25.here hx rfl (hb hby at_255) rfl k) ?_
    obtain ⟨v26, T26, L26, hQ26, X26, st26⟩ := own_callS X25 hx hZ (y := (⟨"com/example/table_salt/tablesalt/layout/Int64WritePinLaw", "ok", "([BIIJB)Z"⟩ : MethodName)) hown (hw _ (List.mem_of_getElem? (i := 5) rfl)) (hw _ (List.mem_of_getElem? (i := 6) rfl)) (hw _ (List.mem_of_getElem? (i := 7) rfl)) (hw _ (List.mem_of_getElem? (i := 8) rfl)) ⟨by decide, by decide⟩ (argsL := [(.ref b1), (.int (11 : Int32)), (.int (0 : Int32)), (.long q0), (.int sb)]) (ok_o l Z a0 hw b1 (11 : Int32) (0 : Int32) q0 sb [(.int (own_wb q0 (56 : Int32)).toInt8.toInt32), (.int (own_wb q0 (48 : Int32)).toInt8.toInt32), (.int (own_wb q0 (40 : Int32)).toInt8.toInt32), (.int (own_wb q0 (32 : Int32)).toInt8.toInt32), (.int (own_wb q0 (24 : Int32)).toInt8.toInt32), (.int (own_wb q0 (16 : Int32)).toInt8.toInt32), (.int (own_wb q0 (8 : Int32)).toInt8.toInt32), (.int (own_wb q0 (0 : Int32)).toInt8.toInt32), (.int ((sb).toInt8.toInt32)), (.int ((sb).toInt8.toInt32)), (.int ((sb).toInt8.toInt32)), (.int ((sb).toInt8.toInt32))] k1 (((sb).toInt8.toInt32)) T14.heap q14_0 ⟨by decide, by decide⟩ rfl (by decide) (by rw [hsb]; exact own_bb _)) e25 (g := (mkF m 257 #[.val (.long q0), .second, .val (.int p1), .val (.int p2), .val (.int (0 : Int32)), .val (.int sb), .val (.ref b1)] [(.int sb), (.long q0), (.int (0 : Int32)), (.int (11 : Int32)), (.ref b1)])) rfl (by rw [hml]; rfl) (rest := []) (lenOf pd0_1 rfl) rfl (hb hby at_257) (W := 0) (by show 2 * 0 + _ ≤ _; exact Nat.le_of_eq rfl) (by decide) (by decide) (by decide) (by decide)
    obtain ⟨rfl, e26, rfl⟩ := hQ26
    have N26 := Fr.app N25 (Fr.nil n0)
    refine own_go (g' := (mkF m 260 #[.val (.long q0), .second, .val (.int p1), .val (.int p2), .val (.int (0 : Int32)), .val (.int sb), .val (.ref b1)] [(.int (1 : Int32))])) (st26) ?_
    refine own_go (g' := (mkF m 263 #[.val (.long q0), .second, .val (.int p1), .val (.int p2), .val (.int (0 : Int32)), .val (.int sb), .val (.ref b1)] [])) (fun _ k => XS.ifNo X26.here hx rfl (hb hby at_260) rfl ((if0 _ _).trans (feq (by decide)).1) k) ?_
    refine own_go (g' := (mkF m 264 #[.val (.long q0), .second, .val (.int p1), .val (.int p2), .val (.int (0 : Int32)), .val (.int sb), .val (.ref b1)] [(.int (1 : Int32))])) (fun _ k => XS.iconst X26.here hx rfl (hb hby at_263) k) ?_
    refine own_go (g' := (mkF m 268 #[.val (.long q0), .second, .val (.int p1), .val (.int p2), .val (.int (0 : Int32)), .val (.int sb), .val (.ref b1)] [(.int (1 : Int32))])) (fun _ k => XS.goto X26.here hx rfl (pc0 := 264) (pc' := 268) rfl (hb hby at_264) (by decide) (by decide) k) ?_
    refine own_retN X26 hx .boolean Bd.returns Bd.notSynchronized (by simp) (hb hby at_268) (by decide) (by decide) ?_
    show QQ _ T26.heap _
    rw [e26]
    rw [← hQQ]
    exact ⟨rfl, N26⟩
  ·
    refine own_go (g' := (mkF m 82 #[.val (.long q0), .second, .val (.int p1), .val (.int p2), .val (.int (1 : Int32)), .val (.int sb), .val (.ref b1)] [(.long q0)])) (fun _ k => XS.lloadN X13.here hx rfl (hb hby at_81) rfl k) ?_
    refine own_go (g' := (mkF m 84 #[.val (.long q0), .second, .val (.int p1), .val (.int p2), .val (.int (1 : Int32)), .val (.int sb), .val (.ref b1)] [(.ref b1), (.long q0)])) (fun _ k => XS.aload X13.here hx rfl (hb hby at_82) rfl rfl k) ?_
    refine own_go (g' := (mkF m 86 #[.val (.long q0), .second, .val (.int p1), .val (.int p2), .val (.int (1 : Int32)), .val (.int sb), .val (.ref b1)] [(.int (1 : Int32)), (.ref b1), (.long q0)])) (fun _ k => XS.iload X13.here hx rfl (hb hby at_84) rfl k) ?_
    obtain ⟨v27, T27, L27, hQ27, X27, st27⟩ := own_callS X13 hx hZ (y := (⟨"com/example/table_salt/tablesalt/layout/Int64", "write", "(J[BI)V"⟩ : MethodName)) hown (hw _ (List.mem_of_getElem? (i := 1) rfl)) (hw _ (List.mem_of_getElem? (i := 2) rfl)) (hw _ (List.mem_of_getElem? (i := 3) rfl)) (hw _ (List.mem_of_getElem? (i := 4) rfl)) ⟨by decide, by decide⟩ (argsL := [(.long q0), (.ref b1), (.int (1 : Int32))]) (wr1 l Z a0 hw q0 b1 ((sb).toInt8.toInt32) ((sb).toInt8.toInt32) ((sb).toInt8.toInt32) ((sb).toInt8.toInt32) ((sb).toInt8.toInt32) ((sb).toInt8.toInt32) ((sb).toInt8.toInt32) ((sb).toInt8.toInt32) ((sb).toInt8.toInt32) ((sb).toInt8.toInt32) ((sb).toInt8.toInt32) ((sb).toInt8.toInt32) k1 h13 n0 Z13 ge_b1 V13) e13 (g := (mkF m 86 #[.val (.long q0), .second, .val (.int p1), .val (.int p2), .val (.int (1 : Int32)), .val (.int sb), .val (.ref b1)] [(.int (1 : Int32)), (.ref b1), (.long q0)])) rfl (by rw [hml]; rfl) (rest := []) (lenOf pd0_0 rfl) rfl (hb hby at_86) (W := 0) (by show 2 * 0 + _ ≤ _; exact Nat.le_of_eq rfl) (by decide) (by decide) (by decide) (by decide)
    obtain ⟨rfl, Nq27, Kq27, q27_0⟩ := hQ27
    have N27 := Fr.app N13 Nq27
    have Z27 : n0 ≤ T27.heap.size := Nat.le_trans Z13 Kq27.1
    refine own_go (g' := (mkF m 89 #[.val (.long q0), .second, .val (.int p1), .val (.int p2), .val (.int (1 : Int32)), .val (.int sb), .val (.ref b1)] [])) (st27) ?_
    refine own_go (g' := (mkF m 91 #[.val (.long q0), .second, .val (.int p1), .val (.int p2), .val (.int (1 : Int32)), .val (.int sb), .val (.ref b1)] [(.ref b1)])) (fun _ k => XS.aload X27.here hx rfl (hb hby at_89) rfl rfl k) ?_
    refine own_go (g' := (mkF m 92 #[.val (.long q0), .second, .val (.int p1), .val (.int p2), .val (.int (1 : Int32)), .val (.int sb), .val (.ref b1)] [(.int (0 : Int32)), (.ref b1)])) (fun _ k => XS.iconst X27.here hx rfl (hb hby at_91) k) ?_
    refine own_go (g' := (mkF m 94 #[.val (.long q0), .second, .val (.int p1), .val (.int p2), .val (.int (1 : Int32)), .val (.int sb), .val (.ref b1)] [(.int (1 : Int32)), (.int (0 : Int32)), (.ref b1)])) (fun _ k => XS.iload X27.here hx rfl (hb hby at_92) rfl k) ?_
    refine own_go (g' := (mkF m 95 #[.val (.long q0), .second, .val (.int p1), .val (.int p2), .val (.int (1 : Int32)), .val (.int sb), .val (.ref b1)] [(.long q0), (.int (1 : Int32)), (.int (0 : Int32)), (.ref b1)])) (fun _ k => XS.lloadN X27.here hx rfl (hb hby at_94) rfl k) ?_
    refine own_go (g' := (mkF m 97 #[.val (.long q0), .second, .val (.int p1), .val (.int p2), .val (.int (1 : Int32)), .val (.int sb), .val (.ref b1)] [(.int sb), (.long q0), (.int (1 : Int32)), (.int (0 : Int32)), (.ref b1)])) (fun _ k => XS.iload X27.here hx rfl (hb hby at_95) rfl k) ?_
    obtain ⟨v28, T28, L28, hQ28, X28, st28⟩ := own_callS X27 hx hZ (y := (⟨"com/example/table_salt/tablesalt/layout/Int64WritePinLaw", "ok", "([BIIJB)Z"⟩ : MethodName)) hown (hw _ (List.mem_of_getElem? (i := 5) rfl)) (hw _ (List.mem_of_getElem? (i := 6) rfl)) (hw _ (List.mem_of_getElem? (i := 7) rfl)) (hw _ (List.mem_of_getElem? (i := 8) rfl)) ⟨by decide, by decide⟩ (argsL := [(.ref b1), (.int (0 : Int32)), (.int (1 : Int32)), (.long q0), (.int sb)]) (ok_o l Z a0 hw b1 (0 : Int32) (1 : Int32) q0 sb [(.int ((sb).toInt8.toInt32)), (.int (own_wb q0 (56 : Int32)).toInt8.toInt32), (.int (own_wb q0 (48 : Int32)).toInt8.toInt32), (.int (own_wb q0 (40 : Int32)).toInt8.toInt32), (.int (own_wb q0 (32 : Int32)).toInt8.toInt32), (.int (own_wb q0 (24 : Int32)).toInt8.toInt32), (.int (own_wb q0 (16 : Int32)).toInt8.toInt32), (.int (own_wb q0 (8 : Int32)).toInt8.toInt32), (.int (own_wb q0 (0 : Int32)).toInt8.toInt32), (.int ((sb).toInt8.toInt32)), (.int ((sb).toInt8.toInt32)), (.int ((sb).toInt8.toInt32))] k1 (((sb).toInt8.toInt32)) T27.heap q27_0 ⟨by decide, by decide⟩ rfl (by decide) (by rw [hsb]; exact own_bb _)) rfl (g := (mkF m 97 #[.val (.long q0), .second, .val (.int p1), .val (.int p2), .val (.int (1 : Int32)), .val (.int sb), .val (.ref b1)] [(.int sb), (.long q0), (.int (1 : Int32)), (.int (0 : Int32)), (.ref b1)])) rfl (by rw [hml]; rfl) (rest := []) (lenOf pd0_1 rfl) rfl (hb hby at_97) (W := 0) (by show 2 * 0 + _ ≤ _; exact Nat.le_of_eq rfl) (by decide) (by decide) (by decide) (by decide)
    obtain ⟨rfl, e28, rfl⟩ := hQ28
    have N28 := Fr.app N27 (Fr.nil n0)
    refine own_go (g' := (mkF m 100 #[.val (.long q0), .second, .val (.int p1), .val (.int p2), .val (.int (1 : Int32)), .val (.int sb), .val (.ref b1)] [(.int (1 : Int32))])) (st28) ?_
    refine own_go (g' := (mkF m 103 #[.val (.long q0), .second, .val (.int p1), .val (.int p2), .val (.int (1 : Int32)), .val (.int sb), .val (.ref b1)] [])) (fun _ k => XS.ifNo X28.here hx rfl (hb hby at_100) rfl ((if0 _ _).trans (feq (by decide)).1) k) ?_
    refine own_go (g' := (mkF m 105 #[.val (.long q0), .second, .val (.int p1), .val (.int p2), .val (.int (1 : Int32)), .val (.int sb), .val (.ref b1)] [(.ref b1)])) (fun _ k => XS.aload X28.here hx rfl (hb hby at_103) rfl rfl k) ?_
    refine own_go (g' := (mkF m 106 #[.val (.long q0), .second, .val (.int p1), .val (.int p2), .val (.int (1 : Int32)), .val (.int sb), .val (.ref b1)] [(.int (1 : Int32)), (.ref b1)])) (fun _ k => XS.iconst X28.here hx rfl (hb hby at_105) k) ?_
    refine own_go (g' := (mkF m 108 #[.val (.long q0), .second, .val (.int p1), .val (.int p2), .val (.int (1 : Int32)), .val (.int sb), .val (.ref b1)] [(.int (1 : Int32)), (.int (1 : Int32)), (.ref b1)])) (fun _ k => XS.iload X28.here hx rfl (hb hby at_106) rfl k) ?_
    refine own_go (g' := (mkF m 109 #[.val (.long q0), .second, .val (.int p1), .val (.int p2), .val (.int (1 : Int32)), .val (.int sb), .val (.ref b1)] [(.long q0), (.int (1 : Int32)), (.int (1 : Int32)), (.ref b1)])) (fun _ k => XS.lloadN X28.here hx rfl (hb hby at_108) rfl k) ?_
    refine own_go (g' := (mkF m 111 #[.val (.long q0), .second, .val (.int p1), .val (.int p2), .val (.int (1 : Int32)), .val (.int sb), .val (.ref b1)] [(.int sb), (.long q0), (.int (1 : Int32)), (.int (1 : Int32)), (.ref b1)])) (fun _ k => XS.iload X28.here hx rfl (hb hby at_109) rfl k) ?_
    obtain ⟨v29, T29, L29, hQ29, X29, st29⟩ := own_callS X28 hx hZ (y := (⟨"com/example/table_salt/tablesalt/layout/Int64WritePinLaw", "ok", "([BIIJB)Z"⟩ : MethodName)) hown (hw _ (List.mem_of_getElem? (i := 5) rfl)) (hw _ (List.mem_of_getElem? (i := 6) rfl)) (hw _ (List.mem_of_getElem? (i := 7) rfl)) (hw _ (List.mem_of_getElem? (i := 8) rfl)) ⟨by decide, by decide⟩ (argsL := [(.ref b1), (.int (1 : Int32)), (.int (1 : Int32)), (.long q0), (.int sb)]) (ok_i l Z a0 hw b1 (1 : Int32) (1 : Int32) q0 sb [(.int ((sb).toInt8.toInt32)), (.int (own_wb q0 (56 : Int32)).toInt8.toInt32), (.int (own_wb q0 (48 : Int32)).toInt8.toInt32), (.int (own_wb q0 (40 : Int32)).toInt8.toInt32), (.int (own_wb q0 (32 : Int32)).toInt8.toInt32), (.int (own_wb q0 (24 : Int32)).toInt8.toInt32), (.int (own_wb q0 (16 : Int32)).toInt8.toInt32), (.int (own_wb q0 (8 : Int32)).toInt8.toInt32), (.int (own_wb q0 (0 : Int32)).toInt8.toInt32), (.int ((sb).toInt8.toInt32)), (.int ((sb).toInt8.toInt32)), (.int ((sb).toInt8.toInt32))] k1 ((own_wb q0 (56 : Int32)).toInt8.toInt32) T27.heap q27_0 ⟨by decide, by decide⟩ rfl (by decide) ((own_we q0 (56 : Int32) 56 1 (by decide) (by decide) (by decide) (by decide)).trans (show own_eb q0 (56 : Int32) = own_exp q0 ((1 : Int32) - (1 : Int32)) from rfl))) e28 (g := (mkF m 111 #[.val (.long q0), .second, .val (.int p1), .val (.int p2), .val (.int (1 : Int32)), .val (.int sb), .val (.ref b1)] [(.int sb), (.long q0), (.int (1 : Int32)), (.int (1 : Int32)), (.ref b1)])) rfl (by rw [hml]; rfl) (rest := []) (lenOf pd0_1 rfl) rfl (hb hby at_111) (W := 0) (by show 2 * 0 + _ ≤ _; exact Nat.le_of_eq rfl) (by decide) (by decide) (by decide) (by decide)
    obtain ⟨rfl, e29, rfl⟩ := hQ29
    have N29 := Fr.app N28 (Fr.nil n0)
    refine own_go (g' := (mkF m 114 #[.val (.long q0), .second, .val (.int p1), .val (.int p2), .val (.int (1 : Int32)), .val (.int sb), .val (.ref b1)] [(.int (1 : Int32))])) (st29) ?_
    refine own_go (g' := (mkF m 117 #[.val (.long q0), .second, .val (.int p1), .val (.int p2), .val (.int (1 : Int32)), .val (.int sb), .val (.ref b1)] [])) (fun _ k => XS.ifNo X29.here hx rfl (hb hby at_114) rfl ((if0 _ _).trans (feq (by decide)).1) k) ?_
    refine own_go (g' := (mkF m 119 #[.val (.long q0), .second, .val (.int p1), .val (.int p2), .val (.int (1 : Int32)), .val (.int sb), .val (.ref b1)] [(.ref b1)])) (fun _ k => XS.aload X29.here hx rfl (hb hby at_117) rfl rfl k) ?_
    refine own_go (g' := (mkF m 120 #[.val (.long q0), .second, .val (.int p1), .val (.int p2), .val (.int (1 : Int32)), .val (.int sb), .val (.ref b1)] [(.int (2 : Int32)), (.ref b1)])) (fun _ k => XS.iconst X29.here hx rfl (hb hby at_119) k) ?_
    refine own_go (g' := (mkF m 122 #[.val (.long q0), .second, .val (.int p1), .val (.int p2), .val (.int (1 : Int32)), .val (.int sb), .val (.ref b1)] [(.int (1 : Int32)), (.int (2 : Int32)), (.ref b1)])) (fun _ k => XS.iload X29.here hx rfl (hb hby at_120) rfl k) ?_
    refine own_go (g' := (mkF m 123 #[.val (.long q0), .second, .val (.int p1), .val (.int p2), .val (.int (1 : Int32)), .val (.int sb), .val (.ref b1)] [(.long q0), (.int (1 : Int32)), (.int (2 : Int32)), (.ref b1)])) (fun _ k => XS.lloadN X29.here hx rfl (hb hby at_122) rfl k) ?_
    refine own_go (g' := (mkF m 125 #[.val (.long q0), .second, .val (.int p1), .val (.int p2), .val (.int (1 : Int32)), .val (.int sb), .val (.ref b1)] [(.int sb), (.long q0), (.int (1 : Int32)), (.int (2 : Int32)), (.ref b1)])) (fun _ k => XS.iload X29.here hx rfl (hb hby at_123) rfl k) ?_
    obtain ⟨v30, T30, L30, hQ30, X30, st30⟩ := own_callS X29 hx hZ (y := (⟨"com/example/table_salt/tablesalt/layout/Int64WritePinLaw", "ok", "([BIIJB)Z"⟩ : MethodName)) hown (hw _ (List.mem_of_getElem? (i := 5) rfl)) (hw _ (List.mem_of_getElem? (i := 6) rfl)) (hw _ (List.mem_of_getElem? (i := 7) rfl)) (hw _ (List.mem_of_getElem? (i := 8) rfl)) ⟨by decide, by decide⟩ (argsL := [(.ref b1), (.int (2 : Int32)), (.int (1 : Int32)), (.long q0), (.int sb)]) (ok_i l Z a0 hw b1 (2 : Int32) (1 : Int32) q0 sb [(.int ((sb).toInt8.toInt32)), (.int (own_wb q0 (56 : Int32)).toInt8.toInt32), (.int (own_wb q0 (48 : Int32)).toInt8.toInt32), (.int (own_wb q0 (40 : Int32)).toInt8.toInt32), (.int (own_wb q0 (32 : Int32)).toInt8.toInt32), (.int (own_wb q0 (24 : Int32)).toInt8.toInt32), (.int (own_wb q0 (16 : Int32)).toInt8.toInt32), (.int (own_wb q0 (8 : Int32)).toInt8.toInt32), (.int (own_wb q0 (0 : Int32)).toInt8.toInt32), (.int ((sb).toInt8.toInt32)), (.int ((sb).toInt8.toInt32)), (.int ((sb).toInt8.toInt32))] k1 ((own_wb q0 (48 : Int32)).toInt8.toInt32) T27.heap q27_0 ⟨by decide, by decide⟩ rfl (by decide) ((own_we q0 (48 : Int32) 48 256 (by decide) (by decide) (by decide) (by decide)).trans (show own_eb q0 (48 : Int32) = own_exp q0 ((2 : Int32) - (1 : Int32)) from rfl))) e29 (g := (mkF m 125 #[.val (.long q0), .second, .val (.int p1), .val (.int p2), .val (.int (1 : Int32)), .val (.int sb), .val (.ref b1)] [(.int sb), (.long q0), (.int (1 : Int32)), (.int (2 : Int32)), (.ref b1)])) rfl (by rw [hml]; rfl) (rest := []) (lenOf pd0_1 rfl) rfl (hb hby at_125) (W := 0) (by show 2 * 0 + _ ≤ _; exact Nat.le_of_eq rfl) (by decide) (by decide) (by decide) (by decide)
    obtain ⟨rfl, e30, rfl⟩ := hQ30
    have N30 := Fr.app N29 (Fr.nil n0)
    refine own_go (g' := (mkF m 128 #[.val (.long q0), .second, .val (.int p1), .val (.int p2), .val (.int (1 : Int32)), .val (.int sb), .val (.ref b1)] [(.int (1 : Int32))])) (st30) ?_
    refine own_go (g' := (mkF m 131 #[.val (.long q0), .second, .val (.int p1), .val (.int p2), .val (.int (1 : Int32)), .val (.int sb), .val (.ref b1)] [])) (fun _ k => XS.ifNo X30.here hx rfl (hb hby at_128) rfl ((if0 _ _).trans (feq (by decide)).1) k) ?_
    refine own_go (g' := (mkF m 133 #[.val (.long q0), .second, .val (.int p1), .val (.int p2), .val (.int (1 : Int32)), .val (.int sb), .val (.ref b1)] [(.ref b1)])) (fun _ k => XS.aload X30.here hx rfl (hb hby at_131) rfl rfl k) ?_
    refine own_go (g' := (mkF m 134 #[.val (.long q0), .second, .val (.int p1), .val (.int p2), .val (.int (1 : Int32)), .val (.int sb), .val (.ref b1)] [(.int (3 : Int32)), (.ref b1)])) (fun _ k => XS.iconst X30.here hx rfl (hb hby at_133) k) ?_
    refine own_go (g' := (mkF m 136 #[.val (.long q0), .second, .val (.int p1), .val (.int p2), .val (.int (1 : Int32)), .val (.int sb), .val (.ref b1)] [(.int (1 : Int32)), (.int (3 : Int32)), (.ref b1)])) (fun _ k => XS.iload X30.here hx rfl (hb hby at_134) rfl k) ?_
    refine own_go (g' := (mkF m 137 #[.val (.long q0), .second, .val (.int p1), .val (.int p2), .val (.int (1 : Int32)), .val (.int sb), .val (.ref b1)] [(.long q0), (.int (1 : Int32)), (.int (3 : Int32)), (.ref b1)])) (fun _ k => XS.lloadN X30.here hx rfl (hb hby at_136) rfl k) ?_
    refine own_go (g' := (mkF m 139 #[.val (.long q0), .second, .val (.int p1), .val (.int p2), .val (.int (1 : Int32)), .val (.int sb), .val (.ref b1)] [(.int sb), (.long q0), (.int (1 : Int32)), (.int (3 : Int32)), (.ref b1)])) (fun _ k => XS.iload X30.here hx rfl (hb hby at_137) rfl k) ?_
    obtain ⟨v31, T31, L31, hQ31, X31, st31⟩ := own_callS X30 hx hZ (y := (⟨"com/example/table_salt/tablesalt/layout/Int64WritePinLaw", "ok", "([BIIJB)Z"⟩ : MethodName)) hown (hw _ (List.mem_of_getElem? (i := 5) rfl)) (hw _ (List.mem_of_getElem? (i := 6) rfl)) (hw _ (List.mem_of_getElem? (i := 7) rfl)) (hw _ (List.mem_of_getElem? (i := 8) rfl)) ⟨by decide, by decide⟩ (argsL := [(.ref b1), (.int (3 : Int32)), (.int (1 : Int32)), (.long q0), (.int sb)]) (ok_i l Z a0 hw b1 (3 : Int32) (1 : Int32) q0 sb [(.int ((sb).toInt8.toInt32)), (.int (own_wb q0 (56 : Int32)).toInt8.toInt32), (.int (own_wb q0 (48 : Int32)).toInt8.toInt32), (.int (own_wb q0 (40 : Int32)).toInt8.toInt32), (.int (own_wb q0 (32 : Int32)).toInt8.toInt32), (.int (own_wb q0 (24 : Int32)).toInt8.toInt32), (.int (own_wb q0 (16 : Int32)).toInt8.toInt32), (.int (own_wb q0 (8 : Int32)).toInt8.toInt32), (.int (own_wb q0 (0 : Int32)).toInt8.toInt32), (.int ((sb).toInt8.toInt32)), (.int ((sb).toInt8.toInt32)), (.int ((sb).toInt8.toInt32))] k1 ((own_wb q0 (40 : Int32)).toInt8.toInt32) T27.heap q27_0 ⟨by decide, by decide⟩ rfl (by decide) ((own_we q0 (40 : Int32) 40 65536 (by decide) (by decide) (by decide) (by decide)).trans (show own_eb q0 (40 : Int32) = own_exp q0 ((3 : Int32) - (1 : Int32)) from rfl))) e30 (g := (mkF m 139 #[.val (.long q0), .second, .val (.int p1), .val (.int p2), .val (.int (1 : Int32)), .val (.int sb), .val (.ref b1)] [(.int sb), (.long q0), (.int (1 : Int32)), (.int (3 : Int32)), (.ref b1)])) rfl (by rw [hml]; rfl) (rest := []) (lenOf pd0_1 rfl) rfl (hb hby at_139) (W := 0) (by show 2 * 0 + _ ≤ _; exact Nat.le_of_eq rfl) (by decide) (by decide) (by decide) (by decide)
    obtain ⟨rfl, e31, rfl⟩ := hQ31
    have N31 := Fr.app N30 (Fr.nil n0)
    refine own_go (g' := (mkF m 142 #[.val (.long q0), .second, .val (.int p1), .val (.int p2), .val (.int (1 : Int32)), .val (.int sb), .val (.ref b1)] [(.int (1 : Int32))])) (st31) ?_
    refine own_go (g' := (mkF m 145 #[.val (.long q0), .second, .val (.int p1), .val (.int p2), .val (.int (1 : Int32)), .val (.int sb), .val (.ref b1)] [])) (fun _ k => XS.ifNo X31.here hx rfl (hb hby at_142) rfl ((if0 _ _).trans (feq (by decide)).1) k) ?_
    refine own_go (g' := (mkF m 147 #[.val (.long q0), .second, .val (.int p1), .val (.int p2), .val (.int (1 : Int32)), .val (.int sb), .val (.ref b1)] [(.ref b1)])) (fun _ k => XS.aload X31.here hx rfl (hb hby at_145) rfl rfl k) ?_
    refine own_go (g' := (mkF m 148 #[.val (.long q0), .second, .val (.int p1), .val (.int p2), .val (.int (1 : Int32)), .val (.int sb), .val (.ref b1)] [(.int (4 : Int32)), (.ref b1)])) (fun _ k => XS.iconst X31.here hx rfl (hb hby at_147) k) ?_
    refine own_go (g' := (mkF m 150 #[.val (.long q0), .second, .val (.int p1), .val (.int p2), .val (.int (1 : Int32)), .val (.int sb), .val (.ref b1)] [(.int (1 : Int32)), (.int (4 : Int32)), (.ref b1)])) (fun _ k => XS.iload X31.here hx rfl (hb hby at_148) rfl k) ?_
    refine own_go (g' := (mkF m 151 #[.val (.long q0), .second, .val (.int p1), .val (.int p2), .val (.int (1 : Int32)), .val (.int sb), .val (.ref b1)] [(.long q0), (.int (1 : Int32)), (.int (4 : Int32)), (.ref b1)])) (fun _ k => XS.lloadN X31.here hx rfl (hb hby at_150) rfl k) ?_
    refine own_go (g' := (mkF m 153 #[.val (.long q0), .second, .val (.int p1), .val (.int p2), .val (.int (1 : Int32)), .val (.int sb), .val (.ref b1)] [(.int sb), (.long q0), (.int (1 : Int32)), (.int (4 : Int32)), (.ref b1)])) (fun _ k => XS.iload X31.here hx rfl (hb hby at_151) rfl k) ?_
    obtain ⟨v32, T32, L32, hQ32, X32, st32⟩ := own_callS X31 hx hZ (y := (⟨"com/example/table_salt/tablesalt/layout/Int64WritePinLaw", "ok", "([BIIJB)Z"⟩ : MethodName)) hown (hw _ (List.mem_of_getElem? (i := 5) rfl)) (hw _ (List.mem_of_getElem? (i := 6) rfl)) (hw _ (List.mem_of_getElem? (i := 7) rfl)) (hw _ (List.mem_of_getElem? (i := 8) rfl)) ⟨by decide, by decide⟩ (argsL := [(.ref b1), (.int (4 : Int32)), (.int (1 : Int32)), (.long q0), (.int sb)]) (ok_i l Z a0 hw b1 (4 : Int32) (1 : Int32) q0 sb [(.int ((sb).toInt8.toInt32)), (.int (own_wb q0 (56 : Int32)).toInt8.toInt32), (.int (own_wb q0 (48 : Int32)).toInt8.toInt32), (.int (own_wb q0 (40 : Int32)).toInt8.toInt32), (.int (own_wb q0 (32 : Int32)).toInt8.toInt32), (.int (own_wb q0 (24 : Int32)).toInt8.toInt32), (.int (own_wb q0 (16 : Int32)).toInt8.toInt32), (.int (own_wb q0 (8 : Int32)).toInt8.toInt32), (.int (own_wb q0 (0 : Int32)).toInt8.toInt32), (.int ((sb).toInt8.toInt32)), (.int ((sb).toInt8.toInt32)), (.int ((sb).toInt8.toInt32))] k1 ((own_wb q0 (32 : Int32)).toInt8.toInt32) T27.heap q27_0 ⟨by decide, by decide⟩ rfl (by decide) ((own_we q0 (32 : Int32) 32 16777216 (by decide) (by decide) (by decide) (by decide)).trans (show own_eb q0 (32 : Int32) = own_exp q0 ((4 : Int32) - (1 : Int32)) from rfl))) e31 (g := (mkF m 153 #[.val (.long q0), .second, .val (.int p1), .val (.int p2), .val (.int (1 : Int32)), .val (.int sb), .val (.ref b1)] [(.int sb), (.long q0), (.int (1 : Int32)), (.int (4 : Int32)), (.ref b1)])) rfl (by rw [hml]; rfl) (rest := []) (lenOf pd0_1 rfl) rfl (hb hby at_153) (W := 0) (by show 2 * 0 + _ ≤ _; exact Nat.le_of_eq rfl) (by decide) (by decide) (by decide) (by decide)
    obtain ⟨rfl, e32, rfl⟩ := hQ32
    have N32 := Fr.app N31 (Fr.nil n0)
    refine own_go (g' := (mkF m 156 #[.val (.long q0), .second, .val (.int p1), .val (.int p2), .val (.int (1 : Int32)), .val (.int sb), .val (.ref b1)] [(.int (1 : Int32))])) (st32) ?_
    refine own_go (g' := (mkF m 159 #[.val (.long q0), .second, .val (.int p1), .val (.int p2), .val (.int (1 : Int32)), .val (.int sb), .val (.ref b1)] [])) (fun _ k => XS.ifNo X32.here hx rfl (hb hby at_156) rfl ((if0 _ _).trans (feq (by decide)).1) k) ?_
    refine own_go (g' := (mkF m 161 #[.val (.long q0), .second, .val (.int p1), .val (.int p2), .val (.int (1 : Int32)), .val (.int sb), .val (.ref b1)] [(.ref b1)])) (fun _ k => XS.aload X32.here hx rfl (hb hby at_159) rfl rfl k) ?_
    refine own_go (g' := (mkF m 162 #[.val (.long q0), .second, .val (.int p1), .val (.int p2), .val (.int (1 : Int32)), .val (.int sb), .val (.ref b1)] [(.int (5 : Int32)), (.ref b1)])) (fun _ k => XS.iconst X32.here hx rfl (hb hby at_161) k) ?_
    refine own_go (g' := (mkF m 164 #[.val (.long q0), .second, .val (.int p1), .val (.int p2), .val (.int (1 : Int32)), .val (.int sb), .val (.ref b1)] [(.int (1 : Int32)), (.int (5 : Int32)), (.ref b1)])) (fun _ k => XS.iload X32.here hx rfl (hb hby at_162) rfl k) ?_
    refine own_go (g' := (mkF m 165 #[.val (.long q0), .second, .val (.int p1), .val (.int p2), .val (.int (1 : Int32)), .val (.int sb), .val (.ref b1)] [(.long q0), (.int (1 : Int32)), (.int (5 : Int32)), (.ref b1)])) (fun _ k => XS.lloadN X32.here hx rfl (hb hby at_164) rfl k) ?_
    refine own_go (g' := (mkF m 167 #[.val (.long q0), .second, .val (.int p1), .val (.int p2), .val (.int (1 : Int32)), .val (.int sb), .val (.ref b1)] [(.int sb), (.long q0), (.int (1 : Int32)), (.int (5 : Int32)), (.ref b1)])) (fun _ k => XS.iload X32.here hx rfl (hb hby at_165) rfl k) ?_
    obtain ⟨v33, T33, L33, hQ33, X33, st33⟩ := own_callS X32 hx hZ (y := (⟨"com/example/table_salt/tablesalt/layout/Int64WritePinLaw", "ok", "([BIIJB)Z"⟩ : MethodName)) hown (hw _ (List.mem_of_getElem? (i := 5) rfl)) (hw _ (List.mem_of_getElem? (i := 6) rfl)) (hw _ (List.mem_of_getElem? (i := 7) rfl)) (hw _ (List.mem_of_getElem? (i := 8) rfl)) ⟨by decide, by decide⟩ (argsL := [(.ref b1), (.int (5 : Int32)), (.int (1 : Int32)), (.long q0), (.int sb)]) (ok_i l Z a0 hw b1 (5 : Int32) (1 : Int32) q0 sb [(.int ((sb).toInt8.toInt32)), (.int (own_wb q0 (56 : Int32)).toInt8.toInt32), (.int (own_wb q0 (48 : Int32)).toInt8.toInt32), (.int (own_wb q0 (40 : Int32)).toInt8.toInt32), (.int (own_wb q0 (32 : Int32)).toInt8.toInt32), (.int (own_wb q0 (24 : Int32)).toInt8.toInt32), (.int (own_wb q0 (16 : Int32)).toInt8.toInt32), (.int (own_wb q0 (8 : Int32)).toInt8.toInt32), (.int (own_wb q0 (0 : Int32)).toInt8.toInt32), (.int ((sb).toInt8.toInt32)), (.int ((sb).toInt8.toInt32)), (.int ((sb).toInt8.toInt32))] k1 ((own_wb q0 (24 : Int32)).toInt8.toInt32) T27.heap q27_0 ⟨by decide, by decide⟩ rfl (by decide) ((own_we q0 (24 : Int32) 24 4294967296 (by decide) (by decide) (by decide) (by decide)).trans (show own_eb q0 (24 : Int32) = own_exp q0 ((5 : Int32) - (1 : Int32)) from rfl))) e32 (g := (mkF m 167 #[.val (.long q0), .second, .val (.int p1), .val (.int p2), .val (.int (1 : Int32)), .val (.int sb), .val (.ref b1)] [(.int sb), (.long q0), (.int (1 : Int32)), (.int (5 : Int32)), (.ref b1)])) rfl (by rw [hml]; rfl) (rest := []) (lenOf pd0_1 rfl) rfl (hb hby at_167) (W := 0) (by show 2 * 0 + _ ≤ _; exact Nat.le_of_eq rfl) (by decide) (by decide) (by decide) (by decide)
    obtain ⟨rfl, e33, rfl⟩ := hQ33
    have N33 := Fr.app N32 (Fr.nil n0)
    refine own_go (g' := (mkF m 170 #[.val (.long q0), .second, .val (.int p1), .val (.int p2), .val (.int (1 : Int32)), .val (.int sb), .val (.ref b1)] [(.int (1 : Int32))])) (st33) ?_
    refine own_go (g' := (mkF m 173 #[.val (.long q0), .second, .val (.int p1), .val (.int p2), .val (.int (1 : Int32)), .val (.int sb), .val (.ref b1)] [])) (fun _ k => XS.ifNo X33.here hx rfl (hb hby at_170) rfl ((if0 _ _).trans (feq (by decide)).1) k) ?_
    refine own_go (g' := (mkF m 175 #[.val (.long q0), .second, .val (.int p1), .val (.int p2), .val (.int (1 : Int32)), .val (.int sb), .val (.ref b1)] [(.ref b1)])) (fun _ k => XS.aload X33.here hx rfl (hb hby at_173) rfl rfl k) ?_
    refine own_go (g' := (mkF m 177 #[.val (.long q0), .second, .val (.int p1), .val (.int p2), .val (.int (1 : Int32)), .val (.int sb), .val (.ref b1)] [(.int (6 : Int32)), (.ref b1)])) (fun _ k => XS.bipush X33.here hx rfl (hb hby at_175) k) ?_
    refine own_go (g' := (mkF m 179 #[.val (.long q0), .second, .val (.int p1), .val (.int p2), .val (.int (1 : Int32)), .val (.int sb), .val (.ref b1)] [(.int (1 : Int32)), (.int (6 : Int32)), (.ref b1)])) (fun _ k => XS.iload X33.here hx rfl (hb hby at_177) rfl k) ?_
    refine own_go (g' := (mkF m 180 #[.val (.long q0), .second, .val (.int p1), .val (.int p2), .val (.int (1 : Int32)), .val (.int sb), .val (.ref b1)] [(.long q0), (.int (1 : Int32)), (.int (6 : Int32)), (.ref b1)])) (fun _ k => XS.lloadN X33.here hx rfl (hb hby at_179) rfl k) ?_
    refine own_go (g' := (mkF m 182 #[.val (.long q0), .second, .val (.int p1), .val (.int p2), .val (.int (1 : Int32)), .val (.int sb), .val (.ref b1)] [(.int sb), (.long q0), (.int (1 : Int32)), (.int (6 : Int32)), (.ref b1)])) (fun _ k => XS.iload X33.here hx rfl (hb hby at_180) rfl k) ?_
    obtain ⟨v34, T34, L34, hQ34, X34, st34⟩ := own_callS X33 hx hZ (y := (⟨"com/example/table_salt/tablesalt/layout/Int64WritePinLaw", "ok", "([BIIJB)Z"⟩ : MethodName)) hown (hw _ (List.mem_of_getElem? (i := 5) rfl)) (hw _ (List.mem_of_getElem? (i := 6) rfl)) (hw _ (List.mem_of_getElem? (i := 7) rfl)) (hw _ (List.mem_of_getElem? (i := 8) rfl)) ⟨by decide, by decide⟩ (argsL := [(.ref b1), (.int (6 : Int32)), (.int (1 : Int32)), (.long q0), (.int sb)]) (ok_i l Z a0 hw b1 (6 : Int32) (1 : Int32) q0 sb [(.int ((sb).toInt8.toInt32)), (.int (own_wb q0 (56 : Int32)).toInt8.toInt32), (.int (own_wb q0 (48 : Int32)).toInt8.toInt32), (.int (own_wb q0 (40 : Int32)).toInt8.toInt32), (.int (own_wb q0 (32 : Int32)).toInt8.toInt32), (.int (own_wb q0 (24 : Int32)).toInt8.toInt32), (.int (own_wb q0 (16 : Int32)).toInt8.toInt32), (.int (own_wb q0 (8 : Int32)).toInt8.toInt32), (.int (own_wb q0 (0 : Int32)).toInt8.toInt32), (.int ((sb).toInt8.toInt32)), (.int ((sb).toInt8.toInt32)), (.int ((sb).toInt8.toInt32))] k1 ((own_wb q0 (16 : Int32)).toInt8.toInt32) T27.heap q27_0 ⟨by decide, by decide⟩ rfl (by decide) ((own_we q0 (16 : Int32) 16 1099511627776 (by decide) (by decide) (by decide) (by decide)).trans (show own_eb q0 (16 : Int32) = own_exp q0 ((6 : Int32) - (1 : Int32)) from rfl))) e33 (g := (mkF m 182 #[.val (.long q0), .second, .val (.int p1), .val (.int p2), .val (.int (1 : Int32)), .val (.int sb), .val (.ref b1)] [(.int sb), (.long q0), (.int (1 : Int32)), (.int (6 : Int32)), (.ref b1)])) rfl (by rw [hml]; rfl) (rest := []) (lenOf pd0_1 rfl) rfl (hb hby at_182) (W := 0) (by show 2 * 0 + _ ≤ _; exact Nat.le_of_eq rfl) (by decide) (by decide) (by decide) (by decide)
    obtain ⟨rfl, e34, rfl⟩ := hQ34
    have N34 := Fr.app N33 (Fr.nil n0)
    refine own_go (g' := (mkF m 185 #[.val (.long q0), .second, .val (.int p1), .val (.int p2), .val (.int (1 : Int32)), .val (.int sb), .val (.ref b1)] [(.int (1 : Int32))])) (st34) ?_
    refine own_go (g' := (mkF m 188 #[.val (.long q0), .second, .val (.int p1), .val (.int p2), .val (.int (1 : Int32)), .val (.int sb), .val (.ref b1)] [])) (fun _ k => XS.ifNo X34.here hx rfl (hb hby at_185) rfl ((if0 _ _).trans (feq (by decide)).1) k) ?_
    refine own_go (g' := (mkF m 190 #[.val (.long q0), .second, .val (.int p1), .val (.int p2), .val (.int (1 : Int32)), .val (.int sb), .val (.ref b1)] [(.ref b1)])) (fun _ k => XS.aload X34.here hx rfl (hb hby at_188) rfl rfl k) ?_
    refine own_go (g' := (mkF m 192 #[.val (.long q0), .second, .val (.int p1), .val (.int p2), .val (.int (1 : Int32)), .val (.int sb), .val (.ref b1)] [(.int (7 : Int32)), (.ref b1)])) (fun _ k => XS.bipush X34.here hx rfl (hb hby at_190) k) ?_
    refine own_go (g' := (mkF m 194 #[.val (.long q0), .second, .val (.int p1), .val (.int p2), .val (.int (1 : Int32)), .val (.int sb), .val (.ref b1)] [(.int (1 : Int32)), (.int (7 : Int32)), (.ref b1)])) (fun _ k => XS.iload X34.here hx rfl (hb hby at_192) rfl k) ?_
    refine own_go (g' := (mkF m 195 #[.val (.long q0), .second, .val (.int p1), .val (.int p2), .val (.int (1 : Int32)), .val (.int sb), .val (.ref b1)] [(.long q0), (.int (1 : Int32)), (.int (7 : Int32)), (.ref b1)])) (fun _ k => XS.lloadN X34.here hx rfl (hb hby at_194) rfl k) ?_
    refine own_go (g' := (mkF m 197 #[.val (.long q0), .second, .val (.int p1), .val (.int p2), .val (.int (1 : Int32)), .val (.int sb), .val (.ref b1)] [(.int sb), (.long q0), (.int (1 : Int32)), (.int (7 : Int32)), (.ref b1)])) (fun _ k => XS.iload X34.here hx rfl (hb hby at_195) rfl k) ?_
    obtain ⟨v35, T35, L35, hQ35, X35, st35⟩ := own_callS X34 hx hZ (y := (⟨"com/example/table_salt/tablesalt/layout/Int64WritePinLaw", "ok", "([BIIJB)Z"⟩ : MethodName)) hown (hw _ (List.mem_of_getElem? (i := 5) rfl)) (hw _ (List.mem_of_getElem? (i := 6) rfl)) (hw _ (List.mem_of_getElem? (i := 7) rfl)) (hw _ (List.mem_of_getElem? (i := 8) rfl)) ⟨by decide, by decide⟩ (argsL := [(.ref b1), (.int (7 : Int32)), (.int (1 : Int32)), (.long q0), (.int sb)]) (ok_i l Z a0 hw b1 (7 : Int32) (1 : Int32) q0 sb [(.int ((sb).toInt8.toInt32)), (.int (own_wb q0 (56 : Int32)).toInt8.toInt32), (.int (own_wb q0 (48 : Int32)).toInt8.toInt32), (.int (own_wb q0 (40 : Int32)).toInt8.toInt32), (.int (own_wb q0 (32 : Int32)).toInt8.toInt32), (.int (own_wb q0 (24 : Int32)).toInt8.toInt32), (.int (own_wb q0 (16 : Int32)).toInt8.toInt32), (.int (own_wb q0 (8 : Int32)).toInt8.toInt32), (.int (own_wb q0 (0 : Int32)).toInt8.toInt32), (.int ((sb).toInt8.toInt32)), (.int ((sb).toInt8.toInt32)), (.int ((sb).toInt8.toInt32))] k1 ((own_wb q0 (8 : Int32)).toInt8.toInt32) T27.heap q27_0 ⟨by decide, by decide⟩ rfl (by decide) ((own_we q0 (8 : Int32) 8 281474976710656 (by decide) (by decide) (by decide) (by decide)).trans (show own_eb q0 (8 : Int32) = own_exp q0 ((7 : Int32) - (1 : Int32)) from rfl))) e34 (g := (mkF m 197 #[.val (.long q0), .second, .val (.int p1), .val (.int p2), .val (.int (1 : Int32)), .val (.int sb), .val (.ref b1)] [(.int sb), (.long q0), (.int (1 : Int32)), (.int (7 : Int32)), (.ref b1)])) rfl (by rw [hml]; rfl) (rest := []) (lenOf pd0_1 rfl) rfl (hb hby at_197) (W := 0) (by show 2 * 0 + _ ≤ _; exact Nat.le_of_eq rfl) (by decide) (by decide) (by decide) (by decide)
    obtain ⟨rfl, e35, rfl⟩ := hQ35
    have N35 := Fr.app N34 (Fr.nil n0)
    refine own_go (g' := (mkF m 200 #[.val (.long q0), .second, .val (.int p1), .val (.int p2), .val (.int (1 : Int32)), .val (.int sb), .val (.ref b1)] [(.int (1 : Int32))])) (st35) ?_
    refine own_go (g' := (mkF m 203 #[.val (.long q0), .second, .val (.int p1), .val (.int p2), .val (.int (1 : Int32)), .val (.int sb), .val (.ref b1)] [])) (fun _ k => XS.ifNo X35.here hx rfl (hb hby at_200) rfl ((if0 _ _).trans (feq (by decide)).1) k) ?_
    refine own_go (g' := (mkF m 205 #[.val (.long q0), .second, .val (.int p1), .val (.int p2), .val (.int (1 : Int32)), .val (.int sb), .val (.ref b1)] [(.ref b1)])) (fun _ k => XS.aload X35.here hx rfl (hb hby at_203) rfl rfl k) ?_
    refine own_go (g' := (mkF m 207 #[.val (.long q0), .second, .val (.int p1), .val (.int p2), .val (.int (1 : Int32)), .val (.int sb), .val (.ref b1)] [(.int (8 : Int32)), (.ref b1)])) (fun _ k => XS.bipush X35.here hx rfl (hb hby at_205) k) ?_
    refine own_go (g' := (mkF m 209 #[.val (.long q0), .second, .val (.int p1), .val (.int p2), .val (.int (1 : Int32)), .val (.int sb), .val (.ref b1)] [(.int (1 : Int32)), (.int (8 : Int32)), (.ref b1)])) (fun _ k => XS.iload X35.here hx rfl (hb hby at_207) rfl k) ?_
    refine own_go (g' := (mkF m 210 #[.val (.long q0), .second, .val (.int p1), .val (.int p2), .val (.int (1 : Int32)), .val (.int sb), .val (.ref b1)] [(.long q0), (.int (1 : Int32)), (.int (8 : Int32)), (.ref b1)])) (fun _ k => XS.lloadN X35.here hx rfl (hb hby at_209) rfl k) ?_
    refine own_go (g' := (mkF m 212 #[.val (.long q0), .second, .val (.int p1), .val (.int p2), .val (.int (1 : Int32)), .val (.int sb), .val (.ref b1)] [(.int sb), (.long q0), (.int (1 : Int32)), (.int (8 : Int32)), (.ref b1)])) (fun _ k => XS.iload X35.here hx rfl (hb hby at_210) rfl k) ?_
    obtain ⟨v36, T36, L36, hQ36, X36, st36⟩ := own_callS X35 hx hZ (y := (⟨"com/example/table_salt/tablesalt/layout/Int64WritePinLaw", "ok", "([BIIJB)Z"⟩ : MethodName)) hown (hw _ (List.mem_of_getElem? (i := 5) rfl)) (hw _ (List.mem_of_getElem? (i := 6) rfl)) (hw _ (List.mem_of_getElem? (i := 7) rfl)) (hw _ (List.mem_of_getElem? (i := 8) rfl)) ⟨by decide, by decide⟩ (argsL := [(.ref b1), (.int (8 : Int32)), (.int (1 : Int32)), (.long q0), (.int sb)]) (ok_i l Z a0 hw b1 (8 : Int32) (1 : Int32) q0 sb [(.int ((sb).toInt8.toInt32)), (.int (own_wb q0 (56 : Int32)).toInt8.toInt32), (.int (own_wb q0 (48 : Int32)).toInt8.toInt32), (.int (own_wb q0 (40 : Int32)).toInt8.toInt32), (.int (own_wb q0 (32 : Int32)).toInt8.toInt32), (.int (own_wb q0 (24 : Int32)).toInt8.toInt32), (.int (own_wb q0 (16 : Int32)).toInt8.toInt32), (.int (own_wb q0 (8 : Int32)).toInt8.toInt32), (.int (own_wb q0 (0 : Int32)).toInt8.toInt32), (.int ((sb).toInt8.toInt32)), (.int ((sb).toInt8.toInt32)), (.int ((sb).toInt8.toInt32))] k1 ((own_wb q0 (0 : Int32)).toInt8.toInt32) T27.heap q27_0 ⟨by decide, by decide⟩ rfl (by decide) (show (own_wb q0 (0 : Int32)).toInt8.toInt32 = own_exp q0 ((8 : Int32) - (1 : Int32)) from own_w0 q0)) e35 (g := (mkF m 212 #[.val (.long q0), .second, .val (.int p1), .val (.int p2), .val (.int (1 : Int32)), .val (.int sb), .val (.ref b1)] [(.int sb), (.long q0), (.int (1 : Int32)), (.int (8 : Int32)), (.ref b1)])) rfl (by rw [hml]; rfl) (rest := []) (lenOf pd0_1 rfl) rfl (hb hby at_212) (W := 0) (by show 2 * 0 + _ ≤ _; exact Nat.le_of_eq rfl) (by decide) (by decide) (by decide) (by decide)
    obtain ⟨rfl, e36, rfl⟩ := hQ36
    have N36 := Fr.app N35 (Fr.nil n0)
    refine own_go (g' := (mkF m 215 #[.val (.long q0), .second, .val (.int p1), .val (.int p2), .val (.int (1 : Int32)), .val (.int sb), .val (.ref b1)] [(.int (1 : Int32))])) (st36) ?_
    refine own_go (g' := (mkF m 218 #[.val (.long q0), .second, .val (.int p1), .val (.int p2), .val (.int (1 : Int32)), .val (.int sb), .val (.ref b1)] [])) (fun _ k => XS.ifNo X36.here hx rfl (hb hby at_215) rfl ((if0 _ _).trans (feq (by decide)).1) k) ?_
    refine own_go (g' := (mkF m 220 #[.val (.long q0), .second, .val (.int p1), .val (.int p2), .val (.int (1 : Int32)), .val (.int sb), .val (.ref b1)] [(.ref b1)])) (fun _ k => XS.aload X36.here hx rfl (hb hby at_218) rfl rfl k) ?_
    refine own_go (g' := (mkF m 222 #[.val (.long q0), .second, .val (.int p1), .val (.int p2), .val (.int (1 : Int32)), .val (.int sb), .val (.ref b1)] [(.int (9 : Int32)), (.ref b1)])) (fun _ k => XS.bipush X36.here hx rfl (hb hby at_220) k) ?_
    refine own_go (g' := (mkF m 224 #[.val (.long q0), .second, .val (.int p1), .val (.int p2), .val (.int (1 : Int32)), .val (.int sb), .val (.ref b1)] [(.int (1 : Int32)), (.int (9 : Int32)), (.ref b1)])) (fun _ k => XS.iload X36.here hx rfl (hb hby at_222) rfl k) ?_
    refine own_go (g' := (mkF m 225 #[.val (.long q0), .second, .val (.int p1), .val (.int p2), .val (.int (1 : Int32)), .val (.int sb), .val (.ref b1)] [(.long q0), (.int (1 : Int32)), (.int (9 : Int32)), (.ref b1)])) (fun _ k => XS.lloadN X36.here hx rfl (hb hby at_224) rfl k) ?_
    refine own_go (g' := (mkF m 227 #[.val (.long q0), .second, .val (.int p1), .val (.int p2), .val (.int (1 : Int32)), .val (.int sb), .val (.ref b1)] [(.int sb), (.long q0), (.int (1 : Int32)), (.int (9 : Int32)), (.ref b1)])) (fun _ k => XS.iload X36.here hx rfl (hb hby at_225) rfl k) ?_
    obtain ⟨v37, T37, L37, hQ37, X37, st37⟩ := own_callS X36 hx hZ (y := (⟨"com/example/table_salt/tablesalt/layout/Int64WritePinLaw", "ok", "([BIIJB)Z"⟩ : MethodName)) hown (hw _ (List.mem_of_getElem? (i := 5) rfl)) (hw _ (List.mem_of_getElem? (i := 6) rfl)) (hw _ (List.mem_of_getElem? (i := 7) rfl)) (hw _ (List.mem_of_getElem? (i := 8) rfl)) ⟨by decide, by decide⟩ (argsL := [(.ref b1), (.int (9 : Int32)), (.int (1 : Int32)), (.long q0), (.int sb)]) (ok_o l Z a0 hw b1 (9 : Int32) (1 : Int32) q0 sb [(.int ((sb).toInt8.toInt32)), (.int (own_wb q0 (56 : Int32)).toInt8.toInt32), (.int (own_wb q0 (48 : Int32)).toInt8.toInt32), (.int (own_wb q0 (40 : Int32)).toInt8.toInt32), (.int (own_wb q0 (32 : Int32)).toInt8.toInt32), (.int (own_wb q0 (24 : Int32)).toInt8.toInt32), (.int (own_wb q0 (16 : Int32)).toInt8.toInt32), (.int (own_wb q0 (8 : Int32)).toInt8.toInt32), (.int (own_wb q0 (0 : Int32)).toInt8.toInt32), (.int ((sb).toInt8.toInt32)), (.int ((sb).toInt8.toInt32)), (.int ((sb).toInt8.toInt32))] k1 (((sb).toInt8.toInt32)) T27.heap q27_0 ⟨by decide, by decide⟩ rfl (by decide) (by rw [hsb]; exact own_bb _)) e36 (g := (mkF m 227 #[.val (.long q0), .second, .val (.int p1), .val (.int p2), .val (.int (1 : Int32)), .val (.int sb), .val (.ref b1)] [(.int sb), (.long q0), (.int (1 : Int32)), (.int (9 : Int32)), (.ref b1)])) rfl (by rw [hml]; rfl) (rest := []) (lenOf pd0_1 rfl) rfl (hb hby at_227) (W := 0) (by show 2 * 0 + _ ≤ _; exact Nat.le_of_eq rfl) (by decide) (by decide) (by decide) (by decide)
    obtain ⟨rfl, e37, rfl⟩ := hQ37
    have N37 := Fr.app N36 (Fr.nil n0)
    refine own_go (g' := (mkF m 230 #[.val (.long q0), .second, .val (.int p1), .val (.int p2), .val (.int (1 : Int32)), .val (.int sb), .val (.ref b1)] [(.int (1 : Int32))])) (st37) ?_
    refine own_go (g' := (mkF m 233 #[.val (.long q0), .second, .val (.int p1), .val (.int p2), .val (.int (1 : Int32)), .val (.int sb), .val (.ref b1)] [])) (fun _ k => XS.ifNo X37.here hx rfl (hb hby at_230) rfl ((if0 _ _).trans (feq (by decide)).1) k) ?_
    refine own_go (g' := (mkF m 235 #[.val (.long q0), .second, .val (.int p1), .val (.int p2), .val (.int (1 : Int32)), .val (.int sb), .val (.ref b1)] [(.ref b1)])) (fun _ k => XS.aload X37.here hx rfl (hb hby at_233) rfl rfl k) ?_
    refine own_go (g' := (mkF m 237 #[.val (.long q0), .second, .val (.int p1), .val (.int p2), .val (.int (1 : Int32)), .val (.int sb), .val (.ref b1)] [(.int (10 : Int32)), (.ref b1)])) (fun _ k => XS.bipush X37.here hx rfl (hb hby at_235) k) ?_
    refine own_go (g' := (mkF m 239 #[.val (.long q0), .second, .val (.int p1), .val (.int p2), .val (.int (1 : Int32)), .val (.int sb), .val (.ref b1)] [(.int (1 : Int32)), (.int (10 : Int32)), (.ref b1)])) (fun _ k => XS.iload X37.here hx rfl (hb hby at_237) rfl k) ?_
    refine own_go (g' := (mkF m 240 #[.val (.long q0), .second, .val (.int p1), .val (.int p2), .val (.int (1 : Int32)), .val (.int sb), .val (.ref b1)] [(.long q0), (.int (1 : Int32)), (.int (10 : Int32)), (.ref b1)])) (fun _ k => XS.lloadN X37.here hx rfl (hb hby at_239) rfl k) ?_
    refine own_go (g' := (mkF m 242 #[.val (.long q0), .second, .val (.int p1), .val (.int p2), .val (.int (1 : Int32)), .val (.int sb), .val (.ref b1)] [(.int sb), (.long q0), (.int (1 : Int32)), (.int (10 : Int32)), (.ref b1)])) (fun _ k => XS.iload X37.here hx rfl (hb hby at_240) rfl k) ?_
    obtain ⟨v38, T38, L38, hQ38, X38, st38⟩ := own_callS X37 hx hZ (y := (⟨"com/example/table_salt/tablesalt/layout/Int64WritePinLaw", "ok", "([BIIJB)Z"⟩ : MethodName)) hown (hw _ (List.mem_of_getElem? (i := 5) rfl)) (hw _ (List.mem_of_getElem? (i := 6) rfl)) (hw _ (List.mem_of_getElem? (i := 7) rfl)) (hw _ (List.mem_of_getElem? (i := 8) rfl)) ⟨by decide, by decide⟩ (argsL := [(.ref b1), (.int (10 : Int32)), (.int (1 : Int32)), (.long q0), (.int sb)]) (ok_o l Z a0 hw b1 (10 : Int32) (1 : Int32) q0 sb [(.int ((sb).toInt8.toInt32)), (.int (own_wb q0 (56 : Int32)).toInt8.toInt32), (.int (own_wb q0 (48 : Int32)).toInt8.toInt32), (.int (own_wb q0 (40 : Int32)).toInt8.toInt32), (.int (own_wb q0 (32 : Int32)).toInt8.toInt32), (.int (own_wb q0 (24 : Int32)).toInt8.toInt32), (.int (own_wb q0 (16 : Int32)).toInt8.toInt32), (.int (own_wb q0 (8 : Int32)).toInt8.toInt32), (.int (own_wb q0 (0 : Int32)).toInt8.toInt32), (.int ((sb).toInt8.toInt32)), (.int ((sb).toInt8.toInt32)), (.int ((sb).toInt8.toInt32))] k1 (((sb).toInt8.toInt32)) T27.heap q27_0 ⟨by decide, by decide⟩ rfl (by decide) (by rw [hsb]; exact own_bb _)) e37 (g := (mkF m 242 #[.val (.long q0), .second, .val (.int p1), .val (.int p2), .val (.int (1 : Int32)), .val (.int sb), .val (.ref b1)] [(.int sb), (.long q0), (.int (1 : Int32)), (.int (10 : Int32)), (.ref b1)])) rfl (by rw [hml]; rfl) (rest := []) (lenOf pd0_1 rfl) rfl (hb hby at_242) (W := 0) (by show 2 * 0 + _ ≤ _; exact Nat.le_of_eq rfl) (by decide) (by decide) (by decide) (by decide)
    obtain ⟨rfl, e38, rfl⟩ := hQ38
    have N38 := Fr.app N37 (Fr.nil n0)
    refine own_go (g' := (mkF m 245 #[.val (.long q0), .second, .val (.int p1), .val (.int p2), .val (.int (1 : Int32)), .val (.int sb), .val (.ref b1)] [(.int (1 : Int32))])) (st38) ?_
    refine own_go (g' := (mkF m 248 #[.val (.long q0), .second, .val (.int p1), .val (.int p2), .val (.int (1 : Int32)), .val (.int sb), .val (.ref b1)] [])) (fun _ k => XS.ifNo X38.here hx rfl (hb hby at_245) rfl ((if0 _ _).trans (feq (by decide)).1) k) ?_
    refine own_go (g' := (mkF m 250 #[.val (.long q0), .second, .val (.int p1), .val (.int p2), .val (.int (1 : Int32)), .val (.int sb), .val (.ref b1)] [(.ref b1)])) (fun _ k => XS.aload X38.here hx rfl (hb hby at_248) rfl rfl k) ?_
    refine own_go (g' := (mkF m 252 #[.val (.long q0), .second, .val (.int p1), .val (.int p2), .val (.int (1 : Int32)), .val (.int sb), .val (.ref b1)] [(.int (11 : Int32)), (.ref b1)])) (fun _ k => XS.bipush X38.here hx rfl (hb hby at_250) k) ?_
    refine own_go (g' := (mkF m 254 #[.val (.long q0), .second, .val (.int p1), .val (.int p2), .val (.int (1 : Int32)), .val (.int sb), .val (.ref b1)] [(.int (1 : Int32)), (.int (11 : Int32)), (.ref b1)])) (fun _ k => XS.iload X38.here hx rfl (hb hby at_252) rfl k) ?_
    refine own_go (g' := (mkF m 255 #[.val (.long q0), .second, .val (.int p1), .val (.int p2), .val (.int (1 : Int32)), .val (.int sb), .val (.ref b1)] [(.long q0), (.int (1 : Int32)), (.int (11 : Int32)), (.ref b1)])) (fun _ k => XS.lloadN X38.here hx rfl (hb hby at_254) rfl k) ?_
    refine own_go (g' := (mkF m 257 #[.val (.long q0), .second, .val (.int p1), .val (.int p2), .val (.int (1 : Int32)), .val (.int sb), .val (.ref b1)] [(.int sb), (.long q0), (.int (1 : Int32)), (.int (11 : Int32)), (.ref b1)])) (fun _ k => XS.iload X38.here hx rfl (hb hby at_255) rfl k) ?_
    obtain ⟨v39, T39, L39, hQ39, X39, st39⟩ := own_callS X38 hx hZ (y := (⟨"com/example/table_salt/tablesalt/layout/Int64WritePinLaw", "ok", "([BIIJB)Z"⟩ : MethodName)) hown (hw _ (List.mem_of_getElem? (i := 5) rfl)) (hw _ (List.mem_of_getElem? (i := 6) rfl)) (hw _ (List.mem_of_getElem? (i := 7) rfl)) (hw _ (List.mem_of_getElem? (i := 8) rfl)) ⟨by decide, by decide⟩ (argsL := [(.ref b1), (.int (11 : Int32)), (.int (1 : Int32)), (.long q0), (.int sb)]) (ok_o l Z a0 hw b1 (11 : Int32) (1 : Int32) q0 sb [(.int ((sb).toInt8.toInt32)), (.int (own_wb q0 (56 : Int32)).toInt8.toInt32), (.int (own_wb q0 (48 : Int32)).toInt8.toInt32), (.int (own_wb q0 (40 : Int32)).toInt8.toInt32), (.int (own_wb q0 (32 : Int32)).toInt8.toInt32), (.int (own_wb q0 (24 : Int32)).toInt8.toInt32), (.int (own_wb q0 (16 : Int32)).toInt8.toInt32), (.int (own_wb q0 (8 : Int32)).toInt8.toInt32), (.int (own_wb q0 (0 : Int32)).toInt8.toInt32), (.int ((sb).toInt8.toInt32)), (.int ((sb).toInt8.toInt32)), (.int ((sb).toInt8.toInt32))] k1 (((sb).toInt8.toInt32)) T27.heap q27_0 ⟨by decide, by decide⟩ rfl (by decide) (by rw [hsb]; exact own_bb _)) e38 (g := (mkF m 257 #[.val (.long q0), .second, .val (.int p1), .val (.int p2), .val (.int (1 : Int32)), .val (.int sb), .val (.ref b1)] [(.int sb), (.long q0), (.int (1 : Int32)), (.int (11 : Int32)), (.ref b1)])) rfl (by rw [hml]; rfl) (rest := []) (lenOf pd0_1 rfl) rfl (hb hby at_257) (W := 0) (by show 2 * 0 + _ ≤ _; exact Nat.le_of_eq rfl) (by decide) (by decide) (by decide) (by decide)
    obtain ⟨rfl, e39, rfl⟩ := hQ39
    have N39 := Fr.app N38 (Fr.nil n0)
    refine own_go (g' := (mkF m 260 #[.val (.long q0), .second, .val (.int p1), .val (.int p2), .val (.int (1 : Int32)), .val (.int sb), .val (.ref b1)] [(.int (1 : Int32))])) (st39) ?_
    refine own_go (g' := (mkF m 263 #[.val (.long q0), .second, .val (.int p1), .val (.int p2), .val (.int (1 : Int32)), .val (.int sb), .val (.ref b1)] [])) (fun _ k => XS.ifNo X39.here hx rfl (hb hby at_260) rfl ((if0 _ _).trans (feq (by decide)).1) k) ?_
    refine own_go (g' := (mkF m 264 #[.val (.long q0), .second, .val (.int p1), .val (.int p2), .val (.int (1 : Int32)), .val (.int sb), .val (.ref b1)] [(.int (1 : Int32))])) (fun _ k => XS.iconst X39.here hx rfl (hb hby at_263) k) ?_
    refine own_go (g' := (mkF m 268 #[.val (.long q0), .second, .val (.int p1), .val (.int p2), .val (.int (1 : Int32)), .val (.int sb), .val (.ref b1)] [(.int (1 : Int32))])) (fun _ k => XS.goto X39.here hx rfl (pc0 := 264) (pc' := 268) rfl (hb hby at_264) (by decide) (by decide) k) ?_
    refine own_retN X39 hx .boolean Bd.returns Bd.notSynchronized (by simp) (hb hby at_268) (by decide) (by decide) ?_
    show QQ _ T39.heap _
    rw [e39]
    rw [← hQQ]
    exact ⟨rfl, N39⟩
  ·
    refine own_go (g' := (mkF m 82 #[.val (.long q0), .second, .val (.int p1), .val (.int p2), .val (.int (2 : Int32)), .val (.int sb), .val (.ref b1)] [(.long q0)])) (fun _ k => XS.lloadN X13.here hx rfl (hb hby at_81) rfl k) ?_
    refine own_go (g' := (mkF m 84 #[.val (.long q0), .second, .val (.int p1), .val (.int p2), .val (.int (2 : Int32)), .val (.int sb), .val (.ref b1)] [(.ref b1), (.long q0)])) (fun _ k => XS.aload X13.here hx rfl (hb hby at_82) rfl rfl k) ?_
    refine own_go (g' := (mkF m 86 #[.val (.long q0), .second, .val (.int p1), .val (.int p2), .val (.int (2 : Int32)), .val (.int sb), .val (.ref b1)] [(.int (2 : Int32)), (.ref b1), (.long q0)])) (fun _ k => XS.iload X13.here hx rfl (hb hby at_84) rfl k) ?_
    obtain ⟨v40, T40, L40, hQ40, X40, st40⟩ := own_callS X13 hx hZ (y := (⟨"com/example/table_salt/tablesalt/layout/Int64", "write", "(J[BI)V"⟩ : MethodName)) hown (hw _ (List.mem_of_getElem? (i := 1) rfl)) (hw _ (List.mem_of_getElem? (i := 2) rfl)) (hw _ (List.mem_of_getElem? (i := 3) rfl)) (hw _ (List.mem_of_getElem? (i := 4) rfl)) ⟨by decide, by decide⟩ (argsL := [(.long q0), (.ref b1), (.int (2 : Int32))]) (wr2 l Z a0 hw q0 b1 ((sb).toInt8.toInt32) ((sb).toInt8.toInt32) ((sb).toInt8.toInt32) ((sb).toInt8.toInt32) ((sb).toInt8.toInt32) ((sb).toInt8.toInt32) ((sb).toInt8.toInt32) ((sb).toInt8.toInt32) ((sb).toInt8.toInt32) ((sb).toInt8.toInt32) ((sb).toInt8.toInt32) ((sb).toInt8.toInt32) k1 h13 n0 Z13 ge_b1 V13) e13 (g := (mkF m 86 #[.val (.long q0), .second, .val (.int p1), .val (.int p2), .val (.int (2 : Int32)), .val (.int sb), .val (.ref b1)] [(.int (2 : Int32)), (.ref b1), (.long q0)])) rfl (by rw [hml]; rfl) (rest := []) (lenOf pd0_0 rfl) rfl (hb hby at_86) (W := 0) (by show 2 * 0 + _ ≤ _; exact Nat.le_of_eq rfl) (by decide) (by decide) (by decide) (by decide)
    obtain ⟨rfl, Nq40, Kq40, q40_0⟩ := hQ40
    have N40 := Fr.app N13 Nq40
    have Z40 : n0 ≤ T40.heap.size := Nat.le_trans Z13 Kq40.1
    refine own_go (g' := (mkF m 89 #[.val (.long q0), .second, .val (.int p1), .val (.int p2), .val (.int (2 : Int32)), .val (.int sb), .val (.ref b1)] [])) (st40) ?_
    refine own_go (g' := (mkF m 91 #[.val (.long q0), .second, .val (.int p1), .val (.int p2), .val (.int (2 : Int32)), .val (.int sb), .val (.ref b1)] [(.ref b1)])) (fun _ k => XS.aload X40.here hx rfl (hb hby at_89) rfl rfl k) ?_
    refine own_go (g' := (mkF m 92 #[.val (.long q0), .second, .val (.int p1), .val (.int p2), .val (.int (2 : Int32)), .val (.int sb), .val (.ref b1)] [(.int (0 : Int32)), (.ref b1)])) (fun _ k => XS.iconst X40.here hx rfl (hb hby at_91) k) ?_
    refine own_go (g' := (mkF m 94 #[.val (.long q0), .second, .val (.int p1), .val (.int p2), .val (.int (2 : Int32)), .val (.int sb), .val (.ref b1)] [(.int (2 : Int32)), (.int (0 : Int32)), (.ref b1)])) (fun _ k => XS.iload X40.here hx rfl (hb hby at_92) rfl k) ?_
    refine own_go (g' := (mkF m 95 #[.val (.long q0), .second, .val (.int p1), .val (.int p2), .val (.int (2 : Int32)), .val (.int sb), .val (.ref b1)] [(.long q0), (.int (2 : Int32)), (.int (0 : Int32)), (.ref b1)])) (fun _ k => XS.lloadN X40.here hx rfl (hb hby at_94) rfl k) ?_
    refine own_go (g' := (mkF m 97 #[.val (.long q0), .second, .val (.int p1), .val (.int p2), .val (.int (2 : Int32)), .val (.int sb), .val (.ref b1)] [(.int sb), (.long q0), (.int (2 : Int32)), (.int (0 : Int32)), (.ref b1)])) (fun _ k => XS.iload X40.here hx rfl (hb hby at_95) rfl k) ?_
    obtain ⟨v41, T41, L41, hQ41, X41, st41⟩ := own_callS X40 hx hZ (y := (⟨"com/example/table_salt/tablesalt/layout/Int64WritePinLaw", "ok", "([BIIJB)Z"⟩ : MethodName)) hown (hw _ (List.mem_of_getElem? (i := 5) rfl)) (hw _ (List.mem_of_getElem? (i := 6) rfl)) (hw _ (List.mem_of_getElem? (i := 7) rfl)) (hw _ (List.mem_of_getElem? (i := 8) rfl)) ⟨by decide, by decide⟩ (argsL := [(.ref b1), (.int (0 : Int32)), (.int (2 : Int32)), (.long q0), (.int sb)]) (ok_o l Z a0 hw b1 (0 : Int32) (2 : Int32) q0 sb [(.int ((sb).toInt8.toInt32)), (.int ((sb).toInt8.toInt32)), (.int (own_wb q0 (56 : Int32)).toInt8.toInt32), (.int (own_wb q0 (48 : Int32)).toInt8.toInt32), (.int (own_wb q0 (40 : Int32)).toInt8.toInt32), (.int (own_wb q0 (32 : Int32)).toInt8.toInt32), (.int (own_wb q0 (24 : Int32)).toInt8.toInt32), (.int (own_wb q0 (16 : Int32)).toInt8.toInt32), (.int (own_wb q0 (8 : Int32)).toInt8.toInt32), (.int (own_wb q0 (0 : Int32)).toInt8.toInt32), (.int ((sb).toInt8.toInt32)), (.int ((sb).toInt8.toInt32))] k1 (((sb).toInt8.toInt32)) T40.heap q40_0 ⟨by decide, by decide⟩ rfl (by decide) (by rw [hsb]; exact own_bb _)) rfl (g := (mkF m 97 #[.val (.long q0), .second, .val (.int p1), .val (.int p2), .val (.int (2 : Int32)), .val (.int sb), .val (.ref b1)] [(.int sb), (.long q0), (.int (2 : Int32)), (.int (0 : Int32)), (.ref b1)])) rfl (by rw [hml]; rfl) (rest := []) (lenOf pd0_1 rfl) rfl (hb hby at_97) (W := 0) (by show 2 * 0 + _ ≤ _; exact Nat.le_of_eq rfl) (by decide) (by decide) (by decide) (by decide)
    obtain ⟨rfl, e41, rfl⟩ := hQ41
    have N41 := Fr.app N40 (Fr.nil n0)
    refine own_go (g' := (mkF m 100 #[.val (.long q0), .second, .val (.int p1), .val (.int p2), .val (.int (2 : Int32)), .val (.int sb), .val (.ref b1)] [(.int (1 : Int32))])) (st41) ?_
    refine own_go (g' := (mkF m 103 #[.val (.long q0), .second, .val (.int p1), .val (.int p2), .val (.int (2 : Int32)), .val (.int sb), .val (.ref b1)] [])) (fun _ k => XS.ifNo X41.here hx rfl (hb hby at_100) rfl ((if0 _ _).trans (feq (by decide)).1) k) ?_
    refine own_go (g' := (mkF m 105 #[.val (.long q0), .second, .val (.int p1), .val (.int p2), .val (.int (2 : Int32)), .val (.int sb), .val (.ref b1)] [(.ref b1)])) (fun _ k => XS.aload X41.here hx rfl (hb hby at_103) rfl rfl k) ?_
    refine own_go (g' := (mkF m 106 #[.val (.long q0), .second, .val (.int p1), .val (.int p2), .val (.int (2 : Int32)), .val (.int sb), .val (.ref b1)] [(.int (1 : Int32)), (.ref b1)])) (fun _ k => XS.iconst X41.here hx rfl (hb hby at_105) k) ?_
    refine own_go (g' := (mkF m 108 #[.val (.long q0), .second, .val (.int p1), .val (.int p2), .val (.int (2 : Int32)), .val (.int sb), .val (.ref b1)] [(.int (2 : Int32)), (.int (1 : Int32)), (.ref b1)])) (fun _ k => XS.iload X41.here hx rfl (hb hby at_106) rfl k) ?_
    refine own_go (g' := (mkF m 109 #[.val (.long q0), .second, .val (.int p1), .val (.int p2), .val (.int (2 : Int32)), .val (.int sb), .val (.ref b1)] [(.long q0), (.int (2 : Int32)), (.int (1 : Int32)), (.ref b1)])) (fun _ k => XS.lloadN X41.here hx rfl (hb hby at_108) rfl k) ?_
    refine own_go (g' := (mkF m 111 #[.val (.long q0), .second, .val (.int p1), .val (.int p2), .val (.int (2 : Int32)), .val (.int sb), .val (.ref b1)] [(.int sb), (.long q0), (.int (2 : Int32)), (.int (1 : Int32)), (.ref b1)])) (fun _ k => XS.iload X41.here hx rfl (hb hby at_109) rfl k) ?_
    obtain ⟨v42, T42, L42, hQ42, X42, st42⟩ := own_callS X41 hx hZ (y := (⟨"com/example/table_salt/tablesalt/layout/Int64WritePinLaw", "ok", "([BIIJB)Z"⟩ : MethodName)) hown (hw _ (List.mem_of_getElem? (i := 5) rfl)) (hw _ (List.mem_of_getElem? (i := 6) rfl)) (hw _ (List.mem_of_getElem? (i := 7) rfl)) (hw _ (List.mem_of_getElem? (i := 8) rfl)) ⟨by decide, by decide⟩ (argsL := [(.ref b1), (.int (1 : Int32)), (.int (2 : Int32)), (.long q0), (.int sb)]) (ok_o l Z a0 hw b1 (1 : Int32) (2 : Int32) q0 sb [(.int ((sb).toInt8.toInt32)), (.int ((sb).toInt8.toInt32)), (.int (own_wb q0 (56 : Int32)).toInt8.toInt32), (.int (own_wb q0 (48 : Int32)).toInt8.toInt32), (.int (own_wb q0 (40 : Int32)).toInt8.toInt32), (.int (own_wb q0 (32 : Int32)).toInt8.toInt32), (.int (own_wb q0 (24 : Int32)).toInt8.toInt32), (.int (own_wb q0 (16 : Int32)).toInt8.toInt32), (.int (own_wb q0 (8 : Int32)).toInt8.toInt32), (.int (own_wb q0 (0 : Int32)).toInt8.toInt32), (.int ((sb).toInt8.toInt32)), (.int ((sb).toInt8.toInt32))] k1 (((sb).toInt8.toInt32)) T40.heap q40_0 ⟨by decide, by decide⟩ rfl (by decide) (by rw [hsb]; exact own_bb _)) e41 (g := (mkF m 111 #[.val (.long q0), .second, .val (.int p1), .val (.int p2), .val (.int (2 : Int32)), .val (.int sb), .val (.ref b1)] [(.int sb), (.long q0), (.int (2 : Int32)), (.int (1 : Int32)), (.ref b1)])) rfl (by rw [hml]; rfl) (rest := []) (lenOf pd0_1 rfl) rfl (hb hby at_111) (W := 0) (by show 2 * 0 + _ ≤ _; exact Nat.le_of_eq rfl) (by decide) (by decide) (by decide) (by decide)
    obtain ⟨rfl, e42, rfl⟩ := hQ42
    have N42 := Fr.app N41 (Fr.nil n0)
    refine own_go (g' := (mkF m 114 #[.val (.long q0), .second, .val (.int p1), .val (.int p2), .val (.int (2 : Int32)), .val (.int sb), .val (.ref b1)] [(.int (1 : Int32))])) (st42) ?_
    refine own_go (g' := (mkF m 117 #[.val (.long q0), .second, .val (.int p1), .val (.int p2), .val (.int (2 : Int32)), .val (.int sb), .val (.ref b1)] [])) (fun _ k => XS.ifNo X42.here hx rfl (hb hby at_114) rfl ((if0 _ _).trans (feq (by decide)).1) k) ?_
    refine own_go (g' := (mkF m 119 #[.val (.long q0), .second, .val (.int p1), .val (.int p2), .val (.int (2 : Int32)), .val (.int sb), .val (.ref b1)] [(.ref b1)])) (fun _ k => XS.aload X42.here hx rfl (hb hby at_117) rfl rfl k) ?_
    refine own_go (g' := (mkF m 120 #[.val (.long q0), .second, .val (.int p1), .val (.int p2), .val (.int (2 : Int32)), .val (.int sb), .val (.ref b1)] [(.int (2 : Int32)), (.ref b1)])) (fun _ k => XS.iconst X42.here hx rfl (hb hby at_119) k) ?_
    refine own_go (g' := (mkF m 122 #[.val (.long q0), .second, .val (.int p1), .val (.int p2), .val (.int (2 : Int32)), .val (.int sb), .val (.ref b1)] [(.int (2 : Int32)), (.int (2 : Int32)), (.ref b1)])) (fun _ k => XS.iload X42.here hx rfl (hb hby at_120) rfl k) ?_
    refine own_go (g' := (mkF m 123 #[.val (.long q0), .second, .val (.int p1), .val (.int p2), .val (.int (2 : Int32)), .val (.int sb), .val (.ref b1)] [(.long q0), (.int (2 : Int32)), (.int (2 : Int32)), (.ref b1)])) (fun _ k => XS.lloadN X42.here hx rfl (hb hby at_122) rfl k) ?_
    refine own_go (g' := (mkF m 125 #[.val (.long q0), .second, .val (.int p1), .val (.int p2), .val (.int (2 : Int32)), .val (.int sb), .val (.ref b1)] [(.int sb), (.long q0), (.int (2 : Int32)), (.int (2 : Int32)), (.ref b1)])) (fun _ k => XS.iload X42.here hx rfl (hb hby at_123) rfl k) ?_
    obtain ⟨v43, T43, L43, hQ43, X43, st43⟩ := own_callS X42 hx hZ (y := (⟨"com/example/table_salt/tablesalt/layout/Int64WritePinLaw", "ok", "([BIIJB)Z"⟩ : MethodName)) hown (hw _ (List.mem_of_getElem? (i := 5) rfl)) (hw _ (List.mem_of_getElem? (i := 6) rfl)) (hw _ (List.mem_of_getElem? (i := 7) rfl)) (hw _ (List.mem_of_getElem? (i := 8) rfl)) ⟨by decide, by decide⟩ (argsL := [(.ref b1), (.int (2 : Int32)), (.int (2 : Int32)), (.long q0), (.int sb)]) (ok_i l Z a0 hw b1 (2 : Int32) (2 : Int32) q0 sb [(.int ((sb).toInt8.toInt32)), (.int ((sb).toInt8.toInt32)), (.int (own_wb q0 (56 : Int32)).toInt8.toInt32), (.int (own_wb q0 (48 : Int32)).toInt8.toInt32), (.int (own_wb q0 (40 : Int32)).toInt8.toInt32), (.int (own_wb q0 (32 : Int32)).toInt8.toInt32), (.int (own_wb q0 (24 : Int32)).toInt8.toInt32), (.int (own_wb q0 (16 : Int32)).toInt8.toInt32), (.int (own_wb q0 (8 : Int32)).toInt8.toInt32), (.int (own_wb q0 (0 : Int32)).toInt8.toInt32), (.int ((sb).toInt8.toInt32)), (.int ((sb).toInt8.toInt32))] k1 ((own_wb q0 (56 : Int32)).toInt8.toInt32) T40.heap q40_0 ⟨by decide, by decide⟩ rfl (by decide) ((own_we q0 (56 : Int32) 56 1 (by decide) (by decide) (by decide) (by decide)).trans (show own_eb q0 (56 : Int32) = own_exp q0 ((2 : Int32) - (2 : Int32)) from rfl))) e42 (g := (mkF m 125 #[.val (.long q0), .second, .val (.int p1), .val (.int p2), .val (.int (2 : Int32)), .val (.int sb), .val (.ref b1)] [(.int sb), (.long q0), (.int (2 : Int32)), (.int (2 : Int32)), (.ref b1)])) rfl (by rw [hml]; rfl) (rest := []) (lenOf pd0_1 rfl) rfl (hb hby at_125) (W := 0) (by show 2 * 0 + _ ≤ _; exact Nat.le_of_eq rfl) (by decide) (by decide) (by decide) (by decide)
    obtain ⟨rfl, e43, rfl⟩ := hQ43
    have N43 := Fr.app N42 (Fr.nil n0)
    refine own_go (g' := (mkF m 128 #[.val (.long q0), .second, .val (.int p1), .val (.int p2), .val (.int (2 : Int32)), .val (.int sb), .val (.ref b1)] [(.int (1 : Int32))])) (st43) ?_
    refine own_go (g' := (mkF m 131 #[.val (.long q0), .second, .val (.int p1), .val (.int p2), .val (.int (2 : Int32)), .val (.int sb), .val (.ref b1)] [])) (fun _ k => XS.ifNo X43.here hx rfl (hb hby at_128) rfl ((if0 _ _).trans (feq (by decide)).1) k) ?_
    refine own_go (g' := (mkF m 133 #[.val (.long q0), .second, .val (.int p1), .val (.int p2), .val (.int (2 : Int32)), .val (.int sb), .val (.ref b1)] [(.ref b1)])) (fun _ k => XS.aload X43.here hx rfl (hb hby at_131) rfl rfl k) ?_
    refine own_go (g' := (mkF m 134 #[.val (.long q0), .second, .val (.int p1), .val (.int p2), .val (.int (2 : Int32)), .val (.int sb), .val (.ref b1)] [(.int (3 : Int32)), (.ref b1)])) (fun _ k => XS.iconst X43.here hx rfl (hb hby at_133) k) ?_
    refine own_go (g' := (mkF m 136 #[.val (.long q0), .second, .val (.int p1), .val (.int p2), .val (.int (2 : Int32)), .val (.int sb), .val (.ref b1)] [(.int (2 : Int32)), (.int (3 : Int32)), (.ref b1)])) (fun _ k => XS.iload X43.here hx rfl (hb hby at_134) rfl k) ?_
    refine own_go (g' := (mkF m 137 #[.val (.long q0), .second, .val (.int p1), .val (.int p2), .val (.int (2 : Int32)), .val (.int sb), .val (.ref b1)] [(.long q0), (.int (2 : Int32)), (.int (3 : Int32)), (.ref b1)])) (fun _ k => XS.lloadN X43.here hx rfl (hb hby at_136) rfl k) ?_
    refine own_go (g' := (mkF m 139 #[.val (.long q0), .second, .val (.int p1), .val (.int p2), .val (.int (2 : Int32)), .val (.int sb), .val (.ref b1)] [(.int sb), (.long q0), (.int (2 : Int32)), (.int (3 : Int32)), (.ref b1)])) (fun _ k => XS.iload X43.here hx rfl (hb hby at_137) rfl k) ?_
    obtain ⟨v44, T44, L44, hQ44, X44, st44⟩ := own_callS X43 hx hZ (y := (⟨"com/example/table_salt/tablesalt/layout/Int64WritePinLaw", "ok", "([BIIJB)Z"⟩ : MethodName)) hown (hw _ (List.mem_of_getElem? (i := 5) rfl)) (hw _ (List.mem_of_getElem? (i := 6) rfl)) (hw _ (List.mem_of_getElem? (i := 7) rfl)) (hw _ (List.mem_of_getElem? (i := 8) rfl)) ⟨by decide, by decide⟩ (argsL := [(.ref b1), (.int (3 : Int32)), (.int (2 : Int32)), (.long q0), (.int sb)]) (ok_i l Z a0 hw b1 (3 : Int32) (2 : Int32) q0 sb [(.int ((sb).toInt8.toInt32)), (.int ((sb).toInt8.toInt32)), (.int (own_wb q0 (56 : Int32)).toInt8.toInt32), (.int (own_wb q0 (48 : Int32)).toInt8.toInt32), (.int (own_wb q0 (40 : Int32)).toInt8.toInt32), (.int (own_wb q0 (32 : Int32)).toInt8.toInt32), (.int (own_wb q0 (24 : Int32)).toInt8.toInt32), (.int (own_wb q0 (16 : Int32)).toInt8.toInt32), (.int (own_wb q0 (8 : Int32)).toInt8.toInt32), (.int (own_wb q0 (0 : Int32)).toInt8.toInt32), (.int ((sb).toInt8.toInt32)), (.int ((sb).toInt8.toInt32))] k1 ((own_wb q0 (48 : Int32)).toInt8.toInt32) T40.heap q40_0 ⟨by decide, by decide⟩ rfl (by decide) ((own_we q0 (48 : Int32) 48 256 (by decide) (by decide) (by decide) (by decide)).trans (show own_eb q0 (48 : Int32) = own_exp q0 ((3 : Int32) - (2 : Int32)) from rfl))) e43 (g := (mkF m 139 #[.val (.long q0), .second, .val (.int p1), .val (.int p2), .val (.int (2 : Int32)), .val (.int sb), .val (.ref b1)] [(.int sb), (.long q0), (.int (2 : Int32)), (.int (3 : Int32)), (.ref b1)])) rfl (by rw [hml]; rfl) (rest := []) (lenOf pd0_1 rfl) rfl (hb hby at_139) (W := 0) (by show 2 * 0 + _ ≤ _; exact Nat.le_of_eq rfl) (by decide) (by decide) (by decide) (by decide)
    obtain ⟨rfl, e44, rfl⟩ := hQ44
    have N44 := Fr.app N43 (Fr.nil n0)
    refine own_go (g' := (mkF m 142 #[.val (.long q0), .second, .val (.int p1), .val (.int p2), .val (.int (2 : Int32)), .val (.int sb), .val (.ref b1)] [(.int (1 : Int32))])) (st44) ?_
    refine own_go (g' := (mkF m 145 #[.val (.long q0), .second, .val (.int p1), .val (.int p2), .val (.int (2 : Int32)), .val (.int sb), .val (.ref b1)] [])) (fun _ k => XS.ifNo X44.here hx rfl (hb hby at_142) rfl ((if0 _ _).trans (feq (by decide)).1) k) ?_
    refine own_go (g' := (mkF m 147 #[.val (.long q0), .second, .val (.int p1), .val (.int p2), .val (.int (2 : Int32)), .val (.int sb), .val (.ref b1)] [(.ref b1)])) (fun _ k => XS.aload X44.here hx rfl (hb hby at_145) rfl rfl k) ?_
    refine own_go (g' := (mkF m 148 #[.val (.long q0), .second, .val (.int p1), .val (.int p2), .val (.int (2 : Int32)), .val (.int sb), .val (.ref b1)] [(.int (4 : Int32)), (.ref b1)])) (fun _ k => XS.iconst X44.here hx rfl (hb hby at_147) k) ?_
    refine own_go (g' := (mkF m 150 #[.val (.long q0), .second, .val (.int p1), .val (.int p2), .val (.int (2 : Int32)), .val (.int sb), .val (.ref b1)] [(.int (2 : Int32)), (.int (4 : Int32)), (.ref b1)])) (fun _ k => XS.iload X44.here hx rfl (hb hby at_148) rfl k) ?_
    refine own_go (g' := (mkF m 151 #[.val (.long q0), .second, .val (.int p1), .val (.int p2), .val (.int (2 : Int32)), .val (.int sb), .val (.ref b1)] [(.long q0), (.int (2 : Int32)), (.int (4 : Int32)), (.ref b1)])) (fun _ k => XS.lloadN X44.here hx rfl (hb hby at_150) rfl k) ?_
    refine own_go (g' := (mkF m 153 #[.val (.long q0), .second, .val (.int p1), .val (.int p2), .val (.int (2 : Int32)), .val (.int sb), .val (.ref b1)] [(.int sb), (.long q0), (.int (2 : Int32)), (.int (4 : Int32)), (.ref b1)])) (fun _ k => XS.iload X44.here hx rfl (hb hby at_151) rfl k) ?_
    obtain ⟨v45, T45, L45, hQ45, X45, st45⟩ := own_callS X44 hx hZ (y := (⟨"com/example/table_salt/tablesalt/layout/Int64WritePinLaw", "ok", "([BIIJB)Z"⟩ : MethodName)) hown (hw _ (List.mem_of_getElem? (i := 5) rfl)) (hw _ (List.mem_of_getElem? (i := 6) rfl)) (hw _ (List.mem_of_getElem? (i := 7) rfl)) (hw _ (List.mem_of_getElem? (i := 8) rfl)) ⟨by decide, by decide⟩ (argsL := [(.ref b1), (.int (4 : Int32)), (.int (2 : Int32)), (.long q0), (.int sb)]) (ok_i l Z a0 hw b1 (4 : Int32) (2 : Int32) q0 sb [(.int ((sb).toInt8.toInt32)), (.int ((sb).toInt8.toInt32)), (.int (own_wb q0 (56 : Int32)).toInt8.toInt32), (.int (own_wb q0 (48 : Int32)).toInt8.toInt32), (.int (own_wb q0 (40 : Int32)).toInt8.toInt32), (.int (own_wb q0 (32 : Int32)).toInt8.toInt32), (.int (own_wb q0 (24 : Int32)).toInt8.toInt32), (.int (own_wb q0 (16 : Int32)).toInt8.toInt32), (.int (own_wb q0 (8 : Int32)).toInt8.toInt32), (.int (own_wb q0 (0 : Int32)).toInt8.toInt32), (.int ((sb).toInt8.toInt32)), (.int ((sb).toInt8.toInt32))] k1 ((own_wb q0 (40 : Int32)).toInt8.toInt32) T40.heap q40_0 ⟨by decide, by decide⟩ rfl (by decide) ((own_we q0 (40 : Int32) 40 65536 (by decide) (by decide) (by decide) (by decide)).trans (show own_eb q0 (40 : Int32) = own_exp q0 ((4 : Int32) - (2 : Int32)) from rfl))) e44 (g := (mkF m 153 #[.val (.long q0), .second, .val (.int p1), .val (.int p2), .val (.int (2 : Int32)), .val (.int sb), .val (.ref b1)] [(.int sb), (.long q0), (.int (2 : Int32)), (.int (4 : Int32)), (.ref b1)])) rfl (by rw [hml]; rfl) (rest := []) (lenOf pd0_1 rfl) rfl (hb hby at_153) (W := 0) (by show 2 * 0 + _ ≤ _; exact Nat.le_of_eq rfl) (by decide) (by decide) (by decide) (by decide)
    obtain ⟨rfl, e45, rfl⟩ := hQ45
    have N45 := Fr.app N44 (Fr.nil n0)
    refine own_go (g' := (mkF m 156 #[.val (.long q0), .second, .val (.int p1), .val (.int p2), .val (.int (2 : Int32)), .val (.int sb), .val (.ref b1)] [(.int (1 : Int32))])) (st45) ?_
    refine own_go (g' := (mkF m 159 #[.val (.long q0), .second, .val (.int p1), .val (.int p2), .val (.int (2 : Int32)), .val (.int sb), .val (.ref b1)] [])) (fun _ k => XS.ifNo X45.here hx rfl (hb hby at_156) rfl ((if0 _ _).trans (feq (by decide)).1) k) ?_
    refine own_go (g' := (mkF m 161 #[.val (.long q0), .second, .val (.int p1), .val (.int p2), .val (.int (2 : Int32)), .val (.int sb), .val (.ref b1)] [(.ref b1)])) (fun _ k => XS.aload X45.here hx rfl (hb hby at_159) rfl rfl k) ?_
    refine own_go (g' := (mkF m 162 #[.val (.long q0), .second, .val (.int p1), .val (.int p2), .val (.int (2 : Int32)), .val (.int sb), .val (.ref b1)] [(.int (5 : Int32)), (.ref b1)])) (fun _ k => XS.iconst X45.here hx rfl (hb hby at_161) k) ?_
    refine own_go (g' := (mkF m 164 #[.val (.long q0), .second, .val (.int p1), .val (.int p2), .val (.int (2 : Int32)), .val (.int sb), .val (.ref b1)] [(.int (2 : Int32)), (.int (5 : Int32)), (.ref b1)])) (fun _ k => XS.iload X45.here hx rfl (hb hby at_162) rfl k) ?_
    refine own_go (g' := (mkF m 165 #[.val (.long q0), .second, .val (.int p1), .val (.int p2), .val (.int (2 : Int32)), .val (.int sb), .val (.ref b1)] [(.long q0), (.int (2 : Int32)), (.int (5 : Int32)), (.ref b1)])) (fun _ k => XS.lloadN X45.here hx rfl (hb hby at_164) rfl k) ?_
    refine own_go (g' := (mkF m 167 #[.val (.long q0), .second, .val (.int p1), .val (.int p2), .val (.int (2 : Int32)), .val (.int sb), .val (.ref b1)] [(.int sb), (.long q0), (.int (2 : Int32)), (.int (5 : Int32)), (.ref b1)])) (fun _ k => XS.iload X45.here hx rfl (hb hby at_165) rfl k) ?_
    obtain ⟨v46, T46, L46, hQ46, X46, st46⟩ := own_callS X45 hx hZ (y := (⟨"com/example/table_salt/tablesalt/layout/Int64WritePinLaw", "ok", "([BIIJB)Z"⟩ : MethodName)) hown (hw _ (List.mem_of_getElem? (i := 5) rfl)) (hw _ (List.mem_of_getElem? (i := 6) rfl)) (hw _ (List.mem_of_getElem? (i := 7) rfl)) (hw _ (List.mem_of_getElem? (i := 8) rfl)) ⟨by decide, by decide⟩ (argsL := [(.ref b1), (.int (5 : Int32)), (.int (2 : Int32)), (.long q0), (.int sb)]) (ok_i l Z a0 hw b1 (5 : Int32) (2 : Int32) q0 sb [(.int ((sb).toInt8.toInt32)), (.int ((sb).toInt8.toInt32)), (.int (own_wb q0 (56 : Int32)).toInt8.toInt32), (.int (own_wb q0 (48 : Int32)).toInt8.toInt32), (.int (own_wb q0 (40 : Int32)).toInt8.toInt32), (.int (own_wb q0 (32 : Int32)).toInt8.toInt32), (.int (own_wb q0 (24 : Int32)).toInt8.toInt32), (.int (own_wb q0 (16 : Int32)).toInt8.toInt32), (.int (own_wb q0 (8 : Int32)).toInt8.toInt32), (.int (own_wb q0 (0 : Int32)).toInt8.toInt32), (.int ((sb).toInt8.toInt32)), (.int ((sb).toInt8.toInt32))] k1 ((own_wb q0 (32 : Int32)).toInt8.toInt32) T40.heap q40_0 ⟨by decide, by decide⟩ rfl (by decide) ((own_we q0 (32 : Int32) 32 16777216 (by decide) (by decide) (by decide) (by decide)).trans (show own_eb q0 (32 : Int32) = own_exp q0 ((5 : Int32) - (2 : Int32)) from rfl))) e45 (g := (mkF m 167 #[.val (.long q0), .second, .val (.int p1), .val (.int p2), .val (.int (2 : Int32)), .val (.int sb), .val (.ref b1)] [(.int sb), (.long q0), (.int (2 : Int32)), (.int (5 : Int32)), (.ref b1)])) rfl (by rw [hml]; rfl) (rest := []) (lenOf pd0_1 rfl) rfl (hb hby at_167) (W := 0) (by show 2 * 0 + _ ≤ _; exact Nat.le_of_eq rfl) (by decide) (by decide) (by decide) (by decide)
    obtain ⟨rfl, e46, rfl⟩ := hQ46
    have N46 := Fr.app N45 (Fr.nil n0)
    refine own_go (g' := (mkF m 170 #[.val (.long q0), .second, .val (.int p1), .val (.int p2), .val (.int (2 : Int32)), .val (.int sb), .val (.ref b1)] [(.int (1 : Int32))])) (st46) ?_
    refine own_go (g' := (mkF m 173 #[.val (.long q0), .second, .val (.int p1), .val (.int p2), .val (.int (2 : Int32)), .val (.int sb), .val (.ref b1)] [])) (fun _ k => XS.ifNo X46.here hx rfl (hb hby at_170) rfl ((if0 _ _).trans (feq (by decide)).1) k) ?_
    refine own_go (g' := (mkF m 175 #[.val (.long q0), .second, .val (.int p1), .val (.int p2), .val (.int (2 : Int32)), .val (.int sb), .val (.ref b1)] [(.ref b1)])) (fun _ k => XS.aload X46.here hx rfl (hb hby at_173) rfl rfl k) ?_
    refine own_go (g' := (mkF m 177 #[.val (.long q0), .second, .val (.int p1), .val (.int p2), .val (.int (2 : Int32)), .val (.int sb), .val (.ref b1)] [(.int (6 : Int32)), (.ref b1)])) (fun _ k => XS.bipush X46.here hx rfl (hb hby at_175) k) ?_
    refine own_go (g' := (mkF m 179 #[.val (.long q0), .second, .val (.int p1), .val (.int p2), .val (.int (2 : Int32)), .val (.int sb), .val (.ref b1)] [(.int (2 : Int32)), (.int (6 : Int32)), (.ref b1)])) (fun _ k => XS.iload X46.here hx rfl (hb hby at_177) rfl k) ?_
    refine own_go (g' := (mkF m 180 #[.val (.long q0), .second, .val (.int p1), .val (.int p2), .val (.int (2 : Int32)), .val (.int sb), .val (.ref b1)] [(.long q0), (.int (2 : Int32)), (.int (6 : Int32)), (.ref b1)])) (fun _ k => XS.lloadN X46.here hx rfl (hb hby at_179) rfl k) ?_
    refine own_go (g' := (mkF m 182 #[.val (.long q0), .second, .val (.int p1), .val (.int p2), .val (.int (2 : Int32)), .val (.int sb), .val (.ref b1)] [(.int sb), (.long q0), (.int (2 : Int32)), (.int (6 : Int32)), (.ref b1)])) (fun _ k => XS.iload X46.here hx rfl (hb hby at_180) rfl k) ?_
    obtain ⟨v47, T47, L47, hQ47, X47, st47⟩ := own_callS X46 hx hZ (y := (⟨"com/example/table_salt/tablesalt/layout/Int64WritePinLaw", "ok", "([BIIJB)Z"⟩ : MethodName)) hown (hw _ (List.mem_of_getElem? (i := 5) rfl)) (hw _ (List.mem_of_getElem? (i := 6) rfl)) (hw _ (List.mem_of_getElem? (i := 7) rfl)) (hw _ (List.mem_of_getElem? (i := 8) rfl)) ⟨by decide, by decide⟩ (argsL := [(.ref b1), (.int (6 : Int32)), (.int (2 : Int32)), (.long q0), (.int sb)]) (ok_i l Z a0 hw b1 (6 : Int32) (2 : Int32) q0 sb [(.int ((sb).toInt8.toInt32)), (.int ((sb).toInt8.toInt32)), (.int (own_wb q0 (56 : Int32)).toInt8.toInt32), (.int (own_wb q0 (48 : Int32)).toInt8.toInt32), (.int (own_wb q0 (40 : Int32)).toInt8.toInt32), (.int (own_wb q0 (32 : Int32)).toInt8.toInt32), (.int (own_wb q0 (24 : Int32)).toInt8.toInt32), (.int (own_wb q0 (16 : Int32)).toInt8.toInt32), (.int (own_wb q0 (8 : Int32)).toInt8.toInt32), (.int (own_wb q0 (0 : Int32)).toInt8.toInt32), (.int ((sb).toInt8.toInt32)), (.int ((sb).toInt8.toInt32))] k1 ((own_wb q0 (24 : Int32)).toInt8.toInt32) T40.heap q40_0 ⟨by decide, by decide⟩ rfl (by decide) ((own_we q0 (24 : Int32) 24 4294967296 (by decide) (by decide) (by decide) (by decide)).trans (show own_eb q0 (24 : Int32) = own_exp q0 ((6 : Int32) - (2 : Int32)) from rfl))) e46 (g := (mkF m 182 #[.val (.long q0), .second, .val (.int p1), .val (.int p2), .val (.int (2 : Int32)), .val (.int sb), .val (.ref b1)] [(.int sb), (.long q0), (.int (2 : Int32)), (.int (6 : Int32)), (.ref b1)])) rfl (by rw [hml]; rfl) (rest := []) (lenOf pd0_1 rfl) rfl (hb hby at_182) (W := 0) (by show 2 * 0 + _ ≤ _; exact Nat.le_of_eq rfl) (by decide) (by decide) (by decide) (by decide)
    obtain ⟨rfl, e47, rfl⟩ := hQ47
    have N47 := Fr.app N46 (Fr.nil n0)
    refine own_go (g' := (mkF m 185 #[.val (.long q0), .second, .val (.int p1), .val (.int p2), .val (.int (2 : Int32)), .val (.int sb), .val (.ref b1)] [(.int (1 : Int32))])) (st47) ?_
    refine own_go (g' := (mkF m 188 #[.val (.long q0), .second, .val (.int p1), .val (.int p2), .val (.int (2 : Int32)), .val (.int sb), .val (.ref b1)] [])) (fun _ k => XS.ifNo X47.here hx rfl (hb hby at_185) rfl ((if0 _ _).trans (feq (by decide)).1) k) ?_
    refine own_go (g' := (mkF m 190 #[.val (.long q0), .second, .val (.int p1), .val (.int p2), .val (.int (2 : Int32)), .val (.int sb), .val (.ref b1)] [(.ref b1)])) (fun _ k => XS.aload X47.here hx rfl (hb hby at_188) rfl rfl k) ?_
    refine own_go (g' := (mkF m 192 #[.val (.long q0), .second, .val (.int p1), .val (.int p2), .val (.int (2 : Int32)), .val (.int sb), .val (.ref b1)] [(.int (7 : Int32)), (.ref b1)])) (fun _ k => XS.bipush X47.here hx rfl (hb hby at_190) k) ?_
    refine own_go (g' := (mkF m 194 #[.val (.long q0), .second, .val (.int p1), .val (.int p2), .val (.int (2 : Int32)), .val (.int sb), .val (.ref b1)] [(.int (2 : Int32)), (.int (7 : Int32)), (.ref b1)])) (fun _ k => XS.iload X47.here hx rfl (hb hby at_192) rfl k) ?_
    refine own_go (g' := (mkF m 195 #[.val (.long q0), .second, .val (.int p1), .val (.int p2), .val (.int (2 : Int32)), .val (.int sb), .val (.ref b1)] [(.long q0), (.int (2 : Int32)), (.int (7 : Int32)), (.ref b1)])) (fun _ k => XS.lloadN X47.here hx rfl (hb hby at_194) rfl k) ?_
    refine own_go (g' := (mkF m 197 #[.val (.long q0), .second, .val (.int p1), .val (.int p2), .val (.int (2 : Int32)), .val (.int sb), .val (.ref b1)] [(.int sb), (.long q0), (.int (2 : Int32)), (.int (7 : Int32)), (.ref b1)])) (fun _ k => XS.iload X47.here hx rfl (hb hby at_195) rfl k) ?_
    obtain ⟨v48, T48, L48, hQ48, X48, st48⟩ := own_callS X47 hx hZ (y := (⟨"com/example/table_salt/tablesalt/layout/Int64WritePinLaw", "ok", "([BIIJB)Z"⟩ : MethodName)) hown (hw _ (List.mem_of_getElem? (i := 5) rfl)) (hw _ (List.mem_of_getElem? (i := 6) rfl)) (hw _ (List.mem_of_getElem? (i := 7) rfl)) (hw _ (List.mem_of_getElem? (i := 8) rfl)) ⟨by decide, by decide⟩ (argsL := [(.ref b1), (.int (7 : Int32)), (.int (2 : Int32)), (.long q0), (.int sb)]) (ok_i l Z a0 hw b1 (7 : Int32) (2 : Int32) q0 sb [(.int ((sb).toInt8.toInt32)), (.int ((sb).toInt8.toInt32)), (.int (own_wb q0 (56 : Int32)).toInt8.toInt32), (.int (own_wb q0 (48 : Int32)).toInt8.toInt32), (.int (own_wb q0 (40 : Int32)).toInt8.toInt32), (.int (own_wb q0 (32 : Int32)).toInt8.toInt32), (.int (own_wb q0 (24 : Int32)).toInt8.toInt32), (.int (own_wb q0 (16 : Int32)).toInt8.toInt32), (.int (own_wb q0 (8 : Int32)).toInt8.toInt32), (.int (own_wb q0 (0 : Int32)).toInt8.toInt32), (.int ((sb).toInt8.toInt32)), (.int ((sb).toInt8.toInt32))] k1 ((own_wb q0 (16 : Int32)).toInt8.toInt32) T40.heap q40_0 ⟨by decide, by decide⟩ rfl (by decide) ((own_we q0 (16 : Int32) 16 1099511627776 (by decide) (by decide) (by decide) (by decide)).trans (show own_eb q0 (16 : Int32) = own_exp q0 ((7 : Int32) - (2 : Int32)) from rfl))) e47 (g := (mkF m 197 #[.val (.long q0), .second, .val (.int p1), .val (.int p2), .val (.int (2 : Int32)), .val (.int sb), .val (.ref b1)] [(.int sb), (.long q0), (.int (2 : Int32)), (.int (7 : Int32)), (.ref b1)])) rfl (by rw [hml]; rfl) (rest := []) (lenOf pd0_1 rfl) rfl (hb hby at_197) (W := 0) (by show 2 * 0 + _ ≤ _; exact Nat.le_of_eq rfl) (by decide) (by decide) (by decide) (by decide)
    obtain ⟨rfl, e48, rfl⟩ := hQ48
    have N48 := Fr.app N47 (Fr.nil n0)
    refine own_go (g' := (mkF m 200 #[.val (.long q0), .second, .val (.int p1), .val (.int p2), .val (.int (2 : Int32)), .val (.int sb), .val (.ref b1)] [(.int (1 : Int32))])) (st48) ?_
    refine own_go (g' := (mkF m 203 #[.val (.long q0), .second, .val (.int p1), .val (.int p2), .val (.int (2 : Int32)), .val (.int sb), .val (.ref b1)] [])) (fun _ k => XS.ifNo X48.here hx rfl (hb hby at_200) rfl ((if0 _ _).trans (feq (by decide)).1) k) ?_
    refine own_go (g' := (mkF m 205 #[.val (.long q0), .second, .val (.int p1), .val (.int p2), .val (.int (2 : Int32)), .val (.int sb), .val (.ref b1)] [(.ref b1)])) (fun _ k => XS.aload X48.here hx rfl (hb hby at_203) rfl rfl k) ?_
    refine own_go (g' := (mkF m 207 #[.val (.long q0), .second, .val (.int p1), .val (.int p2), .val (.int (2 : Int32)), .val (.int sb), .val (.ref b1)] [(.int (8 : Int32)), (.ref b1)])) (fun _ k => XS.bipush X48.here hx rfl (hb hby at_205) k) ?_
    refine own_go (g' := (mkF m 209 #[.val (.long q0), .second, .val (.int p1), .val (.int p2), .val (.int (2 : Int32)), .val (.int sb), .val (.ref b1)] [(.int (2 : Int32)), (.int (8 : Int32)), (.ref b1)])) (fun _ k => XS.iload X48.here hx rfl (hb hby at_207) rfl k) ?_
    refine own_go (g' := (mkF m 210 #[.val (.long q0), .second, .val (.int p1), .val (.int p2), .val (.int (2 : Int32)), .val (.int sb), .val (.ref b1)] [(.long q0), (.int (2 : Int32)), (.int (8 : Int32)), (.ref b1)])) (fun _ k => XS.lloadN X48.here hx rfl (hb hby at_209) rfl k) ?_
    refine own_go (g' := (mkF m 212 #[.val (.long q0), .second, .val (.int p1), .val (.int p2), .val (.int (2 : Int32)), .val (.int sb), .val (.ref b1)] [(.int sb), (.long q0), (.int (2 : Int32)), (.int (8 : Int32)), (.ref b1)])) (fun _ k => XS.iload X48.here hx rfl (hb hby at_210) rfl k) ?_
    obtain ⟨v49, T49, L49, hQ49, X49, st49⟩ := own_callS X48 hx hZ (y := (⟨"com/example/table_salt/tablesalt/layout/Int64WritePinLaw", "ok", "([BIIJB)Z"⟩ : MethodName)) hown (hw _ (List.mem_of_getElem? (i := 5) rfl)) (hw _ (List.mem_of_getElem? (i := 6) rfl)) (hw _ (List.mem_of_getElem? (i := 7) rfl)) (hw _ (List.mem_of_getElem? (i := 8) rfl)) ⟨by decide, by decide⟩ (argsL := [(.ref b1), (.int (8 : Int32)), (.int (2 : Int32)), (.long q0), (.int sb)]) (ok_i l Z a0 hw b1 (8 : Int32) (2 : Int32) q0 sb [(.int ((sb).toInt8.toInt32)), (.int ((sb).toInt8.toInt32)), (.int (own_wb q0 (56 : Int32)).toInt8.toInt32), (.int (own_wb q0 (48 : Int32)).toInt8.toInt32), (.int (own_wb q0 (40 : Int32)).toInt8.toInt32), (.int (own_wb q0 (32 : Int32)).toInt8.toInt32), (.int (own_wb q0 (24 : Int32)).toInt8.toInt32), (.int (own_wb q0 (16 : Int32)).toInt8.toInt32), (.int (own_wb q0 (8 : Int32)).toInt8.toInt32), (.int (own_wb q0 (0 : Int32)).toInt8.toInt32), (.int ((sb).toInt8.toInt32)), (.int ((sb).toInt8.toInt32))] k1 ((own_wb q0 (8 : Int32)).toInt8.toInt32) T40.heap q40_0 ⟨by decide, by decide⟩ rfl (by decide) ((own_we q0 (8 : Int32) 8 281474976710656 (by decide) (by decide) (by decide) (by decide)).trans (show own_eb q0 (8 : Int32) = own_exp q0 ((8 : Int32) - (2 : Int32)) from rfl))) e48 (g := (mkF m 212 #[.val (.long q0), .second, .val (.int p1), .val (.int p2), .val (.int (2 : Int32)), .val (.int sb), .val (.ref b1)] [(.int sb), (.long q0), (.int (2 : Int32)), (.int (8 : Int32)), (.ref b1)])) rfl (by rw [hml]; rfl) (rest := []) (lenOf pd0_1 rfl) rfl (hb hby at_212) (W := 0) (by show 2 * 0 + _ ≤ _; exact Nat.le_of_eq rfl) (by decide) (by decide) (by decide) (by decide)
    obtain ⟨rfl, e49, rfl⟩ := hQ49
    have N49 := Fr.app N48 (Fr.nil n0)
    refine own_go (g' := (mkF m 215 #[.val (.long q0), .second, .val (.int p1), .val (.int p2), .val (.int (2 : Int32)), .val (.int sb), .val (.ref b1)] [(.int (1 : Int32))])) (st49) ?_
    refine own_go (g' := (mkF m 218 #[.val (.long q0), .second, .val (.int p1), .val (.int p2), .val (.int (2 : Int32)), .val (.int sb), .val (.ref b1)] [])) (fun _ k => XS.ifNo X49.here hx rfl (hb hby at_215) rfl ((if0 _ _).trans (feq (by decide)).1) k) ?_
    refine own_go (g' := (mkF m 220 #[.val (.long q0), .second, .val (.int p1), .val (.int p2), .val (.int (2 : Int32)), .val (.int sb), .val (.ref b1)] [(.ref b1)])) (fun _ k => XS.aload X49.here hx rfl (hb hby at_218) rfl rfl k) ?_
    refine own_go (g' := (mkF m 222 #[.val (.long q0), .second, .val (.int p1), .val (.int p2), .val (.int (2 : Int32)), .val (.int sb), .val (.ref b1)] [(.int (9 : Int32)), (.ref b1)])) (fun _ k => XS.bipush X49.here hx rfl (hb hby at_220) k) ?_
    refine own_go (g' := (mkF m 224 #[.val (.long q0), .second, .val (.int p1), .val (.int p2), .val (.int (2 : Int32)), .val (.int sb), .val (.ref b1)] [(.int (2 : Int32)), (.int (9 : Int32)), (.ref b1)])) (fun _ k => XS.iload X49.here hx rfl (hb hby at_222) rfl k) ?_
    refine own_go (g' := (mkF m 225 #[.val (.long q0), .second, .val (.int p1), .val (.int p2), .val (.int (2 : Int32)), .val (.int sb), .val (.ref b1)] [(.long q0), (.int (2 : Int32)), (.int (9 : Int32)), (.ref b1)])) (fun _ k => XS.lloadN X49.here hx rfl (hb hby at_224) rfl k) ?_
    refine own_go (g' := (mkF m 227 #[.val (.long q0), .second, .val (.int p1), .val (.int p2), .val (.int (2 : Int32)), .val (.int sb), .val (.ref b1)] [(.int sb), (.long q0), (.int (2 : Int32)), (.int (9 : Int32)), (.ref b1)])) (fun _ k => XS.iload X49.here hx rfl (hb hby at_225) rfl k) ?_
    obtain ⟨v50, T50, L50, hQ50, X50, st50⟩ := own_callS X49 hx hZ (y := (⟨"com/example/table_salt/tablesalt/layout/Int64WritePinLaw", "ok", "([BIIJB)Z"⟩ : MethodName)) hown (hw _ (List.mem_of_getElem? (i := 5) rfl)) (hw _ (List.mem_of_getElem? (i := 6) rfl)) (hw _ (List.mem_of_getElem? (i := 7) rfl)) (hw _ (List.mem_of_getElem? (i := 8) rfl)) ⟨by decide, by decide⟩ (argsL := [(.ref b1), (.int (9 : Int32)), (.int (2 : Int32)), (.long q0), (.int sb)]) (ok_i l Z a0 hw b1 (9 : Int32) (2 : Int32) q0 sb [(.int ((sb).toInt8.toInt32)), (.int ((sb).toInt8.toInt32)), (.int (own_wb q0 (56 : Int32)).toInt8.toInt32), (.int (own_wb q0 (48 : Int32)).toInt8.toInt32), (.int (own_wb q0 (40 : Int32)).toInt8.toInt32), (.int (own_wb q0 (32 : Int32)).toInt8.toInt32), (.int (own_wb q0 (24 : Int32)).toInt8.toInt32), (.int (own_wb q0 (16 : Int32)).toInt8.toInt32), (.int (own_wb q0 (8 : Int32)).toInt8.toInt32), (.int (own_wb q0 (0 : Int32)).toInt8.toInt32), (.int ((sb).toInt8.toInt32)), (.int ((sb).toInt8.toInt32))] k1 ((own_wb q0 (0 : Int32)).toInt8.toInt32) T40.heap q40_0 ⟨by decide, by decide⟩ rfl (by decide) (show (own_wb q0 (0 : Int32)).toInt8.toInt32 = own_exp q0 ((9 : Int32) - (2 : Int32)) from own_w0 q0)) e49 (g := (mkF m 227 #[.val (.long q0), .second, .val (.int p1), .val (.int p2), .val (.int (2 : Int32)), .val (.int sb), .val (.ref b1)] [(.int sb), (.long q0), (.int (2 : Int32)), (.int (9 : Int32)), (.ref b1)])) rfl (by rw [hml]; rfl) (rest := []) (lenOf pd0_1 rfl) rfl (hb hby at_227) (W := 0) (by show 2 * 0 + _ ≤ _; exact Nat.le_of_eq rfl) (by decide) (by decide) (by decide) (by decide)
    obtain ⟨rfl, e50, rfl⟩ := hQ50
    have N50 := Fr.app N49 (Fr.nil n0)
    refine own_go (g' := (mkF m 230 #[.val (.long q0), .second, .val (.int p1), .val (.int p2), .val (.int (2 : Int32)), .val (.int sb), .val (.ref b1)] [(.int (1 : Int32))])) (st50) ?_
    refine own_go (g' := (mkF m 233 #[.val (.long q0), .second, .val (.int p1), .val (.int p2), .val (.int (2 : Int32)), .val (.int sb), .val (.ref b1)] [])) (fun _ k => XS.ifNo X50.here hx rfl (hb hby at_230) rfl ((if0 _ _).trans (feq (by decide)).1) k) ?_
    refine own_go (g' := (mkF m 235 #[.val (.long q0), .second, .val (.int p1), .val (.int p2), .val (.int (2 : Int32)), .val (.int sb), .val (.ref b1)] [(.ref b1)])) (fun _ k => XS.aload X50.here hx rfl (hb hby at_233) rfl rfl k) ?_
    refine own_go (g' := (mkF m 237 #[.val (.long q0), .second, .val (.int p1), .val (.int p2), .val (.int (2 : Int32)), .val (.int sb), .val (.ref b1)] [(.int (10 : Int32)), (.ref b1)])) (fun _ k => XS.bipush X50.here hx rfl (hb hby at_235) k) ?_
    refine own_go (g' := (mkF m 239 #[.val (.long q0), .second, .val (.int p1), .val (.int p2), .val (.int (2 : Int32)), .val (.int sb), .val (.ref b1)] [(.int (2 : Int32)), (.int (10 : Int32)), (.ref b1)])) (fun _ k => XS.iload X50.here hx rfl (hb hby at_237) rfl k) ?_
    refine own_go (g' := (mkF m 240 #[.val (.long q0), .second, .val (.int p1), .val (.int p2), .val (.int (2 : Int32)), .val (.int sb), .val (.ref b1)] [(.long q0), (.int (2 : Int32)), (.int (10 : Int32)), (.ref b1)])) (fun _ k => XS.lloadN X50.here hx rfl (hb hby at_239) rfl k) ?_
    refine own_go (g' := (mkF m 242 #[.val (.long q0), .second, .val (.int p1), .val (.int p2), .val (.int (2 : Int32)), .val (.int sb), .val (.ref b1)] [(.int sb), (.long q0), (.int (2 : Int32)), (.int (10 : Int32)), (.ref b1)])) (fun _ k => XS.iload X50.here hx rfl (hb hby at_240) rfl k) ?_
    obtain ⟨v51, T51, L51, hQ51, X51, st51⟩ := own_callS X50 hx hZ (y := (⟨"com/example/table_salt/tablesalt/layout/Int64WritePinLaw", "ok", "([BIIJB)Z"⟩ : MethodName)) hown (hw _ (List.mem_of_getElem? (i := 5) rfl)) (hw _ (List.mem_of_getElem? (i := 6) rfl)) (hw _ (List.mem_of_getElem? (i := 7) rfl)) (hw _ (List.mem_of_getElem? (i := 8) rfl)) ⟨by decide, by decide⟩ (argsL := [(.ref b1), (.int (10 : Int32)), (.int (2 : Int32)), (.long q0), (.int sb)]) (ok_o l Z a0 hw b1 (10 : Int32) (2 : Int32) q0 sb [(.int ((sb).toInt8.toInt32)), (.int ((sb).toInt8.toInt32)), (.int (own_wb q0 (56 : Int32)).toInt8.toInt32), (.int (own_wb q0 (48 : Int32)).toInt8.toInt32), (.int (own_wb q0 (40 : Int32)).toInt8.toInt32), (.int (own_wb q0 (32 : Int32)).toInt8.toInt32), (.int (own_wb q0 (24 : Int32)).toInt8.toInt32), (.int (own_wb q0 (16 : Int32)).toInt8.toInt32), (.int (own_wb q0 (8 : Int32)).toInt8.toInt32), (.int (own_wb q0 (0 : Int32)).toInt8.toInt32), (.int ((sb).toInt8.toInt32)), (.int ((sb).toInt8.toInt32))] k1 (((sb).toInt8.toInt32)) T40.heap q40_0 ⟨by decide, by decide⟩ rfl (by decide) (by rw [hsb]; exact own_bb _)) e50 (g := (mkF m 242 #[.val (.long q0), .second, .val (.int p1), .val (.int p2), .val (.int (2 : Int32)), .val (.int sb), .val (.ref b1)] [(.int sb), (.long q0), (.int (2 : Int32)), (.int (10 : Int32)), (.ref b1)])) rfl (by rw [hml]; rfl) (rest := []) (lenOf pd0_1 rfl) rfl (hb hby at_242) (W := 0) (by show 2 * 0 + _ ≤ _; exact Nat.le_of_eq rfl) (by decide) (by decide) (by decide) (by decide)
    obtain ⟨rfl, e51, rfl⟩ := hQ51
    have N51 := Fr.app N50 (Fr.nil n0)
    refine own_go (g' := (mkF m 245 #[.val (.long q0), .second, .val (.int p1), .val (.int p2), .val (.int (2 : Int32)), .val (.int sb), .val (.ref b1)] [(.int (1 : Int32))])) (st51) ?_
    refine own_go (g' := (mkF m 248 #[.val (.long q0), .second, .val (.int p1), .val (.int p2), .val (.int (2 : Int32)), .val (.int sb), .val (.ref b1)] [])) (fun _ k => XS.ifNo X51.here hx rfl (hb hby at_245) rfl ((if0 _ _).trans (feq (by decide)).1) k) ?_
    refine own_go (g' := (mkF m 250 #[.val (.long q0), .second, .val (.int p1), .val (.int p2), .val (.int (2 : Int32)), .val (.int sb), .val (.ref b1)] [(.ref b1)])) (fun _ k => XS.aload X51.here hx rfl (hb hby at_248) rfl rfl k) ?_
    refine own_go (g' := (mkF m 252 #[.val (.long q0), .second, .val (.int p1), .val (.int p2), .val (.int (2 : Int32)), .val (.int sb), .val (.ref b1)] [(.int (11 : Int32)), (.ref b1)])) (fun _ k => XS.bipush X51.here hx rfl (hb hby at_250) k) ?_
    refine own_go (g' := (mkF m 254 #[.val (.long q0), .second, .val (.int p1), .val (.int p2), .val (.int (2 : Int32)), .val (.int sb), .val (.ref b1)] [(.int (2 : Int32)), (.int (11 : Int32)), (.ref b1)])) (fun _ k => XS.iload X51.here hx rfl (hb hby at_252) rfl k) ?_
    refine own_go (g' := (mkF m 255 #[.val (.long q0), .second, .val (.int p1), .val (.int p2), .val (.int (2 : Int32)), .val (.int sb), .val (.ref b1)] [(.long q0), (.int (2 : Int32)), (.int (11 : Int32)), (.ref b1)])) (fun _ k => XS.lloadN X51.here hx rfl (hb hby at_254) rfl k) ?_
    refine own_go (g' := (mkF m 257 #[.val (.long q0), .second, .val (.int p1), .val (.int p2), .val (.int (2 : Int32)), .val (.int sb), .val (.ref b1)] [(.int sb), (.long q0), (.int (2 : Int32)), (.int (11 : Int32)), (.ref b1)])) (fun _ k => XS.iload X51.here hx rfl (hb hby at_255) rfl k) ?_
    obtain ⟨v52, T52, L52, hQ52, X52, st52⟩ := own_callS X51 hx hZ (y := (⟨"com/example/table_salt/tablesalt/layout/Int64WritePinLaw", "ok", "([BIIJB)Z"⟩ : MethodName)) hown (hw _ (List.mem_of_getElem? (i := 5) rfl)) (hw _ (List.mem_of_getElem? (i := 6) rfl)) (hw _ (List.mem_of_getElem? (i := 7) rfl)) (hw _ (List.mem_of_getElem? (i := 8) rfl)) ⟨by decide, by decide⟩ (argsL := [(.ref b1), (.int (11 : Int32)), (.int (2 : Int32)), (.long q0), (.int sb)]) (ok_o l Z a0 hw b1 (11 : Int32) (2 : Int32) q0 sb [(.int ((sb).toInt8.toInt32)), (.int ((sb).toInt8.toInt32)), (.int (own_wb q0 (56 : Int32)).toInt8.toInt32), (.int (own_wb q0 (48 : Int32)).toInt8.toInt32), (.int (own_wb q0 (40 : Int32)).toInt8.toInt32), (.int (own_wb q0 (32 : Int32)).toInt8.toInt32), (.int (own_wb q0 (24 : Int32)).toInt8.toInt32), (.int (own_wb q0 (16 : Int32)).toInt8.toInt32), (.int (own_wb q0 (8 : Int32)).toInt8.toInt32), (.int (own_wb q0 (0 : Int32)).toInt8.toInt32), (.int ((sb).toInt8.toInt32)), (.int ((sb).toInt8.toInt32))] k1 (((sb).toInt8.toInt32)) T40.heap q40_0 ⟨by decide, by decide⟩ rfl (by decide) (by rw [hsb]; exact own_bb _)) e51 (g := (mkF m 257 #[.val (.long q0), .second, .val (.int p1), .val (.int p2), .val (.int (2 : Int32)), .val (.int sb), .val (.ref b1)] [(.int sb), (.long q0), (.int (2 : Int32)), (.int (11 : Int32)), (.ref b1)])) rfl (by rw [hml]; rfl) (rest := []) (lenOf pd0_1 rfl) rfl (hb hby at_257) (W := 0) (by show 2 * 0 + _ ≤ _; exact Nat.le_of_eq rfl) (by decide) (by decide) (by decide) (by decide)
    obtain ⟨rfl, e52, rfl⟩ := hQ52
    have N52 := Fr.app N51 (Fr.nil n0)
    refine own_go (g' := (mkF m 260 #[.val (.long q0), .second, .val (.int p1), .val (.int p2), .val (.int (2 : Int32)), .val (.int sb), .val (.ref b1)] [(.int (1 : Int32))])) (st52) ?_
    refine own_go (g' := (mkF m 263 #[.val (.long q0), .second, .val (.int p1), .val (.int p2), .val (.int (2 : Int32)), .val (.int sb), .val (.ref b1)] [])) (fun _ k => XS.ifNo X52.here hx rfl (hb hby at_260) rfl ((if0 _ _).trans (feq (by decide)).1) k) ?_
    refine own_go (g' := (mkF m 264 #[.val (.long q0), .second, .val (.int p1), .val (.int p2), .val (.int (2 : Int32)), .val (.int sb), .val (.ref b1)] [(.int (1 : Int32))])) (fun _ k => XS.iconst X52.here hx rfl (hb hby at_263) k) ?_
    refine own_go (g' := (mkF m 268 #[.val (.long q0), .second, .val (.int p1), .val (.int p2), .val (.int (2 : Int32)), .val (.int sb), .val (.ref b1)] [(.int (1 : Int32))])) (fun _ k => XS.goto X52.here hx rfl (pc0 := 264) (pc' := 268) rfl (hb hby at_264) (by decide) (by decide) k) ?_
    refine own_retN X52 hx .boolean Bd.returns Bd.notSynchronized (by simp) (hb hby at_268) (by decide) (by decide) ?_
    show QQ _ T52.heap _
    rw [e52]
    rw [← hQQ]
    exact ⟨rfl, N52⟩
  ·
    refine own_go (g' := (mkF m 82 #[.val (.long q0), .second, .val (.int p1), .val (.int p2), .val (.int (3 : Int32)), .val (.int sb), .val (.ref b1)] [(.long q0)])) (fun _ k => XS.lloadN X13.here hx rfl (hb hby at_81) rfl k) ?_
    refine own_go (g' := (mkF m 84 #[.val (.long q0), .second, .val (.int p1), .val (.int p2), .val (.int (3 : Int32)), .val (.int sb), .val (.ref b1)] [(.ref b1), (.long q0)])) (fun _ k => XS.aload X13.here hx rfl (hb hby at_82) rfl rfl k) ?_
    refine own_go (g' := (mkF m 86 #[.val (.long q0), .second, .val (.int p1), .val (.int p2), .val (.int (3 : Int32)), .val (.int sb), .val (.ref b1)] [(.int (3 : Int32)), (.ref b1), (.long q0)])) (fun _ k => XS.iload X13.here hx rfl (hb hby at_84) rfl k) ?_
    obtain ⟨v53, T53, L53, hQ53, X53, st53⟩ := own_callS X13 hx hZ (y := (⟨"com/example/table_salt/tablesalt/layout/Int64", "write", "(J[BI)V"⟩ : MethodName)) hown (hw _ (List.mem_of_getElem? (i := 1) rfl)) (hw _ (List.mem_of_getElem? (i := 2) rfl)) (hw _ (List.mem_of_getElem? (i := 3) rfl)) (hw _ (List.mem_of_getElem? (i := 4) rfl)) ⟨by decide, by decide⟩ (argsL := [(.long q0), (.ref b1), (.int (3 : Int32))]) (wr3 l Z a0 hw q0 b1 ((sb).toInt8.toInt32) ((sb).toInt8.toInt32) ((sb).toInt8.toInt32) ((sb).toInt8.toInt32) ((sb).toInt8.toInt32) ((sb).toInt8.toInt32) ((sb).toInt8.toInt32) ((sb).toInt8.toInt32) ((sb).toInt8.toInt32) ((sb).toInt8.toInt32) ((sb).toInt8.toInt32) ((sb).toInt8.toInt32) k1 h13 n0 Z13 ge_b1 V13) e13 (g := (mkF m 86 #[.val (.long q0), .second, .val (.int p1), .val (.int p2), .val (.int (3 : Int32)), .val (.int sb), .val (.ref b1)] [(.int (3 : Int32)), (.ref b1), (.long q0)])) rfl (by rw [hml]; rfl) (rest := []) (lenOf pd0_0 rfl) rfl (hb hby at_86) (W := 0) (by show 2 * 0 + _ ≤ _; exact Nat.le_of_eq rfl) (by decide) (by decide) (by decide) (by decide)
    obtain ⟨rfl, Nq53, Kq53, q53_0⟩ := hQ53
    have N53 := Fr.app N13 Nq53
    have Z53 : n0 ≤ T53.heap.size := Nat.le_trans Z13 Kq53.1
    refine own_go (g' := (mkF m 89 #[.val (.long q0), .second, .val (.int p1), .val (.int p2), .val (.int (3 : Int32)), .val (.int sb), .val (.ref b1)] [])) (st53) ?_
    refine own_go (g' := (mkF m 91 #[.val (.long q0), .second, .val (.int p1), .val (.int p2), .val (.int (3 : Int32)), .val (.int sb), .val (.ref b1)] [(.ref b1)])) (fun _ k => XS.aload X53.here hx rfl (hb hby at_89) rfl rfl k) ?_
    refine own_go (g' := (mkF m 92 #[.val (.long q0), .second, .val (.int p1), .val (.int p2), .val (.int (3 : Int32)), .val (.int sb), .val (.ref b1)] [(.int (0 : Int32)), (.ref b1)])) (fun _ k => XS.iconst X53.here hx rfl (hb hby at_91) k) ?_
    refine own_go (g' := (mkF m 94 #[.val (.long q0), .second, .val (.int p1), .val (.int p2), .val (.int (3 : Int32)), .val (.int sb), .val (.ref b1)] [(.int (3 : Int32)), (.int (0 : Int32)), (.ref b1)])) (fun _ k => XS.iload X53.here hx rfl (hb hby at_92) rfl k) ?_
    refine own_go (g' := (mkF m 95 #[.val (.long q0), .second, .val (.int p1), .val (.int p2), .val (.int (3 : Int32)), .val (.int sb), .val (.ref b1)] [(.long q0), (.int (3 : Int32)), (.int (0 : Int32)), (.ref b1)])) (fun _ k => XS.lloadN X53.here hx rfl (hb hby at_94) rfl k) ?_
    refine own_go (g' := (mkF m 97 #[.val (.long q0), .second, .val (.int p1), .val (.int p2), .val (.int (3 : Int32)), .val (.int sb), .val (.ref b1)] [(.int sb), (.long q0), (.int (3 : Int32)), (.int (0 : Int32)), (.ref b1)])) (fun _ k => XS.iload X53.here hx rfl (hb hby at_95) rfl k) ?_
    obtain ⟨v54, T54, L54, hQ54, X54, st54⟩ := own_callS X53 hx hZ (y := (⟨"com/example/table_salt/tablesalt/layout/Int64WritePinLaw", "ok", "([BIIJB)Z"⟩ : MethodName)) hown (hw _ (List.mem_of_getElem? (i := 5) rfl)) (hw _ (List.mem_of_getElem? (i := 6) rfl)) (hw _ (List.mem_of_getElem? (i := 7) rfl)) (hw _ (List.mem_of_getElem? (i := 8) rfl)) ⟨by decide, by decide⟩ (argsL := [(.ref b1), (.int (0 : Int32)), (.int (3 : Int32)), (.long q0), (.int sb)]) (ok_o l Z a0 hw b1 (0 : Int32) (3 : Int32) q0 sb [(.int ((sb).toInt8.toInt32)), (.int ((sb).toInt8.toInt32)), (.int ((sb).toInt8.toInt32)), (.int (own_wb q0 (56 : Int32)).toInt8.toInt32), (.int (own_wb q0 (48 : Int32)).toInt8.toInt32), (.int (own_wb q0 (40 : Int32)).toInt8.toInt32), (.int (own_wb q0 (32 : Int32)).toInt8.toInt32), (.int (own_wb q0 (24 : Int32)).toInt8.toInt32), (.int (own_wb q0 (16 : Int32)).toInt8.toInt32), (.int (own_wb q0 (8 : Int32)).toInt8.toInt32), (.int (own_wb q0 (0 : Int32)).toInt8.toInt32), (.int ((sb).toInt8.toInt32))] k1 (((sb).toInt8.toInt32)) T53.heap q53_0 ⟨by decide, by decide⟩ rfl (by decide) (by rw [hsb]; exact own_bb _)) rfl (g := (mkF m 97 #[.val (.long q0), .second, .val (.int p1), .val (.int p2), .val (.int (3 : Int32)), .val (.int sb), .val (.ref b1)] [(.int sb), (.long q0), (.int (3 : Int32)), (.int (0 : Int32)), (.ref b1)])) rfl (by rw [hml]; rfl) (rest := []) (lenOf pd0_1 rfl) rfl (hb hby at_97) (W := 0) (by show 2 * 0 + _ ≤ _; exact Nat.le_of_eq rfl) (by decide) (by decide) (by decide) (by decide)
    obtain ⟨rfl, e54, rfl⟩ := hQ54
    have N54 := Fr.app N53 (Fr.nil n0)
    refine own_go (g' := (mkF m 100 #[.val (.long q0), .second, .val (.int p1), .val (.int p2), .val (.int (3 : Int32)), .val (.int sb), .val (.ref b1)] [(.int (1 : Int32))])) (st54) ?_
    refine own_go (g' := (mkF m 103 #[.val (.long q0), .second, .val (.int p1), .val (.int p2), .val (.int (3 : Int32)), .val (.int sb), .val (.ref b1)] [])) (fun _ k => XS.ifNo X54.here hx rfl (hb hby at_100) rfl ((if0 _ _).trans (feq (by decide)).1) k) ?_
    refine own_go (g' := (mkF m 105 #[.val (.long q0), .second, .val (.int p1), .val (.int p2), .val (.int (3 : Int32)), .val (.int sb), .val (.ref b1)] [(.ref b1)])) (fun _ k => XS.aload X54.here hx rfl (hb hby at_103) rfl rfl k) ?_
    refine own_go (g' := (mkF m 106 #[.val (.long q0), .second, .val (.int p1), .val (.int p2), .val (.int (3 : Int32)), .val (.int sb), .val (.ref b1)] [(.int (1 : Int32)), (.ref b1)])) (fun _ k => XS.iconst X54.here hx rfl (hb hby at_105) k) ?_
    refine own_go (g' := (mkF m 108 #[.val (.long q0), .second, .val (.int p1), .val (.int p2), .val (.int (3 : Int32)), .val (.int sb), .val (.ref b1)] [(.int (3 : Int32)), (.int (1 : Int32)), (.ref b1)])) (fun _ k => XS.iload X54.here hx rfl (hb hby at_106) rfl k) ?_
    refine own_go (g' := (mkF m 109 #[.val (.long q0), .second, .val (.int p1), .val (.int p2), .val (.int (3 : Int32)), .val (.int sb), .val (.ref b1)] [(.long q0), (.int (3 : Int32)), (.int (1 : Int32)), (.ref b1)])) (fun _ k => XS.lloadN X54.here hx rfl (hb hby at_108) rfl k) ?_
    refine own_go (g' := (mkF m 111 #[.val (.long q0), .second, .val (.int p1), .val (.int p2), .val (.int (3 : Int32)), .val (.int sb), .val (.ref b1)] [(.int sb), (.long q0), (.int (3 : Int32)), (.int (1 : Int32)), (.ref b1)])) (fun _ k => XS.iload X54.here hx rfl (hb hby at_109) rfl k) ?_
    obtain ⟨v55, T55, L55, hQ55, X55, st55⟩ := own_callS X54 hx hZ (y := (⟨"com/example/table_salt/tablesalt/layout/Int64WritePinLaw", "ok", "([BIIJB)Z"⟩ : MethodName)) hown (hw _ (List.mem_of_getElem? (i := 5) rfl)) (hw _ (List.mem_of_getElem? (i := 6) rfl)) (hw _ (List.mem_of_getElem? (i := 7) rfl)) (hw _ (List.mem_of_getElem? (i := 8) rfl)) ⟨by decide, by decide⟩ (argsL := [(.ref b1), (.int (1 : Int32)), (.int (3 : Int32)), (.long q0), (.int sb)]) (ok_o l Z a0 hw b1 (1 : Int32) (3 : Int32) q0 sb [(.int ((sb).toInt8.toInt32)), (.int ((sb).toInt8.toInt32)), (.int ((sb).toInt8.toInt32)), (.int (own_wb q0 (56 : Int32)).toInt8.toInt32), (.int (own_wb q0 (48 : Int32)).toInt8.toInt32), (.int (own_wb q0 (40 : Int32)).toInt8.toInt32), (.int (own_wb q0 (32 : Int32)).toInt8.toInt32), (.int (own_wb q0 (24 : Int32)).toInt8.toInt32), (.int (own_wb q0 (16 : Int32)).toInt8.toInt32), (.int (own_wb q0 (8 : Int32)).toInt8.toInt32), (.int (own_wb q0 (0 : Int32)).toInt8.toInt32), (.int ((sb).toInt8.toInt32))] k1 (((sb).toInt8.toInt32)) T53.heap q53_0 ⟨by decide, by decide⟩ rfl (by decide) (by rw [hsb]; exact own_bb _)) e54 (g := (mkF m 111 #[.val (.long q0), .second, .val (.int p1), .val (.int p2), .val (.int (3 : Int32)), .val (.int sb), .val (.ref b1)] [(.int sb), (.long q0), (.int (3 : Int32)), (.int (1 : Int32)), (.ref b1)])) rfl (by rw [hml]; rfl) (rest := []) (lenOf pd0_1 rfl) rfl (hb hby at_111) (W := 0) (by show 2 * 0 + _ ≤ _; exact Nat.le_of_eq rfl) (by decide) (by decide) (by decide) (by decide)
    obtain ⟨rfl, e55, rfl⟩ := hQ55
    have N55 := Fr.app N54 (Fr.nil n0)
    refine own_go (g' := (mkF m 114 #[.val (.long q0), .second, .val (.int p1), .val (.int p2), .val (.int (3 : Int32)), .val (.int sb), .val (.ref b1)] [(.int (1 : Int32))])) (st55) ?_
    refine own_go (g' := (mkF m 117 #[.val (.long q0), .second, .val (.int p1), .val (.int p2), .val (.int (3 : Int32)), .val (.int sb), .val (.ref b1)] [])) (fun _ k => XS.ifNo X55.here hx rfl (hb hby at_114) rfl ((if0 _ _).trans (feq (by decide)).1) k) ?_
    refine own_go (g' := (mkF m 119 #[.val (.long q0), .second, .val (.int p1), .val (.int p2), .val (.int (3 : Int32)), .val (.int sb), .val (.ref b1)] [(.ref b1)])) (fun _ k => XS.aload X55.here hx rfl (hb hby at_117) rfl rfl k) ?_
    refine own_go (g' := (mkF m 120 #[.val (.long q0), .second, .val (.int p1), .val (.int p2), .val (.int (3 : Int32)), .val (.int sb), .val (.ref b1)] [(.int (2 : Int32)), (.ref b1)])) (fun _ k => XS.iconst X55.here hx rfl (hb hby at_119) k) ?_
    refine own_go (g' := (mkF m 122 #[.val (.long q0), .second, .val (.int p1), .val (.int p2), .val (.int (3 : Int32)), .val (.int sb), .val (.ref b1)] [(.int (3 : Int32)), (.int (2 : Int32)), (.ref b1)])) (fun _ k => XS.iload X55.here hx rfl (hb hby at_120) rfl k) ?_
    refine own_go (g' := (mkF m 123 #[.val (.long q0), .second, .val (.int p1), .val (.int p2), .val (.int (3 : Int32)), .val (.int sb), .val (.ref b1)] [(.long q0), (.int (3 : Int32)), (.int (2 : Int32)), (.ref b1)])) (fun _ k => XS.lloadN X55.here hx rfl (hb hby at_122) rfl k) ?_
    refine own_go (g' := (mkF m 125 #[.val (.long q0), .second, .val (.int p1), .val (.int p2), .val (.int (3 : Int32)), .val (.int sb), .val (.ref b1)] [(.int sb), (.long q0), (.int (3 : Int32)), (.int (2 : Int32)), (.ref b1)])) (fun _ k => XS.iload X55.here hx rfl (hb hby at_123) rfl k) ?_
    obtain ⟨v56, T56, L56, hQ56, X56, st56⟩ := own_callS X55 hx hZ (y := (⟨"com/example/table_salt/tablesalt/layout/Int64WritePinLaw", "ok", "([BIIJB)Z"⟩ : MethodName)) hown (hw _ (List.mem_of_getElem? (i := 5) rfl)) (hw _ (List.mem_of_getElem? (i := 6) rfl)) (hw _ (List.mem_of_getElem? (i := 7) rfl)) (hw _ (List.mem_of_getElem? (i := 8) rfl)) ⟨by decide, by decide⟩ (argsL := [(.ref b1), (.int (2 : Int32)), (.int (3 : Int32)), (.long q0), (.int sb)]) (ok_o l Z a0 hw b1 (2 : Int32) (3 : Int32) q0 sb [(.int ((sb).toInt8.toInt32)), (.int ((sb).toInt8.toInt32)), (.int ((sb).toInt8.toInt32)), (.int (own_wb q0 (56 : Int32)).toInt8.toInt32), (.int (own_wb q0 (48 : Int32)).toInt8.toInt32), (.int (own_wb q0 (40 : Int32)).toInt8.toInt32), (.int (own_wb q0 (32 : Int32)).toInt8.toInt32), (.int (own_wb q0 (24 : Int32)).toInt8.toInt32), (.int (own_wb q0 (16 : Int32)).toInt8.toInt32), (.int (own_wb q0 (8 : Int32)).toInt8.toInt32), (.int (own_wb q0 (0 : Int32)).toInt8.toInt32), (.int ((sb).toInt8.toInt32))] k1 (((sb).toInt8.toInt32)) T53.heap q53_0 ⟨by decide, by decide⟩ rfl (by decide) (by rw [hsb]; exact own_bb _)) e55 (g := (mkF m 125 #[.val (.long q0), .second, .val (.int p1), .val (.int p2), .val (.int (3 : Int32)), .val (.int sb), .val (.ref b1)] [(.int sb), (.long q0), (.int (3 : Int32)), (.int (2 : Int32)), (.ref b1)])) rfl (by rw [hml]; rfl) (rest := []) (lenOf pd0_1 rfl) rfl (hb hby at_125) (W := 0) (by show 2 * 0 + _ ≤ _; exact Nat.le_of_eq rfl) (by decide) (by decide) (by decide) (by decide)
    obtain ⟨rfl, e56, rfl⟩ := hQ56
    have N56 := Fr.app N55 (Fr.nil n0)
    refine own_go (g' := (mkF m 128 #[.val (.long q0), .second, .val (.int p1), .val (.int p2), .val (.int (3 : Int32)), .val (.int sb), .val (.ref b1)] [(.int (1 : Int32))])) (st56) ?_
    refine own_go (g' := (mkF m 131 #[.val (.long q0), .second, .val (.int p1), .val (.int p2), .val (.int (3 : Int32)), .val (.int sb), .val (.ref b1)] [])) (fun _ k => XS.ifNo X56.here hx rfl (hb hby at_128) rfl ((if0 _ _).trans (feq (by decide)).1) k) ?_
    refine own_go (g' := (mkF m 133 #[.val (.long q0), .second, .val (.int p1), .val (.int p2), .val (.int (3 : Int32)), .val (.int sb), .val (.ref b1)] [(.ref b1)])) (fun _ k => XS.aload X56.here hx rfl (hb hby at_131) rfl rfl k) ?_
    refine own_go (g' := (mkF m 134 #[.val (.long q0), .second, .val (.int p1), .val (.int p2), .val (.int (3 : Int32)), .val (.int sb), .val (.ref b1)] [(.int (3 : Int32)), (.ref b1)])) (fun _ k => XS.iconst X56.here hx rfl (hb hby at_133) k) ?_
    refine own_go (g' := (mkF m 136 #[.val (.long q0), .second, .val (.int p1), .val (.int p2), .val (.int (3 : Int32)), .val (.int sb), .val (.ref b1)] [(.int (3 : Int32)), (.int (3 : Int32)), (.ref b1)])) (fun _ k => XS.iload X56.here hx rfl (hb hby at_134) rfl k) ?_
    refine own_go (g' := (mkF m 137 #[.val (.long q0), .second, .val (.int p1), .val (.int p2), .val (.int (3 : Int32)), .val (.int sb), .val (.ref b1)] [(.long q0), (.int (3 : Int32)), (.int (3 : Int32)), (.ref b1)])) (fun _ k => XS.lloadN X56.here hx rfl (hb hby at_136) rfl k) ?_
    refine own_go (g' := (mkF m 139 #[.val (.long q0), .second, .val (.int p1), .val (.int p2), .val (.int (3 : Int32)), .val (.int sb), .val (.ref b1)] [(.int sb), (.long q0), (.int (3 : Int32)), (.int (3 : Int32)), (.ref b1)])) (fun _ k => XS.iload X56.here hx rfl (hb hby at_137) rfl k) ?_
    obtain ⟨v57, T57, L57, hQ57, X57, st57⟩ := own_callS X56 hx hZ (y := (⟨"com/example/table_salt/tablesalt/layout/Int64WritePinLaw", "ok", "([BIIJB)Z"⟩ : MethodName)) hown (hw _ (List.mem_of_getElem? (i := 5) rfl)) (hw _ (List.mem_of_getElem? (i := 6) rfl)) (hw _ (List.mem_of_getElem? (i := 7) rfl)) (hw _ (List.mem_of_getElem? (i := 8) rfl)) ⟨by decide, by decide⟩ (argsL := [(.ref b1), (.int (3 : Int32)), (.int (3 : Int32)), (.long q0), (.int sb)]) (ok_i l Z a0 hw b1 (3 : Int32) (3 : Int32) q0 sb [(.int ((sb).toInt8.toInt32)), (.int ((sb).toInt8.toInt32)), (.int ((sb).toInt8.toInt32)), (.int (own_wb q0 (56 : Int32)).toInt8.toInt32), (.int (own_wb q0 (48 : Int32)).toInt8.toInt32), (.int (own_wb q0 (40 : Int32)).toInt8.toInt32), (.int (own_wb q0 (32 : Int32)).toInt8.toInt32), (.int (own_wb q0 (24 : Int32)).toInt8.toInt32), (.int (own_wb q0 (16 : Int32)).toInt8.toInt32), (.int (own_wb q0 (8 : Int32)).toInt8.toInt32), (.int (own_wb q0 (0 : Int32)).toInt8.toInt32), (.int ((sb).toInt8.toInt32))] k1 ((own_wb q0 (56 : Int32)).toInt8.toInt32) T53.heap q53_0 ⟨by decide, by decide⟩ rfl (by decide) ((own_we q0 (56 : Int32) 56 1 (by decide) (by decide) (by decide) (by decide)).trans (show own_eb q0 (56 : Int32) = own_exp q0 ((3 : Int32) - (3 : Int32)) from rfl))) e56 (g := (mkF m 139 #[.val (.long q0), .second, .val (.int p1), .val (.int p2), .val (.int (3 : Int32)), .val (.int sb), .val (.ref b1)] [(.int sb), (.long q0), (.int (3 : Int32)), (.int (3 : Int32)), (.ref b1)])) rfl (by rw [hml]; rfl) (rest := []) (lenOf pd0_1 rfl) rfl (hb hby at_139) (W := 0) (by show 2 * 0 + _ ≤ _; exact Nat.le_of_eq rfl) (by decide) (by decide) (by decide) (by decide)
    obtain ⟨rfl, e57, rfl⟩ := hQ57
    have N57 := Fr.app N56 (Fr.nil n0)
    refine own_go (g' := (mkF m 142 #[.val (.long q0), .second, .val (.int p1), .val (.int p2), .val (.int (3 : Int32)), .val (.int sb), .val (.ref b1)] [(.int (1 : Int32))])) (st57) ?_
    refine own_go (g' := (mkF m 145 #[.val (.long q0), .second, .val (.int p1), .val (.int p2), .val (.int (3 : Int32)), .val (.int sb), .val (.ref b1)] [])) (fun _ k => XS.ifNo X57.here hx rfl (hb hby at_142) rfl ((if0 _ _).trans (feq (by decide)).1) k) ?_
    refine own_go (g' := (mkF m 147 #[.val (.long q0), .second, .val (.int p1), .val (.int p2), .val (.int (3 : Int32)), .val (.int sb), .val (.ref b1)] [(.ref b1)])) (fun _ k => XS.aload X57.here hx rfl (hb hby at_145) rfl rfl k) ?_
    refine own_go (g' := (mkF m 148 #[.val (.long q0), .second, .val (.int p1), .val (.int p2), .val (.int (3 : Int32)), .val (.int sb), .val (.ref b1)] [(.int (4 : Int32)), (.ref b1)])) (fun _ k => XS.iconst X57.here hx rfl (hb hby at_147) k) ?_
    refine own_go (g' := (mkF m 150 #[.val (.long q0), .second, .val (.int p1), .val (.int p2), .val (.int (3 : Int32)), .val (.int sb), .val (.ref b1)] [(.int (3 : Int32)), (.int (4 : Int32)), (.ref b1)])) (fun _ k => XS.iload X57.here hx rfl (hb hby at_148) rfl k) ?_
    refine own_go (g' := (mkF m 151 #[.val (.long q0), .second, .val (.int p1), .val (.int p2), .val (.int (3 : Int32)), .val (.int sb), .val (.ref b1)] [(.long q0), (.int (3 : Int32)), (.int (4 : Int32)), (.ref b1)])) (fun _ k => XS.lloadN X57.here hx rfl (hb hby at_150) rfl k) ?_
    refine own_go (g' := (mkF m 153 #[.val (.long q0), .second, .val (.int p1), .val (.int p2), .val (.int (3 : Int32)), .val (.int sb), .val (.ref b1)] [(.int sb), (.long q0), (.int (3 : Int32)), (.int (4 : Int32)), (.ref b1)])) (fun _ k => XS.iload X57.here hx rfl (hb hby at_151) rfl k) ?_
    obtain ⟨v58, T58, L58, hQ58, X58, st58⟩ := own_callS X57 hx hZ (y := (⟨"com/example/table_salt/tablesalt/layout/Int64WritePinLaw", "ok", "([BIIJB)Z"⟩ : MethodName)) hown (hw _ (List.mem_of_getElem? (i := 5) rfl)) (hw _ (List.mem_of_getElem? (i := 6) rfl)) (hw _ (List.mem_of_getElem? (i := 7) rfl)) (hw _ (List.mem_of_getElem? (i := 8) rfl)) ⟨by decide, by decide⟩ (argsL := [(.ref b1), (.int (4 : Int32)), (.int (3 : Int32)), (.long q0), (.int sb)]) (ok_i l Z a0 hw b1 (4 : Int32) (3 : Int32) q0 sb [(.int ((sb).toInt8.toInt32)), (.int ((sb).toInt8.toInt32)), (.int ((sb).toInt8.toInt32)), (.int (own_wb q0 (56 : Int32)).toInt8.toInt32), (.int (own_wb q0 (48 : Int32)).toInt8.toInt32), (.int (own_wb q0 (40 : Int32)).toInt8.toInt32), (.int (own_wb q0 (32 : Int32)).toInt8.toInt32), (.int (own_wb q0 (24 : Int32)).toInt8.toInt32), (.int (own_wb q0 (16 : Int32)).toInt8.toInt32), (.int (own_wb q0 (8 : Int32)).toInt8.toInt32), (.int (own_wb q0 (0 : Int32)).toInt8.toInt32), (.int ((sb).toInt8.toInt32))] k1 ((own_wb q0 (48 : Int32)).toInt8.toInt32) T53.heap q53_0 ⟨by decide, by decide⟩ rfl (by decide) ((own_we q0 (48 : Int32) 48 256 (by decide) (by decide) (by decide) (by decide)).trans (show own_eb q0 (48 : Int32) = own_exp q0 ((4 : Int32) - (3 : Int32)) from rfl))) e57 (g := (mkF m 153 #[.val (.long q0), .second, .val (.int p1), .val (.int p2), .val (.int (3 : Int32)), .val (.int sb), .val (.ref b1)] [(.int sb), (.long q0), (.int (3 : Int32)), (.int (4 : Int32)), (.ref b1)])) rfl (by rw [hml]; rfl) (rest := []) (lenOf pd0_1 rfl) rfl (hb hby at_153) (W := 0) (by show 2 * 0 + _ ≤ _; exact Nat.le_of_eq rfl) (by decide) (by decide) (by decide) (by decide)
    obtain ⟨rfl, e58, rfl⟩ := hQ58
    have N58 := Fr.app N57 (Fr.nil n0)
    refine own_go (g' := (mkF m 156 #[.val (.long q0), .second, .val (.int p1), .val (.int p2), .val (.int (3 : Int32)), .val (.int sb), .val (.ref b1)] [(.int (1 : Int32))])) (st58) ?_
    refine own_go (g' := (mkF m 159 #[.val (.long q0), .second, .val (.int p1), .val (.int p2), .val (.int (3 : Int32)), .val (.int sb), .val (.ref b1)] [])) (fun _ k => XS.ifNo X58.here hx rfl (hb hby at_156) rfl ((if0 _ _).trans (feq (by decide)).1) k) ?_
    refine own_go (g' := (mkF m 161 #[.val (.long q0), .second, .val (.int p1), .val (.int p2), .val (.int (3 : Int32)), .val (.int sb), .val (.ref b1)] [(.ref b1)])) (fun _ k => XS.aload X58.here hx rfl (hb hby at_159) rfl rfl k) ?_
    refine own_go (g' := (mkF m 162 #[.val (.long q0), .second, .val (.int p1), .val (.int p2), .val (.int (3 : Int32)), .val (.int sb), .val (.ref b1)] [(.int (5 : Int32)), (.ref b1)])) (fun _ k => XS.iconst X58.here hx rfl (hb hby at_161) k) ?_
    refine own_go (g' := (mkF m 164 #[.val (.long q0), .second, .val (.int p1), .val (.int p2), .val (.int (3 : Int32)), .val (.int sb), .val (.ref b1)] [(.int (3 : Int32)), (.int (5 : Int32)), (.ref b1)])) (fun _ k => XS.iload X58.here hx rfl (hb hby at_162) rfl k) ?_
    refine own_go (g' := (mkF m 165 #[.val (.long q0), .second, .val (.int p1), .val (.int p2), .val (.int (3 : Int32)), .val (.int sb), .val (.ref b1)] [(.long q0), (.int (3 : Int32)), (.int (5 : Int32)), (.ref b1)])) (fun _ k => XS.lloadN X58.here hx rfl (hb hby at_164) rfl k) ?_
    refine own_go (g' := (mkF m 167 #[.val (.long q0), .second, .val (.int p1), .val (.int p2), .val (.int (3 : Int32)), .val (.int sb), .val (.ref b1)] [(.int sb), (.long q0), (.int (3 : Int32)), (.int (5 : Int32)), (.ref b1)])) (fun _ k => XS.iload X58.here hx rfl (hb hby at_165) rfl k) ?_
    obtain ⟨v59, T59, L59, hQ59, X59, st59⟩ := own_callS X58 hx hZ (y := (⟨"com/example/table_salt/tablesalt/layout/Int64WritePinLaw", "ok", "([BIIJB)Z"⟩ : MethodName)) hown (hw _ (List.mem_of_getElem? (i := 5) rfl)) (hw _ (List.mem_of_getElem? (i := 6) rfl)) (hw _ (List.mem_of_getElem? (i := 7) rfl)) (hw _ (List.mem_of_getElem? (i := 8) rfl)) ⟨by decide, by decide⟩ (argsL := [(.ref b1), (.int (5 : Int32)), (.int (3 : Int32)), (.long q0), (.int sb)]) (ok_i l Z a0 hw b1 (5 : Int32) (3 : Int32) q0 sb [(.int ((sb).toInt8.toInt32)), (.int ((sb).toInt8.toInt32)), (.int ((sb).toInt8.toInt32)), (.int (own_wb q0 (56 : Int32)).toInt8.toInt32), (.int (own_wb q0 (48 : Int32)).toInt8.toInt32), (.int (own_wb q0 (40 : Int32)).toInt8.toInt32), (.int (own_wb q0 (32 : Int32)).toInt8.toInt32), (.int (own_wb q0 (24 : Int32)).toInt8.toInt32), (.int (own_wb q0 (16 : Int32)).toInt8.toInt32), (.int (own_wb q0 (8 : Int32)).toInt8.toInt32), (.int (own_wb q0 (0 : Int32)).toInt8.toInt32), (.int ((sb).toInt8.toInt32))] k1 ((own_wb q0 (40 : Int32)).toInt8.toInt32) T53.heap q53_0 ⟨by decide, by decide⟩ rfl (by decide) ((own_we q0 (40 : Int32) 40 65536 (by decide) (by decide) (by decide) (by decide)).trans (show own_eb q0 (40 : Int32) = own_exp q0 ((5 : Int32) - (3 : Int32)) from rfl))) e58 (g := (mkF m 167 #[.val (.long q0), .second, .val (.int p1), .val (.int p2), .val (.int (3 : Int32)), .val (.int sb), .val (.ref b1)] [(.int sb), (.long q0), (.int (3 : Int32)), (.int (5 : Int32)), (.ref b1)])) rfl (by rw [hml]; rfl) (rest := []) (lenOf pd0_1 rfl) rfl (hb hby at_167) (W := 0) (by show 2 * 0 + _ ≤ _; exact Nat.le_of_eq rfl) (by decide) (by decide) (by decide) (by decide)
    obtain ⟨rfl, e59, rfl⟩ := hQ59
    have N59 := Fr.app N58 (Fr.nil n0)
    refine own_go (g' := (mkF m 170 #[.val (.long q0), .second, .val (.int p1), .val (.int p2), .val (.int (3 : Int32)), .val (.int sb), .val (.ref b1)] [(.int (1 : Int32))])) (st59) ?_
    refine own_go (g' := (mkF m 173 #[.val (.long q0), .second, .val (.int p1), .val (.int p2), .val (.int (3 : Int32)), .val (.int sb), .val (.ref b1)] [])) (fun _ k => XS.ifNo X59.here hx rfl (hb hby at_170) rfl ((if0 _ _).trans (feq (by decide)).1) k) ?_
    refine own_go (g' := (mkF m 175 #[.val (.long q0), .second, .val (.int p1), .val (.int p2), .val (.int (3 : Int32)), .val (.int sb), .val (.ref b1)] [(.ref b1)])) (fun _ k => XS.aload X59.here hx rfl (hb hby at_173) rfl rfl k) ?_
    refine own_go (g' := (mkF m 177 #[.val (.long q0), .second, .val (.int p1), .val (.int p2), .val (.int (3 : Int32)), .val (.int sb), .val (.ref b1)] [(.int (6 : Int32)), (.ref b1)])) (fun _ k => XS.bipush X59.here hx rfl (hb hby at_175) k) ?_
    refine own_go (g' := (mkF m 179 #[.val (.long q0), .second, .val (.int p1), .val (.int p2), .val (.int (3 : Int32)), .val (.int sb), .val (.ref b1)] [(.int (3 : Int32)), (.int (6 : Int32)), (.ref b1)])) (fun _ k => XS.iload X59.here hx rfl (hb hby at_177) rfl k) ?_
    refine own_go (g' := (mkF m 180 #[.val (.long q0), .second, .val (.int p1), .val (.int p2), .val (.int (3 : Int32)), .val (.int sb), .val (.ref b1)] [(.long q0), (.int (3 : Int32)), (.int (6 : Int32)), (.ref b1)])) (fun _ k => XS.lloadN X59.here hx rfl (hb hby at_179) rfl k) ?_
    refine own_go (g' := (mkF m 182 #[.val (.long q0), .second, .val (.int p1), .val (.int p2), .val (.int (3 : Int32)), .val (.int sb), .val (.ref b1)] [(.int sb), (.long q0), (.int (3 : Int32)), (.int (6 : Int32)), (.ref b1)])) (fun _ k => XS.iload X59.here hx rfl (hb hby at_180) rfl k) ?_
    obtain ⟨v60, T60, L60, hQ60, X60, st60⟩ := own_callS X59 hx hZ (y := (⟨"com/example/table_salt/tablesalt/layout/Int64WritePinLaw", "ok", "([BIIJB)Z"⟩ : MethodName)) hown (hw _ (List.mem_of_getElem? (i := 5) rfl)) (hw _ (List.mem_of_getElem? (i := 6) rfl)) (hw _ (List.mem_of_getElem? (i := 7) rfl)) (hw _ (List.mem_of_getElem? (i := 8) rfl)) ⟨by decide, by decide⟩ (argsL := [(.ref b1), (.int (6 : Int32)), (.int (3 : Int32)), (.long q0), (.int sb)]) (ok_i l Z a0 hw b1 (6 : Int32) (3 : Int32) q0 sb [(.int ((sb).toInt8.toInt32)), (.int ((sb).toInt8.toInt32)), (.int ((sb).toInt8.toInt32)), (.int (own_wb q0 (56 : Int32)).toInt8.toInt32), (.int (own_wb q0 (48 : Int32)).toInt8.toInt32), (.int (own_wb q0 (40 : Int32)).toInt8.toInt32), (.int (own_wb q0 (32 : Int32)).toInt8.toInt32), (.int (own_wb q0 (24 : Int32)).toInt8.toInt32), (.int (own_wb q0 (16 : Int32)).toInt8.toInt32), (.int (own_wb q0 (8 : Int32)).toInt8.toInt32), (.int (own_wb q0 (0 : Int32)).toInt8.toInt32), (.int ((sb).toInt8.toInt32))] k1 ((own_wb q0 (32 : Int32)).toInt8.toInt32) T53.heap q53_0 ⟨by decide, by decide⟩ rfl (by decide) ((own_we q0 (32 : Int32) 32 16777216 (by decide) (by decide) (by decide) (by decide)).trans (show own_eb q0 (32 : Int32) = own_exp q0 ((6 : Int32) - (3 : Int32)) from rfl))) e59 (g := (mkF m 182 #[.val (.long q0), .second, .val (.int p1), .val (.int p2), .val (.int (3 : Int32)), .val (.int sb), .val (.ref b1)] [(.int sb), (.long q0), (.int (3 : Int32)), (.int (6 : Int32)), (.ref b1)])) rfl (by rw [hml]; rfl) (rest := []) (lenOf pd0_1 rfl) rfl (hb hby at_182) (W := 0) (by show 2 * 0 + _ ≤ _; exact Nat.le_of_eq rfl) (by decide) (by decide) (by decide) (by decide)
    obtain ⟨rfl, e60, rfl⟩ := hQ60
    have N60 := Fr.app N59 (Fr.nil n0)
    refine own_go (g' := (mkF m 185 #[.val (.long q0), .second, .val (.int p1), .val (.int p2), .val (.int (3 : Int32)), .val (.int sb), .val (.ref b1)] [(.int (1 : Int32))])) (st60) ?_
    refine own_go (g' := (mkF m 188 #[.val (.long q0), .second, .val (.int p1), .val (.int p2), .val (.int (3 : Int32)), .val (.int sb), .val (.ref b1)] [])) (fun _ k => XS.ifNo X60.here hx rfl (hb hby at_185) rfl ((if0 _ _).trans (feq (by decide)).1) k) ?_
    refine own_go (g' := (mkF m 190 #[.val (.long q0), .second, .val (.int p1), .val (.int p2), .val (.int (3 : Int32)), .val (.int sb), .val (.ref b1)] [(.ref b1)])) (fun _ k => XS.aload X60.here hx rfl (hb hby at_188) rfl rfl k) ?_
    refine own_go (g' := (mkF m 192 #[.val (.long q0), .second, .val (.int p1), .val (.int p2), .val (.int (3 : Int32)), .val (.int sb), .val (.ref b1)] [(.int (7 : Int32)), (.ref b1)])) (fun _ k => XS.bipush X60.here hx rfl (hb hby at_190) k) ?_
    refine own_go (g' := (mkF m 194 #[.val (.long q0), .second, .val (.int p1), .val (.int p2), .val (.int (3 : Int32)), .val (.int sb), .val (.ref b1)] [(.int (3 : Int32)), (.int (7 : Int32)), (.ref b1)])) (fun _ k => XS.iload X60.here hx rfl (hb hby at_192) rfl k) ?_
    refine own_go (g' := (mkF m 195 #[.val (.long q0), .second, .val (.int p1), .val (.int p2), .val (.int (3 : Int32)), .val (.int sb), .val (.ref b1)] [(.long q0), (.int (3 : Int32)), (.int (7 : Int32)), (.ref b1)])) (fun _ k => XS.lloadN X60.here hx rfl (hb hby at_194) rfl k) ?_
    refine own_go (g' := (mkF m 197 #[.val (.long q0), .second, .val (.int p1), .val (.int p2), .val (.int (3 : Int32)), .val (.int sb), .val (.ref b1)] [(.int sb), (.long q0), (.int (3 : Int32)), (.int (7 : Int32)), (.ref b1)])) (fun _ k => XS.iload X60.here hx rfl (hb hby at_195) rfl k) ?_
    obtain ⟨v61, T61, L61, hQ61, X61, st61⟩ := own_callS X60 hx hZ (y := (⟨"com/example/table_salt/tablesalt/layout/Int64WritePinLaw", "ok", "([BIIJB)Z"⟩ : MethodName)) hown (hw _ (List.mem_of_getElem? (i := 5) rfl)) (hw _ (List.mem_of_getElem? (i := 6) rfl)) (hw _ (List.mem_of_getElem? (i := 7) rfl)) (hw _ (List.mem_of_getElem? (i := 8) rfl)) ⟨by decide, by decide⟩ (argsL := [(.ref b1), (.int (7 : Int32)), (.int (3 : Int32)), (.long q0), (.int sb)]) (ok_i l Z a0 hw b1 (7 : Int32) (3 : Int32) q0 sb [(.int ((sb).toInt8.toInt32)), (.int ((sb).toInt8.toInt32)), (.int ((sb).toInt8.toInt32)), (.int (own_wb q0 (56 : Int32)).toInt8.toInt32), (.int (own_wb q0 (48 : Int32)).toInt8.toInt32), (.int (own_wb q0 (40 : Int32)).toInt8.toInt32), (.int (own_wb q0 (32 : Int32)).toInt8.toInt32), (.int (own_wb q0 (24 : Int32)).toInt8.toInt32), (.int (own_wb q0 (16 : Int32)).toInt8.toInt32), (.int (own_wb q0 (8 : Int32)).toInt8.toInt32), (.int (own_wb q0 (0 : Int32)).toInt8.toInt32), (.int ((sb).toInt8.toInt32))] k1 ((own_wb q0 (24 : Int32)).toInt8.toInt32) T53.heap q53_0 ⟨by decide, by decide⟩ rfl (by decide) ((own_we q0 (24 : Int32) 24 4294967296 (by decide) (by decide) (by decide) (by decide)).trans (show own_eb q0 (24 : Int32) = own_exp q0 ((7 : Int32) - (3 : Int32)) from rfl))) e60 (g := (mkF m 197 #[.val (.long q0), .second, .val (.int p1), .val (.int p2), .val (.int (3 : Int32)), .val (.int sb), .val (.ref b1)] [(.int sb), (.long q0), (.int (3 : Int32)), (.int (7 : Int32)), (.ref b1)])) rfl (by rw [hml]; rfl) (rest := []) (lenOf pd0_1 rfl) rfl (hb hby at_197) (W := 0) (by show 2 * 0 + _ ≤ _; exact Nat.le_of_eq rfl) (by decide) (by decide) (by decide) (by decide)
    obtain ⟨rfl, e61, rfl⟩ := hQ61
    have N61 := Fr.app N60 (Fr.nil n0)
    refine own_go (g' := (mkF m 200 #[.val (.long q0), .second, .val (.int p1), .val (.int p2), .val (.int (3 : Int32)), .val (.int sb), .val (.ref b1)] [(.int (1 : Int32))])) (st61) ?_
    refine own_go (g' := (mkF m 203 #[.val (.long q0), .second, .val (.int p1), .val (.int p2), .val (.int (3 : Int32)), .val (.int sb), .val (.ref b1)] [])) (fun _ k => XS.ifNo X61.here hx rfl (hb hby at_200) rfl ((if0 _ _).trans (feq (by decide)).1) k) ?_
    refine own_go (g' := (mkF m 205 #[.val (.long q0), .second, .val (.int p1), .val (.int p2), .val (.int (3 : Int32)), .val (.int sb), .val (.ref b1)] [(.ref b1)])) (fun _ k => XS.aload X61.here hx rfl (hb hby at_203) rfl rfl k) ?_
    refine own_go (g' := (mkF m 207 #[.val (.long q0), .second, .val (.int p1), .val (.int p2), .val (.int (3 : Int32)), .val (.int sb), .val (.ref b1)] [(.int (8 : Int32)), (.ref b1)])) (fun _ k => XS.bipush X61.here hx rfl (hb hby at_205) k) ?_
    refine own_go (g' := (mkF m 209 #[.val (.long q0), .second, .val (.int p1), .val (.int p2), .val (.int (3 : Int32)), .val (.int sb), .val (.ref b1)] [(.int (3 : Int32)), (.int (8 : Int32)), (.ref b1)])) (fun _ k => XS.iload X61.here hx rfl (hb hby at_207) rfl k) ?_
    refine own_go (g' := (mkF m 210 #[.val (.long q0), .second, .val (.int p1), .val (.int p2), .val (.int (3 : Int32)), .val (.int sb), .val (.ref b1)] [(.long q0), (.int (3 : Int32)), (.int (8 : Int32)), (.ref b1)])) (fun _ k => XS.lloadN X61.here hx rfl (hb hby at_209) rfl k) ?_
    refine own_go (g' := (mkF m 212 #[.val (.long q0), .second, .val (.int p1), .val (.int p2), .val (.int (3 : Int32)), .val (.int sb), .val (.ref b1)] [(.int sb), (.long q0), (.int (3 : Int32)), (.int (8 : Int32)), (.ref b1)])) (fun _ k => XS.iload X61.here hx rfl (hb hby at_210) rfl k) ?_
    obtain ⟨v62, T62, L62, hQ62, X62, st62⟩ := own_callS X61 hx hZ (y := (⟨"com/example/table_salt/tablesalt/layout/Int64WritePinLaw", "ok", "([BIIJB)Z"⟩ : MethodName)) hown (hw _ (List.mem_of_getElem? (i := 5) rfl)) (hw _ (List.mem_of_getElem? (i := 6) rfl)) (hw _ (List.mem_of_getElem? (i := 7) rfl)) (hw _ (List.mem_of_getElem? (i := 8) rfl)) ⟨by decide, by decide⟩ (argsL := [(.ref b1), (.int (8 : Int32)), (.int (3 : Int32)), (.long q0), (.int sb)]) (ok_i l Z a0 hw b1 (8 : Int32) (3 : Int32) q0 sb [(.int ((sb).toInt8.toInt32)), (.int ((sb).toInt8.toInt32)), (.int ((sb).toInt8.toInt32)), (.int (own_wb q0 (56 : Int32)).toInt8.toInt32), (.int (own_wb q0 (48 : Int32)).toInt8.toInt32), (.int (own_wb q0 (40 : Int32)).toInt8.toInt32), (.int (own_wb q0 (32 : Int32)).toInt8.toInt32), (.int (own_wb q0 (24 : Int32)).toInt8.toInt32), (.int (own_wb q0 (16 : Int32)).toInt8.toInt32), (.int (own_wb q0 (8 : Int32)).toInt8.toInt32), (.int (own_wb q0 (0 : Int32)).toInt8.toInt32), (.int ((sb).toInt8.toInt32))] k1 ((own_wb q0 (16 : Int32)).toInt8.toInt32) T53.heap q53_0 ⟨by decide, by decide⟩ rfl (by decide) ((own_we q0 (16 : Int32) 16 1099511627776 (by decide) (by decide) (by decide) (by decide)).trans (show own_eb q0 (16 : Int32) = own_exp q0 ((8 : Int32) - (3 : Int32)) from rfl))) e61 (g := (mkF m 212 #[.val (.long q0), .second, .val (.int p1), .val (.int p2), .val (.int (3 : Int32)), .val (.int sb), .val (.ref b1)] [(.int sb), (.long q0), (.int (3 : Int32)), (.int (8 : Int32)), (.ref b1)])) rfl (by rw [hml]; rfl) (rest := []) (lenOf pd0_1 rfl) rfl (hb hby at_212) (W := 0) (by show 2 * 0 + _ ≤ _; exact Nat.le_of_eq rfl) (by decide) (by decide) (by decide) (by decide)
    obtain ⟨rfl, e62, rfl⟩ := hQ62
    have N62 := Fr.app N61 (Fr.nil n0)
    refine own_go (g' := (mkF m 215 #[.val (.long q0), .second, .val (.int p1), .val (.int p2), .val (.int (3 : Int32)), .val (.int sb), .val (.ref b1)] [(.int (1 : Int32))])) (st62) ?_
    refine own_go (g' := (mkF m 218 #[.val (.long q0), .second, .val (.int p1), .val (.int p2), .val (.int (3 : Int32)), .val (.int sb), .val (.ref b1)] [])) (fun _ k => XS.ifNo X62.here hx rfl (hb hby at_215) rfl ((if0 _ _).trans (feq (by decide)).1) k) ?_
    refine own_go (g' := (mkF m 220 #[.val (.long q0), .second, .val (.int p1), .val (.int p2), .val (.int (3 : Int32)), .val (.int sb), .val (.ref b1)] [(.ref b1)])) (fun _ k => XS.aload X62.here hx rfl (hb hby at_218) rfl rfl k) ?_
    refine own_go (g' := (mkF m 222 #[.val (.long q0), .second, .val (.int p1), .val (.int p2), .val (.int (3 : Int32)), .val (.int sb), .val (.ref b1)] [(.int (9 : Int32)), (.ref b1)])) (fun _ k => XS.bipush X62.here hx rfl (hb hby at_220) k) ?_
    refine own_go (g' := (mkF m 224 #[.val (.long q0), .second, .val (.int p1), .val (.int p2), .val (.int (3 : Int32)), .val (.int sb), .val (.ref b1)] [(.int (3 : Int32)), (.int (9 : Int32)), (.ref b1)])) (fun _ k => XS.iload X62.here hx rfl (hb hby at_222) rfl k) ?_
    refine own_go (g' := (mkF m 225 #[.val (.long q0), .second, .val (.int p1), .val (.int p2), .val (.int (3 : Int32)), .val (.int sb), .val (.ref b1)] [(.long q0), (.int (3 : Int32)), (.int (9 : Int32)), (.ref b1)])) (fun _ k => XS.lloadN X62.here hx rfl (hb hby at_224) rfl k) ?_
    refine own_go (g' := (mkF m 227 #[.val (.long q0), .second, .val (.int p1), .val (.int p2), .val (.int (3 : Int32)), .val (.int sb), .val (.ref b1)] [(.int sb), (.long q0), (.int (3 : Int32)), (.int (9 : Int32)), (.ref b1)])) (fun _ k => XS.iload X62.here hx rfl (hb hby at_225) rfl k) ?_
    obtain ⟨v63, T63, L63, hQ63, X63, st63⟩ := own_callS X62 hx hZ (y := (⟨"com/example/table_salt/tablesalt/layout/Int64WritePinLaw", "ok", "([BIIJB)Z"⟩ : MethodName)) hown (hw _ (List.mem_of_getElem? (i := 5) rfl)) (hw _ (List.mem_of_getElem? (i := 6) rfl)) (hw _ (List.mem_of_getElem? (i := 7) rfl)) (hw _ (List.mem_of_getElem? (i := 8) rfl)) ⟨by decide, by decide⟩ (argsL := [(.ref b1), (.int (9 : Int32)), (.int (3 : Int32)), (.long q0), (.int sb)]) (ok_i l Z a0 hw b1 (9 : Int32) (3 : Int32) q0 sb [(.int ((sb).toInt8.toInt32)), (.int ((sb).toInt8.toInt32)), (.int ((sb).toInt8.toInt32)), (.int (own_wb q0 (56 : Int32)).toInt8.toInt32), (.int (own_wb q0 (48 : Int32)).toInt8.toInt32), (.int (own_wb q0 (40 : Int32)).toInt8.toInt32), (.int (own_wb q0 (32 : Int32)).toInt8.toInt32), (.int (own_wb q0 (24 : Int32)).toInt8.toInt32), (.int (own_wb q0 (16 : Int32)).toInt8.toInt32), (.int (own_wb q0 (8 : Int32)).toInt8.toInt32), (.int (own_wb q0 (0 : Int32)).toInt8.toInt32), (.int ((sb).toInt8.toInt32))] k1 ((own_wb q0 (8 : Int32)).toInt8.toInt32) T53.heap q53_0 ⟨by decide, by decide⟩ rfl (by decide) ((own_we q0 (8 : Int32) 8 281474976710656 (by decide) (by decide) (by decide) (by decide)).trans (show own_eb q0 (8 : Int32) = own_exp q0 ((9 : Int32) - (3 : Int32)) from rfl))) e62 (g := (mkF m 227 #[.val (.long q0), .second, .val (.int p1), .val (.int p2), .val (.int (3 : Int32)), .val (.int sb), .val (.ref b1)] [(.int sb), (.long q0), (.int (3 : Int32)), (.int (9 : Int32)), (.ref b1)])) rfl (by rw [hml]; rfl) (rest := []) (lenOf pd0_1 rfl) rfl (hb hby at_227) (W := 0) (by show 2 * 0 + _ ≤ _; exact Nat.le_of_eq rfl) (by decide) (by decide) (by decide) (by decide)
    obtain ⟨rfl, e63, rfl⟩ := hQ63
    have N63 := Fr.app N62 (Fr.nil n0)
    refine own_go (g' := (mkF m 230 #[.val (.long q0), .second, .val (.int p1), .val (.int p2), .val (.int (3 : Int32)), .val (.int sb), .val (.ref b1)] [(.int (1 : Int32))])) (st63) ?_
    refine own_go (g' := (mkF m 233 #[.val (.long q0), .second, .val (.int p1), .val (.int p2), .val (.int (3 : Int32)), .val (.int sb), .val (.ref b1)] [])) (fun _ k => XS.ifNo X63.here hx rfl (hb hby at_230) rfl ((if0 _ _).trans (feq (by decide)).1) k) ?_
    refine own_go (g' := (mkF m 235 #[.val (.long q0), .second, .val (.int p1), .val (.int p2), .val (.int (3 : Int32)), .val (.int sb), .val (.ref b1)] [(.ref b1)])) (fun _ k => XS.aload X63.here hx rfl (hb hby at_233) rfl rfl k) ?_
    refine own_go (g' := (mkF m 237 #[.val (.long q0), .second, .val (.int p1), .val (.int p2), .val (.int (3 : Int32)), .val (.int sb), .val (.ref b1)] [(.int (10 : Int32)), (.ref b1)])) (fun _ k => XS.bipush X63.here hx rfl (hb hby at_235) k) ?_
    refine own_go (g' := (mkF m 239 #[.val (.long q0), .second, .val (.int p1), .val (.int p2), .val (.int (3 : Int32)), .val (.int sb), .val (.ref b1)] [(.int (3 : Int32)), (.int (10 : Int32)), (.ref b1)])) (fun _ k => XS.iload X63.here hx rfl (hb hby at_237) rfl k) ?_
    refine own_go (g' := (mkF m 240 #[.val (.long q0), .second, .val (.int p1), .val (.int p2), .val (.int (3 : Int32)), .val (.int sb), .val (.ref b1)] [(.long q0), (.int (3 : Int32)), (.int (10 : Int32)), (.ref b1)])) (fun _ k => XS.lloadN X63.here hx rfl (hb hby at_239) rfl k) ?_
    refine own_go (g' := (mkF m 242 #[.val (.long q0), .second, .val (.int p1), .val (.int p2), .val (.int (3 : Int32)), .val (.int sb), .val (.ref b1)] [(.int sb), (.long q0), (.int (3 : Int32)), (.int (10 : Int32)), (.ref b1)])) (fun _ k => XS.iload X63.here hx rfl (hb hby at_240) rfl k) ?_
    obtain ⟨v64, T64, L64, hQ64, X64, st64⟩ := own_callS X63 hx hZ (y := (⟨"com/example/table_salt/tablesalt/layout/Int64WritePinLaw", "ok", "([BIIJB)Z"⟩ : MethodName)) hown (hw _ (List.mem_of_getElem? (i := 5) rfl)) (hw _ (List.mem_of_getElem? (i := 6) rfl)) (hw _ (List.mem_of_getElem? (i := 7) rfl)) (hw _ (List.mem_of_getElem? (i := 8) rfl)) ⟨by decide, by decide⟩ (argsL := [(.ref b1), (.int (10 : Int32)), (.int (3 : Int32)), (.long q0), (.int sb)]) (ok_i l Z a0 hw b1 (10 : Int32) (3 : Int32) q0 sb [(.int ((sb).toInt8.toInt32)), (.int ((sb).toInt8.toInt32)), (.int ((sb).toInt8.toInt32)), (.int (own_wb q0 (56 : Int32)).toInt8.toInt32), (.int (own_wb q0 (48 : Int32)).toInt8.toInt32), (.int (own_wb q0 (40 : Int32)).toInt8.toInt32), (.int (own_wb q0 (32 : Int32)).toInt8.toInt32), (.int (own_wb q0 (24 : Int32)).toInt8.toInt32), (.int (own_wb q0 (16 : Int32)).toInt8.toInt32), (.int (own_wb q0 (8 : Int32)).toInt8.toInt32), (.int (own_wb q0 (0 : Int32)).toInt8.toInt32), (.int ((sb).toInt8.toInt32))] k1 ((own_wb q0 (0 : Int32)).toInt8.toInt32) T53.heap q53_0 ⟨by decide, by decide⟩ rfl (by decide) (show (own_wb q0 (0 : Int32)).toInt8.toInt32 = own_exp q0 ((10 : Int32) - (3 : Int32)) from own_w0 q0)) e63 (g := (mkF m 242 #[.val (.long q0), .second, .val (.int p1), .val (.int p2), .val (.int (3 : Int32)), .val (.int sb), .val (.ref b1)] [(.int sb), (.long q0), (.int (3 : Int32)), (.int (10 : Int32)), (.ref b1)])) rfl (by rw [hml]; rfl) (rest := []) (lenOf pd0_1 rfl) rfl (hb hby at_242) (W := 0) (by show 2 * 0 + _ ≤ _; exact Nat.le_of_eq rfl) (by decide) (by decide) (by decide) (by decide)
    obtain ⟨rfl, e64, rfl⟩ := hQ64
    have N64 := Fr.app N63 (Fr.nil n0)
    refine own_go (g' := (mkF m 245 #[.val (.long q0), .second, .val (.int p1), .val (.int p2), .val (.int (3 : Int32)), .val (.int sb), .val (.ref b1)] [(.int (1 : Int32))])) (st64) ?_
    refine own_go (g' := (mkF m 248 #[.val (.long q0), .second, .val (.int p1), .val (.int p2), .val (.int (3 : Int32)), .val (.int sb), .val (.ref b1)] [])) (fun _ k => XS.ifNo X64.here hx rfl (hb hby at_245) rfl ((if0 _ _).trans (feq (by decide)).1) k) ?_
    refine own_go (g' := (mkF m 250 #[.val (.long q0), .second, .val (.int p1), .val (.int p2), .val (.int (3 : Int32)), .val (.int sb), .val (.ref b1)] [(.ref b1)])) (fun _ k => XS.aload X64.here hx rfl (hb hby at_248) rfl rfl k) ?_
    refine own_go (g' := (mkF m 252 #[.val (.long q0), .second, .val (.int p1), .val (.int p2), .val (.int (3 : Int32)), .val (.int sb), .val (.ref b1)] [(.int (11 : Int32)), (.ref b1)])) (fun _ k => XS.bipush X64.here hx rfl (hb hby at_250) k) ?_
    refine own_go (g' := (mkF m 254 #[.val (.long q0), .second, .val (.int p1), .val (.int p2), .val (.int (3 : Int32)), .val (.int sb), .val (.ref b1)] [(.int (3 : Int32)), (.int (11 : Int32)), (.ref b1)])) (fun _ k => XS.iload X64.here hx rfl (hb hby at_252) rfl k) ?_
    refine own_go (g' := (mkF m 255 #[.val (.long q0), .second, .val (.int p1), .val (.int p2), .val (.int (3 : Int32)), .val (.int sb), .val (.ref b1)] [(.long q0), (.int (3 : Int32)), (.int (11 : Int32)), (.ref b1)])) (fun _ k => XS.lloadN X64.here hx rfl (hb hby at_254) rfl k) ?_
    refine own_go (g' := (mkF m 257 #[.val (.long q0), .second, .val (.int p1), .val (.int p2), .val (.int (3 : Int32)), .val (.int sb), .val (.ref b1)] [(.int sb), (.long q0), (.int (3 : Int32)), (.int (11 : Int32)), (.ref b1)])) (fun _ k => XS.iload X64.here hx rfl (hb hby at_255) rfl k) ?_
    obtain ⟨v65, T65, L65, hQ65, X65, st65⟩ := own_callS X64 hx hZ (y := (⟨"com/example/table_salt/tablesalt/layout/Int64WritePinLaw", "ok", "([BIIJB)Z"⟩ : MethodName)) hown (hw _ (List.mem_of_getElem? (i := 5) rfl)) (hw _ (List.mem_of_getElem? (i := 6) rfl)) (hw _ (List.mem_of_getElem? (i := 7) rfl)) (hw _ (List.mem_of_getElem? (i := 8) rfl)) ⟨by decide, by decide⟩ (argsL := [(.ref b1), (.int (11 : Int32)), (.int (3 : Int32)), (.long q0), (.int sb)]) (ok_o l Z a0 hw b1 (11 : Int32) (3 : Int32) q0 sb [(.int ((sb).toInt8.toInt32)), (.int ((sb).toInt8.toInt32)), (.int ((sb).toInt8.toInt32)), (.int (own_wb q0 (56 : Int32)).toInt8.toInt32), (.int (own_wb q0 (48 : Int32)).toInt8.toInt32), (.int (own_wb q0 (40 : Int32)).toInt8.toInt32), (.int (own_wb q0 (32 : Int32)).toInt8.toInt32), (.int (own_wb q0 (24 : Int32)).toInt8.toInt32), (.int (own_wb q0 (16 : Int32)).toInt8.toInt32), (.int (own_wb q0 (8 : Int32)).toInt8.toInt32), (.int (own_wb q0 (0 : Int32)).toInt8.toInt32), (.int ((sb).toInt8.toInt32))] k1 (((sb).toInt8.toInt32)) T53.heap q53_0 ⟨by decide, by decide⟩ rfl (by decide) (by rw [hsb]; exact own_bb _)) e64 (g := (mkF m 257 #[.val (.long q0), .second, .val (.int p1), .val (.int p2), .val (.int (3 : Int32)), .val (.int sb), .val (.ref b1)] [(.int sb), (.long q0), (.int (3 : Int32)), (.int (11 : Int32)), (.ref b1)])) rfl (by rw [hml]; rfl) (rest := []) (lenOf pd0_1 rfl) rfl (hb hby at_257) (W := 0) (by show 2 * 0 + _ ≤ _; exact Nat.le_of_eq rfl) (by decide) (by decide) (by decide) (by decide)
    obtain ⟨rfl, e65, rfl⟩ := hQ65
    have N65 := Fr.app N64 (Fr.nil n0)
    refine own_go (g' := (mkF m 260 #[.val (.long q0), .second, .val (.int p1), .val (.int p2), .val (.int (3 : Int32)), .val (.int sb), .val (.ref b1)] [(.int (1 : Int32))])) (st65) ?_
    refine own_go (g' := (mkF m 263 #[.val (.long q0), .second, .val (.int p1), .val (.int p2), .val (.int (3 : Int32)), .val (.int sb), .val (.ref b1)] [])) (fun _ k => XS.ifNo X65.here hx rfl (hb hby at_260) rfl ((if0 _ _).trans (feq (by decide)).1) k) ?_
    refine own_go (g' := (mkF m 264 #[.val (.long q0), .second, .val (.int p1), .val (.int p2), .val (.int (3 : Int32)), .val (.int sb), .val (.ref b1)] [(.int (1 : Int32))])) (fun _ k => XS.iconst X65.here hx rfl (hb hby at_263) k) ?_
    refine own_go (g' := (mkF m 268 #[.val (.long q0), .second, .val (.int p1), .val (.int p2), .val (.int (3 : Int32)), .val (.int sb), .val (.ref b1)] [(.int (1 : Int32))])) (fun _ k => XS.goto X65.here hx rfl (pc0 := 264) (pc' := 268) rfl (hb hby at_264) (by decide) (by decide) k) ?_
    refine own_retN X65 hx .boolean Bd.returns Bd.notSynchronized (by simp) (hb hby at_268) (by decide) (by decide) ?_
    show QQ _ T65.heap _
    rw [e65]
    rw [← hQQ]
    exact ⟨rfl, N65⟩
set_option maxRecDepth 65536 in
set_option maxHeartbeats 40000000 in
theorem comes_1 {Post : Tables → Env → Array Value → State → Outcome → State → Prop} (hpost : ∀ tb e args s v u, (limb_1_1.after args s (.returned v) u = true ∧ limb_1_2.after args s (.returned v) u = true ∧ True) → FrameEnd s (.returned v) u (Jvm.fieldLocs frame_1_writes args s ++ Jvm.arrayLocs frame_1_arrays args s ++ Jvm.staticLocs frame_1_statics s) 16 128 → Post tb e args s (.returned v) u) :
    ArmFor flags0 classFile x code maxLocals ret World_1 tables_1 room_1 Calls_1 rest_1 Pre_1 Post := by
  intro l hfl _ _ p e ha hc hk s m args below hf hA hF happ hP
  obtain ⟨hcalls, hrest, hpre⟩ := hP
  obtain ⟨-, -, -, hnamed, -, -, -, hat⟩ := (Spec.applies_iff hf).mp happ
  obtain ⟨hg, hn⟩ := and_e (Cond.before_iff.mp (show (Jvm.Cond.and given_1 narrow_1).before args s = true from hpre))
  obtain ⟨g1, g2⟩ := and_e hg
  obtain ⟨g3, g4⟩ := and_e g2
  obtain ⟨g5, g6⟩ := and_e g4
  obtain ⟨w0, w1, w2, rfl⟩ : ∃ w0 w1 w2 : Value, args = #[w0, w1, w2] := by
    have hs : args.size = 3 := by simpa [Cond.value, given_1] using g1
    obtain ⟨L⟩ := args
    match L, hs with
    | [w0, w1, w2], _ => exact ⟨w0, w1, w2, rfl⟩
  have hw := fun d (hd : d ∈ tables_1) => atoms_spec (ws := Jvm.Cond.code x code maxLocals ret :: tables_1) hat d (List.mem_cons_of_mem _ hd)
  obtain ⟨i0, ei0⟩ := isL_v g3
  obtain rfl : w0 = (.long i0) := Option.some.inj ei0
  obtain ⟨i1, ei1⟩ := is_v g5
  obtain rfl : w1 = (.int i1) := Option.some.inj ei1
  obtain ⟨i2, ei2⟩ := is_v g6
  obtain rfl : w2 = (.int i2) := Option.some.inj ei2
  obtain ⟨n, o, h1, h2, h3, _, L, rfl, ⟨rfl, N⟩, hq⟩ := rm0 l s _ hw i0 i1 i2 s.heap s.heap.size (Nat.le_refl _) p e ha hc hk s m _ below hf ((Spec.applies_iff_loose hf).mp happ).1 ⟨rfl, State.Warmed39.refl s, rfl⟩ trivial
  refine ⟨n, _, h1, h2, h3, hpost _ _ _ _ _ _ ⟨Cond.after_iff.mpr rfl, Cond.after_iff.mpr (eq_i res_at (Term.int_eval (1)) rfl), trivial⟩ ⟨hq.1, hq.2.1, (hq.2.2.sift fun y hy => Or.inr (N y hy)).mono (by decide) (by decide)⟩⟩
theorem main_1_1 : Claimed_1_1 := comes_1 fun _ _ _ _ _ _ h hF => ⟨h.1, hF⟩
theorem main_1_2 : Claimed_1_2 := comes_1 fun _ _ _ _ _ _ h hF => ⟨h.2.1, hF⟩
end Jvm.Pilot.@@N@@
namespace Jvm.Pilot.@@N@@
open Jvm Jvm.ClassFile Sem Op Lib Jvm.Free Jvm.Stand Jvm.Pilot.@@N@@.Jvm.D
/-! MADE BY PROGRAM (witnessworld.py) out of the Statement's table words and the real class files: 9 classes; the members and pool entries that the words name. The judged class is class 1, her method 1. -/
namespace start1
open Jvm.ClassFile
def u (s : String) : CpInfo := .utf8 (stringToUtf16 s)
/-- a pool by its gaps: so many unusable entries, then the entry; so many at the end -/
def gap : Nat → List CpInfo → List CpInfo
  | 0, r => r
  | n + 1, r => .unusable :: gap n r
def poolList (es : List (Nat × CpInfo)) (last : Nat) : List CpInfo := es.foldr (fun e r => gap e.1 (e.2 :: r)) (gap last [])
def pool (es : List (Nat × CpInfo)) (last : Nat) : Array CpInfo := ⟨poolList es last⟩
def fileOf (pool : Array CpInfo) (this : Nat) (attrs : Array Attribute := #[]) (ms : Array MethodInfo := #[]) (fl : Nat := 33) (sup : Nat := 0) (ifs : Array Nat := #[]) (fds : Array FieldInfo := #[]) : ClassFile where
  minorVersion := 0
  majorVersion := 65
  constantPool := pool
  accessFlags := fl
  thisClass := this
  superClass := sup
  interfaces := ifs
  fields := fds
  methods := ms
  attributes := attrs
def plain (name : String) (sup : Option ClassId) : Class where
  name := name
  kind := .ordinary
  loader := none
  accessFlags := 33
  super := sup
  interfaces := #[]
  cf := none
  fields := #[]
  methods := #[]
  instanceTypes := #[]
  staticTypes := #[]
  resolved := #[]
  callSites := []
  init := .initialized
  statics := none
  mirror := none

def pool0 : Array CpInfo := pool [(5, u "<init>"), (0, u "()V"), (1, .class_ 10), (1, u "java/lang/Object")] 113

def k0m0 : Method := { name := "<init>", desc := "()V", sig := { parameters := [], returnType := none }, accessFlags := 1, code := none }
/-- java/lang/Object -/
def k0 : Class := { plain "java/lang/Object" none with
  accessFlags := 33
  interfaces := #[]
  cf := some (fileOf pool0 8 #[] #[{ accessFlags := 1, nameIndex := 5, descriptorIndex := 6, attributes := #[] }] 33 0 #[] #[])
  fields := #[]
  methods := #[k0m0]
  instanceTypes := #[]
  staticTypes := #[]
  resolved := Array.replicate 124 none
  statics := none }

def pool1 : Array CpInfo := pool [(2, .class_ 4), (1, u "java/lang/Object"), (0, u "<init>"), (0, u "()V"), (0, .methodref 8 9), (0, .class_ 10), (0, .nameAndType 11 12), (0, u "com/example/table_salt/tablesalt/layout/Int64"), (0, u "write"), (0, u "(J[BI)V"), (0, .methodref 14 15), (0, .class_ 16), (0, .nameAndType 17 18), (0, u "com/example/table_salt/tablesalt/layout/Int64WritePinLaw"), (0, u "ok"), (0, u "([BIIJB)Z"), (0, .methodref 14 20), (0, .nameAndType 21 22), (0, u "expected"), (0, u "(JI)B"), (2, u "law"), (0, u "(JII)Z")] 5

def k1m0 : Method := { name := "<init>", desc := "()V", sig := { parameters := [], returnType := none }, accessFlags := 2, code := none }
def k1c1 : Code := { maxStack := 6, maxLocals := 7, code := code, exceptionTable := #[], attributes := #[] }
def k1m1 : Method := { name := "law", desc := "(JII)Z", sig := { parameters := [.long, .int, .int], returnType := some .boolean }, accessFlags := 9, code := some k1c1 }
def k1c2 : Code := { maxStack := 3, maxLocals := 3, code := method_3_code, exceptionTable := #[], attributes := #[] }
def k1m2 : Method := { name := "expected", desc := "(JI)B", sig := { parameters := [.long, .int], returnType := some .byte }, accessFlags := 10, code := some k1c2 }
def k1c3 : Code := { maxStack := 5, maxLocals := 6, code := method_4_code, exceptionTable := #[], attributes := #[] }
def k1m3 : Method := { name := "ok", desc := "([BIIJB)Z", sig := { parameters := [(.array .byte), .int, .int, .long, .byte], returnType := some .boolean }, accessFlags := 10, code := some k1c3 }
/-- com/example/table_salt/tablesalt/layout/Int64WritePinLaw -/
def k1 : Class := { plain "com/example/table_salt/tablesalt/layout/Int64WritePinLaw" (some 0) with
  accessFlags := 49
  interfaces := #[]
  cf := some (fileOf pool1 14 #[] #[{ accessFlags := 2, nameIndex := 5, descriptorIndex := 6, attributes := #[] }, { accessFlags := 9, nameIndex := 25, descriptorIndex := 26, attributes := #[] }, { accessFlags := 10, nameIndex := 21, descriptorIndex := 22, attributes := #[] }, { accessFlags := 10, nameIndex := 17, descriptorIndex := 18, attributes := #[] }] 49 2 #[] #[])
  fields := #[]
  methods := #[k1m0, k1m1, k1m2, k1m3]
  instanceTypes := #[]
  staticTypes := #[]
  resolved := Array.replicate 32 none
  statics := none }

def pool2 : Array CpInfo := pool [(2, .class_ 4), (1, u "java/lang/Object"), (0, u "<init>"), (0, u "()V"), (0, .class_ 8), (0, u "com/example/table_salt/tablesalt/layout/Int64"), (4, u "write"), (0, u "(J[BI)V"), (0, u "WIDTH"), (0, u "I")] 11

def k2m0 : Method := { name := "<init>", desc := "()V", sig := { parameters := [], returnType := none }, accessFlags := 2, code := none }
def k2c1 : Code := { maxStack := 7, maxLocals := 5, code := prog_11_method_2_code, exceptionTable := #[], attributes := #[] }
def k2m1 : Method := { name := "write", desc := "(J[BI)V", sig := { parameters := [.long, (.array .byte), .int], returnType := none }, accessFlags := 8, code := some k2c1 }
/-- com/example/table_salt/tablesalt/layout/Int64 -/
def k2 : Class := { plain "com/example/table_salt/tablesalt/layout/Int64" (some 0) with
  accessFlags := 48
  interfaces := #[]
  cf := some (fileOf pool2 7 #[] #[{ accessFlags := 2, nameIndex := 5, descriptorIndex := 6, attributes := #[] }, { accessFlags := 8, nameIndex := 13, descriptorIndex := 14, attributes := #[] }] 48 2 #[] #[{ accessFlags := 24, nameIndex := 15, descriptorIndex := 16, attributes := #[] }])
  fields := #[{ name := "WIDTH", type := .int, accessFlags := 24, slot := 0, constantValue := 0 }]
  methods := #[k2m0, k2m1]
  instanceTypes := #[]
  staticTypes := #[.int]
  resolved := Array.replicate 28 none
  statics := none }

def pool3 : Array CpInfo := pool [(1, u "java/lang/Cloneable"), (0, .class_ 1), (0, u "java/lang/Object"), (0, .class_ 3)] 3

/-- java/lang/Cloneable -/
def k3 : Class := { plain "java/lang/Cloneable" (some 0) with
  accessFlags := 1537
  interfaces := #[]
  cf := some (fileOf pool3 2 #[] #[] 1537 4 #[] #[])
  fields := #[]
  methods := #[]
  instanceTypes := #[]
  staticTypes := #[]
  resolved := Array.replicate 8 none
  statics := none }

def pool4 : Array CpInfo := pool [(1, u "java/io/Serializable"), (0, .class_ 1), (0, u "java/lang/Object"), (0, .class_ 3)] 3

/-- java/io/Serializable -/
def k4 : Class := { plain "java/io/Serializable" (some 0) with
  accessFlags := 1537
  interfaces := #[]
  cf := some (fileOf pool4 2 #[] #[] 1537 4 #[] #[])
  fields := #[]
  methods := #[]
  instanceTypes := #[]
  staticTypes := #[]
  resolved := Array.replicate 8 none
  statics := none }

/-- the primitive byte -/
def k5 : Class := { plain "byte" none with kind := .primitive 'B', accessFlags := 0x411 }
/-- [B -/
def k6 : Class := { plain "[B" (some 0) with kind := .array 5 .byte, interfaces := #[3, 4], accessFlags := 1041 }

/-- the primitive int -/
def k7 : Class := { plain "int" none with kind := .primitive 'I', accessFlags := 0x411 }
/-- [I -/
def k8 : Class := { plain "[I" (some 0) with kind := .array 7 .int, interfaces := #[3, 4], accessFlags := 1041 }

def heap : Heap := #[]
def classes : Array Class := #[k0, k1, k2, k3, k4, k5, k6, k7, k8]
def interned : List (Array UInt16 × Addr) := []
def slotsUsed : Nat := 0
def theMethod : MethodId := ⟨1, 1⟩
def args0 : Array Value := #[.long 5, .int 7, .int 8]
def aboutOver (below : List Frame) : State where
  vm := { classes := classes, interned := interned.toArray }
  heap := heap
  slotsUsed := slotsUsed
  threads := #[{ frames := .invoking theMethod args0 :: below }]
def below0 : List Frame := [.native { method := ⟨0, 0⟩, args := #[] }]
def about1 : State := aboutOver below0
def p0 : Program := .bare "" "" ""
def e0 : Env := launch0.env 0 0 0
theorem w_frames : about1.frames = Frame.invoking theMethod args0 :: below0 := rfl
set_option maxRecDepth 65536 in
theorem w_args : argsFit about1.vm theMethod args0 = true := by decide +kernel
set_option maxRecDepth 65536 in
theorem w_heap : heapFits about1 = true := by decide +kernel
set_option maxRecDepth 65536 in
theorem w_runnable : about1.curStatus? = some .runnable := by decide +kernel
set_option maxRecDepth 65536 in
theorem w_alone : about1.alone = true := by decide +kernel
set_option maxRecDepth 65536 in
theorem w_named : about1.methodNamed? x = some theMethod := by decide +kernel
set_option maxRecDepth 65536 in
theorem w_hears : about1.hears theMethod below0 = true := by decide +kernel
set_option maxRecDepth 65536 in
theorem w_ripe : about1.ripe theMethod args0 below0 = true := by decide +kernel
theorem w_running : about1.status = .running := rfl
set_option maxRecDepth 65536 in
theorem w_room : about1.hasRoom e0.platform room_1 = true :=
  launch0.hasRoom_least _ room_1 (by decide +kernel) (by decide +kernel) (by decide +kernel) (by decide +kernel) (by decide +kernel) (by decide +kernel)
theorem allAtoms_all (ts : List Jvm.Cond) (a : Array Jvm.Value) (st : Jvm.State) : (allAtoms ts).before a st = ts.all (fun c => c.before a st) := by
  induction ts with
  | nil => rfl
  | cons c t ih =>
    show (Jvm.Cond.and c (allAtoms t)).before a st = _
    rw [Jvm.Cond.before_and, ih, List.all_cons]
def words1 : List Jvm.Cond := Jvm.Cond.code x code maxLocals ret :: tables_1
/-- a 'code' word, met by the world's own term for the bytes: nothing is compared byte by byte -/
theorem code_word {y : MethodName} {bytes : ByteArray} {mx : Nat} {rt : Option FieldType} {a : Array Value} {s : State} {m : MethodId} {meth : Method} {c : Code} (h1 : s.methodNamed? y = some m) (h2 : s.vm.method? m = some meth) (h3 : meth.code = some c) (h4 : c.code = bytes)
    (h5 : (c.maxLocals == mx && c.exceptionTable.isEmpty && decide (c.maxStack ≤ mostOperands) && decide (meth.sig.returnType = rt) && !meth.locks && decide (parseMethodDescriptor y.desc = some meth.sig)) = true) : (Jvm.Cond.code y bytes mx rt).before a s = true := by
  simp only [Bool.and_eq_true, beq_iff_eq, Bool.not_eq_true', decide_eq_true_eq] at h5
  obtain ⟨⟨⟨⟨⟨g1, g2⟩, g3⟩, g4⟩, g5⟩, g6⟩ := h5
  simp [Cond.before, Cond.holds, Cond.value, h1, h2, h3, h4, g1, g2, g3, g4, g5, g6]
def isCode : Jvm.Cond → Bool
  | .code _ _ _ _ => true
  | _ => false
theorem all_split {L : List Jvm.Cond} {P : Jvm.Cond → Bool} (h1 : L.all (fun c => isCode c || P c) = true) (h2 : ∀ c ∈ L.filter isCode, P c = true) : L.all P = true := by
  refine List.all_eq_true.mpr fun c hc => ?_
  have h := List.all_eq_true.mp h1 c hc
  rcases Bool.eq_false_or_eq_true (isCode c) with hi | hi
  · exact h2 c (List.mem_filter.mpr ⟨hc, hi⟩)
  · simpa [hi] using h
set_option maxRecDepth 65536 in
theorem w_c0 : (Jvm.Cond.code x code maxLocals ret).before args0 about1 = true := code_word (m := ⟨1, 1⟩) (meth := k1m1) (c := k1c1) (by decide +kernel) rfl rfl rfl (by decide +kernel)
set_option maxRecDepth 65536 in
theorem w_c1 : (Jvm.Cond.code ({ cls := "com/example/table_salt/tablesalt/layout/Int64", name := "write", desc := "(J[BI)V" } : Jvm.MethodName) prog_11_method_2_code (5 : Nat) (Option.none : Option Jvm.ClassFile.FieldType)).before args0 about1 = true := code_word (m := ⟨2, 1⟩) (meth := k2m1) (c := k2c1) (by decide +kernel) rfl rfl rfl (by decide +kernel)
set_option maxRecDepth 65536 in
theorem w_c2 : (Jvm.Cond.code ({ cls := "com/example/table_salt/tablesalt/layout/Int64WritePinLaw", name := "ok", desc := "([BIIJB)Z" } : Jvm.MethodName) method_4_code (6 : Nat) (Option.some Jvm.ClassFile.FieldType.boolean)).before args0 about1 = true := code_word (m := ⟨1, 3⟩) (meth := k1m3) (c := k1c3) (by decide +kernel) rfl rfl rfl (by decide +kernel)
set_option maxRecDepth 65536 in
theorem w_c3 : (Jvm.Cond.code ({ cls := "com/example/table_salt/tablesalt/layout/Int64WritePinLaw", name := "expected", desc := "(JI)B" } : Jvm.MethodName) method_3_code (3 : Nat) (Option.some Jvm.ClassFile.FieldType.byte)).before args0 about1 = true := code_word (m := ⟨1, 2⟩) (meth := k1m2) (c := k1c2) (by decide +kernel) rfl rfl rfl (by decide +kernel)
def codes1 : List Jvm.Cond := [Jvm.Cond.code x code maxLocals ret, Jvm.Cond.code ({ cls := "com/example/table_salt/tablesalt/layout/Int64", name := "write", desc := "(J[BI)V" } : Jvm.MethodName) prog_11_method_2_code (5 : Nat) (Option.none : Option Jvm.ClassFile.FieldType), Jvm.Cond.code ({ cls := "com/example/table_salt/tablesalt/layout/Int64WritePinLaw", name := "ok", desc := "([BIIJB)Z" } : Jvm.MethodName) method_4_code (6 : Nat) (Option.some Jvm.ClassFile.FieldType.boolean), Jvm.Cond.code ({ cls := "com/example/table_salt/tablesalt/layout/Int64WritePinLaw", name := "expected", desc := "(JI)B" } : Jvm.MethodName) method_3_code (3 : Nat) (Option.some Jvm.ClassFile.FieldType.byte)]
set_option maxRecDepth 65536 in
theorem codes_eq : words1.filter isCode = codes1 := rfl
theorem w_codes : ∀ c ∈ words1.filter isCode, c.before args0 about1 = true := by
  rw [codes_eq]
  intro c hc
  simp only [codes1, List.mem_cons, List.not_mem_nil, or_false] at hc
  rcases hc with rfl | rfl | rfl | rfl
  · exact w_c0
  · exact w_c1
  · exact w_c2
  · exact w_c3
set_option maxRecDepth 65536 in
theorem w_t1 : words1.all (fun c => isCode c || c.before args0 about1) = true := by decide +kernel
theorem w_tables : (allAtoms (Jvm.Cond.code x code maxLocals ret :: tables_1)).before args0 about1 = true := by
  rw [allAtoms_all]
  show words1.all (fun c => c.before args0 about1) = true
  refine all_split ?_ w_codes
  rw [w_t1]
set_option maxRecDepth 65536 in
theorem w_case : (Jvm.Cond.and given_1 narrow_1).before args0 about1 = true := by decide +kernel
theorem w_applies : (headSpec (Jvm.Cond.code x code maxLocals ret :: tables_1) room_1).applies x e0.platform about1 = true :=
  (Spec.applies_iff w_frames).mpr ⟨w_running, w_runnable, w_alone, w_named, w_hears, w_ripe, w_room, w_tables⟩
theorem atStart : AtStart classFile x code maxLocals ret World_1 tables_1 room_1 Calls_1 rest_1 Pre_1 launch0 p0 e0 about1 theMethod args0 below0 :=
  ⟨lists_1, trivial, launch0.admits_env _ _ _, launch0.least_env, fairChoices_fair.cas, fairChoices_fair.clock, w_frames, w_args, w_heap, w_applies, trivial, trivial, w_case⟩
end start1
theorem witness_1 : WitnessClaimed_1 := ⟨start1.p0, start1.e0, start1.about1, start1.theMethod, start1.args0, start1.below0, start1.atStart⟩
end Jvm.Pilot.@@N@@
