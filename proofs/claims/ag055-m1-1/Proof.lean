import JvmDerived
import JvmDerived.Pilot.@@N@@Statement
import JvmDerived.Pilot.@@N@@Code
set_option linter.unusedVariables false
set_option linter.unusedSimpArgs false
namespace Jvm.Pilot.@@N@@
open Jvm Jvm.ClassFile Sem Op Lib Jvm.Free Jvm.Stand Jvm.LawKit Jvm.RoadKit Bundle Jvm.Pilot.@@N@@.Jvm.D
/-! own_..: the walk in goal form: own_Go says that from a frame on the run comes to its end as the contract says; every step turns the goal for one frame into the goal for the next, so a branch is a case split and a join a 'have'. -/
def own_Post (s : State) (Q : Option Value → Heap → List Loc → Prop) (cs ss : Nat) (o : Outcome) (u : State) : Prop := ∃ v L, o = .returned v ∧ Q v u.heap L ∧ FrameEnd s o u L cs ss
def own_Go (p : Program) (e : Env) (below : List Frame) (Qf : Outcome → State → Prop) (T : State) (g : JFrame) : Prop := ∃ s₂ o, Steps p.tables e below (T.setTop g) s₂ ∧ s₂.status = .running ∧ Ended s₂ below o ∧ Qf o s₂
abbrev own_Met (l : Launch) (Z : State) (y : MethodName) (bytes : ByteArray) (maxL : Nat) (ret : Option FieldType) (ws : List Jvm.Cond) (rm : Room) (as' : Array Value) (h0 : Heap) (cs ss : Nat) (Q : Option Value → Heap → List Loc → Prop) : Prop :=
  MetFree l y (head1 (Jvm.Cond.code y bytes maxL ret :: ws) rm) (fun a U => a = as' ∧ Z.Warmed39 U.vm ∧ U.heap = h0) (fun _ _ _ _ _ => True) (fun _ U o U' => ∃ v L, o = .returned v ∧ Q v U'.heap L ∧ FrameEnd U o U' L cs ss)
def own_b (b : Bool) : Int32 := if b then 1 else 0
theorem own_b_t {b : Bool} (h : b = true) : own_b b = 1 := by subst h; rfl
theorem own_b_f {b : Bool} (h : ¬ b = true) : own_b b = 0 := by rw [Bool.eq_false_iff.mpr h]; rfl
theorem own_b_n {b : Bool} (h : b = true) : ¬ own_b b = 0 := by subst h; decide
theorem own_b_nar (b : Bool) : nar .boolean (own_b b) = own_b b := by cases b <;> rfl
theorem own_b_fits (b : Bool) : fits .boolean (.int (own_b b)) = true := by cases b <;> rfl
theorem own_b_inj {a b : Bool} (h : own_b a = own_b b) : a = b := by cases a <;> cases b <;> first | rfl | exact absurd h (by decide)
section Own
variable {p : Program} {l : Launch} {e : Env} {R : Room} {s : State} {m : MethodId} {args : Array Value} {below : List Frame} {meth : Method} {c : Code} {T T' : State} {locs : List Loc} {cells slots : Nat} {Z : State} {a0 : Array Value} {h : Heap}
theorem own_go {Qf : Outcome → State → Prop} {g g' : JFrame} (h : ∀ t, Steps p.tables e below (T'.setTop g') t → Steps p.tables e below (T.setTop g) t) (k : own_Go p e below Qf T' g') : own_Go p e below Qf T g := by
  obtain ⟨s₂, o, h1, h2⟩ := k
  exact ⟨s₂, o, h _ h1, h2⟩
theorem own_cast {Qf : Outcome → State → Prop} {g g' : JFrame} (q : g = g') (k : own_Go p e below Qf T g') : own_Go p e below Qf T g := q ▸ k
theorem own_met {y : MethodName} {bytes : ByteArray} {maxL : Nat} {ret : Option FieldType} {ws : List Jvm.Cond} {rm : Room} {as' : Array Value} {h0 : Heap} {cs ss : Nat} {Q : Option Value → Heap → List Loc → Prop} (hp : plainFor y = true)
    (body : ∀ (p : Program) (e : Env) (s : State) (m : MethodId) (below : List Frame) (meth : Method) (c : Code) (s₁ : State), BodyLoose p l y (head1 (Jvm.Cond.code y bytes maxL ret :: ws) rm) bytes maxL ret e s m as' below meth c s₁ → c.maxLocals = maxL → Z.Warmed39 s.vm →
      Stand p l e rm s m as' below meth c s₁ [] 0 0 → s₁.heap = h0 → own_Go p e below (own_Post s Q cs ss) s₁ (entryFrame m as' maxL)) : own_Met l Z y bytes maxL ret ws rm as' h0 cs ss Q := by
  refine MetFree.of_bodySF hp hisR ?_
  intro p e s m args below meth c s₁ Bd hml0 hP hK
  obtain ⟨rfl, hZ, hh⟩ := hP
  exact body p e s m below meth c s₁ Bd hml0 hZ (Stand.of_body Bd) (by rw [← hh, Bd.state]; rfl)
theorem own_retN (X : Stand p l e R s m args below meth c T locs cells slots) (hx : p.tables.exec = Jvm.exec) (t : FieldType) (hret : meth.sig.returnType = some t) (hlk : meth.locks = false) (ht : t = .boolean ∨ t = .byte ∨ t = .char ∨ t = .short) {pc : Nat} {Ls : Array Slot} {z : Int32} {rest : List Value} (hd : decode c.code pc = .ok (.ireturn, 1))
    {Q : Option Value → Heap → List Loc → Prop} {cs ss : Nat} (hc : cells ≤ cs) (hs : slots ≤ ss) (hQ : Q (some (.int (nar t z))) T.heap locs) : own_Go p e below (own_Post s Q cs ss) T (mkF m pc Ls (.int z :: rest)) := by
  obtain ⟨fs, hr, hrun, hended, hW, hsame⟩ := X.leave (v := some (.int (nar t z))) (fun h => by rw [hret] at h; cases h) hlk
  exact ⟨_, _, retN X hx hret ht hd hr, hrun, hended, _, _, rfl, hQ, ⟨_, rfl⟩, hW, hsame.mono hc hs⟩
theorem own_retI (X : Stand p l e R s m args below meth c T locs cells slots) (hx : p.tables.exec = Jvm.exec) (hret : meth.sig.returnType = some .int) (hlk : meth.locks = false) {pc : Nat} {Ls : Array Slot} {z : Int32} {rest : List Value} (hd : decode c.code pc = .ok (.ireturn, 1))
    {Q : Option Value → Heap → List Loc → Prop} {cs ss : Nat} (hc : cells ≤ cs) (hs : slots ≤ ss) (hQ : Q (some (.int z)) T.heap locs) : own_Go p e below (own_Post s Q cs ss) T (mkF m pc Ls (.int z :: rest)) := by
  obtain ⟨fs, hr, hrun, hended, hW, hsame⟩ := X.leave (v := some (.int z)) (fun h => by rw [hret] at h; cases h) hlk
  exact ⟨_, _, retOut X hx hret rfl (Or.inl ⟨rfl, Or.inl rfl, _, rfl⟩) hd hr, hrun, hended, _, _, rfl, hQ, ⟨_, rfl⟩, hW, hsame.mono hc hs⟩
theorem own_retJ (X : Stand p l e R s m args below meth c T locs cells slots) (hx : p.tables.exec = Jvm.exec) (hret : meth.sig.returnType = some .long) (hlk : meth.locks = false) {pc : Nat} {Ls : Array Slot} {z : Int64} {rest : List Value} (hd : decode c.code pc = .ok (.lreturn, 1))
    {Q : Option Value → Heap → List Loc → Prop} {cs ss : Nat} (hc : cells ≤ cs) (hs : slots ≤ ss) (hQ : Q (some (.long z)) T.heap locs) : own_Go p e below (own_Post s Q cs ss) T (mkF m pc Ls (.long z :: rest)) := by
  obtain ⟨fs, hr, hrun, hended, hW, hsame⟩ := X.leave (v := some (.long z)) (fun h => by rw [hret] at h; cases h) hlk
  exact ⟨_, _, retOut X hx hret rfl (Or.inr (Or.inl ⟨rfl, rfl, _, rfl⟩)) hd hr, hrun, hended, _, _, rfl, hQ, ⟨_, rfl⟩, hW, hsame.mono hc hs⟩
theorem own_retA (X : Stand p l e R s m args below meth c T locs cells slots) (hx : p.tables.exec = Jvm.exec) {t : FieldType} (hret : meth.sig.returnType = some t) (hlk : meth.locks = false) (ht : t.isReference = true) {pc : Nat} {Ls : Array Slot} {w : Value} {rest : List Value} (hw : w.isRef = true) (hd : decode c.code pc = .ok (.areturn, 1))
    {Q : Option Value → Heap → List Loc → Prop} {cs ss : Nat} (hc : cells ≤ cs) (hs : slots ≤ ss) (hQ : Q (some w) T.heap locs) : own_Go p e below (own_Post s Q cs ss) T (mkF m pc Ls (w :: rest)) := by
  obtain ⟨fs, hr, hrun, hended, hW, hsame⟩ := X.leave (v := some w) (fun h => by rw [hret] at h; cases h) hlk
  have hn : narrow t w = w := by rcases ref_cases hw with rfl | ⟨a, rfl⟩ <;> cases t <;> first | rfl | cases ht
  exact ⟨_, _, retOut X hx hret hn (Or.inr (Or.inr (Or.inr (Or.inr ⟨rfl, ht, hw⟩)))) hd hr, hrun, hended, _, _, rfl, hQ, ⟨_, rfl⟩, hW, hsame.mono hc hs⟩
theorem own_retV (X : Stand p l e R s m args below meth c T locs cells slots) (hx : p.tables.exec = Jvm.exec) (hret : meth.sig.returnType = none) (hlk : meth.locks = false) {pc : Nat} {Ls : Array Slot} (hd : decode c.code pc = .ok (.return_, 1))
    {Q : Option Value → Heap → List Loc → Prop} {cs ss : Nat} (hc : cells ≤ cs) (hs : slots ≤ ss) (hQ : Q none T.heap locs) : own_Go p e below (own_Post s Q cs ss) T (mkF m pc Ls []) := by
  obtain ⟨fs, hr, hrun, hended, hW, hsame⟩ := X.leave (v := none) (fun _ => rfl) hlk
  exact ⟨_, _, X.returnOut hx hret hd hr, hrun, hended, _, _, rfl, hQ, ⟨_, rfl⟩, hW, hsame.mono hc hs⟩
theorem own_callS (X : Stand p l e R s m args below meth c T locs cells slots) (hx : p.tables.exec = Jvm.exec) (hZ : Z.Warmed39 s.vm) {own : String} {index : Nat} {y : MethodName} {bytes : ByteArray} {maxL : Nat} {ret : Option FieldType} (hown : s.vm.findClass own = some m.cls)
    (w1 : (Jvm.Cond.methodLink own index y).before a0 Z = true) (w2 : (Jvm.Cond.static y).before a0 Z = true) (w3 : (Jvm.Cond.initialized y.cls).before a0 Z = true) (w4 : (Jvm.Cond.code y bytes maxL ret).before a0 Z = true)
    (hy : y.cls ≠ "java/lang/invoke/MethodHandle" ∧ y.cls ≠ "java/lang/invoke/VarHandle") {rm : Room} {argsL : List Value} {Q : Option Value → Heap → List Loc → Prop} (hM : own_Met l Z y bytes maxL ret [] rm argsL.toArray h rm.cells rm.slots Q) (eT : T.heap = h)
    {g : JFrame} (hg : g.method = m) (hsize : g.locals.size = c.maxLocals) {rest : List Value} (hlen : ∀ sig, parseMethodDescriptor y.desc = some sig → argsL.length = sig.parameters.length) (hstack : g.stack = argsL.reverse ++ rest)
    (hdg : decode c.code g.pc = .ok (.invokestatic index, 3)) {W : Nat} (hW : 2 * g.monitorRoom + (rest.map fun v => v.category).sum ≤ W) (hf : rm.frames + 1 ≤ R.frames) (hl : W + (maxL + 11) + rm.locals ≤ R.locals) (hc : cells + rm.cells ≤ R.cells) (hs : slots + rm.slots ≤ R.slots) :
    ∃ (v : Option Value) (T' : State) (L : List Loc), Q v T'.heap L ∧ Stand p l e R s m args below meth c T' (locs ++ L) (cells + rm.cells) (slots + rm.slots) ∧
      ∀ t, Steps p.tables e below (T'.setTop { g with pc := g.pc + 3, stack := v.toList ++ rest }) t → Steps p.tables e below (T.setTop g) t := by
  obtain ⟨v, _, ⟨T', L', k', n'⟩, -, X', ⟨L, hQ, l1, l2, l3⟩, st⟩ := Jvm.LawKit.callS X hx hown (mvT hZ w1) (mvT hZ w2) (mvT hZ w3) (mvT hZ w4) hy (backOf (W := W) hM hZ w4 w3 hf hl) hg hsize hlen hstack hW hdg (fun _ _ => ⟨rfl, eT, hc, hs⟩)
  dsimp only [Pt.U, Pt.locs, Pt.cells, Pt.slots] at X' l1 l2 l3 st hQ
  subst l1 l2 l3
  exact ⟨v, T', L, hQ, X', st⟩
theorem own_callI (X : Stand p l e R s m args below meth c T locs cells slots) (hx : p.tables.exec = Jvm.exec) (hZ : Z.Warmed39 s.vm) {own : String} {index : Nat} {y : MethodName} {bytes : ByteArray} {maxL : Nat} (hy1 : y.name = "<init>") (hown : s.vm.findClass own = some m.cls)
    (w1 : (Jvm.Cond.methodLink own index y).before a0 Z = true) (w2 : (Jvm.Cond.instanceMethod y).before a0 Z = true) (w3 : (Jvm.Cond.initialized y.cls).before a0 Z = true) (w4 : (Jvm.Cond.code y bytes maxL none).before a0 Z = true)
    (hy : y.cls ≠ "java/lang/invoke/MethodHandle" ∧ y.cls ≠ "java/lang/invoke/VarHandle") {rm : Room} {a : Addr} {argsL : List Value} {Q : Option Value → Heap → List Loc → Prop} (hM : own_Met l Z y bytes maxL none [] rm (.ref a :: argsL).toArray h rm.cells rm.slots Q) (eT : T.heap = h)
    {g : JFrame} (hg : g.method = m) (hsize : g.locals.size = c.maxLocals) {rest : List Value} (hlen : ∀ sig, parseMethodDescriptor y.desc = some sig → argsL.length = sig.parameters.length) (hstack : g.stack = argsL.reverse ++ .ref a :: rest)
    (hdg : decode c.code g.pc = .ok (.invokespecial index, 3)) {W : Nat} (hW : 2 * g.monitorRoom + (rest.map fun v => v.category).sum ≤ W) (hf : rm.frames + 1 ≤ R.frames) (hl : W + (maxL + 11) + rm.locals ≤ R.locals) (hc : cells + rm.cells ≤ R.cells) (hs : slots + rm.slots ≤ R.slots) :
    ∃ (v : Option Value) (T' : State) (L : List Loc), Q v T'.heap L ∧ Stand p l e R s m args below meth c T' (locs ++ L) (cells + rm.cells) (slots + rm.slots) ∧
      ∀ t, Steps p.tables e below (T'.setTop { g with pc := g.pc + 3, stack := v.toList ++ rest }) t → Steps p.tables e below (T.setTop g) t := by
  obtain ⟨v, _, ⟨T', L', k', n'⟩, -, X', ⟨L, hQ, l1, l2, l3⟩, st⟩ := X.specialBack hx hy1 hown (mvT hZ w1) (mvT hZ w2) (mvT hZ w4) hy (backOf (W := W) hM hZ w4 w3 hf hl) hg hsize (Steps.refl _) hlen hstack hW hdg (fun _ _ => ⟨rfl, eT, hc, hs⟩)
  dsimp only [Pt.U, Pt.locs, Pt.cells, Pt.slots] at X' l1 l2 l3 st hQ
  subst l1 l2 l3
  exact ⟨v, T', L, hQ, X', fun _ k => st.trans k⟩
theorem own_callV (X : Stand p l e R s m args below meth c T locs cells slots) (hx : p.tables.exec = Jvm.exec) (hZ : Z.Warmed39 s.vm) {own C : String} {index : Nat} {y z : MethodName} {bytes : ByteArray} {maxL : Nat} {ret : Option FieldType} (hown : s.vm.findClass own = some m.cls)
    (w1 : (Jvm.Cond.methodLink own index y).before a0 Z = true) (w2 : (Jvm.Cond.declares y).before a0 Z = true) (hnf : NotFace s y) (ws : (Jvm.Cond.selects C y z).before a0 Z = true) (wi : (Jvm.Cond.instanceMethod z).before a0 Z = true) (w3 : (Jvm.Cond.initialized z.cls).before a0 Z = true) (w4 : (Jvm.Cond.code z bytes maxL ret).before a0 Z = true)
    (hy : y.cls ≠ "java/lang/invoke/MethodHandle" ∧ y.cls ≠ "java/lang/invoke/VarHandle") {rm : Room} {a : Addr} {argsL : List Value} {Q : Option Value → Heap → List Loc → Prop} (hM : own_Met l Z z bytes maxL ret [] rm (.ref a :: argsL).toArray h rm.cells rm.slots Q) (eT : T.heap = h) (E : Exa Z h a C)
    {g : JFrame} (hg : g.method = m) (hsize : g.locals.size = c.maxLocals) {rest : List Value} (hlen : ∀ sig, parseMethodDescriptor y.desc = some sig → argsL.length = sig.parameters.length) (hstack : g.stack = argsL.reverse ++ .ref a :: rest)
    (hdg : decode c.code g.pc = .ok (.invokevirtual index, 3)) {W : Nat} (hW : 2 * g.monitorRoom + (rest.map fun v => v.category).sum ≤ W) (hf : rm.frames + 1 ≤ R.frames) (hl : W + (maxL + 11) + rm.locals ≤ R.locals) (hc : cells + rm.cells ≤ R.cells) (hs : slots + rm.slots ≤ R.slots) :
    ∃ (v : Option Value) (T' : State) (L : List Loc), Q v T'.heap L ∧ Stand p l e R s m args below meth c T' (locs ++ L) (cells + rm.cells) (slots + rm.slots) ∧
      ∀ t, Steps p.tables e below (T'.setTop { g with pc := g.pc + 3, stack := v.toList ++ rest }) t → Steps p.tables e below (T.setTop g) t := by
  obtain ⟨cq, kq, qa, qb, qc⟩ := isOf hZ eT E
  obtain ⟨v, _, ⟨T', L', k', n'⟩, -, X', ⟨L, hQ, l1, l2, l3⟩, st⟩ := X.virtualBack hx hown (mvT hZ w1) (mvT hZ w2) hnf (mvT hZ ws) (mvT hZ wi) hy (backOf (W := W) hM hZ w4 w3 hf hl) qa qc hg hsize (Steps.refl _) hlen hstack hW hdg (fun _ _ => ⟨rfl, eT, hc, hs⟩)
  dsimp only [Pt.U, Pt.locs, Pt.cells, Pt.slots] at X' l1 l2 l3 st hQ
  subst l1 l2 l3
  exact ⟨v, T', L, hQ, X', fun _ k => st.trans k⟩
theorem own_irem {g : JFrame} {target : State} (X : Stand p l e R s m args below meth c T locs cells slots) (hx : p.tables.exec = Jvm.exec) (hg : g.method = m) {x y : Int32} {rest : List Value} (hd : decode c.code g.pc = .ok (.irem, 1)) (hs : g.stack = .int y :: .int x :: rest) (hy : y ≠ 0)
    (hr : Steps p.tables e below (T.setTop { g with pc := g.pc + 1, stack := .int (x % y) :: rest }) target) : Steps p.tables e below (T.setTop g) target := iremM X hx hg hd hs hy hr
theorem own_lrem {g : JFrame} {target : State} (X : Stand p l e R s m args below meth c T locs cells slots) (hx : p.tables.exec = Jvm.exec) (hg : g.method = m) {x y : Int64} {rest : List Value} (hd : decode c.code g.pc = .ok (.lrem, 1)) (hs : g.stack = .long y :: .long x :: rest) (hy : y ≠ 0)
    (hr : Steps p.tables e below (T.setTop { g with pc := g.pc + 1, stack := .long (x % y) :: rest }) target) : Steps p.tables e below (T.setTop g) target :=
  XS.lrem X.here hx hg hd hs hy (by rw [lrem_mod]; exact hr)
theorem own_fldJ {t : Term} {C n d : String} {a : Addr} {z : Int64} (ht : t.eval args s none [] s = some (.ref a)) (q : (Jvm.Cond.eq (.field t C n d) (.long z)).value args s none s [] = some true) : Fld s s.heap a C n d (.long z) := by
  obtain ⟨x, y, ha, hb, -, k2⟩ := cmp_v (Or.inl q)
  obtain rfl : y = .long z := Option.some.inj (hb.symm.trans (long_at z))
  obtain ⟨w, rfl⟩ := k2
  have e : w = z := gotT (eq_L ha hb) q
  subst e
  exact Fld.start ((fld_at ht).symm.trans ha)
theorem own_ns_exa {a : Addr} {C : String} (E : Exa Z h a C) : ∃ c : Cell, h[a]? = some c ∧ c.vm.isStatics = false := by
  obtain ⟨c, k, h1, -, -, h4, -⟩ := E
  exact ⟨c, h1, h4⟩
theorem own_ns_arv {a : Addr} {k : ClassId} {ty : FieldType} {z : Int32} {vs : List Value} {dv : Value} (F : Arv Z h a k ty z vs dv) : ∃ c : Cell, h[a]? = some c ∧ c.vm.isStatics = false := by
  obtain ⟨c, A, -⟩ := F
  exact ⟨c, A.1, A.plain⟩
theorem own_sta_keep {h' : Heap} {C n d : String} {w : Value} {ws : List Addr} (F : Sta Z h C n d w) (K : Keep h h' ws) (hn : ∀ x ∈ ws, ∃ c : Cell, h[x]? = some c ∧ c.vm.isStatics = false) : Sta Z h' C n d w := by
  obtain ⟨cf, i, k, f, st, cell, h1, h2, h3, h4, h5, h6, h7⟩ := F
  exact ⟨cf, i, k, f, st, cell, h1, h2, h3, h4, K.2.1 st cell h5 (fun q => by obtain ⟨c, e1, e2⟩ := hn st q; cases h5.symm.trans e1; rw [e2] at h6; cases h6), h6, h7⟩
end Own
def own_mix (k : Int64) : Int64 := k ^^^ ((k.toUInt64 >>> ((33 : Int32) &&& 0x3f).toInt64.toUInt64).toInt64)
def own_nt (c x : Int64) : Int64 := x * (2 - c * x)
def own_inv (c : Int64) : Int64 := own_nt c (own_nt c (own_nt c (own_nt c (own_nt c c))))
def own_fmix (k : Int64) : Int64 := own_mix (own_mix (own_mix k * (-49064778989728563 : Int64)) * (-4265267296055464877 : Int64))
def own_unmix (k : Int64) : Int64 := own_mix (own_mix (own_mix k * own_inv (-4265267296055464877 : Int64)) * own_inv (-49064778989728563 : Int64))
theorem own_mix_bv (k : Int64) : (own_mix k).toBitVec = k.toBitVec ^^^ (k.toBitVec >>> 33) := by
  simp [own_mix]
theorem own_mix_mix (k : Int64) : own_mix (own_mix k) = k := by
  apply Int64.toBitVec_inj.mp
  rw [own_mix_bv, own_mix_bv]
  generalize k.toBitVec = x
  have h : (x >>> 33) >>> 33 = 0#64 := by rw [← BitVec.shiftRight_add]; exact BitVec.ushiftRight_eq_zero (by decide)
  rw [BitVec.ushiftRight_xor_distrib, h, BitVec.xor_zero, BitVec.xor_assoc, BitVec.xor_self, BitVec.xor_zero]
theorem own_c1 : (-49064778989728563 : Int64) * own_inv (-49064778989728563 : Int64) = 1 := by decide +kernel
theorem own_c2 : (-4265267296055464877 : Int64) * own_inv (-4265267296055464877 : Int64) = 1 := by decide +kernel
theorem own_un_f (k : Int64) : own_unmix (own_fmix k) = k := by
  unfold own_unmix own_fmix
  rw [own_mix_mix, Int64.mul_assoc, own_c2, Int64.mul_one, own_mix_mix, Int64.mul_assoc, own_c1, Int64.mul_one, own_mix_mix]
theorem own_f_un (k : Int64) : own_fmix (own_unmix k) = k := by
  unfold own_unmix own_fmix
  rw [own_mix_mix, Int64.mul_assoc, Int64.mul_comm (own_inv (-49064778989728563 : Int64)), own_c1, Int64.mul_one, own_mix_mix, Int64.mul_assoc, Int64.mul_comm (own_inv (-4265267296055464877 : Int64)), own_c2, Int64.mul_one, own_mix_mix]
theorem own_f0 : own_fmix 0 = 0 := by decide +kernel
theorem d2_0 : decode method_2_code 0 = .ok (.lload_n 0, 1) := by decide +kernel
theorem d2_1 : decode method_2_code 1 = .ok (.lstore_n 2, 1) := by decide +kernel
theorem d2_2 : decode method_2_code 2 = .ok (.lload_n 2, 1) := by decide +kernel
theorem d2_3 : decode method_2_code 3 = .ok (.ldc2_w 7, 3) := by decide +kernel
theorem d2_6 : decode method_2_code 6 = .ok (.lload_n 0, 1) := by decide +kernel
theorem d2_7 : decode method_2_code 7 = .ok (.lload_n 2, 1) := by decide +kernel
theorem d2_8 : decode method_2_code 8 = .ok (.lmul, 1) := by decide +kernel
theorem d2_9 : decode method_2_code 9 = .ok (.lsub, 1) := by decide +kernel
theorem d2_10 : decode method_2_code 10 = .ok (.lmul, 1) := by decide +kernel
theorem d2_11 : decode method_2_code 11 = .ok (.lstore_n 2, 1) := by decide +kernel
theorem d2_12 : decode method_2_code 12 = .ok (.lload_n 2, 1) := by decide +kernel
theorem d2_13 : decode method_2_code 13 = .ok (.ldc2_w 7, 3) := by decide +kernel
theorem d2_16 : decode method_2_code 16 = .ok (.lload_n 0, 1) := by decide +kernel
theorem d2_17 : decode method_2_code 17 = .ok (.lload_n 2, 1) := by decide +kernel
theorem d2_18 : decode method_2_code 18 = .ok (.lmul, 1) := by decide +kernel
theorem d2_19 : decode method_2_code 19 = .ok (.lsub, 1) := by decide +kernel
theorem d2_20 : decode method_2_code 20 = .ok (.lmul, 1) := by decide +kernel
theorem d2_21 : decode method_2_code 21 = .ok (.lstore_n 2, 1) := by decide +kernel
theorem d2_22 : decode method_2_code 22 = .ok (.lload_n 2, 1) := by decide +kernel
theorem d2_23 : decode method_2_code 23 = .ok (.ldc2_w 7, 3) := by decide +kernel
theorem d2_26 : decode method_2_code 26 = .ok (.lload_n 0, 1) := by decide +kernel
theorem d2_27 : decode method_2_code 27 = .ok (.lload_n 2, 1) := by decide +kernel
theorem d2_28 : decode method_2_code 28 = .ok (.lmul, 1) := by decide +kernel
theorem d2_29 : decode method_2_code 29 = .ok (.lsub, 1) := by decide +kernel
theorem d2_30 : decode method_2_code 30 = .ok (.lmul, 1) := by decide +kernel
theorem d2_31 : decode method_2_code 31 = .ok (.lstore_n 2, 1) := by decide +kernel
theorem d2_32 : decode method_2_code 32 = .ok (.lload_n 2, 1) := by decide +kernel
theorem d2_33 : decode method_2_code 33 = .ok (.ldc2_w 7, 3) := by decide +kernel
theorem d2_36 : decode method_2_code 36 = .ok (.lload_n 0, 1) := by decide +kernel
theorem d2_37 : decode method_2_code 37 = .ok (.lload_n 2, 1) := by decide +kernel
theorem d2_38 : decode method_2_code 38 = .ok (.lmul, 1) := by decide +kernel
theorem d2_39 : decode method_2_code 39 = .ok (.lsub, 1) := by decide +kernel
theorem d2_40 : decode method_2_code 40 = .ok (.lmul, 1) := by decide +kernel
theorem d2_41 : decode method_2_code 41 = .ok (.lstore_n 2, 1) := by decide +kernel
theorem d2_42 : decode method_2_code 42 = .ok (.lload_n 2, 1) := by decide +kernel
theorem d2_43 : decode method_2_code 43 = .ok (.ldc2_w 7, 3) := by decide +kernel
theorem d2_46 : decode method_2_code 46 = .ok (.lload_n 0, 1) := by decide +kernel
theorem d2_47 : decode method_2_code 47 = .ok (.lload_n 2, 1) := by decide +kernel
theorem d2_48 : decode method_2_code 48 = .ok (.lmul, 1) := by decide +kernel
theorem d2_49 : decode method_2_code 49 = .ok (.lsub, 1) := by decide +kernel
theorem d2_50 : decode method_2_code 50 = .ok (.lmul, 1) := by decide +kernel
theorem d2_51 : decode method_2_code 51 = .ok (.lstore_n 2, 1) := by decide +kernel
theorem d2_52 : decode method_2_code 52 = .ok (.lload_n 2, 1) := by decide +kernel
theorem d2_53 : decode method_2_code 53 = .ok (.lreturn, 1) := by decide +kernel
theorem pn_rm2 : plainName "com/example/gist_sketch/gistsketch/hash/MurmurHash3Fmix64PinLaw" = true := by first | (simp [plainName, overriddenIn]; done) | decide +kernel
theorem ef_rm2 (m : MethodId) (q0 : Int64) : entryFrame m #[(.long q0)] 4 = mkF m 0 #[.val (.long q0), .second, .unset, .unset] [] := by first | (simp [entryFrame, mkF, argsToLocals, Value.category]; done) | rfl
set_option maxRecDepth 65536 in
set_option maxHeartbeats 40000000 in
theorem rm2 (l : Launch) (Z : State) (a0 : Array Value) (hw : ∀ d ∈ tables_1, d.before a0 Z = true) (q0 : Int64)  (h0 : Heap) :
    own_Met l Z (⟨"com/example/gist_sketch/gistsketch/hash/MurmurHash3Fmix64PinLaw", "inverseOdd", "(J)J"⟩ : MethodName) method_2_code 4 (some .long) [] ({ frames := 0, cells := 0, slots := 0, locals := 0 } : Room) #[(.long q0)] h0 0 0 (fun v h L => v = some (.long (own_inv q0)) ∧ h = h0 ∧ L = []) := by
  refine own_met (plainFor_of_name pn_rm2) ?_
  intro p e s m below meth c s₁ Bd hml0 hZ X0 e0
  have hx := Bd.exec
  have hby := Bd.bytes
  have hml : c.maxLocals = 4 := hml0
  have hown : s.vm.findClass "com/example/gist_sketch/gistsketch/hash/MurmurHash3Fmix64PinLaw" = some m.cls := findClass_of_methodNamed Bd.named
  have hnm := (name_of_methodNamed Bd.named Bd.method).1
  refine own_cast (ef_rm2 m q0) ?_
  generalize hQQ : (fun (v : Option Value) (h : Heap) (L : List Loc) => v = some (.long (own_inv q0)) ∧ h = h0 ∧ L = []) = QQ
  refine own_go (g' := (mkF m 1 #[.val (.long q0), .second, .unset, .unset] [(.long q0)])) (fun _ k => XS.lloadN X0.here hx rfl (hb hby d2_0) rfl k) ?_
  refine own_go (g' := (mkF m 2 #[.val (.long q0), .second, .val (.long q0), .second] [])) (fun _ k => XS.lstoreN X0.here hx rfl (hb hby d2_1) rfl (l' := #[.val (.long q0), .second, .val (.long q0), .second]) rfl k) ?_
  refine own_go (g' := (mkF m 3 #[.val (.long q0), .second, .val (.long q0), .second] [(.long q0)])) (fun _ k => XS.lloadN X0.here hx rfl (hb hby d2_2) rfl k) ?_
  refine own_go (g' := (mkF m 6 #[.val (.long q0), .second, .val (.long q0), .second] [(.long (2 : Int64)), (.long q0)])) (X0.ldc2Long hx hown (mvT hZ (hw _ (List.mem_of_getElem? (i := 8) rfl))) (g := (mkF m 3 #[.val (.long q0), .second, .val (.long q0), .second] [(.long q0)])) rfl (hb hby d2_3)) ?_
  refine own_go (g' := (mkF m 7 #[.val (.long q0), .second, .val (.long q0), .second] [(.long q0), (.long (2 : Int64)), (.long q0)])) (fun _ k => XS.lloadN X0.here hx rfl (hb hby d2_6) rfl k) ?_
  refine own_go (g' := (mkF m 8 #[.val (.long q0), .second, .val (.long q0), .second] [(.long q0), (.long q0), (.long (2 : Int64)), (.long q0)])) (fun _ k => XS.lloadN X0.here hx rfl (hb hby d2_7) rfl k) ?_
  refine own_go (g' := (mkF m 9 #[.val (.long q0), .second, .val (.long q0), .second] [(.long (q0 * q0)), (.long (2 : Int64)), (.long q0)])) (fun _ k => XS.lmul X0.here hx rfl (hb hby d2_8) rfl k) ?_
  refine own_go (g' := (mkF m 10 #[.val (.long q0), .second, .val (.long q0), .second] [(.long ((2 : Int64) - (q0 * q0))), (.long q0)])) (fun _ k => XS.lsub X0.here hx rfl (hb hby d2_9) rfl k) ?_
  refine own_go (g' := (mkF m 11 #[.val (.long q0), .second, .val (.long q0), .second] [(.long (q0 * ((2 : Int64) - (q0 * q0))))])) (fun _ k => XS.lmul X0.here hx rfl (hb hby d2_10) rfl k) ?_
  suffices JNhx1 : ∀ x1 : Int64, x1 = own_nt q0 q0 → own_Go p e below (own_Post s QQ 0 0) s₁ (mkF m 11 #[.val (.long q0), .second, .val (.long q0), .second] [(.long x1)]) from JNhx1 _ (rfl)
  intro x1 hx1
  refine own_go (g' := (mkF m 12 #[.val (.long q0), .second, .val (.long x1), .second] [])) (fun _ k => XS.lstoreN X0.here hx rfl (hb hby d2_11) rfl (l' := #[.val (.long q0), .second, .val (.long x1), .second]) rfl k) ?_
  refine own_go (g' := (mkF m 13 #[.val (.long q0), .second, .val (.long x1), .second] [(.long x1)])) (fun _ k => XS.lloadN X0.here hx rfl (hb hby d2_12) rfl k) ?_
  refine own_go (g' := (mkF m 16 #[.val (.long q0), .second, .val (.long x1), .second] [(.long (2 : Int64)), (.long x1)])) (X0.ldc2Long hx hown (mvT hZ (hw _ (List.mem_of_getElem? (i := 8) rfl))) (g := (mkF m 13 #[.val (.long q0), .second, .val (.long x1), .second] [(.long x1)])) rfl (hb hby d2_13)) ?_
  refine own_go (g' := (mkF m 17 #[.val (.long q0), .second, .val (.long x1), .second] [(.long q0), (.long (2 : Int64)), (.long x1)])) (fun _ k => XS.lloadN X0.here hx rfl (hb hby d2_16) rfl k) ?_
  refine own_go (g' := (mkF m 18 #[.val (.long q0), .second, .val (.long x1), .second] [(.long x1), (.long q0), (.long (2 : Int64)), (.long x1)])) (fun _ k => XS.lloadN X0.here hx rfl (hb hby d2_17) rfl k) ?_
  refine own_go (g' := (mkF m 19 #[.val (.long q0), .second, .val (.long x1), .second] [(.long (q0 * x1)), (.long (2 : Int64)), (.long x1)])) (fun _ k => XS.lmul X0.here hx rfl (hb hby d2_18) rfl k) ?_
  refine own_go (g' := (mkF m 20 #[.val (.long q0), .second, .val (.long x1), .second] [(.long ((2 : Int64) - (q0 * x1))), (.long x1)])) (fun _ k => XS.lsub X0.here hx rfl (hb hby d2_19) rfl k) ?_
  refine own_go (g' := (mkF m 21 #[.val (.long q0), .second, .val (.long x1), .second] [(.long (x1 * ((2 : Int64) - (q0 * x1))))])) (fun _ k => XS.lmul X0.here hx rfl (hb hby d2_20) rfl k) ?_
  suffices JNhx2 : ∀ x2 : Int64, x2 = own_nt q0 x1 → own_Go p e below (own_Post s QQ 0 0) s₁ (mkF m 21 #[.val (.long q0), .second, .val (.long x1), .second] [(.long x2)]) from JNhx2 _ (rfl)
  intro x2 hx2
  refine own_go (g' := (mkF m 22 #[.val (.long q0), .second, .val (.long x2), .second] [])) (fun _ k => XS.lstoreN X0.here hx rfl (hb hby d2_21) rfl (l' := #[.val (.long q0), .second, .val (.long x2), .second]) rfl k) ?_
  refine own_go (g' := (mkF m 23 #[.val (.long q0), .second, .val (.long x2), .second] [(.long x2)])) (fun _ k => XS.lloadN X0.here hx rfl (hb hby d2_22) rfl k) ?_
  refine own_go (g' := (mkF m 26 #[.val (.long q0), .second, .val (.long x2), .second] [(.long (2 : Int64)), (.long x2)])) (X0.ldc2Long hx hown (mvT hZ (hw _ (List.mem_of_getElem? (i := 8) rfl))) (g := (mkF m 23 #[.val (.long q0), .second, .val (.long x2), .second] [(.long x2)])) rfl (hb hby d2_23)) ?_
  refine own_go (g' := (mkF m 27 #[.val (.long q0), .second, .val (.long x2), .second] [(.long q0), (.long (2 : Int64)), (.long x2)])) (fun _ k => XS.lloadN X0.here hx rfl (hb hby d2_26) rfl k) ?_
  refine own_go (g' := (mkF m 28 #[.val (.long q0), .second, .val (.long x2), .second] [(.long x2), (.long q0), (.long (2 : Int64)), (.long x2)])) (fun _ k => XS.lloadN X0.here hx rfl (hb hby d2_27) rfl k) ?_
  refine own_go (g' := (mkF m 29 #[.val (.long q0), .second, .val (.long x2), .second] [(.long (q0 * x2)), (.long (2 : Int64)), (.long x2)])) (fun _ k => XS.lmul X0.here hx rfl (hb hby d2_28) rfl k) ?_
  refine own_go (g' := (mkF m 30 #[.val (.long q0), .second, .val (.long x2), .second] [(.long ((2 : Int64) - (q0 * x2))), (.long x2)])) (fun _ k => XS.lsub X0.here hx rfl (hb hby d2_29) rfl k) ?_
  refine own_go (g' := (mkF m 31 #[.val (.long q0), .second, .val (.long x2), .second] [(.long (x2 * ((2 : Int64) - (q0 * x2))))])) (fun _ k => XS.lmul X0.here hx rfl (hb hby d2_30) rfl k) ?_
  suffices JNhx3 : ∀ x3 : Int64, x3 = own_nt q0 x2 → own_Go p e below (own_Post s QQ 0 0) s₁ (mkF m 31 #[.val (.long q0), .second, .val (.long x2), .second] [(.long x3)]) from JNhx3 _ (rfl)
  intro x3 hx3
  refine own_go (g' := (mkF m 32 #[.val (.long q0), .second, .val (.long x3), .second] [])) (fun _ k => XS.lstoreN X0.here hx rfl (hb hby d2_31) rfl (l' := #[.val (.long q0), .second, .val (.long x3), .second]) rfl k) ?_
  refine own_go (g' := (mkF m 33 #[.val (.long q0), .second, .val (.long x3), .second] [(.long x3)])) (fun _ k => XS.lloadN X0.here hx rfl (hb hby d2_32) rfl k) ?_
  refine own_go (g' := (mkF m 36 #[.val (.long q0), .second, .val (.long x3), .second] [(.long (2 : Int64)), (.long x3)])) (X0.ldc2Long hx hown (mvT hZ (hw _ (List.mem_of_getElem? (i := 8) rfl))) (g := (mkF m 33 #[.val (.long q0), .second, .val (.long x3), .second] [(.long x3)])) rfl (hb hby d2_33)) ?_
  refine own_go (g' := (mkF m 37 #[.val (.long q0), .second, .val (.long x3), .second] [(.long q0), (.long (2 : Int64)), (.long x3)])) (fun _ k => XS.lloadN X0.here hx rfl (hb hby d2_36) rfl k) ?_
  refine own_go (g' := (mkF m 38 #[.val (.long q0), .second, .val (.long x3), .second] [(.long x3), (.long q0), (.long (2 : Int64)), (.long x3)])) (fun _ k => XS.lloadN X0.here hx rfl (hb hby d2_37) rfl k) ?_
  refine own_go (g' := (mkF m 39 #[.val (.long q0), .second, .val (.long x3), .second] [(.long (q0 * x3)), (.long (2 : Int64)), (.long x3)])) (fun _ k => XS.lmul X0.here hx rfl (hb hby d2_38) rfl k) ?_
  refine own_go (g' := (mkF m 40 #[.val (.long q0), .second, .val (.long x3), .second] [(.long ((2 : Int64) - (q0 * x3))), (.long x3)])) (fun _ k => XS.lsub X0.here hx rfl (hb hby d2_39) rfl k) ?_
  refine own_go (g' := (mkF m 41 #[.val (.long q0), .second, .val (.long x3), .second] [(.long (x3 * ((2 : Int64) - (q0 * x3))))])) (fun _ k => XS.lmul X0.here hx rfl (hb hby d2_40) rfl k) ?_
  suffices JNhx4 : ∀ x4 : Int64, x4 = own_nt q0 x3 → own_Go p e below (own_Post s QQ 0 0) s₁ (mkF m 41 #[.val (.long q0), .second, .val (.long x3), .second] [(.long x4)]) from JNhx4 _ (rfl)
  intro x4 hx4
  refine own_go (g' := (mkF m 42 #[.val (.long q0), .second, .val (.long x4), .second] [])) (fun _ k => XS.lstoreN X0.here hx rfl (hb hby d2_41) rfl (l' := #[.val (.long q0), .second, .val (.long x4), .second]) rfl k) ?_
  refine own_go (g' := (mkF m 43 #[.val (.long q0), .second, .val (.long x4), .second] [(.long x4)])) (fun _ k => XS.lloadN X0.here hx rfl (hb hby d2_42) rfl k) ?_
  refine own_go (g' := (mkF m 46 #[.val (.long q0), .second, .val (.long x4), .second] [(.long (2 : Int64)), (.long x4)])) (X0.ldc2Long hx hown (mvT hZ (hw _ (List.mem_of_getElem? (i := 8) rfl))) (g := (mkF m 43 #[.val (.long q0), .second, .val (.long x4), .second] [(.long x4)])) rfl (hb hby d2_43)) ?_
  refine own_go (g' := (mkF m 47 #[.val (.long q0), .second, .val (.long x4), .second] [(.long q0), (.long (2 : Int64)), (.long x4)])) (fun _ k => XS.lloadN X0.here hx rfl (hb hby d2_46) rfl k) ?_
  refine own_go (g' := (mkF m 48 #[.val (.long q0), .second, .val (.long x4), .second] [(.long x4), (.long q0), (.long (2 : Int64)), (.long x4)])) (fun _ k => XS.lloadN X0.here hx rfl (hb hby d2_47) rfl k) ?_
  refine own_go (g' := (mkF m 49 #[.val (.long q0), .second, .val (.long x4), .second] [(.long (q0 * x4)), (.long (2 : Int64)), (.long x4)])) (fun _ k => XS.lmul X0.here hx rfl (hb hby d2_48) rfl k) ?_
  refine own_go (g' := (mkF m 50 #[.val (.long q0), .second, .val (.long x4), .second] [(.long ((2 : Int64) - (q0 * x4))), (.long x4)])) (fun _ k => XS.lsub X0.here hx rfl (hb hby d2_49) rfl k) ?_
  refine own_go (g' := (mkF m 51 #[.val (.long q0), .second, .val (.long x4), .second] [(.long (x4 * ((2 : Int64) - (q0 * x4))))])) (fun _ k => XS.lmul X0.here hx rfl (hb hby d2_50) rfl k) ?_
  suffices JNhx5 : ∀ x5 : Int64, x5 = own_nt q0 x4 → own_Go p e below (own_Post s QQ 0 0) s₁ (mkF m 51 #[.val (.long q0), .second, .val (.long x4), .second] [(.long x5)]) from JNhx5 _ (rfl)
  intro x5 hx5
  refine own_go (g' := (mkF m 52 #[.val (.long q0), .second, .val (.long x5), .second] [])) (fun _ k => XS.lstoreN X0.here hx rfl (hb hby d2_51) rfl (l' := #[.val (.long q0), .second, .val (.long x5), .second]) rfl k) ?_
  refine own_go (g' := (mkF m 53 #[.val (.long q0), .second, .val (.long x5), .second] [(.long x5)])) (fun _ k => XS.lloadN X0.here hx rfl (hb hby d2_52) rfl k) ?_
  refine own_retJ X0 hx Bd.returns Bd.notSynchronized (hb hby d2_53) (by decide) (by decide) ?_
  show QQ _ s₁.heap _
  rw [e0]
  subst hx5 hx4 hx3 hx2 hx1
  rw [← hQQ]
  exact ⟨rfl, rfl, rfl⟩
theorem d3_0 : decode prog_43_method_8_code 0 = .ok (.lload_n 0, 1) := by decide +kernel
theorem d3_1 : decode prog_43_method_8_code 1 = .ok (.lstore_n 2, 1) := by decide +kernel
theorem d3_2 : decode prog_43_method_8_code 2 = .ok (.lload_n 2, 1) := by decide +kernel
theorem d3_3 : decode prog_43_method_8_code 3 = .ok (.lload_n 2, 1) := by decide +kernel
theorem d3_4 : decode prog_43_method_8_code 4 = .ok (.bipush 33, 2) := by decide +kernel
theorem d3_6 : decode prog_43_method_8_code 6 = .ok (.lushr, 1) := by decide +kernel
theorem d3_7 : decode prog_43_method_8_code 7 = .ok (.lxor, 1) := by decide +kernel
theorem d3_8 : decode prog_43_method_8_code 8 = .ok (.lstore_n 2, 1) := by decide +kernel
theorem d3_9 : decode prog_43_method_8_code 9 = .ok (.lload_n 2, 1) := by decide +kernel
theorem d3_10 : decode prog_43_method_8_code 10 = .ok (.ldc2_w 85, 3) := by decide +kernel
theorem d3_13 : decode prog_43_method_8_code 13 = .ok (.lmul, 1) := by decide +kernel
theorem d3_14 : decode prog_43_method_8_code 14 = .ok (.lstore_n 2, 1) := by decide +kernel
theorem d3_15 : decode prog_43_method_8_code 15 = .ok (.lload_n 2, 1) := by decide +kernel
theorem d3_16 : decode prog_43_method_8_code 16 = .ok (.lload_n 2, 1) := by decide +kernel
theorem d3_17 : decode prog_43_method_8_code 17 = .ok (.bipush 33, 2) := by decide +kernel
theorem d3_19 : decode prog_43_method_8_code 19 = .ok (.lushr, 1) := by decide +kernel
theorem d3_20 : decode prog_43_method_8_code 20 = .ok (.lxor, 1) := by decide +kernel
theorem d3_21 : decode prog_43_method_8_code 21 = .ok (.lstore_n 2, 1) := by decide +kernel
theorem d3_22 : decode prog_43_method_8_code 22 = .ok (.lload_n 2, 1) := by decide +kernel
theorem d3_23 : decode prog_43_method_8_code 23 = .ok (.ldc2_w 87, 3) := by decide +kernel
theorem d3_26 : decode prog_43_method_8_code 26 = .ok (.lmul, 1) := by decide +kernel
theorem d3_27 : decode prog_43_method_8_code 27 = .ok (.lstore_n 2, 1) := by decide +kernel
theorem d3_28 : decode prog_43_method_8_code 28 = .ok (.lload_n 2, 1) := by decide +kernel
theorem d3_29 : decode prog_43_method_8_code 29 = .ok (.lload_n 2, 1) := by decide +kernel
theorem d3_30 : decode prog_43_method_8_code 30 = .ok (.bipush 33, 2) := by decide +kernel
theorem d3_32 : decode prog_43_method_8_code 32 = .ok (.lushr, 1) := by decide +kernel
theorem d3_33 : decode prog_43_method_8_code 33 = .ok (.lxor, 1) := by decide +kernel
theorem d3_34 : decode prog_43_method_8_code 34 = .ok (.lstore_n 2, 1) := by decide +kernel
theorem d3_35 : decode prog_43_method_8_code 35 = .ok (.lload_n 2, 1) := by decide +kernel
theorem d3_36 : decode prog_43_method_8_code 36 = .ok (.lreturn, 1) := by decide +kernel
theorem pn_rm3 : plainName "com/example/gist_sketch/gistsketch/hash/MurmurHash3" = true := by first | (simp [plainName, overriddenIn]; done) | decide +kernel
theorem ef_rm3 (m : MethodId) (q0 : Int64) : entryFrame m #[(.long q0)] 4 = mkF m 0 #[.val (.long q0), .second, .unset, .unset] [] := by first | (simp [entryFrame, mkF, argsToLocals, Value.category]; done) | rfl
set_option maxRecDepth 65536 in
set_option maxHeartbeats 40000000 in
theorem rm3 (l : Launch) (Z : State) (a0 : Array Value) (hw : ∀ d ∈ tables_1, d.before a0 Z = true) (q0 : Int64)  (h0 : Heap) :
    own_Met l Z (⟨"com/example/gist_sketch/gistsketch/hash/MurmurHash3", "fmix64", "(J)J"⟩ : MethodName) prog_43_method_8_code 4 (some .long) [] ({ frames := 0, cells := 0, slots := 0, locals := 0 } : Room) #[(.long q0)] h0 0 0 (fun v h L => v = some (.long (own_fmix q0)) ∧ h = h0 ∧ L = []) := by
  refine own_met (plainFor_of_name pn_rm3) ?_
  intro p e s m below meth c s₁ Bd hml0 hZ X0 e0
  have hx := Bd.exec
  have hby := Bd.bytes
  have hml : c.maxLocals = 4 := hml0
  have hown : s.vm.findClass "com/example/gist_sketch/gistsketch/hash/MurmurHash3" = some m.cls := findClass_of_methodNamed Bd.named
  have hnm := (name_of_methodNamed Bd.named Bd.method).1
  refine own_cast (ef_rm3 m q0) ?_
  generalize hQQ : (fun (v : Option Value) (h : Heap) (L : List Loc) => v = some (.long (own_fmix q0)) ∧ h = h0 ∧ L = []) = QQ
  refine own_go (g' := (mkF m 1 #[.val (.long q0), .second, .unset, .unset] [(.long q0)])) (fun _ k => XS.lloadN X0.here hx rfl (hb hby d3_0) rfl k) ?_
  refine own_go (g' := (mkF m 2 #[.val (.long q0), .second, .val (.long q0), .second] [])) (fun _ k => XS.lstoreN X0.here hx rfl (hb hby d3_1) rfl (l' := #[.val (.long q0), .second, .val (.long q0), .second]) rfl k) ?_
  refine own_go (g' := (mkF m 3 #[.val (.long q0), .second, .val (.long q0), .second] [(.long q0)])) (fun _ k => XS.lloadN X0.here hx rfl (hb hby d3_2) rfl k) ?_
  refine own_go (g' := (mkF m 4 #[.val (.long q0), .second, .val (.long q0), .second] [(.long q0), (.long q0)])) (fun _ k => XS.lloadN X0.here hx rfl (hb hby d3_3) rfl k) ?_
  refine own_go (g' := (mkF m 6 #[.val (.long q0), .second, .val (.long q0), .second] [(.int (33 : Int32)), (.long q0), (.long q0)])) (fun _ k => XS.bipush X0.here hx rfl (hb hby d3_4) k) ?_
  refine own_go (g' := (mkF m 7 #[.val (.long q0), .second, .val (.long q0), .second] [(.long ((q0.toUInt64 >>> ((33 : Int32) &&& 0x3f).toInt64.toUInt64).toInt64)), (.long q0)])) (fun _ k => XS.lushr X0.here hx rfl (hb hby d3_6) rfl k) ?_
  refine own_go (g' := (mkF m 8 #[.val (.long q0), .second, .val (.long q0), .second] [(.long (q0 ^^^ ((q0.toUInt64 >>> ((33 : Int32) &&& 0x3f).toInt64.toUInt64).toInt64)))])) (fun _ k => XS.lxor X0.here hx rfl (hb hby d3_7) rfl k) ?_
  suffices JNhk1 : ∀ k1 : Int64, k1 = own_mix q0 → own_Go p e below (own_Post s QQ 0 0) s₁ (mkF m 8 #[.val (.long q0), .second, .val (.long q0), .second] [(.long k1)]) from JNhk1 _ (rfl)
  intro k1 hk1
  refine own_go (g' := (mkF m 9 #[.val (.long q0), .second, .val (.long k1), .second] [])) (fun _ k => XS.lstoreN X0.here hx rfl (hb hby d3_8) rfl (l' := #[.val (.long q0), .second, .val (.long k1), .second]) rfl k) ?_
  refine own_go (g' := (mkF m 10 #[.val (.long q0), .second, .val (.long k1), .second] [(.long k1)])) (fun _ k => XS.lloadN X0.here hx rfl (hb hby d3_9) rfl k) ?_
  refine own_go (g' := (mkF m 13 #[.val (.long q0), .second, .val (.long k1), .second] [(.long (-49064778989728563 : Int64)), (.long k1)])) (X0.ldc2Long hx hown (mvT hZ (hw _ (List.mem_of_getElem? (i := 14) rfl))) (g := (mkF m 10 #[.val (.long q0), .second, .val (.long k1), .second] [(.long k1)])) rfl (hb hby d3_10)) ?_
  refine own_go (g' := (mkF m 14 #[.val (.long q0), .second, .val (.long k1), .second] [(.long (k1 * (-49064778989728563 : Int64)))])) (fun _ k => XS.lmul X0.here hx rfl (hb hby d3_13) rfl k) ?_
  suffices JNhk2 : ∀ k2 : Int64, k2 = k1 * (-49064778989728563 : Int64) → own_Go p e below (own_Post s QQ 0 0) s₁ (mkF m 14 #[.val (.long q0), .second, .val (.long k1), .second] [(.long k2)]) from JNhk2 _ (rfl)
  intro k2 hk2
  refine own_go (g' := (mkF m 15 #[.val (.long q0), .second, .val (.long k2), .second] [])) (fun _ k => XS.lstoreN X0.here hx rfl (hb hby d3_14) rfl (l' := #[.val (.long q0), .second, .val (.long k2), .second]) rfl k) ?_
  refine own_go (g' := (mkF m 16 #[.val (.long q0), .second, .val (.long k2), .second] [(.long k2)])) (fun _ k => XS.lloadN X0.here hx rfl (hb hby d3_15) rfl k) ?_
  refine own_go (g' := (mkF m 17 #[.val (.long q0), .second, .val (.long k2), .second] [(.long k2), (.long k2)])) (fun _ k => XS.lloadN X0.here hx rfl (hb hby d3_16) rfl k) ?_
  refine own_go (g' := (mkF m 19 #[.val (.long q0), .second, .val (.long k2), .second] [(.int (33 : Int32)), (.long k2), (.long k2)])) (fun _ k => XS.bipush X0.here hx rfl (hb hby d3_17) k) ?_
  refine own_go (g' := (mkF m 20 #[.val (.long q0), .second, .val (.long k2), .second] [(.long ((k2.toUInt64 >>> ((33 : Int32) &&& 0x3f).toInt64.toUInt64).toInt64)), (.long k2)])) (fun _ k => XS.lushr X0.here hx rfl (hb hby d3_19) rfl k) ?_
  refine own_go (g' := (mkF m 21 #[.val (.long q0), .second, .val (.long k2), .second] [(.long (k2 ^^^ ((k2.toUInt64 >>> ((33 : Int32) &&& 0x3f).toInt64.toUInt64).toInt64)))])) (fun _ k => XS.lxor X0.here hx rfl (hb hby d3_20) rfl k) ?_
  suffices JNhk3 : ∀ k3 : Int64, k3 = own_mix k2 → own_Go p e below (own_Post s QQ 0 0) s₁ (mkF m 21 #[.val (.long q0), .second, .val (.long k2), .second] [(.long k3)]) from JNhk3 _ (rfl)
  intro k3 hk3
  refine own_go (g' := (mkF m 22 #[.val (.long q0), .second, .val (.long k3), .second] [])) (fun _ k => XS.lstoreN X0.here hx rfl (hb hby d3_21) rfl (l' := #[.val (.long q0), .second, .val (.long k3), .second]) rfl k) ?_
  refine own_go (g' := (mkF m 23 #[.val (.long q0), .second, .val (.long k3), .second] [(.long k3)])) (fun _ k => XS.lloadN X0.here hx rfl (hb hby d3_22) rfl k) ?_
  refine own_go (g' := (mkF m 26 #[.val (.long q0), .second, .val (.long k3), .second] [(.long (-4265267296055464877 : Int64)), (.long k3)])) (X0.ldc2Long hx hown (mvT hZ (hw _ (List.mem_of_getElem? (i := 15) rfl))) (g := (mkF m 23 #[.val (.long q0), .second, .val (.long k3), .second] [(.long k3)])) rfl (hb hby d3_23)) ?_
  refine own_go (g' := (mkF m 27 #[.val (.long q0), .second, .val (.long k3), .second] [(.long (k3 * (-4265267296055464877 : Int64)))])) (fun _ k => XS.lmul X0.here hx rfl (hb hby d3_26) rfl k) ?_
  suffices JNhk4 : ∀ k4 : Int64, k4 = k3 * (-4265267296055464877 : Int64) → own_Go p e below (own_Post s QQ 0 0) s₁ (mkF m 27 #[.val (.long q0), .second, .val (.long k3), .second] [(.long k4)]) from JNhk4 _ (rfl)
  intro k4 hk4
  refine own_go (g' := (mkF m 28 #[.val (.long q0), .second, .val (.long k4), .second] [])) (fun _ k => XS.lstoreN X0.here hx rfl (hb hby d3_27) rfl (l' := #[.val (.long q0), .second, .val (.long k4), .second]) rfl k) ?_
  refine own_go (g' := (mkF m 29 #[.val (.long q0), .second, .val (.long k4), .second] [(.long k4)])) (fun _ k => XS.lloadN X0.here hx rfl (hb hby d3_28) rfl k) ?_
  refine own_go (g' := (mkF m 30 #[.val (.long q0), .second, .val (.long k4), .second] [(.long k4), (.long k4)])) (fun _ k => XS.lloadN X0.here hx rfl (hb hby d3_29) rfl k) ?_
  refine own_go (g' := (mkF m 32 #[.val (.long q0), .second, .val (.long k4), .second] [(.int (33 : Int32)), (.long k4), (.long k4)])) (fun _ k => XS.bipush X0.here hx rfl (hb hby d3_30) k) ?_
  refine own_go (g' := (mkF m 33 #[.val (.long q0), .second, .val (.long k4), .second] [(.long ((k4.toUInt64 >>> ((33 : Int32) &&& 0x3f).toInt64.toUInt64).toInt64)), (.long k4)])) (fun _ k => XS.lushr X0.here hx rfl (hb hby d3_32) rfl k) ?_
  refine own_go (g' := (mkF m 34 #[.val (.long q0), .second, .val (.long k4), .second] [(.long (k4 ^^^ ((k4.toUInt64 >>> ((33 : Int32) &&& 0x3f).toInt64.toUInt64).toInt64)))])) (fun _ k => XS.lxor X0.here hx rfl (hb hby d3_33) rfl k) ?_
  suffices JNhk5 : ∀ k5 : Int64, k5 = own_mix k4 → own_Go p e below (own_Post s QQ 0 0) s₁ (mkF m 34 #[.val (.long q0), .second, .val (.long k4), .second] [(.long k5)]) from JNhk5 _ (rfl)
  intro k5 hk5
  refine own_go (g' := (mkF m 35 #[.val (.long q0), .second, .val (.long k5), .second] [])) (fun _ k => XS.lstoreN X0.here hx rfl (hb hby d3_34) rfl (l' := #[.val (.long q0), .second, .val (.long k5), .second]) rfl k) ?_
  refine own_go (g' := (mkF m 36 #[.val (.long q0), .second, .val (.long k5), .second] [(.long k5)])) (fun _ k => XS.lloadN X0.here hx rfl (hb hby d3_35) rfl k) ?_
  refine own_retJ X0 hx Bd.returns Bd.notSynchronized (hb hby d3_36) (by decide) (by decide) ?_
  show QQ _ s₁.heap _
  rw [e0]
  subst hk5 hk4 hk3 hk2 hk1
  rw [← hQQ]
  exact ⟨rfl, rfl, rfl⟩
theorem d1_0 : decode method_3_code 0 = .ok (.lload_n 0, 1) := by decide +kernel
theorem d1_1 : decode method_3_code 1 = .ok (.lstore_n 2, 1) := by decide +kernel
theorem d1_2 : decode method_3_code 2 = .ok (.lload_n 2, 1) := by decide +kernel
theorem d1_3 : decode method_3_code 3 = .ok (.lload_n 2, 1) := by decide +kernel
theorem d1_4 : decode method_3_code 4 = .ok (.bipush 33, 2) := by decide +kernel
theorem d1_6 : decode method_3_code 6 = .ok (.lushr, 1) := by decide +kernel
theorem d1_7 : decode method_3_code 7 = .ok (.lxor, 1) := by decide +kernel
theorem d1_8 : decode method_3_code 8 = .ok (.lstore_n 2, 1) := by decide +kernel
theorem d1_9 : decode method_3_code 9 = .ok (.lload_n 2, 1) := by decide +kernel
theorem d1_10 : decode method_3_code 10 = .ok (.ldc2_w 9, 3) := by decide +kernel
theorem d1_13 : decode method_3_code 13 = .ok (.invokestatic 11, 3) := by decide +kernel
theorem d1_16 : decode method_3_code 16 = .ok (.lmul, 1) := by decide +kernel
theorem d1_17 : decode method_3_code 17 = .ok (.lstore_n 2, 1) := by decide +kernel
theorem d1_18 : decode method_3_code 18 = .ok (.lload_n 2, 1) := by decide +kernel
theorem d1_19 : decode method_3_code 19 = .ok (.lload_n 2, 1) := by decide +kernel
theorem d1_20 : decode method_3_code 20 = .ok (.bipush 33, 2) := by decide +kernel
theorem d1_22 : decode method_3_code 22 = .ok (.lushr, 1) := by decide +kernel
theorem d1_23 : decode method_3_code 23 = .ok (.lxor, 1) := by decide +kernel
theorem d1_24 : decode method_3_code 24 = .ok (.lstore_n 2, 1) := by decide +kernel
theorem d1_25 : decode method_3_code 25 = .ok (.lload_n 2, 1) := by decide +kernel
theorem d1_26 : decode method_3_code 26 = .ok (.ldc2_w 17, 3) := by decide +kernel
theorem d1_29 : decode method_3_code 29 = .ok (.invokestatic 11, 3) := by decide +kernel
theorem d1_32 : decode method_3_code 32 = .ok (.lmul, 1) := by decide +kernel
theorem d1_33 : decode method_3_code 33 = .ok (.lstore_n 2, 1) := by decide +kernel
theorem d1_34 : decode method_3_code 34 = .ok (.lload_n 2, 1) := by decide +kernel
theorem d1_35 : decode method_3_code 35 = .ok (.lload_n 2, 1) := by decide +kernel
theorem d1_36 : decode method_3_code 36 = .ok (.bipush 33, 2) := by decide +kernel
theorem d1_38 : decode method_3_code 38 = .ok (.lushr, 1) := by decide +kernel
theorem d1_39 : decode method_3_code 39 = .ok (.lxor, 1) := by decide +kernel
theorem d1_40 : decode method_3_code 40 = .ok (.lstore_n 2, 1) := by decide +kernel
theorem d1_41 : decode method_3_code 41 = .ok (.lload_n 2, 1) := by decide +kernel
theorem d1_42 : decode method_3_code 42 = .ok (.lreturn, 1) := by decide +kernel
theorem pn_rm1 : plainName "com/example/gist_sketch/gistsketch/hash/MurmurHash3Fmix64PinLaw" = true := by first | (simp [plainName, overriddenIn]; done) | decide +kernel
theorem pd1_0 : parseMethodDescriptor "(J)J" = some ⟨[.long], some .long⟩ := by decide +kernel
theorem ef_rm1 (m : MethodId) (q0 : Int64) : entryFrame m #[(.long q0)] 4 = mkF m 0 #[.val (.long q0), .second, .unset, .unset] [] := by first | (simp [entryFrame, mkF, argsToLocals, Value.category]; done) | rfl
set_option maxRecDepth 65536 in
set_option maxHeartbeats 40000000 in
theorem rm1 (l : Launch) (Z : State) (a0 : Array Value) (hw : ∀ d ∈ tables_1, d.before a0 Z = true) (q0 : Int64)  (h0 : Heap) :
    own_Met l Z (⟨"com/example/gist_sketch/gistsketch/hash/MurmurHash3Fmix64PinLaw", "unmix", "(J)J"⟩ : MethodName) method_3_code 4 (some .long) [] ({ frames := 1, cells := 0, slots := 0, locals := 17 } : Room) #[(.long q0)] h0 0 0 (fun v h L => v = some (.long (own_unmix q0)) ∧ h = h0 ∧ L = []) := by
  refine own_met (plainFor_of_name pn_rm1) ?_
  intro p e s m below meth c s₁ Bd hml0 hZ X0 e0
  have hx := Bd.exec
  have hby := Bd.bytes
  have hml : c.maxLocals = 4 := hml0
  have hown : s.vm.findClass "com/example/gist_sketch/gistsketch/hash/MurmurHash3Fmix64PinLaw" = some m.cls := findClass_of_methodNamed Bd.named
  have hnm := (name_of_methodNamed Bd.named Bd.method).1
  refine own_cast (ef_rm1 m q0) ?_
  generalize hQQ : (fun (v : Option Value) (h : Heap) (L : List Loc) => v = some (.long (own_unmix q0)) ∧ h = h0 ∧ L = []) = QQ
  refine own_go (g' := (mkF m 1 #[.val (.long q0), .second, .unset, .unset] [(.long q0)])) (fun _ k => XS.lloadN X0.here hx rfl (hb hby d1_0) rfl k) ?_
  refine own_go (g' := (mkF m 2 #[.val (.long q0), .second, .val (.long q0), .second] [])) (fun _ k => XS.lstoreN X0.here hx rfl (hb hby d1_1) rfl (l' := #[.val (.long q0), .second, .val (.long q0), .second]) rfl k) ?_
  refine own_go (g' := (mkF m 3 #[.val (.long q0), .second, .val (.long q0), .second] [(.long q0)])) (fun _ k => XS.lloadN X0.here hx rfl (hb hby d1_2) rfl k) ?_
  refine own_go (g' := (mkF m 4 #[.val (.long q0), .second, .val (.long q0), .second] [(.long q0), (.long q0)])) (fun _ k => XS.lloadN X0.here hx rfl (hb hby d1_3) rfl k) ?_
  refine own_go (g' := (mkF m 6 #[.val (.long q0), .second, .val (.long q0), .second] [(.int (33 : Int32)), (.long q0), (.long q0)])) (fun _ k => XS.bipush X0.here hx rfl (hb hby d1_4) k) ?_
  refine own_go (g' := (mkF m 7 #[.val (.long q0), .second, .val (.long q0), .second] [(.long ((q0.toUInt64 >>> ((33 : Int32) &&& 0x3f).toInt64.toUInt64).toInt64)), (.long q0)])) (fun _ k => XS.lushr X0.here hx rfl (hb hby d1_6) rfl k) ?_
  refine own_go (g' := (mkF m 8 #[.val (.long q0), .second, .val (.long q0), .second] [(.long (q0 ^^^ ((q0.toUInt64 >>> ((33 : Int32) &&& 0x3f).toInt64.toUInt64).toInt64)))])) (fun _ k => XS.lxor X0.here hx rfl (hb hby d1_7) rfl k) ?_
  suffices JNhk1 : ∀ k1 : Int64, k1 = own_mix q0 → own_Go p e below (own_Post s QQ 0 0) s₁ (mkF m 8 #[.val (.long q0), .second, .val (.long q0), .second] [(.long k1)]) from JNhk1 _ (rfl)
  intro k1 hk1
  refine own_go (g' := (mkF m 9 #[.val (.long q0), .second, .val (.long k1), .second] [])) (fun _ k => XS.lstoreN X0.here hx rfl (hb hby d1_8) rfl (l' := #[.val (.long q0), .second, .val (.long k1), .second]) rfl k) ?_
  refine own_go (g' := (mkF m 10 #[.val (.long q0), .second, .val (.long k1), .second] [(.long k1)])) (fun _ k => XS.lloadN X0.here hx rfl (hb hby d1_9) rfl k) ?_
  refine own_go (g' := (mkF m 13 #[.val (.long q0), .second, .val (.long k1), .second] [(.long (-4265267296055464877 : Int64)), (.long k1)])) (X0.ldc2Long hx hown (mvT hZ (hw _ (List.mem_of_getElem? (i := 4) rfl))) (g := (mkF m 10 #[.val (.long q0), .second, .val (.long k1), .second] [(.long k1)])) rfl (hb hby d1_10)) ?_
  obtain ⟨v1, T1, L1, hQ1, X1, st1⟩ := own_callS X0 hx hZ (y := (⟨"com/example/gist_sketch/gistsketch/hash/MurmurHash3Fmix64PinLaw", "inverseOdd", "(J)J"⟩ : MethodName)) hown (hw _ (List.mem_of_getElem? (i := 5) rfl)) (hw _ (List.mem_of_getElem? (i := 6) rfl)) (hw _ (List.mem_of_getElem? (i := 2) rfl)) (hw _ (List.mem_of_getElem? (i := 7) rfl)) ⟨by decide, by decide⟩ (argsL := [(.long (-4265267296055464877 : Int64))]) (rm2 l Z a0 hw (-4265267296055464877 : Int64) h0) e0 (g := (mkF m 13 #[.val (.long q0), .second, .val (.long k1), .second] [(.long (-4265267296055464877 : Int64)), (.long k1)])) rfl (by rw [hml]; rfl) (rest := [(.long k1)]) (lenOf pd1_0 rfl) rfl (hb hby d1_13) (W := 2) (by show 2 * 0 + _ ≤ _; exact Nat.le_of_eq rfl) (by decide) (by decide) (by decide) (by decide)
  obtain ⟨rfl, e1, rfl⟩ := hQ1
  refine own_go (g' := (mkF m 16 #[.val (.long q0), .second, .val (.long k1), .second] [(.long (own_inv (-4265267296055464877 : Int64))), (.long k1)])) (st1) ?_
  refine own_go (g' := (mkF m 17 #[.val (.long q0), .second, .val (.long k1), .second] [(.long (k1 * (own_inv (-4265267296055464877 : Int64))))])) (fun _ k => XS.lmul X1.here hx rfl (hb hby d1_16) rfl k) ?_
  suffices JNhk2 : ∀ k2 : Int64, k2 = k1 * own_inv (-4265267296055464877 : Int64) → own_Go p e below (own_Post s QQ 0 0) T1 (mkF m 17 #[.val (.long q0), .second, .val (.long k1), .second] [(.long k2)]) from JNhk2 _ (rfl)
  intro k2 hk2
  refine own_go (g' := (mkF m 18 #[.val (.long q0), .second, .val (.long k2), .second] [])) (fun _ k => XS.lstoreN X1.here hx rfl (hb hby d1_17) rfl (l' := #[.val (.long q0), .second, .val (.long k2), .second]) rfl k) ?_
  refine own_go (g' := (mkF m 19 #[.val (.long q0), .second, .val (.long k2), .second] [(.long k2)])) (fun _ k => XS.lloadN X1.here hx rfl (hb hby d1_18) rfl k) ?_
  refine own_go (g' := (mkF m 20 #[.val (.long q0), .second, .val (.long k2), .second] [(.long k2), (.long k2)])) (fun _ k => XS.lloadN X1.here hx rfl (hb hby d1_19) rfl k) ?_
  refine own_go (g' := (mkF m 22 #[.val (.long q0), .second, .val (.long k2), .second] [(.int (33 : Int32)), (.long k2), (.long k2)])) (fun _ k => XS.bipush X1.here hx rfl (hb hby d1_20) k) ?_
  refine own_go (g' := (mkF m 23 #[.val (.long q0), .second, .val (.long k2), .second] [(.long ((k2.toUInt64 >>> ((33 : Int32) &&& 0x3f).toInt64.toUInt64).toInt64)), (.long k2)])) (fun _ k => XS.lushr X1.here hx rfl (hb hby d1_22) rfl k) ?_
  refine own_go (g' := (mkF m 24 #[.val (.long q0), .second, .val (.long k2), .second] [(.long (k2 ^^^ ((k2.toUInt64 >>> ((33 : Int32) &&& 0x3f).toInt64.toUInt64).toInt64)))])) (fun _ k => XS.lxor X1.here hx rfl (hb hby d1_23) rfl k) ?_
  suffices JNhk3 : ∀ k3 : Int64, k3 = own_mix k2 → own_Go p e below (own_Post s QQ 0 0) T1 (mkF m 24 #[.val (.long q0), .second, .val (.long k2), .second] [(.long k3)]) from JNhk3 _ (rfl)
  intro k3 hk3
  refine own_go (g' := (mkF m 25 #[.val (.long q0), .second, .val (.long k3), .second] [])) (fun _ k => XS.lstoreN X1.here hx rfl (hb hby d1_24) rfl (l' := #[.val (.long q0), .second, .val (.long k3), .second]) rfl k) ?_
  refine own_go (g' := (mkF m 26 #[.val (.long q0), .second, .val (.long k3), .second] [(.long k3)])) (fun _ k => XS.lloadN X1.here hx rfl (hb hby d1_25) rfl k) ?_
  refine own_go (g' := (mkF m 29 #[.val (.long q0), .second, .val (.long k3), .second] [(.long (-49064778989728563 : Int64)), (.long k3)])) (X1.ldc2Long hx hown (mvT hZ (hw _ (List.mem_of_getElem? (i := 9) rfl))) (g := (mkF m 26 #[.val (.long q0), .second, .val (.long k3), .second] [(.long k3)])) rfl (hb hby d1_26)) ?_
  obtain ⟨v2, T2, L2, hQ2, X2, st2⟩ := own_callS X1 hx hZ (y := (⟨"com/example/gist_sketch/gistsketch/hash/MurmurHash3Fmix64PinLaw", "inverseOdd", "(J)J"⟩ : MethodName)) hown (hw _ (List.mem_of_getElem? (i := 5) rfl)) (hw _ (List.mem_of_getElem? (i := 6) rfl)) (hw _ (List.mem_of_getElem? (i := 2) rfl)) (hw _ (List.mem_of_getElem? (i := 7) rfl)) ⟨by decide, by decide⟩ (argsL := [(.long (-49064778989728563 : Int64))]) (rm2 l Z a0 hw (-49064778989728563 : Int64) h0) e1 (g := (mkF m 29 #[.val (.long q0), .second, .val (.long k3), .second] [(.long (-49064778989728563 : Int64)), (.long k3)])) rfl (by rw [hml]; rfl) (rest := [(.long k3)]) (lenOf pd1_0 rfl) rfl (hb hby d1_29) (W := 2) (by show 2 * 0 + _ ≤ _; exact Nat.le_of_eq rfl) (by decide) (by decide) (by decide) (by decide)
  obtain ⟨rfl, e2, rfl⟩ := hQ2
  refine own_go (g' := (mkF m 32 #[.val (.long q0), .second, .val (.long k3), .second] [(.long (own_inv (-49064778989728563 : Int64))), (.long k3)])) (st2) ?_
  refine own_go (g' := (mkF m 33 #[.val (.long q0), .second, .val (.long k3), .second] [(.long (k3 * (own_inv (-49064778989728563 : Int64))))])) (fun _ k => XS.lmul X2.here hx rfl (hb hby d1_32) rfl k) ?_
  suffices JNhk4 : ∀ k4 : Int64, k4 = k3 * own_inv (-49064778989728563 : Int64) → own_Go p e below (own_Post s QQ 0 0) T2 (mkF m 33 #[.val (.long q0), .second, .val (.long k3), .second] [(.long k4)]) from JNhk4 _ (rfl)
  intro k4 hk4
  refine own_go (g' := (mkF m 34 #[.val (.long q0), .second, .val (.long k4), .second] [])) (fun _ k => XS.lstoreN X2.here hx rfl (hb hby d1_33) rfl (l' := #[.val (.long q0), .second, .val (.long k4), .second]) rfl k) ?_
  refine own_go (g' := (mkF m 35 #[.val (.long q0), .second, .val (.long k4), .second] [(.long k4)])) (fun _ k => XS.lloadN X2.here hx rfl (hb hby d1_34) rfl k) ?_
  refine own_go (g' := (mkF m 36 #[.val (.long q0), .second, .val (.long k4), .second] [(.long k4), (.long k4)])) (fun _ k => XS.lloadN X2.here hx rfl (hb hby d1_35) rfl k) ?_
  refine own_go (g' := (mkF m 38 #[.val (.long q0), .second, .val (.long k4), .second] [(.int (33 : Int32)), (.long k4), (.long k4)])) (fun _ k => XS.bipush X2.here hx rfl (hb hby d1_36) k) ?_
  refine own_go (g' := (mkF m 39 #[.val (.long q0), .second, .val (.long k4), .second] [(.long ((k4.toUInt64 >>> ((33 : Int32) &&& 0x3f).toInt64.toUInt64).toInt64)), (.long k4)])) (fun _ k => XS.lushr X2.here hx rfl (hb hby d1_38) rfl k) ?_
  refine own_go (g' := (mkF m 40 #[.val (.long q0), .second, .val (.long k4), .second] [(.long (k4 ^^^ ((k4.toUInt64 >>> ((33 : Int32) &&& 0x3f).toInt64.toUInt64).toInt64)))])) (fun _ k => XS.lxor X2.here hx rfl (hb hby d1_39) rfl k) ?_
  suffices JNhk5 : ∀ k5 : Int64, k5 = own_mix k4 → own_Go p e below (own_Post s QQ 0 0) T2 (mkF m 40 #[.val (.long q0), .second, .val (.long k4), .second] [(.long k5)]) from JNhk5 _ (rfl)
  intro k5 hk5
  refine own_go (g' := (mkF m 41 #[.val (.long q0), .second, .val (.long k5), .second] [])) (fun _ k => XS.lstoreN X2.here hx rfl (hb hby d1_40) rfl (l' := #[.val (.long q0), .second, .val (.long k5), .second]) rfl k) ?_
  refine own_go (g' := (mkF m 42 #[.val (.long q0), .second, .val (.long k5), .second] [(.long k5)])) (fun _ k => XS.lloadN X2.here hx rfl (hb hby d1_41) rfl k) ?_
  refine own_retJ X2 hx Bd.returns Bd.notSynchronized (hb hby d1_42) (by decide) (by decide) ?_
  show QQ _ T2.heap _
  rw [e2]
  subst hk5 hk4 hk3 hk2 hk1
  rw [← hQQ]
  exact ⟨rfl, rfl, rfl⟩
theorem pn_rm0 : plainName "com/example/gist_sketch/gistsketch/hash/MurmurHash3Fmix64PinLaw" = true := by first | (simp [plainName, overriddenIn]; done) | decide +kernel
theorem pd0_0 : parseMethodDescriptor "(J)J" = some ⟨[.long], some .long⟩ := by decide +kernel
theorem ef_rm0 (m : MethodId) (q0 : Int64) (q1 : Int64) : entryFrame m #[(.long q0), (.long q1)] maxLocals = mkF m 0 #[.val (.long q0), .second, .val (.long q1), .second, .unset, .unset, .unset] [] := by first | (simp [entryFrame, mkF, argsToLocals, Value.category, maxLocals]; done) | rfl
set_option maxRecDepth 65536 in
set_option maxHeartbeats 40000000 in
theorem rm0 (l : Launch) (Z : State) (a0 : Array Value) (hw : ∀ d ∈ tables_1, d.before a0 Z = true) (q0 : Int64) (q1 : Int64)  (h0 : Heap) (n0 : Nat) (Z0 : n0 ≤ h0.size) :
    own_Met l Z x code maxLocals ret tables_1 room_1 #[(.long q0), (.long q1)] h0 0 0 (fun v h L => v = some (.int 1) ∧ Fr n0 L) := by
  refine own_met (plainFor_of_name pn_rm0) ?_
  intro p e s m below meth c s₁ Bd hml0 hZ X0 e0
  have hx := Bd.exec
  have hby := Bd.bytes
  have hml : c.maxLocals = 7 := hml0
  have hown : s.vm.findClass "com/example/gist_sketch/gistsketch/hash/MurmurHash3Fmix64PinLaw" = some m.cls := findClass_of_methodNamed Bd.named
  have hnm := (name_of_methodNamed Bd.named Bd.method).1
  refine own_cast (ef_rm0 m q0 q1) ?_
  generalize hQQ : (fun (v : Option Value) (h : Heap) (L : List Loc) => v = some (.int 1) ∧ Fr n0 L) = QQ
  have N0 := Fr.nil n0
  refine own_go (g' := (mkF m 1 #[.val (.long q0), .second, .val (.long q1), .second, .unset, .unset, .unset] [(.long q0)])) (fun _ k => XS.lloadN X0.here hx rfl (hb hby at_0) rfl k) ?_
  obtain ⟨v1, T1, L1, hQ1, X1, st1⟩ := own_callS X0 hx hZ (y := (⟨"com/example/gist_sketch/gistsketch/hash/MurmurHash3Fmix64PinLaw", "unmix", "(J)J"⟩ : MethodName)) hown (hw _ (List.mem_of_getElem? (i := 0) rfl)) (hw _ (List.mem_of_getElem? (i := 1) rfl)) (hw _ (List.mem_of_getElem? (i := 2) rfl)) (hw _ (List.mem_of_getElem? (i := 3) rfl)) ⟨by decide, by decide⟩ (argsL := [(.long q0)]) (rm1 l Z a0 hw q0 h0) e0 (g := (mkF m 1 #[.val (.long q0), .second, .val (.long q1), .second, .unset, .unset, .unset] [(.long q0)])) rfl (by rw [hml]; rfl) (rest := []) (lenOf pd0_0 rfl) rfl (hb hby at_1) (W := 0) (by show 2 * 0 + _ ≤ _; exact Nat.le_of_eq rfl) (by decide) (by decide) (by decide) (by decide)
  obtain ⟨rfl, e1, rfl⟩ := hQ1
  have N1 := Fr.app N0 (Fr.nil n0)
  refine own_go (g' := (mkF m 4 #[.val (.long q0), .second, .val (.long q1), .second, .unset, .unset, .unset] [(.long (own_unmix q0))])) (st1) ?_
  obtain ⟨v2, T2, L2, hQ2, X2, st2⟩ := own_callS X1 hx hZ (y := (⟨"com/example/gist_sketch/gistsketch/hash/MurmurHash3", "fmix64", "(J)J"⟩ : MethodName)) hown (hw _ (List.mem_of_getElem? (i := 10) rfl)) (hw _ (List.mem_of_getElem? (i := 11) rfl)) (hw _ (List.mem_of_getElem? (i := 12) rfl)) (hw _ (List.mem_of_getElem? (i := 13) rfl)) ⟨by decide, by decide⟩ (argsL := [(.long (own_unmix q0))]) (rm3 l Z a0 hw (own_unmix q0) h0) e1 (g := (mkF m 4 #[.val (.long q0), .second, .val (.long q1), .second, .unset, .unset, .unset] [(.long (own_unmix q0))])) rfl (by rw [hml]; rfl) (rest := []) (lenOf pd0_0 rfl) rfl (hb hby at_4) (W := 0) (by show 2 * 0 + _ ≤ _; exact Nat.le_of_eq rfl) (by decide) (by decide) (by decide) (by decide)
  obtain ⟨rfl, e2, rfl⟩ := hQ2
  have N2 := Fr.app N1 (Fr.nil n0)
  refine own_go (g' := (mkF m 7 #[.val (.long q0), .second, .val (.long q1), .second, .unset, .unset, .unset] [(.long (own_fmix (own_unmix q0)))])) (st2) ?_
  refine own_go (g' := (mkF m 8 #[.val (.long q0), .second, .val (.long q1), .second, .unset, .unset, .unset] [(.long q0), (.long (own_fmix (own_unmix q0)))])) (fun _ k => XS.lloadN X2.here hx rfl (hb hby at_7) rfl k) ?_
  refine own_go (g' := (mkF m 9 #[.val (.long q0), .second, .val (.long q1), .second, .unset, .unset, .unset] [(.int (lcmpW (own_fmix (own_unmix q0)) q0))])) (fun _ k => XS.lcmp X2.here hx rfl (hb hby at_8) rfl k) ?_
  refine own_go (g' := (mkF m 12 #[.val (.long q0), .second, .val (.long q1), .second, .unset, .unset, .unset] [])) (fun _ k => XS.ifNo X2.here hx rfl (hb hby at_9) rfl ((if0 _ _).trans (teq ((lw_eq _ _).mpr (own_f_un _))).2) k) ?_
  refine own_go (g' := (mkF m 13 #[.val (.long q0), .second, .val (.long q1), .second, .unset, .unset, .unset] [(.int (1 : Int32))])) (fun _ k => XS.iconst X2.here hx rfl (hb hby at_12) k) ?_
  refine own_go (g' := (mkF m 17 #[.val (.long q0), .second, .val (.long q1), .second, .unset, .unset, .unset] [(.int (1 : Int32))])) (fun _ k => XS.goto X2.here hx rfl (pc0 := 13) (pc' := 17) rfl (hb hby at_13) (by decide) (by decide) k) ?_
  refine own_go (g' := (mkF m 19 #[.val (.long q0), .second, .val (.long q1), .second, .val (.int (1 : Int32)), .unset, .unset] [])) (fun _ k => XS.istore X2.here hx rfl (hb hby at_17) rfl (l' := #[.val (.long q0), .second, .val (.long q1), .second, .val (.int (1 : Int32)), .unset, .unset]) rfl k) ?_
  refine own_go (g' := (mkF m 20 #[.val (.long q0), .second, .val (.long q1), .second, .val (.int (1 : Int32)), .unset, .unset] [(.long q1)])) (fun _ k => XS.lloadN X2.here hx rfl (hb hby at_19) rfl k) ?_
  obtain ⟨v3, T3, L3, hQ3, X3, st3⟩ := own_callS X2 hx hZ (y := (⟨"com/example/gist_sketch/gistsketch/hash/MurmurHash3", "fmix64", "(J)J"⟩ : MethodName)) hown (hw _ (List.mem_of_getElem? (i := 10) rfl)) (hw _ (List.mem_of_getElem? (i := 11) rfl)) (hw _ (List.mem_of_getElem? (i := 12) rfl)) (hw _ (List.mem_of_getElem? (i := 13) rfl)) ⟨by decide, by decide⟩ (argsL := [(.long q1)]) (rm3 l Z a0 hw q1 h0) e2 (g := (mkF m 20 #[.val (.long q0), .second, .val (.long q1), .second, .val (.int (1 : Int32)), .unset, .unset] [(.long q1)])) rfl (by rw [hml]; rfl) (rest := []) (lenOf pd0_0 rfl) rfl (hb hby at_20) (W := 0) (by show 2 * 0 + _ ≤ _; exact Nat.le_of_eq rfl) (by decide) (by decide) (by decide) (by decide)
  obtain ⟨rfl, e3, rfl⟩ := hQ3
  have N3 := Fr.app N2 (Fr.nil n0)
  refine own_go (g' := (mkF m 23 #[.val (.long q0), .second, .val (.long q1), .second, .val (.int (1 : Int32)), .unset, .unset] [(.long (own_fmix q1))])) (st3) ?_
  obtain ⟨v4, T4, L4, hQ4, X4, st4⟩ := own_callS X3 hx hZ (y := (⟨"com/example/gist_sketch/gistsketch/hash/MurmurHash3Fmix64PinLaw", "unmix", "(J)J"⟩ : MethodName)) hown (hw _ (List.mem_of_getElem? (i := 0) rfl)) (hw _ (List.mem_of_getElem? (i := 1) rfl)) (hw _ (List.mem_of_getElem? (i := 2) rfl)) (hw _ (List.mem_of_getElem? (i := 3) rfl)) ⟨by decide, by decide⟩ (argsL := [(.long (own_fmix q1))]) (rm1 l Z a0 hw (own_fmix q1) h0) e3 (g := (mkF m 23 #[.val (.long q0), .second, .val (.long q1), .second, .val (.int (1 : Int32)), .unset, .unset] [(.long (own_fmix q1))])) rfl (by rw [hml]; rfl) (rest := []) (lenOf pd0_0 rfl) rfl (hb hby at_23) (W := 0) (by show 2 * 0 + _ ≤ _; exact Nat.le_of_eq rfl) (by decide) (by decide) (by decide) (by decide)
  obtain ⟨rfl, e4, rfl⟩ := hQ4
  have N4 := Fr.app N3 (Fr.nil n0)
  refine own_go (g' := (mkF m 26 #[.val (.long q0), .second, .val (.long q1), .second, .val (.int (1 : Int32)), .unset, .unset] [(.long (own_unmix (own_fmix q1)))])) (st4) ?_
  refine own_go (g' := (mkF m 27 #[.val (.long q0), .second, .val (.long q1), .second, .val (.int (1 : Int32)), .unset, .unset] [(.long q1), (.long (own_unmix (own_fmix q1)))])) (fun _ k => XS.lloadN X4.here hx rfl (hb hby at_26) rfl k) ?_
  refine own_go (g' := (mkF m 28 #[.val (.long q0), .second, .val (.long q1), .second, .val (.int (1 : Int32)), .unset, .unset] [(.int (lcmpW (own_unmix (own_fmix q1)) q1))])) (fun _ k => XS.lcmp X4.here hx rfl (hb hby at_27) rfl k) ?_
  refine own_go (g' := (mkF m 31 #[.val (.long q0), .second, .val (.long q1), .second, .val (.int (1 : Int32)), .unset, .unset] [])) (fun _ k => XS.ifNo X4.here hx rfl (hb hby at_28) rfl ((if0 _ _).trans (teq ((lw_eq _ _).mpr (own_un_f _))).2) k) ?_
  refine own_go (g' := (mkF m 32 #[.val (.long q0), .second, .val (.long q1), .second, .val (.int (1 : Int32)), .unset, .unset] [(.int (1 : Int32))])) (fun _ k => XS.iconst X4.here hx rfl (hb hby at_31) k) ?_
  refine own_go (g' := (mkF m 36 #[.val (.long q0), .second, .val (.long q1), .second, .val (.int (1 : Int32)), .unset, .unset] [(.int (1 : Int32))])) (fun _ k => XS.goto X4.here hx rfl (pc0 := 32) (pc' := 36) rfl (hb hby at_32) (by decide) (by decide) k) ?_
  refine own_go (g' := (mkF m 38 #[.val (.long q0), .second, .val (.long q1), .second, .val (.int (1 : Int32)), .val (.int (1 : Int32)), .unset] [])) (fun _ k => XS.istore X4.here hx rfl (hb hby at_36) rfl (l' := #[.val (.long q0), .second, .val (.long q1), .second, .val (.int (1 : Int32)), .val (.int (1 : Int32)), .unset]) rfl k) ?_
  refine own_go (g' := (mkF m 39 #[.val (.long q0), .second, .val (.long q1), .second, .val (.int (1 : Int32)), .val (.int (1 : Int32)), .unset] [(.long (0 : Int64))])) (fun _ k => XS.lconst X4.here hx rfl (hb hby at_38) k) ?_
  obtain ⟨v5, T5, L5, hQ5, X5, st5⟩ := own_callS X4 hx hZ (y := (⟨"com/example/gist_sketch/gistsketch/hash/MurmurHash3", "fmix64", "(J)J"⟩ : MethodName)) hown (hw _ (List.mem_of_getElem? (i := 10) rfl)) (hw _ (List.mem_of_getElem? (i := 11) rfl)) (hw _ (List.mem_of_getElem? (i := 12) rfl)) (hw _ (List.mem_of_getElem? (i := 13) rfl)) ⟨by decide, by decide⟩ (argsL := [(.long (0 : Int64))]) (rm3 l Z a0 hw (0 : Int64) h0) e4 (g := (mkF m 39 #[.val (.long q0), .second, .val (.long q1), .second, .val (.int (1 : Int32)), .val (.int (1 : Int32)), .unset] [(.long (0 : Int64))])) rfl (by rw [hml]; rfl) (rest := []) (lenOf pd0_0 rfl) rfl (hb hby at_39) (W := 0) (by show 2 * 0 + _ ≤ _; exact Nat.le_of_eq rfl) (by decide) (by decide) (by decide) (by decide)
  obtain ⟨rfl, e5, rfl⟩ := hQ5
  have N5 := Fr.app N4 (Fr.nil n0)
  refine own_go (g' := (mkF m 42 #[.val (.long q0), .second, .val (.long q1), .second, .val (.int (1 : Int32)), .val (.int (1 : Int32)), .unset] [(.long (own_fmix (0 : Int64)))])) (st5) ?_
  refine own_go (g' := (mkF m 43 #[.val (.long q0), .second, .val (.long q1), .second, .val (.int (1 : Int32)), .val (.int (1 : Int32)), .unset] [(.long (0 : Int64)), (.long (own_fmix (0 : Int64)))])) (fun _ k => XS.lconst X5.here hx rfl (hb hby at_42) k) ?_
  refine own_go (g' := (mkF m 44 #[.val (.long q0), .second, .val (.long q1), .second, .val (.int (1 : Int32)), .val (.int (1 : Int32)), .unset] [(.int (lcmpW (own_fmix (0 : Int64)) (0 : Int64)))])) (fun _ k => XS.lcmp X5.here hx rfl (hb hby at_43) rfl k) ?_
  refine own_go (g' := (mkF m 47 #[.val (.long q0), .second, .val (.long q1), .second, .val (.int (1 : Int32)), .val (.int (1 : Int32)), .unset] [])) (fun _ k => XS.ifNo X5.here hx rfl (hb hby at_44) rfl ((if0 _ _).trans (teq ((lw_eq _ _).mpr own_f0)).2) k) ?_
  refine own_go (g' := (mkF m 48 #[.val (.long q0), .second, .val (.long q1), .second, .val (.int (1 : Int32)), .val (.int (1 : Int32)), .unset] [(.int (1 : Int32))])) (fun _ k => XS.iconst X5.here hx rfl (hb hby at_47) k) ?_
  refine own_go (g' := (mkF m 52 #[.val (.long q0), .second, .val (.long q1), .second, .val (.int (1 : Int32)), .val (.int (1 : Int32)), .unset] [(.int (1 : Int32))])) (fun _ k => XS.goto X5.here hx rfl (pc0 := 48) (pc' := 52) rfl (hb hby at_48) (by decide) (by decide) k) ?_
  refine own_go (g' := (mkF m 54 #[.val (.long q0), .second, .val (.long q1), .second, .val (.int (1 : Int32)), .val (.int (1 : Int32)), .val (.int (1 : Int32))] [])) (fun _ k => XS.istore X5.here hx rfl (hb hby at_52) rfl (l' := #[.val (.long q0), .second, .val (.long q1), .second, .val (.int (1 : Int32)), .val (.int (1 : Int32)), .val (.int (1 : Int32))]) rfl k) ?_
  refine own_go (g' := (mkF m 56 #[.val (.long q0), .second, .val (.long q1), .second, .val (.int (1 : Int32)), .val (.int (1 : Int32)), .val (.int (1 : Int32))] [(.int (1 : Int32))])) (fun _ k => XS.iload X5.here hx rfl (hb hby at_54) rfl k) ?_
  refine own_go (g' := (mkF m 59 #[.val (.long q0), .second, .val (.long q1), .second, .val (.int (1 : Int32)), .val (.int (1 : Int32)), .val (.int (1 : Int32))] [])) (fun _ k => XS.ifNo X5.here hx rfl (hb hby at_56) rfl ((if0 _ _).trans (feq (by decide)).1) k) ?_
  refine own_go (g' := (mkF m 61 #[.val (.long q0), .second, .val (.long q1), .second, .val (.int (1 : Int32)), .val (.int (1 : Int32)), .val (.int (1 : Int32))] [(.int (1 : Int32))])) (fun _ k => XS.iload X5.here hx rfl (hb hby at_59) rfl k) ?_
  refine own_go (g' := (mkF m 64 #[.val (.long q0), .second, .val (.long q1), .second, .val (.int (1 : Int32)), .val (.int (1 : Int32)), .val (.int (1 : Int32))] [])) (fun _ k => XS.ifNo X5.here hx rfl (hb hby at_61) rfl ((if0 _ _).trans (feq (by decide)).1) k) ?_
  refine own_go (g' := (mkF m 66 #[.val (.long q0), .second, .val (.long q1), .second, .val (.int (1 : Int32)), .val (.int (1 : Int32)), .val (.int (1 : Int32))] [(.int (1 : Int32))])) (fun _ k => XS.iload X5.here hx rfl (hb hby at_64) rfl k) ?_
  refine own_go (g' := (mkF m 69 #[.val (.long q0), .second, .val (.long q1), .second, .val (.int (1 : Int32)), .val (.int (1 : Int32)), .val (.int (1 : Int32))] [])) (fun _ k => XS.ifNo X5.here hx rfl (hb hby at_66) rfl ((if0 _ _).trans (feq (by decide)).1) k) ?_
  refine own_go (g' := (mkF m 70 #[.val (.long q0), .second, .val (.long q1), .second, .val (.int (1 : Int32)), .val (.int (1 : Int32)), .val (.int (1 : Int32))] [(.int (1 : Int32))])) (fun _ k => XS.iconst X5.here hx rfl (hb hby at_69) k) ?_
  refine own_go (g' := (mkF m 74 #[.val (.long q0), .second, .val (.long q1), .second, .val (.int (1 : Int32)), .val (.int (1 : Int32)), .val (.int (1 : Int32))] [(.int (1 : Int32))])) (fun _ k => XS.goto X5.here hx rfl (pc0 := 70) (pc' := 74) rfl (hb hby at_70) (by decide) (by decide) k) ?_
  refine own_retN X5 hx .boolean Bd.returns Bd.notSynchronized (by simp) (hb hby at_74) (by decide) (by decide) ?_
  show QQ _ T5.heap _
  rw [e5]
  rw [← hQQ]
  exact ⟨rfl, N5⟩
set_option maxRecDepth 65536 in
set_option maxHeartbeats 40000000 in
theorem comes_1 {Post : Tables → Env → Array Value → State → Outcome → State → Prop} (hpost : ∀ tb e args s v u, (limb_1_1.after args s (.returned v) u = true ∧ limb_1_2.after args s (.returned v) u = true ∧ True) → FrameEnd s (.returned v) u (Jvm.fieldLocs frame_1_writes args s ++ Jvm.arrayLocs frame_1_arrays args s ++ Jvm.staticLocs frame_1_statics s) 0 0 → Post tb e args s (.returned v) u) :
    ArmFor flags0 classFile x code maxLocals ret World_1 tables_1 room_1 Calls_1 rest_1 Pre_1 Post := by
  intro l hfl _ _ p e ha hc hk s m args below hf hA hF happ hP
  obtain ⟨hcalls, hrest, hpre⟩ := hP
  obtain ⟨-, -, -, hnamed, -, -, -, hat⟩ := (Spec.applies_iff hf).mp happ
  obtain ⟨hg, hn⟩ := and_e (Cond.before_iff.mp (show (Jvm.Cond.and given_1 narrow_1).before args s = true from hpre))
  obtain ⟨g1, g2⟩ := and_e hg
  obtain ⟨g3, g4⟩ := and_e g2
  obtain ⟨w0, w1, rfl⟩ : ∃ w0 w1 : Value, args = #[w0, w1] := by
    have hs : args.size = 2 := by simpa [Cond.value, given_1] using g1
    obtain ⟨L⟩ := args
    match L, hs with
    | [w0, w1], _ => exact ⟨w0, w1, rfl⟩
  have hw := fun d (hd : d ∈ tables_1) => atoms_spec (ws := Jvm.Cond.code x code maxLocals ret :: tables_1) hat d (List.mem_cons_of_mem _ hd)
  obtain ⟨i0, ei0⟩ := isL_v g3
  obtain rfl : w0 = (.long i0) := Option.some.inj ei0
  obtain ⟨i1, ei1⟩ := isL_v g4
  obtain rfl : w1 = (.long i1) := Option.some.inj ei1
  obtain ⟨n, o, h1, h2, h3, _, L, rfl, ⟨rfl, N⟩, hq⟩ := rm0 l s _ hw i0 i1 s.heap s.heap.size (Nat.le_refl _) p e ha hc hk s m _ below hf ((Spec.applies_iff_loose hf).mp happ).1 ⟨rfl, State.Warmed39.refl s, rfl⟩ trivial
  refine ⟨n, _, h1, h2, h3, hpost _ _ _ _ _ _ ⟨Cond.after_iff.mpr rfl, Cond.after_iff.mpr (eq_i res_at (Term.int_eval (1)) rfl), trivial⟩ ⟨hq.1, hq.2.1, (hq.2.2.sift fun y hy => Or.inr (N y hy)).mono (by decide) (by decide)⟩⟩
theorem main_1_1 : Claimed_1_1 := comes_1 fun _ _ _ _ _ _ h hF => ⟨h.1, hF⟩
theorem main_1_2 : Claimed_1_2 := comes_1 fun _ _ _ _ _ _ h hF => ⟨h.2.1, hF⟩
end Jvm.Pilot.@@N@@
namespace Jvm.Pilot.@@N@@
open Jvm Jvm.ClassFile Sem Op Lib Jvm.Free Jvm.Stand Jvm.Pilot.@@N@@.Jvm.D
/-! MADE BY PROGRAM (witnessworld.py) out of the Statement's table words and the real class files: 9 classes; the members and pool entries that the words name. The judged class is class 1, her method 3. -/
namespace start1
open Jvm.ClassFile
def u (s : String) : CpInfo := .utf8 (stringToUtf16 s)
/-- a pool by its gaps: so many unusable entries, then the entry; so many at the end -/
def gap : Nat → List CpInfo → List CpInfo
  | 0, r => r
  | n + 1, r => .unusable :: gap n r
def poolList (es : List (Nat × CpInfo)) (last : Nat) : List CpInfo := es.foldr (fun e r => gap e.1 (e.2 :: r)) (gap last [])
def pool (es : List (Nat × CpInfo)) (last : Nat) : Array CpInfo := ⟨poolList es last⟩
def fileOf (pool : Array CpInfo) (this : Nat) (attrs : Array Attribute := #[]) (ms : Array MethodInfo := #[]) (fl : Nat := 33) (sup : Nat := 0) (ifs : Array Nat := #[]) (fds : Array FieldInfo := #[]) : ClassFile where
  minorVersion := 0
  majorVersion := 65
  constantPool := pool
  accessFlags := fl
  thisClass := this
  superClass := sup
  interfaces := ifs
  fields := fds
  methods := ms
  attributes := attrs
def plain (name : String) (sup : Option ClassId) : Class where
  name := name
  kind := .ordinary
  loader := none
  accessFlags := 33
  super := sup
  interfaces := #[]
  cf := none
  fields := #[]
  methods := #[]
  instanceTypes := #[]
  staticTypes := #[]
  resolved := #[]
  callSites := []
  init := .initialized
  statics := none
  mirror := none

def pool0 : Array CpInfo := pool [(5, u "<init>"), (0, u "()V"), (1, .class_ 10), (1, u "java/lang/Object")] 113

def k0m0 : Method := { name := "<init>", desc := "()V", sig := { parameters := [], returnType := none }, accessFlags := 1, code := none }
/-- java/lang/Object -/
def k0 : Class := { plain "java/lang/Object" none with
  accessFlags := 33
  interfaces := #[]
  cf := some (fileOf pool0 8 #[] #[{ accessFlags := 1, nameIndex := 5, descriptorIndex := 6, attributes := #[] }] 33 0 #[] #[])
  fields := #[]
  methods := #[k0m0]
  instanceTypes := #[]
  staticTypes := #[]
  resolved := Array.replicate 124 none
  statics := none }

def pool1 : Array CpInfo := pool [(2, .class_ 4), (1, u "java/lang/Object"), (0, u "<init>"), (0, u "()V"), (0, .long 2), (1, .long 14181476777654086739), (1, .methodref 12 13), (0, .class_ 14), (0, .nameAndType 15 16), (0, u "com/example/gist_sketch/gistsketch/hash/MurmurHash3Fmix64PinLaw"), (0, u "inverseOdd"), (0, u "(J)J"), (0, .long 18397679294719823053), (1, .methodref 12 20), (0, .nameAndType 21 16), (0, u "unmix"), (0, .methodref 23 24), (0, .class_ 25), (0, .nameAndType 26 16), (0, u "com/example/gist_sketch/gistsketch/hash/MurmurHash3"), (0, u "fmix64"), (2, u "law"), (0, u "(JJ)Z")] 3

def k1m0 : Method := { name := "<init>", desc := "()V", sig := { parameters := [], returnType := none }, accessFlags := 2, code := none }
def k1c1 : Code := { maxStack := 8, maxLocals := 4, code := method_2_code, exceptionTable := #[], attributes := #[] }
def k1m1 : Method := { name := "inverseOdd", desc := "(J)J", sig := { parameters := [.long], returnType := some .long }, accessFlags := 10, code := some k1c1 }
def k1c2 : Code := { maxStack := 5, maxLocals := 4, code := method_3_code, exceptionTable := #[], attributes := #[] }
def k1m2 : Method := { name := "unmix", desc := "(J)J", sig := { parameters := [.long], returnType := some .long }, accessFlags := 10, code := some k1c2 }
def k1c3 : Code := { maxStack := 4, maxLocals := 7, code := code, exceptionTable := #[], attributes := #[] }
def k1m3 : Method := { name := "law", desc := "(JJ)Z", sig := { parameters := [.long, .long], returnType := some .boolean }, accessFlags := 9, code := some k1c3 }
/-- com/example/gist_sketch/gistsketch/hash/MurmurHash3Fmix64PinLaw -/
def k1 : Class := { plain "com/example/gist_sketch/gistsketch/hash/MurmurHash3Fmix64PinLaw" (some 0) with
  accessFlags := 49
  interfaces := #[]
  cf := some (fileOf pool1 12 #[] #[{ accessFlags := 2, nameIndex := 5, descriptorIndex := 6, attributes := #[] }, { accessFlags := 10, nameIndex := 15, descriptorIndex := 16, attributes := #[] }, { accessFlags := 10, nameIndex := 21, descriptorIndex := 16, attributes := #[] }, { accessFlags := 9, nameIndex := 29, descriptorIndex := 30, attributes := #[] }] 49 2 #[] #[])
  fields := #[]
  methods := #[k1m0, k1m1, k1m2, k1m3]
  instanceTypes := #[]
  staticTypes := #[]
  resolved := Array.replicate 34 none
  statics := none }

def pool2 : Array CpInfo := pool [(2, .class_ 4), (1, u "java/lang/Object"), (0, u "<init>"), (0, u "()V"), (1, .class_ 10), (1, u "com/example/gist_sketch/gistsketch/hash/MurmurHash3"), (16, u "LONG_LITTLE_ENDIAN"), (0, u "Ljava/lang/invoke/VarHandle;"), (9, u "(J)J"), (27, u "fmix64"), (18, .long 18397679294719823053), (1, .long 14181476777654086739), (15, u "C1"), (0, u "J"), (1, u "C2")] 9

def k2m0 : Method := { name := "<init>", desc := "()V", sig := { parameters := [], returnType := none }, accessFlags := 2, code := none }
def k2c1 : Code := { maxStack := 5, maxLocals := 4, code := prog_43_method_8_code, exceptionTable := #[], attributes := #[] }
def k2m1 : Method := { name := "fmix64", desc := "(J)J", sig := { parameters := [.long], returnType := some .long }, accessFlags := 9, code := some k2c1 }
/-- com/example/gist_sketch/gistsketch/hash/MurmurHash3 -/
def k2 : Class := { plain "com/example/gist_sketch/gistsketch/hash/MurmurHash3" (some 0) with
  accessFlags := 49
  interfaces := #[]
  cf := some (fileOf pool2 8 #[] #[{ accessFlags := 2, nameIndex := 5, descriptorIndex := 6, attributes := #[] }, { accessFlags := 9, nameIndex := 66, descriptorIndex := 38, attributes := #[] }] 49 2 #[] #[{ accessFlags := 26, nameIndex := 103, descriptorIndex := 104, attributes := #[] }, { accessFlags := 26, nameIndex := 106, descriptorIndex := 104, attributes := #[] }, { accessFlags := 26, nameIndex := 27, descriptorIndex := 28, attributes := #[] }])
  fields := #[{ name := "C1", type := .long, accessFlags := 26, slot := 0, constantValue := 0 }, { name := "C2", type := .long, accessFlags := 26, slot := 1, constantValue := 0 }, { name := "LONG_LITTLE_ENDIAN", type := (.object "java/lang/invoke/VarHandle"), accessFlags := 26, slot := 2, constantValue := 0 }]
  methods := #[k2m0, k2m1]
  instanceTypes := #[]
  staticTypes := #[.long, .long, (.object "java/lang/invoke/VarHandle")]
  resolved := Array.replicate 116 none
  statics := none }

def pool3 : Array CpInfo := pool [(1, u "java/lang/Cloneable"), (0, .class_ 1), (0, u "java/lang/Object"), (0, .class_ 3)] 3

/-- java/lang/Cloneable -/
def k3 : Class := { plain "java/lang/Cloneable" (some 0) with
  accessFlags := 1537
  interfaces := #[]
  cf := some (fileOf pool3 2 #[] #[] 1537 4 #[] #[])
  fields := #[]
  methods := #[]
  instanceTypes := #[]
  staticTypes := #[]
  resolved := Array.replicate 8 none
  statics := none }

def pool4 : Array CpInfo := pool [(1, u "java/io/Serializable"), (0, .class_ 1), (0, u "java/lang/Object"), (0, .class_ 3)] 3

/-- java/io/Serializable -/
def k4 : Class := { plain "java/io/Serializable" (some 0) with
  accessFlags := 1537
  interfaces := #[]
  cf := some (fileOf pool4 2 #[] #[] 1537 4 #[] #[])
  fields := #[]
  methods := #[]
  instanceTypes := #[]
  staticTypes := #[]
  resolved := Array.replicate 8 none
  statics := none }

/-- the primitive byte -/
def k5 : Class := { plain "byte" none with kind := .primitive 'B', accessFlags := 0x411 }
/-- [B -/
def k6 : Class := { plain "[B" (some 0) with kind := .array 5 .byte, interfaces := #[3, 4], accessFlags := 1041 }

/-- the primitive int -/
def k7 : Class := { plain "int" none with kind := .primitive 'I', accessFlags := 0x411 }
/-- [I -/
def k8 : Class := { plain "[I" (some 0) with kind := .array 7 .int, interfaces := #[3, 4], accessFlags := 1041 }

def heap : Heap := #[]
def classes : Array Class := #[k0, k1, k2, k3, k4, k5, k6, k7, k8]
def interned : List (Array UInt16 × Addr) := []
def slotsUsed : Nat := 0
def theMethod : MethodId := ⟨1, 3⟩
def args0 : Array Value := #[.long 5, .long 7]
def aboutOver (below : List Frame) : State where
  vm := { classes := classes, interned := interned.toArray }
  heap := heap
  slotsUsed := slotsUsed
  threads := #[{ frames := .invoking theMethod args0 :: below }]
def below0 : List Frame := [.native { method := ⟨0, 0⟩, args := #[] }]
def about1 : State := aboutOver below0
def p0 : Program := .bare "" "" ""
def e0 : Env := launch0.env 0 0 0
theorem w_frames : about1.frames = Frame.invoking theMethod args0 :: below0 := rfl
set_option maxRecDepth 65536 in
theorem w_args : argsFit about1.vm theMethod args0 = true := by decide +kernel
set_option maxRecDepth 65536 in
theorem w_heap : heapFits about1 = true := by decide +kernel
set_option maxRecDepth 65536 in
theorem w_runnable : about1.curStatus? = some .runnable := by decide +kernel
set_option maxRecDepth 65536 in
theorem w_alone : about1.alone = true := by decide +kernel
set_option maxRecDepth 65536 in
theorem w_named : about1.methodNamed? x = some theMethod := by decide +kernel
set_option maxRecDepth 65536 in
theorem w_hears : about1.hears theMethod below0 = true := by decide +kernel
set_option maxRecDepth 65536 in
theorem w_ripe : about1.ripe theMethod args0 below0 = true := by decide +kernel
theorem w_running : about1.status = .running := rfl
set_option maxRecDepth 65536 in
theorem w_room : about1.hasRoom e0.platform room_1 = true :=
  launch0.hasRoom_least _ room_1 (by decide +kernel) (by decide +kernel) (by decide +kernel) (by decide +kernel) (by decide +kernel) (by decide +kernel)
theorem allAtoms_all (ts : List Jvm.Cond) (a : Array Jvm.Value) (st : Jvm.State) : (allAtoms ts).before a st = ts.all (fun c => c.before a st) := by
  induction ts with
  | nil => rfl
  | cons c t ih =>
    show (Jvm.Cond.and c (allAtoms t)).before a st = _
    rw [Jvm.Cond.before_and, ih, List.all_cons]
def words1 : List Jvm.Cond := Jvm.Cond.code x code maxLocals ret :: tables_1
/-- a 'code' word, met by the world's own term for the bytes: nothing is compared byte by byte -/
theorem code_word {y : MethodName} {bytes : ByteArray} {mx : Nat} {rt : Option FieldType} {a : Array Value} {s : State} {m : MethodId} {meth : Method} {c : Code} (h1 : s.methodNamed? y = some m) (h2 : s.vm.method? m = some meth) (h3 : meth.code = some c) (h4 : c.code = bytes)
    (h5 : (c.maxLocals == mx && c.exceptionTable.isEmpty && decide (c.maxStack ≤ mostOperands) && decide (meth.sig.returnType = rt) && !meth.locks && decide (parseMethodDescriptor y.desc = some meth.sig)) = true) : (Jvm.Cond.code y bytes mx rt).before a s = true := by
  simp only [Bool.and_eq_true, beq_iff_eq, Bool.not_eq_true', decide_eq_true_eq] at h5
  obtain ⟨⟨⟨⟨⟨g1, g2⟩, g3⟩, g4⟩, g5⟩, g6⟩ := h5
  simp [Cond.before, Cond.holds, Cond.value, h1, h2, h3, h4, g1, g2, g3, g4, g5, g6]
def isCode : Jvm.Cond → Bool
  | .code _ _ _ _ => true
  | _ => false
theorem all_split {L : List Jvm.Cond} {P : Jvm.Cond → Bool} (h1 : L.all (fun c => isCode c || P c) = true) (h2 : ∀ c ∈ L.filter isCode, P c = true) : L.all P = true := by
  refine List.all_eq_true.mpr fun c hc => ?_
  have h := List.all_eq_true.mp h1 c hc
  rcases Bool.eq_false_or_eq_true (isCode c) with hi | hi
  · exact h2 c (List.mem_filter.mpr ⟨hc, hi⟩)
  · simpa [hi] using h
set_option maxRecDepth 65536 in
theorem w_c0 : (Jvm.Cond.code x code maxLocals ret).before args0 about1 = true := code_word (m := ⟨1, 3⟩) (meth := k1m3) (c := k1c3) (by decide +kernel) rfl rfl rfl (by decide +kernel)
set_option maxRecDepth 65536 in
theorem w_c1 : (Jvm.Cond.code ({ cls := "com/example/gist_sketch/gistsketch/hash/MurmurHash3Fmix64PinLaw", name := "unmix", desc := "(J)J" } : Jvm.MethodName) method_3_code (4 : Nat) (Option.some Jvm.ClassFile.FieldType.long)).before args0 about1 = true := code_word (m := ⟨1, 2⟩) (meth := k1m2) (c := k1c2) (by decide +kernel) rfl rfl rfl (by decide +kernel)
set_option maxRecDepth 65536 in
theorem w_c2 : (Jvm.Cond.code ({ cls := "com/example/gist_sketch/gistsketch/hash/MurmurHash3Fmix64PinLaw", name := "inverseOdd", desc := "(J)J" } : Jvm.MethodName) method_2_code (4 : Nat) (Option.some Jvm.ClassFile.FieldType.long)).before args0 about1 = true := code_word (m := ⟨1, 1⟩) (meth := k1m1) (c := k1c1) (by decide +kernel) rfl rfl rfl (by decide +kernel)
set_option maxRecDepth 65536 in
theorem w_c3 : (Jvm.Cond.code ({ cls := "com/example/gist_sketch/gistsketch/hash/MurmurHash3", name := "fmix64", desc := "(J)J" } : Jvm.MethodName) prog_43_method_8_code (4 : Nat) (Option.some Jvm.ClassFile.FieldType.long)).before args0 about1 = true := code_word (m := ⟨2, 1⟩) (meth := k2m1) (c := k2c1) (by decide +kernel) rfl rfl rfl (by decide +kernel)
def codes1 : List Jvm.Cond := [Jvm.Cond.code x code maxLocals ret, Jvm.Cond.code ({ cls := "com/example/gist_sketch/gistsketch/hash/MurmurHash3Fmix64PinLaw", name := "unmix", desc := "(J)J" } : Jvm.MethodName) method_3_code (4 : Nat) (Option.some Jvm.ClassFile.FieldType.long), Jvm.Cond.code ({ cls := "com/example/gist_sketch/gistsketch/hash/MurmurHash3Fmix64PinLaw", name := "inverseOdd", desc := "(J)J" } : Jvm.MethodName) method_2_code (4 : Nat) (Option.some Jvm.ClassFile.FieldType.long), Jvm.Cond.code ({ cls := "com/example/gist_sketch/gistsketch/hash/MurmurHash3", name := "fmix64", desc := "(J)J" } : Jvm.MethodName) prog_43_method_8_code (4 : Nat) (Option.some Jvm.ClassFile.FieldType.long)]
set_option maxRecDepth 65536 in
theorem codes_eq : words1.filter isCode = codes1 := rfl
theorem w_codes : ∀ c ∈ words1.filter isCode, c.before args0 about1 = true := by
  rw [codes_eq]
  intro c hc
  simp only [codes1, List.mem_cons, List.not_mem_nil, or_false] at hc
  rcases hc with rfl | rfl | rfl | rfl
  · exact w_c0
  · exact w_c1
  · exact w_c2
  · exact w_c3
set_option maxRecDepth 65536 in
theorem w_t1 : words1.all (fun c => isCode c || c.before args0 about1) = true := by decide +kernel
theorem w_tables : (allAtoms (Jvm.Cond.code x code maxLocals ret :: tables_1)).before args0 about1 = true := by
  rw [allAtoms_all]
  show words1.all (fun c => c.before args0 about1) = true
  refine all_split ?_ w_codes
  rw [w_t1]
set_option maxRecDepth 65536 in
theorem w_case : (Jvm.Cond.and given_1 narrow_1).before args0 about1 = true := by decide +kernel
theorem w_applies : (headSpec (Jvm.Cond.code x code maxLocals ret :: tables_1) room_1).applies x e0.platform about1 = true :=
  (Spec.applies_iff w_frames).mpr ⟨w_running, w_runnable, w_alone, w_named, w_hears, w_ripe, w_room, w_tables⟩
theorem atStart : AtStart classFile x code maxLocals ret World_1 tables_1 room_1 Calls_1 rest_1 Pre_1 launch0 p0 e0 about1 theMethod args0 below0 :=
  ⟨lists_1, trivial, launch0.admits_env _ _ _, launch0.least_env, fairChoices_fair.cas, fairChoices_fair.clock, w_frames, w_args, w_heap, w_applies, trivial, trivial, w_case⟩
end start1
theorem witness_1 : WitnessClaimed_1 := ⟨start1.p0, start1.e0, start1.about1, start1.theMethod, start1.args0, start1.below0, start1.atStart⟩
end Jvm.Pilot.@@N@@
