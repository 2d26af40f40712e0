import JvmDerived
import JvmDerived.Pilot.@@N@@Statement
import JvmDerived.Pilot.@@N@@Code
set_option linter.unusedVariables false
set_option linter.unusedSimpArgs false
namespace Jvm.Pilot.@@N@@
open Jvm Jvm.ClassFile Sem Op Lib Jvm.Free Jvm.Stand Jvm.LawKit Jvm.RoadKit Bundle Jvm.Pilot.@@N@@.Jvm.D
/-! own_..: the walk in goal form: own_Go says that from a frame on the run comes to its end as the contract says; every step turns the goal for one frame into the goal for the next, so a branch is a case split and a join a 'have'. -/
def own_Post (s : State) (Q : Option Value → Heap → List Loc → Prop) (cs ss : Nat) (o : Outcome) (u : State) : Prop := ∃ v L, o = .returned v ∧ Q v u.heap L ∧ FrameEnd s o u L cs ss
def own_Go (p : Program) (e : Env) (below : List Frame) (Qf : Outcome → State → Prop) (T : State) (g : JFrame) : Prop := ∃ s₂ o, Steps p.tables e below (T.setTop g) s₂ ∧ s₂.status = .running ∧ Ended s₂ below o ∧ Qf o s₂
abbrev own_Met (l : Launch) (Z : State) (y : MethodName) (bytes : ByteArray) (maxL : Nat) (ret : Option FieldType) (ws : List Jvm.Cond) (rm : Room) (as' : Array Value) (h0 : Heap) (cs ss : Nat) (Q : Option Value → Heap → List Loc → Prop) : Prop :=
  MetFree l y (head1 (Jvm.Cond.code y bytes maxL ret :: ws) rm) (fun a U => a = as' ∧ Z.Warmed39 U.vm ∧ U.heap = h0) (fun _ _ _ _ _ => True) (fun _ U o U' => ∃ v L, o = .returned v ∧ Q v U'.heap L ∧ FrameEnd U o U' L cs ss)
def own_b (b : Bool) : Int32 := if b then 1 else 0
theorem own_b_t {b : Bool} (h : b = true) : own_b b = 1 := by subst h; rfl
theorem own_b_f {b : Bool} (h : ¬ b = true) : own_b b = 0 := by rw [Bool.eq_false_iff.mpr h]; rfl
theorem own_b_n {b : Bool} (h : b = true) : ¬ own_b b = 0 := by subst h; decide
theorem own_b_nar (b : Bool) : nar .boolean (own_b b) = own_b b := by cases b <;> rfl
theorem own_b_fits (b : Bool) : fits .boolean (.int (own_b b)) = true := by cases b <;> rfl
theorem own_b_inj {a b : Bool} (h : own_b a = own_b b) : a = b := by cases a <;> cases b <;> first | rfl | exact absurd h (by decide)
section Own
variable {p : Program} {l : Launch} {e : Env} {R : Room} {s : State} {m : MethodId} {args : Array Value} {below : List Frame} {meth : Method} {c : Code} {T T' : State} {locs : List Loc} {cells slots : Nat} {Z : State} {a0 : Array Value} {h : Heap}
theorem own_go {Qf : Outcome → State → Prop} {g g' : JFrame} (h : ∀ t, Steps p.tables e below (T'.setTop g') t → Steps p.tables e below (T.setTop g) t) (k : own_Go p e below Qf T' g') : own_Go p e below Qf T g := by
  obtain ⟨s₂, o, h1, h2⟩ := k
  exact ⟨s₂, o, h _ h1, h2⟩
theorem own_cast {Qf : Outcome → State → Prop} {g g' : JFrame} (q : g = g') (k : own_Go p e below Qf T g') : own_Go p e below Qf T g := q ▸ k
theorem own_met {y : MethodName} {bytes : ByteArray} {maxL : Nat} {ret : Option FieldType} {ws : List Jvm.Cond} {rm : Room} {as' : Array Value} {h0 : Heap} {cs ss : Nat} {Q : Option Value → Heap → List Loc → Prop} (hp : plainFor y = true)
    (body : ∀ (p : Program) (e : Env) (s : State) (m : MethodId) (below : List Frame) (meth : Method) (c : Code) (s₁ : State), BodyLoose p l y (head1 (Jvm.Cond.code y bytes maxL ret :: ws) rm) bytes maxL ret e s m as' below meth c s₁ → c.maxLocals = maxL → Z.Warmed39 s.vm →
      Stand p l e rm s m as' below meth c s₁ [] 0 0 → s₁.heap = h0 → own_Go p e below (own_Post s Q cs ss) s₁ (entryFrame m as' maxL)) : own_Met l Z y bytes maxL ret ws rm as' h0 cs ss Q := by
  refine MetFree.of_bodySF hp hisR ?_
  intro p e s m args below meth c s₁ Bd hml0 hP hK
  obtain ⟨rfl, hZ, hh⟩ := hP
  exact body p e s m below meth c s₁ Bd hml0 hZ (Stand.of_body Bd) (by rw [← hh, Bd.state]; rfl)
theorem own_retN (X : Stand p l e R s m args below meth c T locs cells slots) (hx : p.tables.exec = Jvm.exec) (t : FieldType) (hret : meth.sig.returnType = some t) (hlk : meth.locks = false) (ht : t = .boolean ∨ t = .byte ∨ t = .char ∨ t = .short) {pc : Nat} {Ls : Array Slot} {z : Int32} {rest : List Value} (hd : decode c.code pc = .ok (.ireturn, 1))
    {Q : Option Value → Heap → List Loc → Prop} {cs ss : Nat} (hc : cells ≤ cs) (hs : slots ≤ ss) (hQ : Q (some (.int (nar t z))) T.heap locs) : own_Go p e below (own_Post s Q cs ss) T (mkF m pc Ls (.int z :: rest)) := by
  obtain ⟨fs, hr, hrun, hended, hW, hsame⟩ := X.leave (v := some (.int (nar t z))) (fun h => by rw [hret] at h; cases h) hlk
  exact ⟨_, _, retN X hx hret ht hd hr, hrun, hended, _, _, rfl, hQ, ⟨_, rfl⟩, hW, hsame.mono hc hs⟩
theorem own_retI (X : Stand p l e R s m args below meth c T locs cells slots) (hx : p.tables.exec = Jvm.exec) (hret : meth.sig.returnType = some .int) (hlk : meth.locks = false) {pc : Nat} {Ls : Array Slot} {z : Int32} {rest : List Value} (hd : decode c.code pc = .ok (.ireturn, 1))
    {Q : Option Value → Heap → List Loc → Prop} {cs ss : Nat} (hc : cells ≤ cs) (hs : slots ≤ ss) (hQ : Q (some (.int z)) T.heap locs) : own_Go p e below (own_Post s Q cs ss) T (mkF m pc Ls (.int z :: rest)) := by
  obtain ⟨fs, hr, hrun, hended, hW, hsame⟩ := X.leave (v := some (.int z)) (fun h => by rw [hret] at h; cases h) hlk
  exact ⟨_, _, retOut X hx hret rfl (Or.inl ⟨rfl, Or.inl rfl, _, rfl⟩) hd hr, hrun, hended, _, _, rfl, hQ, ⟨_, rfl⟩, hW, hsame.mono hc hs⟩
theorem own_retJ (X : Stand p l e R s m args below meth c T locs cells slots) (hx : p.tables.exec = Jvm.exec) (hret : meth.sig.returnType = some .long) (hlk : meth.locks = false) {pc : Nat} {Ls : Array Slot} {z : Int64} {rest : List Value} (hd : decode c.code pc = .ok (.lreturn, 1))
    {Q : Option Value → Heap → List Loc → Prop} {cs ss : Nat} (hc : cells ≤ cs) (hs : slots ≤ ss) (hQ : Q (some (.long z)) T.heap locs) : own_Go p e below (own_Post s Q cs ss) T (mkF m pc Ls (.long z :: rest)) := by
  obtain ⟨fs, hr, hrun, hended, hW, hsame⟩ := X.leave (v := some (.long z)) (fun h => by rw [hret] at h; cases h) hlk
  exact ⟨_, _, retOut X hx hret rfl (Or.inr (Or.inl ⟨rfl, rfl, _, rfl⟩)) hd hr, hrun, hended, _, _, rfl, hQ, ⟨_, rfl⟩, hW, hsame.mono hc hs⟩
theorem own_retA (X : Stand p l e R s m args below meth c T locs cells slots) (hx : p.tables.exec = Jvm.exec) {t : FieldType} (hret : meth.sig.returnType = some t) (hlk : meth.locks = false) (ht : t.isReference = true) {pc : Nat} {Ls : Array Slot} {w : Value} {rest : List Value} (hw : w.isRef = true) (hd : decode c.code pc = .ok (.areturn, 1))
    {Q : Option Value → Heap → List Loc → Prop} {cs ss : Nat} (hc : cells ≤ cs) (hs : slots ≤ ss) (hQ : Q (some w) T.heap locs) : own_Go p e below (own_Post s Q cs ss) T (mkF m pc Ls (w :: rest)) := by
  obtain ⟨fs, hr, hrun, hended, hW, hsame⟩ := X.leave (v := some w) (fun h => by rw [hret] at h; cases h) hlk
  have hn : narrow t w = w := by rcases ref_cases hw with rfl | ⟨a, rfl⟩ <;> cases t <;> first | rfl | cases ht
  exact ⟨_, _, retOut X hx hret hn (Or.inr (Or.inr (Or.inr (Or.inr ⟨rfl, ht, hw⟩)))) hd hr, hrun, hended, _, _, rfl, hQ, ⟨_, rfl⟩, hW, hsame.mono hc hs⟩
theorem own_retV (X : Stand p l e R s m args below meth c T locs cells slots) (hx : p.tables.exec = Jvm.exec) (hret : meth.sig.returnType = none) (hlk : meth.locks = false) {pc : Nat} {Ls : Array Slot} (hd : decode c.code pc = .ok (.return_, 1))
    {Q : Option Value → Heap → List Loc → Prop} {cs ss : Nat} (hc : cells ≤ cs) (hs : slots ≤ ss) (hQ : Q none T.heap locs) : own_Go p e below (own_Post s Q cs ss) T (mkF m pc Ls []) := by
  obtain ⟨fs, hr, hrun, hended, hW, hsame⟩ := X.leave (v := none) (fun _ => rfl) hlk
  exact ⟨_, _, X.returnOut hx hret hd hr, hrun, hended, _, _, rfl, hQ, ⟨_, rfl⟩, hW, hsame.mono hc hs⟩
theorem own_callS (X : Stand p l e R s m args below meth c T locs cells slots) (hx : p.tables.exec = Jvm.exec) (hZ : Z.Warmed39 s.vm) {own : String} {index : Nat} {y : MethodName} {bytes : ByteArray} {maxL : Nat} {ret : Option FieldType} (hown : s.vm.findClass own = some m.cls)
    (w1 : (Jvm.Cond.methodLink own index y).before a0 Z = true) (w2 : (Jvm.Cond.static y).before a0 Z = true) (w3 : (Jvm.Cond.initialized y.cls).before a0 Z = true) (w4 : (Jvm.Cond.code y bytes maxL ret).before a0 Z = true)
    (hy : y.cls ≠ "java/lang/invoke/MethodHandle" ∧ y.cls ≠ "java/lang/invoke/VarHandle") {rm : Room} {argsL : List Value} {Q : Option Value → Heap → List Loc → Prop} (hM : own_Met l Z y bytes maxL ret [] rm argsL.toArray h rm.cells rm.slots Q) (eT : T.heap = h)
    {g : JFrame} (hg : g.method = m) (hsize : g.locals.size = c.maxLocals) {rest : List Value} (hlen : ∀ sig, parseMethodDescriptor y.desc = some sig → argsL.length = sig.parameters.length) (hstack : g.stack = argsL.reverse ++ rest)
    (hdg : decode c.code g.pc = .ok (.invokestatic index, 3)) {W : Nat} (hW : 2 * g.monitorRoom + (rest.map fun v => v.category).sum ≤ W) (hf : rm.frames + 1 ≤ R.frames) (hl : W + (maxL + 11) + rm.locals ≤ R.locals) (hc : cells + rm.cells ≤ R.cells) (hs : slots + rm.slots ≤ R.slots) :
    ∃ (v : Option Value) (T' : State) (L : List Loc), Q v T'.heap L ∧ Stand p l e R s m args below meth c T' (locs ++ L) (cells + rm.cells) (slots + rm.slots) ∧
      ∀ t, Steps p.tables e below (T'.setTop { g with pc := g.pc + 3, stack := v.toList ++ rest }) t → Steps p.tables e below (T.setTop g) t := by
  obtain ⟨v, _, ⟨T', L', k', n'⟩, -, X', ⟨L, hQ, l1, l2, l3⟩, st⟩ := Jvm.LawKit.callS X hx hown (mvT hZ w1) (mvT hZ w2) (mvT hZ w3) (mvT hZ w4) hy (backOf (W := W) hM hZ w4 w3 hf hl) hg hsize hlen hstack hW hdg (fun _ _ => ⟨rfl, eT, hc, hs⟩)
  dsimp only [Pt.U, Pt.locs, Pt.cells, Pt.slots] at X' l1 l2 l3 st hQ
  subst l1 l2 l3
  exact ⟨v, T', L, hQ, X', st⟩
theorem own_callI (X : Stand p l e R s m args below meth c T locs cells slots) (hx : p.tables.exec = Jvm.exec) (hZ : Z.Warmed39 s.vm) {own : String} {index : Nat} {y : MethodName} {bytes : ByteArray} {maxL : Nat} (hy1 : y.name = "<init>") (hown : s.vm.findClass own = some m.cls)
    (w1 : (Jvm.Cond.methodLink own index y).before a0 Z = true) (w2 : (Jvm.Cond.instanceMethod y).before a0 Z = true) (w3 : (Jvm.Cond.initialized y.cls).before a0 Z = true) (w4 : (Jvm.Cond.code y bytes maxL none).before a0 Z = true)
    (hy : y.cls ≠ "java/lang/invoke/MethodHandle" ∧ y.cls ≠ "java/lang/invoke/VarHandle") {rm : Room} {a : Addr} {argsL : List Value} {Q : Option Value → Heap → List Loc → Prop} (hM : own_Met l Z y bytes maxL none [] rm (.ref a :: argsL).toArray h rm.cells rm.slots Q) (eT : T.heap = h)
    {g : JFrame} (hg : g.method = m) (hsize : g.locals.size = c.maxLocals) {rest : List Value} (hlen : ∀ sig, parseMethodDescriptor y.desc = some sig → argsL.length = sig.parameters.length) (hstack : g.stack = argsL.reverse ++ .ref a :: rest)
    (hdg : decode c.code g.pc = .ok (.invokespecial index, 3)) {W : Nat} (hW : 2 * g.monitorRoom + (rest.map fun v => v.category).sum ≤ W) (hf : rm.frames + 1 ≤ R.frames) (hl : W + (maxL + 11) + rm.locals ≤ R.locals) (hc : cells + rm.cells ≤ R.cells) (hs : slots + rm.slots ≤ R.slots) :
    ∃ (v : Option Value) (T' : State) (L : List Loc), Q v T'.heap L ∧ Stand p l e R s m args below meth c T' (locs ++ L) (cells + rm.cells) (slots + rm.slots) ∧
      ∀ t, Steps p.tables e below (T'.setTop { g with pc := g.pc + 3, stack := v.toList ++ rest }) t → Steps p.tables e below (T.setTop g) t := by
  obtain ⟨v, _, ⟨T', L', k', n'⟩, -, X', ⟨L, hQ, l1, l2, l3⟩, st⟩ := X.specialBack hx hy1 hown (mvT hZ w1) (mvT hZ w2) (mvT hZ w4) hy (backOf (W := W) hM hZ w4 w3 hf hl) hg hsize (Steps.refl _) hlen hstack hW hdg (fun _ _ => ⟨rfl, eT, hc, hs⟩)
  dsimp only [Pt.U, Pt.locs, Pt.cells, Pt.slots] at X' l1 l2 l3 st hQ
  subst l1 l2 l3
  exact ⟨v, T', L, hQ, X', fun _ k => st.trans k⟩
theorem own_callV (X : Stand p l e R s m args below meth c T locs cells slots) (hx : p.tables.exec = Jvm.exec) (hZ : Z.Warmed39 s.vm) {own C : String} {index : Nat} {y z : MethodName} {bytes : ByteArray} {maxL : Nat} {ret : Option FieldType} (hown : s.vm.findClass own = some m.cls)
    (w1 : (Jvm.Cond.methodLink own index y).before a0 Z = true) (w2 : (Jvm.Cond.declares y).before a0 Z = true) (hnf : NotFace s y) (ws : (Jvm.Cond.selects C y z).before a0 Z = true) (wi : (Jvm.Cond.instanceMethod z).before a0 Z = true) (w3 : (Jvm.Cond.initialized z.cls).before a0 Z = true) (w4 : (Jvm.Cond.code z bytes maxL ret).before a0 Z = true)
    (hy : y.cls ≠ "java/lang/invoke/MethodHandle" ∧ y.cls ≠ "java/lang/invoke/VarHandle") {rm : Room} {a : Addr} {argsL : List Value} {Q : Option Value → Heap → List Loc → Prop} (hM : own_Met l Z z bytes maxL ret [] rm (.ref a :: argsL).toArray h rm.cells rm.slots Q) (eT : T.heap = h) (E : Exa Z h a C)
    {g : JFrame} (hg : g.method = m) (hsize : g.locals.size = c.maxLocals) {rest : List Value} (hlen : ∀ sig, parseMethodDescriptor y.desc = some sig → argsL.length = sig.parameters.length) (hstack : g.stack = argsL.reverse ++ .ref a :: rest)
    (hdg : decode c.code g.pc = .ok (.invokevirtual index, 3)) {W : Nat} (hW : 2 * g.monitorRoom + (rest.map fun v => v.category).sum ≤ W) (hf : rm.frames + 1 ≤ R.frames) (hl : W + (maxL + 11) + rm.locals ≤ R.locals) (hc : cells + rm.cells ≤ R.cells) (hs : slots + rm.slots ≤ R.slots) :
    ∃ (v : Option Value) (T' : State) (L : List Loc), Q v T'.heap L ∧ Stand p l e R s m args below meth c T' (locs ++ L) (cells + rm.cells) (slots + rm.slots) ∧
      ∀ t, Steps p.tables e below (T'.setTop { g with pc := g.pc + 3, stack := v.toList ++ rest }) t → Steps p.tables e below (T.setTop g) t := by
  obtain ⟨cq, kq, qa, qb, qc⟩ := isOf hZ eT E
  obtain ⟨v, _, ⟨T', L', k', n'⟩, -, X', ⟨L, hQ, l1, l2, l3⟩, st⟩ := X.virtualBack hx hown (mvT hZ w1) (mvT hZ w2) hnf (mvT hZ ws) (mvT hZ wi) hy (backOf (W := W) hM hZ w4 w3 hf hl) qa qc hg hsize (Steps.refl _) hlen hstack hW hdg (fun _ _ => ⟨rfl, eT, hc, hs⟩)
  dsimp only [Pt.U, Pt.locs, Pt.cells, Pt.slots] at X' l1 l2 l3 st hQ
  subst l1 l2 l3
  exact ⟨v, T', L, hQ, X', fun _ k => st.trans k⟩
theorem own_irem {g : JFrame} {target : State} (X : Stand p l e R s m args below meth c T locs cells slots) (hx : p.tables.exec = Jvm.exec) (hg : g.method = m) {x y : Int32} {rest : List Value} (hd : decode c.code g.pc = .ok (.irem, 1)) (hs : g.stack = .int y :: .int x :: rest) (hy : y ≠ 0)
    (hr : Steps p.tables e below (T.setTop { g with pc := g.pc + 1, stack := .int (x % y) :: rest }) target) : Steps p.tables e below (T.setTop g) target := iremM X hx hg hd hs hy hr
theorem own_lrem {g : JFrame} {target : State} (X : Stand p l e R s m args below meth c T locs cells slots) (hx : p.tables.exec = Jvm.exec) (hg : g.method = m) {x y : Int64} {rest : List Value} (hd : decode c.code g.pc = .ok (.lrem, 1)) (hs : g.stack = .long y :: .long x :: rest) (hy : y ≠ 0)
    (hr : Steps p.tables e below (T.setTop { g with pc := g.pc + 1, stack := .long (x % y) :: rest }) target) : Steps p.tables e below (T.setTop g) target :=
  XS.lrem X.here hx hg hd hs hy (by rw [lrem_mod]; exact hr)
theorem own_fldJ {t : Term} {C n d : String} {a : Addr} {z : Int64} (ht : t.eval args s none [] s = some (.ref a)) (q : (Jvm.Cond.eq (.field t C n d) (.long z)).value args s none s [] = some true) : Fld s s.heap a C n d (.long z) := by
  obtain ⟨x, y, ha, hb, -, k2⟩ := cmp_v (Or.inl q)
  obtain rfl : y = .long z := Option.some.inj (hb.symm.trans (long_at z))
  obtain ⟨w, rfl⟩ := k2
  have e : w = z := gotT (eq_L ha hb) q
  subst e
  exact Fld.start ((fld_at ht).symm.trans ha)
theorem own_ns_exa {a : Addr} {C : String} (E : Exa Z h a C) : ∃ c : Cell, h[a]? = some c ∧ c.vm.isStatics = false := by
  obtain ⟨c, k, h1, -, -, h4, -⟩ := E
  exact ⟨c, h1, h4⟩
theorem own_ns_arv {a : Addr} {k : ClassId} {ty : FieldType} {z : Int32} {vs : List Value} {dv : Value} (F : Arv Z h a k ty z vs dv) : ∃ c : Cell, h[a]? = some c ∧ c.vm.isStatics = false := by
  obtain ⟨c, A, -⟩ := F
  exact ⟨c, A.1, A.plain⟩
theorem own_sta_keep {h' : Heap} {C n d : String} {w : Value} {ws : List Addr} (F : Sta Z h C n d w) (K : Keep h h' ws) (hn : ∀ x ∈ ws, ∃ c : Cell, h[x]? = some c ∧ c.vm.isStatics = false) : Sta Z h' C n d w := by
  obtain ⟨cf, i, k, f, st, cell, h1, h2, h3, h4, h5, h6, h7⟩ := F
  exact ⟨cf, i, k, f, st, cell, h1, h2, h3, h4, K.2.1 st cell h5 (fun q => by obtain ⟨c, e1, e2⟩ := hn st q; cases h5.symm.trans e1; rw [e2] at h6; cases h6), h6, h7⟩
end Own
def own_mp (v : Int64) : Int64 := Int64.ofInt ((v.toInt % 18446744073709551616) % 2305843009213693951)
theorem own_mp_i (v : Int64) : (own_mp v).toInt = (v.toInt % 18446744073709551616) % 2305843009213693951 := by
  have h1 := rng64 (own_mp v)
  have h2 := bm64 ((v.toInt % 18446744073709551616) % 2305843009213693951)
  rw [← Int64.toInt_ofInt] at h2
  change ((own_mp v).toInt - _) % _ = 0 at h2
  omega
theorem own_mod (u s k : Int) (e : u = s + 2305843009213693951 * k) (h0 : 0 ≤ s) (h1 : s < 4611686018427387902) : (s < 2305843009213693951 → u % 2305843009213693951 = s) ∧ (2305843009213693951 ≤ s → u % 2305843009213693951 = s - 2305843009213693951) := by
  rw [e, Int.add_mul_emod_self_left]
  omega
theorem d1_0 : decode prog_52_method_17_code 0 = .ok (.lload_n 0, 1) := by decide +kernel
theorem d1_1 : decode prog_52_method_17_code 1 = .ok (.ldc2_w 92, 3) := by decide +kernel
theorem d1_4 : decode prog_52_method_17_code 4 = .ok (.land, 1) := by decide +kernel
theorem d1_5 : decode prog_52_method_17_code 5 = .ok (.lload_n 0, 1) := by decide +kernel
theorem d1_6 : decode prog_52_method_17_code 6 = .ok (.bipush 61, 2) := by decide +kernel
theorem d1_8 : decode prog_52_method_17_code 8 = .ok (.lushr, 1) := by decide +kernel
theorem d1_9 : decode prog_52_method_17_code 9 = .ok (.ladd, 1) := by decide +kernel
theorem d1_10 : decode prog_52_method_17_code 10 = .ok (.lstore_n 2, 1) := by decide +kernel
theorem d1_11 : decode prog_52_method_17_code 11 = .ok (.lload_n 2, 1) := by decide +kernel
theorem d1_12 : decode prog_52_method_17_code 12 = .ok (.ldc2_w 92, 3) := by decide +kernel
theorem d1_15 : decode prog_52_method_17_code 15 = .ok (.lcmp, 1) := by decide +kernel
theorem d1_16 : decode prog_52_method_17_code 16 = .ok (.ifCond .lt 11, 3) := by decide +kernel
theorem d1_19 : decode prog_52_method_17_code 19 = .ok (.lload_n 2, 1) := by decide +kernel
theorem d1_20 : decode prog_52_method_17_code 20 = .ok (.ldc2_w 92, 3) := by decide +kernel
theorem d1_23 : decode prog_52_method_17_code 23 = .ok (.lsub, 1) := by decide +kernel
theorem d1_24 : decode prog_52_method_17_code 24 = .ok (.goto 4, 3) := by decide +kernel
theorem d1_27 : decode prog_52_method_17_code 27 = .ok (.lload_n 2, 1) := by decide +kernel
theorem d1_28 : decode prog_52_method_17_code 28 = .ok (.lreturn, 1) := by decide +kernel
theorem pn_rm1 : plainName "com/example/gist_sketch/gistsketch/similarity/MinHash" = true := by first | (simp [plainName, overriddenIn]; done) | decide +kernel
theorem ef_rm1 (m : MethodId) (q0 : Int64) : entryFrame m #[(.long q0)] 4 = mkF m 0 #[.val (.long q0), .second, .unset, .unset] [] := by first | (simp [entryFrame, mkF, argsToLocals, Value.category]; done) | rfl
set_option maxRecDepth 65536 in
set_option maxHeartbeats 40000000 in
theorem rm1 (l : Launch) (Z : State) (a0 : Array Value) (hw : ∀ d ∈ tables_1, d.before a0 Z = true) (q0 : Int64)  (h0 : Heap) :
    own_Met l Z (⟨"com/example/gist_sketch/gistsketch/similarity/MinHash", "modPrime", "(J)J"⟩ : MethodName) prog_52_method_17_code 4 (some .long) [] ({ frames := 0, cells := 0, slots := 0, locals := 0 } : Room) #[(.long q0)] h0 0 0 (fun v h L => v = some (.long (own_mp q0)) ∧ h = h0 ∧ L = []) := by
  refine own_met (plainFor_of_name pn_rm1) ?_
  intro p e s m below meth c s₁ Bd hml0 hZ X0 e0
  have hx := Bd.exec
  have hby := Bd.bytes
  have hml : c.maxLocals = 4 := hml0
  have hown : s.vm.findClass "com/example/gist_sketch/gistsketch/similarity/MinHash" = some m.cls := findClass_of_methodNamed Bd.named
  have hnm := (name_of_methodNamed Bd.named Bd.method).1
  refine own_cast (ef_rm1 m q0) ?_
  generalize hQQ : (fun (v : Option Value) (h : Heap) (L : List Loc) => v = some (.long (own_mp q0)) ∧ h = h0 ∧ L = []) = QQ
  refine own_go (g' := (mkF m 1 #[.val (.long q0), .second, .unset, .unset] [(.long q0)])) (fun _ k => XS.lloadN X0.here hx rfl (hb hby d1_0) rfl k) ?_
  refine own_go (g' := (mkF m 4 #[.val (.long q0), .second, .unset, .unset] [(.long (2305843009213693951 : Int64)), (.long q0)])) (X0.ldc2Long hx hown (mvT hZ (hw _ (List.mem_of_getElem? (i := 4) rfl))) (g := (mkF m 1 #[.val (.long q0), .second, .unset, .unset] [(.long q0)])) rfl (hb hby d1_1)) ?_
  refine own_go (g' := (mkF m 5 #[.val (.long q0), .second, .unset, .unset] [(.long (q0 &&& (2305843009213693951 : Int64)))])) (fun _ k => XS.land X0.here hx rfl (hb hby d1_4) rfl k) ?_
  refine own_go (g' := (mkF m 6 #[.val (.long q0), .second, .unset, .unset] [(.long q0), (.long (q0 &&& (2305843009213693951 : Int64)))])) (fun _ k => XS.lloadN X0.here hx rfl (hb hby d1_5) rfl k) ?_
  refine own_go (g' := (mkF m 8 #[.val (.long q0), .second, .unset, .unset] [(.int (61 : Int32)), (.long q0), (.long (q0 &&& (2305843009213693951 : Int64)))])) (fun _ k => XS.bipush X0.here hx rfl (hb hby d1_6) k) ?_
  refine own_go (g' := (mkF m 9 #[.val (.long q0), .second, .unset, .unset] [(.long ((q0.toUInt64 >>> ((61 : Int32) &&& 0x3f).toInt64.toUInt64).toInt64)), (.long (q0 &&& (2305843009213693951 : Int64)))])) (fun _ k => XS.lushr X0.here hx rfl (hb hby d1_8) rfl k) ?_
  refine own_go (g' := (mkF m 10 #[.val (.long q0), .second, .unset, .unset] [(.long ((q0 &&& (2305843009213693951 : Int64)) + ((q0.toUInt64 >>> ((61 : Int32) &&& 0x3f).toInt64.toUInt64).toInt64)))])) (fun _ k => XS.ladd X0.here hx rfl (hb hby d1_9) rfl k) ?_
  suffices JNhk1 : ∀ k1 : Int64, k1 = ((q0 &&& (2305843009213693951 : Int64)) + ((q0.toUInt64 >>> ((61 : Int32) &&& 0x3f).toInt64.toUInt64).toInt64)) → own_Go p e below (own_Post s QQ 0 0) s₁ (mkF m 10 #[.val (.long q0), .second, .unset, .unset] [(.long k1)]) from JNhk1 _ (rfl)
  intro k1 hk1
  refine own_go (g' := (mkF m 11 #[.val (.long q0), .second, .val (.long k1), .second] [])) (fun _ k => XS.lstoreN X0.here hx rfl (hb hby d1_10) rfl (l' := #[.val (.long q0), .second, .val (.long k1), .second]) rfl k) ?_
  refine own_go (g' := (mkF m 12 #[.val (.long q0), .second, .val (.long k1), .second] [(.long k1)])) (fun _ k => XS.lloadN X0.here hx rfl (hb hby d1_11) rfl k) ?_
  refine own_go (g' := (mkF m 15 #[.val (.long q0), .second, .val (.long k1), .second] [(.long (2305843009213693951 : Int64)), (.long k1)])) (X0.ldc2Long hx hown (mvT hZ (hw _ (List.mem_of_getElem? (i := 4) rfl))) (g := (mkF m 12 #[.val (.long q0), .second, .val (.long k1), .second] [(.long k1)])) rfl (hb hby d1_12)) ?_
  refine own_go (g' := (mkF m 16 #[.val (.long q0), .second, .val (.long k1), .second] [(.int (lcmpW k1 (2305843009213693951 : Int64)))])) (fun _ k => XS.lcmp X0.here hx rfl (hb hby d1_15) rfl k) ?_
  by_cases hc1 : k1 < (2305843009213693951 : Int64)
  ·
    refine own_go (g' := (mkF m 27 #[.val (.long q0), .second, .val (.long k1), .second] [])) (fun _ k => XS.ifYes X0.here hx rfl (pc0 := 16) (pc' := 27) rfl (hb hby d1_16) rfl ((if0 _ _).trans (tlt ((lw_lt _ _).mpr hc1)).1) (by decide) (by decide) k) ?_
    refine own_go (g' := (mkF m 28 #[.val (.long q0), .second, .val (.long k1), .second] [(.long k1)])) (fun _ k => XS.lloadN X0.here hx rfl (hb hby d1_27) rfl k) ?_
    refine own_retJ X0 hx Bd.returns Bd.notSynchronized (hb hby d1_28) (by decide) (by decide) ?_
    show QQ _ s₁.heap _
    rw [e0]
    have g1 := c_maskL q0 (2305843009213693951 : Int64) 61 (by decide) (by decide)
    have g2 := c_lushr q0 (61 : Int32) 61 (by decide) (by decide)
    have g3 := c_ladd (q0 &&& (2305843009213693951 : Int64)) ((q0.toUInt64 >>> ((61 : Int32) &&& 0x3f).toInt64.toUInt64).toInt64)
    rw [← hk1] at g3
    have g4 := c_lsub k1 (2305843009213693951 : Int64)
    have g5 := rng64 q0
    have g6 := rng64 k1
    have g7 := rng64 (k1 - (2305843009213693951 : Int64))
    have hP : (2305843009213693951 : Int64).toInt = 2305843009213693951 := by decide
    obtain ⟨u, hu⟩ : ∃ u, u = q0.toInt % 18446744073709551616 := ⟨_, rfl⟩
    have g8 : k1.toInt = u % 2305843009213693952 + u / 2305843009213693952 := by rw [← hu] at g2; simp only [Nat.reducePow, Int.cast_ofNat_Int] at g1 g2; omega
    have g9 := own_mod u (u % 2305843009213693952 + u / 2305843009213693952) (u / 2305843009213693952) (by omega) (by omega) (by omega)
    rw [Int64.lt_iff_toInt_lt, hP] at hc1
    rw [hP] at g4
    clear g1 g2 g3
    have hv : k1 = own_mp q0 := by
      rw [← Int64.toInt_inj, own_mp_i, ← hu]
      generalize u % 2305843009213693952 + u / 2305843009213693952 = sg at g8 g9
      omega
    rw [← hQQ]
    exact ⟨by rw [hv], rfl, rfl⟩
  ·
    refine own_go (g' := (mkF m 19 #[.val (.long q0), .second, .val (.long k1), .second] [])) (fun _ k => XS.ifNo X0.here hx rfl (hb hby d1_16) rfl ((if0 _ _).trans (flt (mt (lw_lt _ _).mp hc1)).1) k) ?_
    refine own_go (g' := (mkF m 20 #[.val (.long q0), .second, .val (.long k1), .second] [(.long k1)])) (fun _ k => XS.lloadN X0.here hx rfl (hb hby d1_19) rfl k) ?_
    refine own_go (g' := (mkF m 23 #[.val (.long q0), .second, .val (.long k1), .second] [(.long (2305843009213693951 : Int64)), (.long k1)])) (X0.ldc2Long hx hown (mvT hZ (hw _ (List.mem_of_getElem? (i := 4) rfl))) (g := (mkF m 20 #[.val (.long q0), .second, .val (.long k1), .second] [(.long k1)])) rfl (hb hby d1_20)) ?_
    refine own_go (g' := (mkF m 24 #[.val (.long q0), .second, .val (.long k1), .second] [(.long (k1 - (2305843009213693951 : Int64)))])) (fun _ k => XS.lsub X0.here hx rfl (hb hby d1_23) rfl k) ?_
    refine own_go (g' := (mkF m 28 #[.val (.long q0), .second, .val (.long k1), .second] [(.long (k1 - (2305843009213693951 : Int64)))])) (fun _ k => XS.goto X0.here hx rfl (pc0 := 24) (pc' := 28) rfl (hb hby d1_24) (by decide) (by decide) k) ?_
    refine own_retJ X0 hx Bd.returns Bd.notSynchronized (hb hby d1_28) (by decide) (by decide) ?_
    show QQ _ s₁.heap _
    rw [e0]
    have g1 := c_maskL q0 (2305843009213693951 : Int64) 61 (by decide) (by decide)
    have g2 := c_lushr q0 (61 : Int32) 61 (by decide) (by decide)
    have g3 := c_ladd (q0 &&& (2305843009213693951 : Int64)) ((q0.toUInt64 >>> ((61 : Int32) &&& 0x3f).toInt64.toUInt64).toInt64)
    rw [← hk1] at g3
    have g4 := c_lsub k1 (2305843009213693951 : Int64)
    have g5 := rng64 q0
    have g6 := rng64 k1
    have g7 := rng64 (k1 - (2305843009213693951 : Int64))
    have hP : (2305843009213693951 : Int64).toInt = 2305843009213693951 := by decide
    obtain ⟨u, hu⟩ : ∃ u, u = q0.toInt % 18446744073709551616 := ⟨_, rfl⟩
    have g8 : k1.toInt = u % 2305843009213693952 + u / 2305843009213693952 := by rw [← hu] at g2; simp only [Nat.reducePow, Int.cast_ofNat_Int] at g1 g2; omega
    have g9 := own_mod u (u % 2305843009213693952 + u / 2305843009213693952) (u / 2305843009213693952) (by omega) (by omega) (by omega)
    rw [Int64.lt_iff_toInt_lt, hP] at hc1
    rw [hP] at g4
    clear g1 g2 g3
    have hv : (k1 - (2305843009213693951 : Int64)) = own_mp q0 := by
      rw [← Int64.toInt_inj, own_mp_i, ← hu]
      generalize u % 2305843009213693952 + u / 2305843009213693952 = sg at g8 g9
      omega
    rw [← hQQ]
    exact ⟨by rw [hv], rfl, rfl⟩
theorem d2_0 : decode method_3_code 0 = .ok (.lload_n 0, 1) := by decide +kernel
theorem d2_1 : decode method_3_code 1 = .ok (.ldc2_w 24, 3) := by decide +kernel
theorem d2_4 : decode method_3_code 4 = .ok (.land, 1) := by decide +kernel
theorem d2_5 : decode method_3_code 5 = .ok (.lstore_n 2, 1) := by decide +kernel
theorem d2_6 : decode method_3_code 6 = .ok (.lload_n 2, 1) := by decide +kernel
theorem d2_7 : decode method_3_code 7 = .ok (.ldc2_w 11, 3) := by decide +kernel
theorem d2_10 : decode method_3_code 10 = .ok (.lrem, 1) := by decide +kernel
theorem d2_11 : decode method_3_code 11 = .ok (.lstore 4, 2) := by decide +kernel
theorem d2_13 : decode method_3_code 13 = .ok (.lload_n 0, 1) := by decide +kernel
theorem d2_14 : decode method_3_code 14 = .ok (.lconst 0, 1) := by decide +kernel
theorem d2_15 : decode method_3_code 15 = .ok (.lcmp, 1) := by decide +kernel
theorem d2_16 : decode method_3_code 16 = .ok (.ifCond .ge 11, 3) := by decide +kernel
theorem d2_19 : decode method_3_code 19 = .ok (.lload 4, 2) := by decide +kernel
theorem d2_21 : decode method_3_code 21 = .ok (.ldc2_w 26, 3) := by decide +kernel
theorem d2_24 : decode method_3_code 24 = .ok (.ladd, 1) := by decide +kernel
theorem d2_25 : decode method_3_code 25 = .ok (.lstore 4, 2) := by decide +kernel
theorem d2_27 : decode method_3_code 27 = .ok (.lload 4, 2) := by decide +kernel
theorem d2_29 : decode method_3_code 29 = .ok (.ldc2_w 11, 3) := by decide +kernel
theorem d2_32 : decode method_3_code 32 = .ok (.lcmp, 1) := by decide +kernel
theorem d2_33 : decode method_3_code 33 = .ok (.ifCond .lt 11, 3) := by decide +kernel
theorem d2_36 : decode method_3_code 36 = .ok (.lload 4, 2) := by decide +kernel
theorem d2_38 : decode method_3_code 38 = .ok (.ldc2_w 11, 3) := by decide +kernel
theorem d2_41 : decode method_3_code 41 = .ok (.lsub, 1) := by decide +kernel
theorem d2_42 : decode method_3_code 42 = .ok (.lstore 4, 2) := by decide +kernel
theorem d2_44 : decode method_3_code 44 = .ok (.lload 4, 2) := by decide +kernel
theorem d2_46 : decode method_3_code 46 = .ok (.lreturn, 1) := by decide +kernel
theorem pn_rm2 : plainName "com/example/gist_sketch/gistsketch/similarity/MinHashModPrimePinLaw" = true := by first | (simp [plainName, overriddenIn]; done) | decide +kernel
theorem ef_rm2 (m : MethodId) (q0 : Int64) : entryFrame m #[(.long q0)] 6 = mkF m 0 #[.val (.long q0), .second, .unset, .unset, .unset, .unset] [] := by first | (simp [entryFrame, mkF, argsToLocals, Value.category]; done) | rfl
set_option maxRecDepth 65536 in
set_option maxHeartbeats 40000000 in
theorem rm2 (l : Launch) (Z : State) (a0 : Array Value) (hw : ∀ d ∈ tables_1, d.before a0 Z = true) (q0 : Int64)  (h0 : Heap) :
    own_Met l Z (⟨"com/example/gist_sketch/gistsketch/similarity/MinHashModPrimePinLaw", "reference", "(J)J"⟩ : MethodName) method_3_code 6 (some .long) [] ({ frames := 0, cells := 0, slots := 0, locals := 0 } : Room) #[(.long q0)] h0 0 0 (fun v h L => v = some (.long (own_mp q0)) ∧ h = h0 ∧ L = []) := by
  refine own_met (plainFor_of_name pn_rm2) ?_
  intro p e s m below meth c s₁ Bd hml0 hZ X0 e0
  have hx := Bd.exec
  have hby := Bd.bytes
  have hml : c.maxLocals = 6 := hml0
  have hown : s.vm.findClass "com/example/gist_sketch/gistsketch/similarity/MinHashModPrimePinLaw" = some m.cls := findClass_of_methodNamed Bd.named
  have hnm := (name_of_methodNamed Bd.named Bd.method).1
  refine own_cast (ef_rm2 m q0) ?_
  generalize hQQ : (fun (v : Option Value) (h : Heap) (L : List Loc) => v = some (.long (own_mp q0)) ∧ h = h0 ∧ L = []) = QQ
  refine own_go (g' := (mkF m 1 #[.val (.long q0), .second, .unset, .unset, .unset, .unset] [(.long q0)])) (fun _ k => XS.lloadN X0.here hx rfl (hb hby d2_0) rfl k) ?_
  refine own_go (g' := (mkF m 4 #[.val (.long q0), .second, .unset, .unset, .unset, .unset] [(.long (9223372036854775807 : Int64)), (.long q0)])) (X0.ldc2Long hx hown (mvT hZ (hw _ (List.mem_of_getElem? (i := 9) rfl))) (g := (mkF m 1 #[.val (.long q0), .second, .unset, .unset, .unset, .unset] [(.long q0)])) rfl (hb hby d2_1)) ?_
  refine own_go (g' := (mkF m 5 #[.val (.long q0), .second, .unset, .unset, .unset, .unset] [(.long (q0 &&& (9223372036854775807 : Int64)))])) (fun _ k => XS.land X0.here hx rfl (hb hby d2_4) rfl k) ?_
  suffices JNhlo : ∀ lo : Int64, lo = (q0 &&& (9223372036854775807 : Int64)) → own_Go p e below (own_Post s QQ 0 0) s₁ (mkF m 5 #[.val (.long q0), .second, .unset, .unset, .unset, .unset] [(.long lo)]) from JNhlo _ (rfl)
  intro lo hlo
  refine own_go (g' := (mkF m 6 #[.val (.long q0), .second, .val (.long lo), .second, .unset, .unset] [])) (fun _ k => XS.lstoreN X0.here hx rfl (hb hby d2_5) rfl (l' := #[.val (.long q0), .second, .val (.long lo), .second, .unset, .unset]) rfl k) ?_
  refine own_go (g' := (mkF m 7 #[.val (.long q0), .second, .val (.long lo), .second, .unset, .unset] [(.long lo)])) (fun _ k => XS.lloadN X0.here hx rfl (hb hby d2_6) rfl k) ?_
  refine own_go (g' := (mkF m 10 #[.val (.long q0), .second, .val (.long lo), .second, .unset, .unset] [(.long (2305843009213693951 : Int64)), (.long lo)])) (X0.ldc2Long hx hown (mvT hZ (hw _ (List.mem_of_getElem? (i := 10) rfl))) (g := (mkF m 7 #[.val (.long q0), .second, .val (.long lo), .second, .unset, .unset] [(.long lo)])) rfl (hb hby d2_7)) ?_
  refine own_go (g' := (mkF m 11 #[.val (.long q0), .second, .val (.long lo), .second, .unset, .unset] [(.long (lo % (2305843009213693951 : Int64)))])) (fun _ k => own_lrem X0 hx rfl (hb hby d2_10) rfl (by decide) k) ?_
  suffices JNhr0 : ∀ r0 : Int64, r0 = (lo % (2305843009213693951 : Int64)) → own_Go p e below (own_Post s QQ 0 0) s₁ (mkF m 11 #[.val (.long q0), .second, .val (.long lo), .second, .unset, .unset] [(.long r0)]) from JNhr0 _ (rfl)
  intro r0 hr0
  refine own_go (g' := (mkF m 13 #[.val (.long q0), .second, .val (.long lo), .second, .val (.long r0), .second] [])) (fun _ k => XS.lstore X0.here hx rfl (hb hby d2_11) rfl (l' := #[.val (.long q0), .second, .val (.long lo), .second, .val (.long r0), .second]) rfl k) ?_
  refine own_go (g' := (mkF m 14 #[.val (.long q0), .second, .val (.long lo), .second, .val (.long r0), .second] [(.long q0)])) (fun _ k => XS.lloadN X0.here hx rfl (hb hby d2_13) rfl k) ?_
  refine own_go (g' := (mkF m 15 #[.val (.long q0), .second, .val (.long lo), .second, .val (.long r0), .second] [(.long (0 : Int64)), (.long q0)])) (fun _ k => XS.lconst X0.here hx rfl (hb hby d2_14) k) ?_
  refine own_go (g' := (mkF m 16 #[.val (.long q0), .second, .val (.long lo), .second, .val (.long r0), .second] [(.int (lcmpW q0 (0 : Int64)))])) (fun _ k => XS.lcmp X0.here hx rfl (hb hby d2_15) rfl k) ?_
  by_cases hc1 : q0 < (0 : Int64)
  ·
    refine own_go (g' := (mkF m 19 #[.val (.long q0), .second, .val (.long lo), .second, .val (.long r0), .second] [])) (fun _ k => XS.ifNo X0.here hx rfl (hb hby d2_16) rfl ((if0 _ _).trans (tlt ((lw_lt _ _).mpr hc1)).2.1) k) ?_
    refine own_go (g' := (mkF m 21 #[.val (.long q0), .second, .val (.long lo), .second, .val (.long r0), .second] [(.long r0)])) (fun _ k => XS.lload X0.here hx rfl (hb hby d2_19) rfl k) ?_
    refine own_go (g' := (mkF m 24 #[.val (.long q0), .second, .val (.long lo), .second, .val (.long r0), .second] [(.long (4 : Int64)), (.long r0)])) (X0.ldc2Long hx hown (mvT hZ (hw _ (List.mem_of_getElem? (i := 11) rfl))) (g := (mkF m 21 #[.val (.long q0), .second, .val (.long lo), .second, .val (.long r0), .second] [(.long r0)])) rfl (hb hby d2_21)) ?_
    refine own_go (g' := (mkF m 25 #[.val (.long q0), .second, .val (.long lo), .second, .val (.long r0), .second] [(.long (r0 + (4 : Int64)))])) (fun _ k => XS.ladd X0.here hx rfl (hb hby d2_24) rfl k) ?_
    suffices JNhr1 : ∀ r1 : Int64, r1 = (r0 + (4 : Int64)) → own_Go p e below (own_Post s QQ 0 0) s₁ (mkF m 25 #[.val (.long q0), .second, .val (.long lo), .second, .val (.long r0), .second] [(.long r1)]) from JNhr1 _ (rfl)
    intro r1 hr1
    refine own_go (g' := (mkF m 27 #[.val (.long q0), .second, .val (.long lo), .second, .val (.long r1), .second] [])) (fun _ k => XS.lstore X0.here hx rfl (hb hby d2_25) rfl (l' := #[.val (.long q0), .second, .val (.long lo), .second, .val (.long r1), .second]) rfl k) ?_
    refine own_go (g' := (mkF m 29 #[.val (.long q0), .second, .val (.long lo), .second, .val (.long r1), .second] [(.long r1)])) (fun _ k => XS.lload X0.here hx rfl (hb hby d2_27) rfl k) ?_
    refine own_go (g' := (mkF m 32 #[.val (.long q0), .second, .val (.long lo), .second, .val (.long r1), .second] [(.long (2305843009213693951 : Int64)), (.long r1)])) (X0.ldc2Long hx hown (mvT hZ (hw _ (List.mem_of_getElem? (i := 10) rfl))) (g := (mkF m 29 #[.val (.long q0), .second, .val (.long lo), .second, .val (.long r1), .second] [(.long r1)])) rfl (hb hby d2_29)) ?_
    refine own_go (g' := (mkF m 33 #[.val (.long q0), .second, .val (.long lo), .second, .val (.long r1), .second] [(.int (lcmpW r1 (2305843009213693951 : Int64)))])) (fun _ k => XS.lcmp X0.here hx rfl (hb hby d2_32) rfl k) ?_
    by_cases hc2 : r1 < (2305843009213693951 : Int64)
    ·
      refine own_go (g' := (mkF m 44 #[.val (.long q0), .second, .val (.long lo), .second, .val (.long r1), .second] [])) (fun _ k => XS.ifYes X0.here hx rfl (pc0 := 33) (pc' := 44) rfl (hb hby d2_33) rfl ((if0 _ _).trans (tlt ((lw_lt _ _).mpr hc2)).1) (by decide) (by decide) k) ?_
      refine own_go (g' := (mkF m 46 #[.val (.long q0), .second, .val (.long lo), .second, .val (.long r1), .second] [(.long r1)])) (fun _ k => XS.lload X0.here hx rfl (hb hby d2_44) rfl k) ?_
      refine own_retJ X0 hx Bd.returns Bd.notSynchronized (hb hby d2_46) (by decide) (by decide) ?_
      show QQ _ s₁.heap _
      rw [e0]
      have hP : (2305843009213693951 : Int64).toInt = 2305843009213693951 := by decide
      have g1 := c_maskL q0 (9223372036854775807 : Int64) 63 (by decide) (by decide)
      rw [← hlo] at g1
      simp only [Nat.reducePow, Int.cast_ofNat_Int] at g1
      have g2 : r0.toInt = lo.toInt % 2305843009213693951 := by rw [hr0, Int64.toInt_mod, hP]; exact Int.tmod_eq_emod_of_nonneg (by omega)
      have g5 := rng64 q0
      have g6 := rng64 r1
      obtain ⟨u, hu⟩ : ∃ u, u = q0.toInt % 18446744073709551616 := ⟨_, rfl⟩
      simp only [Int64.lt_iff_toInt_lt, hP, Int64.reduceToInt] at hc1 hc2
      have g3 := c_ladd r0 (4 : Int64)
      rw [← hr1] at g3
      simp only [Int64.reduceToInt] at g3
      have g8 := rng64 r1
      have g9 := own_mod u (r0.toInt + 4) (4 + lo.toInt / 2305843009213693951) (by omega) (by omega) (by omega)
      have hv : r1 = own_mp q0 := by
        rw [← Int64.toInt_inj, own_mp_i, ← hu]
        omega
      rw [← hQQ]
      exact ⟨by rw [hv], rfl, rfl⟩
    ·
      refine own_go (g' := (mkF m 36 #[.val (.long q0), .second, .val (.long lo), .second, .val (.long r1), .second] [])) (fun _ k => XS.ifNo X0.here hx rfl (hb hby d2_33) rfl ((if0 _ _).trans (flt (mt (lw_lt _ _).mp hc2)).1) k) ?_
      refine own_go (g' := (mkF m 38 #[.val (.long q0), .second, .val (.long lo), .second, .val (.long r1), .second] [(.long r1)])) (fun _ k => XS.lload X0.here hx rfl (hb hby d2_36) rfl k) ?_
      refine own_go (g' := (mkF m 41 #[.val (.long q0), .second, .val (.long lo), .second, .val (.long r1), .second] [(.long (2305843009213693951 : Int64)), (.long r1)])) (X0.ldc2Long hx hown (mvT hZ (hw _ (List.mem_of_getElem? (i := 10) rfl))) (g := (mkF m 38 #[.val (.long q0), .second, .val (.long lo), .second, .val (.long r1), .second] [(.long r1)])) rfl (hb hby d2_38)) ?_
      refine own_go (g' := (mkF m 42 #[.val (.long q0), .second, .val (.long lo), .second, .val (.long r1), .second] [(.long (r1 - (2305843009213693951 : Int64)))])) (fun _ k => XS.lsub X0.here hx rfl (hb hby d2_41) rfl k) ?_
      suffices JNhr2 : ∀ r2 : Int64, r2 = (r1 - (2305843009213693951 : Int64)) → own_Go p e below (own_Post s QQ 0 0) s₁ (mkF m 42 #[.val (.long q0), .second, .val (.long lo), .second, .val (.long r1), .second] [(.long r2)]) from JNhr2 _ (rfl)
      intro r2 hr2
      refine own_go (g' := (mkF m 44 #[.val (.long q0), .second, .val (.long lo), .second, .val (.long r2), .second] [])) (fun _ k => XS.lstore X0.here hx rfl (hb hby d2_42) rfl (l' := #[.val (.long q0), .second, .val (.long lo), .second, .val (.long r2), .second]) rfl k) ?_
      refine own_go (g' := (mkF m 46 #[.val (.long q0), .second, .val (.long lo), .second, .val (.long r2), .second] [(.long r2)])) (fun _ k => XS.lload X0.here hx rfl (hb hby d2_44) rfl k) ?_
      refine own_retJ X0 hx Bd.returns Bd.notSynchronized (hb hby d2_46) (by decide) (by decide) ?_
      show QQ _ s₁.heap _
      rw [e0]
      have hP : (2305843009213693951 : Int64).toInt = 2305843009213693951 := by decide
      have g1 := c_maskL q0 (9223372036854775807 : Int64) 63 (by decide) (by decide)
      rw [← hlo] at g1
      simp only [Nat.reducePow, Int.cast_ofNat_Int] at g1
      have g2 : r0.toInt = lo.toInt % 2305843009213693951 := by rw [hr0, Int64.toInt_mod, hP]; exact Int.tmod_eq_emod_of_nonneg (by omega)
      have g5 := rng64 q0
      have g6 := rng64 r2
      obtain ⟨u, hu⟩ : ∃ u, u = q0.toInt % 18446744073709551616 := ⟨_, rfl⟩
      simp only [Int64.lt_iff_toInt_lt, hP, Int64.reduceToInt] at hc1 hc2
      have g3 := c_ladd r0 (4 : Int64)
      rw [← hr1] at g3
      simp only [Int64.reduceToInt] at g3
      have g8 := rng64 r1
      have g9 := own_mod u (r0.toInt + 4) (4 + lo.toInt / 2305843009213693951) (by omega) (by omega) (by omega)
      have g4 := c_lsub r1 (2305843009213693951 : Int64)
      rw [← hr2, hP] at g4
      have hv : r2 = own_mp q0 := by
        rw [← Int64.toInt_inj, own_mp_i, ← hu]
        omega
      rw [← hQQ]
      exact ⟨by rw [hv], rfl, rfl⟩
  ·
    refine own_go (g' := (mkF m 27 #[.val (.long q0), .second, .val (.long lo), .second, .val (.long r0), .second] [])) (fun _ k => XS.ifYes X0.here hx rfl (pc0 := 16) (pc' := 27) rfl (hb hby d2_16) rfl ((if0 _ _).trans (flt (mt (lw_lt _ _).mp hc1)).2.1) (by decide) (by decide) k) ?_
    refine own_go (g' := (mkF m 29 #[.val (.long q0), .second, .val (.long lo), .second, .val (.long r0), .second] [(.long r0)])) (fun _ k => XS.lload X0.here hx rfl (hb hby d2_27) rfl k) ?_
    refine own_go (g' := (mkF m 32 #[.val (.long q0), .second, .val (.long lo), .second, .val (.long r0), .second] [(.long (2305843009213693951 : Int64)), (.long r0)])) (X0.ldc2Long hx hown (mvT hZ (hw _ (List.mem_of_getElem? (i := 10) rfl))) (g := (mkF m 29 #[.val (.long q0), .second, .val (.long lo), .second, .val (.long r0), .second] [(.long r0)])) rfl (hb hby d2_29)) ?_
    refine own_go (g' := (mkF m 33 #[.val (.long q0), .second, .val (.long lo), .second, .val (.long r0), .second] [(.int (lcmpW r0 (2305843009213693951 : Int64)))])) (fun _ k => XS.lcmp X0.here hx rfl (hb hby d2_32) rfl k) ?_
    by_cases hc3 : r0 < (2305843009213693951 : Int64)
    ·
      refine own_go (g' := (mkF m 44 #[.val (.long q0), .second, .val (.long lo), .second, .val (.long r0), .second] [])) (fun _ k => XS.ifYes X0.here hx rfl (pc0 := 33) (pc' := 44) rfl (hb hby d2_33) rfl ((if0 _ _).trans (tlt ((lw_lt _ _).mpr hc3)).1) (by decide) (by decide) k) ?_
      refine own_go (g' := (mkF m 46 #[.val (.long q0), .second, .val (.long lo), .second, .val (.long r0), .second] [(.long r0)])) (fun _ k => XS.lload X0.here hx rfl (hb hby d2_44) rfl k) ?_
      refine own_retJ X0 hx Bd.returns Bd.notSynchronized (hb hby d2_46) (by decide) (by decide) ?_
      show QQ _ s₁.heap _
      rw [e0]
      have hP : (2305843009213693951 : Int64).toInt = 2305843009213693951 := by decide
      have g1 := c_maskL q0 (9223372036854775807 : Int64) 63 (by decide) (by decide)
      rw [← hlo] at g1
      simp only [Nat.reducePow, Int.cast_ofNat_Int] at g1
      have g2 : r0.toInt = lo.toInt % 2305843009213693951 := by rw [hr0, Int64.toInt_mod, hP]; exact Int.tmod_eq_emod_of_nonneg (by omega)
      have g5 := rng64 q0
      have g6 := rng64 r0
      obtain ⟨u, hu⟩ : ∃ u, u = q0.toInt % 18446744073709551616 := ⟨_, rfl⟩
      simp only [Int64.lt_iff_toInt_lt, hP, Int64.reduceToInt] at hc1 hc3
      have g9 := own_mod u r0.toInt (lo.toInt / 2305843009213693951) (by omega) (by omega) (by omega)
      have hv : r0 = own_mp q0 := by
        rw [← Int64.toInt_inj, own_mp_i, ← hu]
        omega
      rw [← hQQ]
      exact ⟨by rw [hv], rfl, rfl⟩
    ·
      refine own_go (g' := (mkF m 36 #[.val (.long q0), .second, .val (.long lo), .second, .val (.long r0), .second] [])) (fun _ k => XS.ifNo X0.here hx rfl (hb hby d2_33) rfl ((if0 _ _).trans (flt (mt (lw_lt _ _).mp hc3)).1) k) ?_
      refine own_go (g' := (mkF m 38 #[.val (.long q0), .second, .val (.long lo), .second, .val (.long r0), .second] [(.long r0)])) (fun _ k => XS.lload X0.here hx rfl (hb hby d2_36) rfl k) ?_
      refine own_go (g' := (mkF m 41 #[.val (.long q0), .second, .val (.long lo), .second, .val (.long r0), .second] [(.long (2305843009213693951 : Int64)), (.long r0)])) (X0.ldc2Long hx hown (mvT hZ (hw _ (List.mem_of_getElem? (i := 10) rfl))) (g := (mkF m 38 #[.val (.long q0), .second, .val (.long lo), .second, .val (.long r0), .second] [(.long r0)])) rfl (hb hby d2_38)) ?_
      refine own_go (g' := (mkF m 42 #[.val (.long q0), .second, .val (.long lo), .second, .val (.long r0), .second] [(.long (r0 - (2305843009213693951 : Int64)))])) (fun _ k => XS.lsub X0.here hx rfl (hb hby d2_41) rfl k) ?_
      suffices JNhr2 : ∀ r2 : Int64, r2 = (r0 - (2305843009213693951 : Int64)) → own_Go p e below (own_Post s QQ 0 0) s₁ (mkF m 42 #[.val (.long q0), .second, .val (.long lo), .second, .val (.long r0), .second] [(.long r2)]) from JNhr2 _ (rfl)
      intro r2 hr2
      refine own_go (g' := (mkF m 44 #[.val (.long q0), .second, .val (.long lo), .second, .val (.long r2), .second] [])) (fun _ k => XS.lstore X0.here hx rfl (hb hby d2_42) rfl (l' := #[.val (.long q0), .second, .val (.long lo), .second, .val (.long r2), .second]) rfl k) ?_
      refine own_go (g' := (mkF m 46 #[.val (.long q0), .second, .val (.long lo), .second, .val (.long r2), .second] [(.long r2)])) (fun _ k => XS.lload X0.here hx rfl (hb hby d2_44) rfl k) ?_
      refine own_retJ X0 hx Bd.returns Bd.notSynchronized (hb hby d2_46) (by decide) (by decide) ?_
      show QQ _ s₁.heap _
      rw [e0]
      have hP : (2305843009213693951 : Int64).toInt = 2305843009213693951 := by decide
      have g1 := c_maskL q0 (9223372036854775807 : Int64) 63 (by decide) (by decide)
      rw [← hlo] at g1
      simp only [Nat.reducePow, Int.cast_ofNat_Int] at g1
      have g2 : r0.toInt = lo.toInt % 2305843009213693951 := by rw [hr0, Int64.toInt_mod, hP]; exact Int.tmod_eq_emod_of_nonneg (by omega)
      have g5 := rng64 q0
      have g6 := rng64 r2
      obtain ⟨u, hu⟩ : ∃ u, u = q0.toInt % 18446744073709551616 := ⟨_, rfl⟩
      simp only [Int64.lt_iff_toInt_lt, hP, Int64.reduceToInt] at hc1 hc3
      have g9 := own_mod u r0.toInt (lo.toInt / 2305843009213693951) (by omega) (by omega) (by omega)
      have g4 := c_lsub r0 (2305843009213693951 : Int64)
      rw [← hr2, hP] at g4
      have hv : r2 = own_mp q0 := by
        rw [← Int64.toInt_inj, own_mp_i, ← hu]
        omega
      rw [← hQQ]
      exact ⟨by rw [hv], rfl, rfl⟩
theorem pn_rm0 : plainName "com/example/gist_sketch/gistsketch/similarity/MinHashModPrimePinLaw" = true := by first | (simp [plainName, overriddenIn]; done) | decide +kernel
theorem pd0_0 : parseMethodDescriptor "(J)J" = some ⟨[.long], some .long⟩ := by decide +kernel
theorem ef_rm0 (m : MethodId) (q0 : Int64) (p1 : Int32) : entryFrame m #[(.long q0), (.int p1)] maxLocals = mkF m 0 #[.val (.long q0), .second, .val (.int p1), .unset, .unset, .unset, .unset, .unset, .unset] [] := by first | (simp [entryFrame, mkF, argsToLocals, Value.category, maxLocals]; done) | rfl
set_option maxRecDepth 65536 in
set_option maxHeartbeats 40000000 in
theorem rm0 (l : Launch) (Z : State) (a0 : Array Value) (hw : ∀ d ∈ tables_1, d.before a0 Z = true) (q0 : Int64) (p1 : Int32)  (h0 : Heap) (n0 : Nat) (Z0 : n0 ≤ h0.size) :
    own_Met l Z x code maxLocals ret tables_1 room_1 #[(.long q0), (.int p1)] h0 0 0 (fun v h L => v = some (.int 1) ∧ Fr n0 L) := by
  refine own_met (plainFor_of_name pn_rm0) ?_
  intro p e s m below meth c s₁ Bd hml0 hZ X0 e0
  have hx := Bd.exec
  have hby := Bd.bytes
  have hml : c.maxLocals = 9 := hml0
  have hown : s.vm.findClass "com/example/gist_sketch/gistsketch/similarity/MinHashModPrimePinLaw" = some m.cls := findClass_of_methodNamed Bd.named
  have hnm := (name_of_methodNamed Bd.named Bd.method).1
  refine own_cast (ef_rm0 m q0 p1) ?_
  generalize hQQ : (fun (v : Option Value) (h : Heap) (L : List Loc) => v = some (.int 1) ∧ Fr n0 L) = QQ
  have N0 := Fr.nil n0
  refine own_go (g' := (mkF m 1 #[.val (.long q0), .second, .val (.int p1), .unset, .unset, .unset, .unset, .unset, .unset] [(.int p1)])) (fun _ k => XS.iloadN X0.here hx rfl (hb hby at_0) rfl k) ?_
  refine own_go (g' := (mkF m 2 #[.val (.long q0), .second, .val (.int p1), .unset, .unset, .unset, .unset, .unset, .unset] [(.int (1 : Int32)), (.int p1)])) (fun _ k => XS.iconst X0.here hx rfl (hb hby at_1) k) ?_
  refine own_go (g' := (mkF m 3 #[.val (.long q0), .second, .val (.int p1), .unset, .unset, .unset, .unset, .unset, .unset] [(.int (p1 &&& (1 : Int32)))])) (fun _ k => XS.iand X0.here hx rfl (hb hby at_2) rfl k) ?_
  by_cases hc1 : (p1 &&& (1 : Int32)) = (0 : Int32)
  ·
    refine own_go (g' := (mkF m 6 #[.val (.long q0), .second, .val (.int p1), .unset, .unset, .unset, .unset, .unset, .unset] [])) (fun _ k => XS.ifNo X0.here hx rfl (hb hby at_3) rfl ((if0 _ _).trans (teq hc1).2) k) ?_
    refine own_go (g' := (mkF m 7 #[.val (.long q0), .second, .val (.int p1), .unset, .unset, .unset, .unset, .unset, .unset] [(.long q0)])) (fun _ k => XS.lloadN X0.here hx rfl (hb hby at_6) rfl k) ?_
    refine own_go (g' := (mkF m 8 #[.val (.long q0), .second, .val (.int p1), .val (.long q0), .second, .unset, .unset, .unset, .unset] [])) (fun _ k => XS.lstoreN X0.here hx rfl (hb hby at_7) rfl (l' := #[.val (.long q0), .second, .val (.int p1), .val (.long q0), .second, .unset, .unset, .unset, .unset]) rfl k) ?_
    refine own_go (g' := (mkF m 37 #[.val (.long q0), .second, .val (.int p1), .val (.long q0), .second, .unset, .unset, .unset, .unset] [])) (fun _ k => XS.goto X0.here hx rfl (pc0 := 8) (pc' := 37) rfl (hb hby at_8) (by decide) (by decide) k) ?_
    refine own_go (g' := (mkF m 38 #[.val (.long q0), .second, .val (.int p1), .val (.long q0), .second, .unset, .unset, .unset, .unset] [(.long q0)])) (fun _ k => XS.lloadN X0.here hx rfl (hb hby at_37) rfl k) ?_
    obtain ⟨v2, T2, L2, hQ2, X2, st2⟩ := own_callS X0 hx hZ (y := (⟨"com/example/gist_sketch/gistsketch/similarity/MinHash", "modPrime", "(J)J"⟩ : MethodName)) hown (hw _ (List.mem_of_getElem? (i := 0) rfl)) (hw _ (List.mem_of_getElem? (i := 1) rfl)) (hw _ (List.mem_of_getElem? (i := 2) rfl)) (hw _ (List.mem_of_getElem? (i := 3) rfl)) ⟨by decide, by decide⟩ (argsL := [(.long q0)]) (rm1 l Z a0 hw q0 h0) e0 (g := (mkF m 38 #[.val (.long q0), .second, .val (.int p1), .val (.long q0), .second, .unset, .unset, .unset, .unset] [(.long q0)])) rfl (by rw [hml]; rfl) (rest := []) (lenOf pd0_0 rfl) rfl (hb hby at_38) (W := 0) (by show 2 * 0 + _ ≤ _; exact Nat.le_of_eq rfl) (by decide) (by decide) (by decide) (by decide)
    obtain ⟨rfl, e2, rfl⟩ := hQ2
    have N2 := Fr.app N0 (Fr.nil n0)
    refine own_go (g' := (mkF m 41 #[.val (.long q0), .second, .val (.int p1), .val (.long q0), .second, .unset, .unset, .unset, .unset] [(.long (own_mp q0))])) (st2) ?_
    refine own_go (g' := (mkF m 43 #[.val (.long q0), .second, .val (.int p1), .val (.long q0), .second, .val (.long (own_mp q0)), .second, .unset, .unset] [])) (fun _ k => XS.lstore X2.here hx rfl (hb hby at_41) rfl (l' := #[.val (.long q0), .second, .val (.int p1), .val (.long q0), .second, .val (.long (own_mp q0)), .second, .unset, .unset]) rfl k) ?_
    refine own_go (g' := (mkF m 45 #[.val (.long q0), .second, .val (.int p1), .val (.long q0), .second, .val (.long (own_mp q0)), .second, .unset, .unset] [(.long (own_mp q0))])) (fun _ k => XS.lload X2.here hx rfl (hb hby at_43) rfl k) ?_
    refine own_go (g' := (mkF m 46 #[.val (.long q0), .second, .val (.int p1), .val (.long q0), .second, .val (.long (own_mp q0)), .second, .unset, .unset] [(.long q0), (.long (own_mp q0))])) (fun _ k => XS.lloadN X2.here hx rfl (hb hby at_45) rfl k) ?_
    obtain ⟨v3, T3, L3, hQ3, X3, st3⟩ := own_callS X2 hx hZ (y := (⟨"com/example/gist_sketch/gistsketch/similarity/MinHashModPrimePinLaw", "reference", "(J)J"⟩ : MethodName)) hown (hw _ (List.mem_of_getElem? (i := 5) rfl)) (hw _ (List.mem_of_getElem? (i := 6) rfl)) (hw _ (List.mem_of_getElem? (i := 7) rfl)) (hw _ (List.mem_of_getElem? (i := 8) rfl)) ⟨by decide, by decide⟩ (argsL := [(.long q0)]) (rm2 l Z a0 hw q0 h0) e2 (g := (mkF m 46 #[.val (.long q0), .second, .val (.int p1), .val (.long q0), .second, .val (.long (own_mp q0)), .second, .unset, .unset] [(.long q0), (.long (own_mp q0))])) rfl (by rw [hml]; rfl) (rest := [(.long (own_mp q0))]) (lenOf pd0_0 rfl) rfl (hb hby at_46) (W := 2) (by show 2 * 0 + _ ≤ _; exact Nat.le_of_eq rfl) (by decide) (by decide) (by decide) (by decide)
    obtain ⟨rfl, e3, rfl⟩ := hQ3
    have N3 := Fr.app N2 (Fr.nil n0)
    refine own_go (g' := (mkF m 49 #[.val (.long q0), .second, .val (.int p1), .val (.long q0), .second, .val (.long (own_mp q0)), .second, .unset, .unset] [(.long (own_mp q0)), (.long (own_mp q0))])) (st3) ?_
    refine own_go (g' := (mkF m 50 #[.val (.long q0), .second, .val (.int p1), .val (.long q0), .second, .val (.long (own_mp q0)), .second, .unset, .unset] [(.int (lcmpW (own_mp q0) (own_mp q0)))])) (fun _ k => XS.lcmp X3.here hx rfl (hb hby at_49) rfl k) ?_
    refine own_go (g' := (mkF m 53 #[.val (.long q0), .second, .val (.int p1), .val (.long q0), .second, .val (.long (own_mp q0)), .second, .unset, .unset] [])) (fun _ k => XS.ifNo X3.here hx rfl (hb hby at_50) rfl ((if0 _ _).trans (teq ((lw_eq _ _).mpr rfl)).2) k) ?_
    refine own_go (g' := (mkF m 54 #[.val (.long q0), .second, .val (.int p1), .val (.long q0), .second, .val (.long (own_mp q0)), .second, .unset, .unset] [(.int (1 : Int32))])) (fun _ k => XS.iconst X3.here hx rfl (hb hby at_53) k) ?_
    refine own_go (g' := (mkF m 58 #[.val (.long q0), .second, .val (.int p1), .val (.long q0), .second, .val (.long (own_mp q0)), .second, .unset, .unset] [(.int (1 : Int32))])) (fun _ k => XS.goto X3.here hx rfl (pc0 := 54) (pc' := 58) rfl (hb hby at_54) (by decide) (by decide) k) ?_
    refine own_retN X3 hx .boolean Bd.returns Bd.notSynchronized (by simp) (hb hby at_58) (by decide) (by decide) ?_
    show QQ _ T3.heap _
    rw [e3]
    rw [← hQQ]
    exact ⟨rfl, N3⟩
  ·
    refine own_go (g' := (mkF m 11 #[.val (.long q0), .second, .val (.int p1), .unset, .unset, .unset, .unset, .unset, .unset] [])) (fun _ k => XS.ifYes X0.here hx rfl (pc0 := 3) (pc' := 11) rfl (hb hby at_3) rfl ((if0 _ _).trans (feq hc1).2) (by decide) (by decide) k) ?_
    refine own_go (g' := (mkF m 12 #[.val (.long q0), .second, .val (.int p1), .unset, .unset, .unset, .unset, .unset, .unset] [(.long q0)])) (fun _ k => XS.lloadN X0.here hx rfl (hb hby at_11) rfl k) ?_
    refine own_go (g' := (mkF m 15 #[.val (.long q0), .second, .val (.int p1), .unset, .unset, .unset, .unset, .unset, .unset] [(.long (15 : Int64)), (.long q0)])) (X0.ldc2Long hx hown (mvT hZ (hw _ (List.mem_of_getElem? (i := 12) rfl))) (g := (mkF m 12 #[.val (.long q0), .second, .val (.int p1), .unset, .unset, .unset, .unset, .unset, .unset] [(.long q0)])) rfl (hb hby at_12)) ?_
    refine own_go (g' := (mkF m 16 #[.val (.long q0), .second, .val (.int p1), .unset, .unset, .unset, .unset, .unset, .unset] [(.long (q0 &&& (15 : Int64)))])) (fun _ k => XS.land X0.here hx rfl (hb hby at_15) rfl k) ?_
    refine own_go (g' := (mkF m 18 #[.val (.long q0), .second, .val (.int p1), .unset, .unset, .val (.long (q0 &&& (15 : Int64))), .second, .unset, .unset] [])) (fun _ k => XS.lstore X0.here hx rfl (hb hby at_16) rfl (l' := #[.val (.long q0), .second, .val (.int p1), .unset, .unset, .val (.long (q0 &&& (15 : Int64))), .second, .unset, .unset]) rfl k) ?_
    refine own_go (g' := (mkF m 19 #[.val (.long q0), .second, .val (.int p1), .unset, .unset, .val (.long (q0 &&& (15 : Int64))), .second, .unset, .unset] [(.int p1)])) (fun _ k => XS.iloadN X0.here hx rfl (hb hby at_18) rfl k) ?_
    refine own_go (g' := (mkF m 20 #[.val (.long q0), .second, .val (.int p1), .unset, .unset, .val (.long (q0 &&& (15 : Int64))), .second, .unset, .unset] [(.int (1 : Int32)), (.int p1)])) (fun _ k => XS.iconst X0.here hx rfl (hb hby at_19) k) ?_
    refine own_go (g' := (mkF m 21 #[.val (.long q0), .second, .val (.int p1), .unset, .unset, .val (.long (q0 &&& (15 : Int64))), .second, .unset, .unset] [(.int (p1 >>> ((1 : Int32) &&& 31)))])) (fun _ k => XS.ishr X0.here hx rfl (hb hby at_20) rfl k) ?_
    refine own_go (g' := (mkF m 23 #[.val (.long q0), .second, .val (.int p1), .unset, .unset, .val (.long (q0 &&& (15 : Int64))), .second, .unset, .unset] [(.int (16 : Int32)), (.int (p1 >>> ((1 : Int32) &&& 31)))])) (fun _ k => XS.bipush X0.here hx rfl (hb hby at_21) k) ?_
    refine own_go (g' := (mkF m 24 #[.val (.long q0), .second, .val (.int p1), .unset, .unset, .val (.long (q0 &&& (15 : Int64))), .second, .unset, .unset] [(.int ((p1 >>> ((1 : Int32) &&& 31)) % (16 : Int32)))])) (fun _ k => own_irem X0 hx rfl (hb hby at_23) rfl (by decide) k) ?_
    refine own_go (g' := (mkF m 25 #[.val (.long q0), .second, .val (.int p1), .unset, .unset, .val (.long (q0 &&& (15 : Int64))), .second, .unset, .unset] [(.long (((p1 >>> ((1 : Int32) &&& 31)) % (16 : Int32)).toInt64))])) (fun _ k => XS.i2l X0.here hx rfl (hb hby at_24) rfl k) ?_
    refine own_go (g' := (mkF m 27 #[.val (.long q0), .second, .val (.int p1), .unset, .unset, .val (.long (q0 &&& (15 : Int64))), .second, .val (.long (((p1 >>> ((1 : Int32) &&& 31)) % (16 : Int32)).toInt64)), .second] [])) (fun _ k => XS.lstore X0.here hx rfl (hb hby at_25) rfl (l' := #[.val (.long q0), .second, .val (.int p1), .unset, .unset, .val (.long (q0 &&& (15 : Int64))), .second, .val (.long (((p1 >>> ((1 : Int32) &&& 31)) % (16 : Int32)).toInt64)), .second]) rfl k) ?_
    refine own_go (g' := (mkF m 29 #[.val (.long q0), .second, .val (.int p1), .unset, .unset, .val (.long (q0 &&& (15 : Int64))), .second, .val (.long (((p1 >>> ((1 : Int32) &&& 31)) % (16 : Int32)).toInt64)), .second] [(.long (q0 &&& (15 : Int64)))])) (fun _ k => XS.lload X0.here hx rfl (hb hby at_27) rfl k) ?_
    refine own_go (g' := (mkF m 32 #[.val (.long q0), .second, .val (.int p1), .unset, .unset, .val (.long (q0 &&& (15 : Int64))), .second, .val (.long (((p1 >>> ((1 : Int32) &&& 31)) % (16 : Int32)).toInt64)), .second] [(.long (2305843009213693951 : Int64)), (.long (q0 &&& (15 : Int64)))])) (X0.ldc2Long hx hown (mvT hZ (hw _ (List.mem_of_getElem? (i := 10) rfl))) (g := (mkF m 29 #[.val (.long q0), .second, .val (.int p1), .unset, .unset, .val (.long (q0 &&& (15 : Int64))), .second, .val (.long (((p1 >>> ((1 : Int32) &&& 31)) % (16 : Int32)).toInt64)), .second] [(.long (q0 &&& (15 : Int64)))])) rfl (hb hby at_29)) ?_
    refine own_go (g' := (mkF m 33 #[.val (.long q0), .second, .val (.int p1), .unset, .unset, .val (.long (q0 &&& (15 : Int64))), .second, .val (.long (((p1 >>> ((1 : Int32) &&& 31)) % (16 : Int32)).toInt64)), .second] [(.long ((q0 &&& (15 : Int64)) * (2305843009213693951 : Int64)))])) (fun _ k => XS.lmul X0.here hx rfl (hb hby at_32) rfl k) ?_
    refine own_go (g' := (mkF m 35 #[.val (.long q0), .second, .val (.int p1), .unset, .unset, .val (.long (q0 &&& (15 : Int64))), .second, .val (.long (((p1 >>> ((1 : Int32) &&& 31)) % (16 : Int32)).toInt64)), .second] [(.long (((p1 >>> ((1 : Int32) &&& 31)) % (16 : Int32)).toInt64)), (.long ((q0 &&& (15 : Int64)) * (2305843009213693951 : Int64)))])) (fun _ k => XS.lload X0.here hx rfl (hb hby at_33) rfl k) ?_
    refine own_go (g' := (mkF m 36 #[.val (.long q0), .second, .val (.int p1), .unset, .unset, .val (.long (q0 &&& (15 : Int64))), .second, .val (.long (((p1 >>> ((1 : Int32) &&& 31)) % (16 : Int32)).toInt64)), .second] [(.long (((q0 &&& (15 : Int64)) * (2305843009213693951 : Int64)) + (((p1 >>> ((1 : Int32) &&& 31)) % (16 : Int32)).toInt64)))])) (fun _ k => XS.ladd X0.here hx rfl (hb hby at_35) rfl k) ?_
    refine own_go (g' := (mkF m 37 #[.val (.long q0), .second, .val (.int p1), .val (.long (((q0 &&& (15 : Int64)) * (2305843009213693951 : Int64)) + (((p1 >>> ((1 : Int32) &&& 31)) % (16 : Int32)).toInt64))), .second, .val (.long (q0 &&& (15 : Int64))), .second, .val (.long (((p1 >>> ((1 : Int32) &&& 31)) % (16 : Int32)).toInt64)), .second] [])) (fun _ k => XS.lstoreN X0.here hx rfl (hb hby at_36) rfl (l' := #[.val (.long q0), .second, .val (.int p1), .val (.long (((q0 &&& (15 : Int64)) * (2305843009213693951 : Int64)) + (((p1 >>> ((1 : Int32) &&& 31)) % (16 : Int32)).toInt64))), .second, .val (.long (q0 &&& (15 : Int64))), .second, .val (.long (((p1 >>> ((1 : Int32) &&& 31)) % (16 : Int32)).toInt64)), .second]) rfl k) ?_
    refine own_go (g' := (mkF m 38 #[.val (.long q0), .second, .val (.int p1), .val (.long (((q0 &&& (15 : Int64)) * (2305843009213693951 : Int64)) + (((p1 >>> ((1 : Int32) &&& 31)) % (16 : Int32)).toInt64))), .second, .val (.long (q0 &&& (15 : Int64))), .second, .val (.long (((p1 >>> ((1 : Int32) &&& 31)) % (16 : Int32)).toInt64)), .second] [(.long (((q0 &&& (15 : Int64)) * (2305843009213693951 : Int64)) + (((p1 >>> ((1 : Int32) &&& 31)) % (16 : Int32)).toInt64)))])) (fun _ k => XS.lloadN X0.here hx rfl (hb hby at_37) rfl k) ?_
    obtain ⟨v4, T4, L4, hQ4, X4, st4⟩ := own_callS X0 hx hZ (y := (⟨"com/example/gist_sketch/gistsketch/similarity/MinHash", "modPrime", "(J)J"⟩ : MethodName)) hown (hw _ (List.mem_of_getElem? (i := 0) rfl)) (hw _ (List.mem_of_getElem? (i := 1) rfl)) (hw _ (List.mem_of_getElem? (i := 2) rfl)) (hw _ (List.mem_of_getElem? (i := 3) rfl)) ⟨by decide, by decide⟩ (argsL := [(.long (((q0 &&& (15 : Int64)) * (2305843009213693951 : Int64)) + (((p1 >>> ((1 : Int32) &&& 31)) % (16 : Int32)).toInt64)))]) (rm1 l Z a0 hw (((q0 &&& (15 : Int64)) * (2305843009213693951 : Int64)) + (((p1 >>> ((1 : Int32) &&& 31)) % (16 : Int32)).toInt64)) h0) e0 (g := (mkF m 38 #[.val (.long q0), .second, .val (.int p1), .val (.long (((q0 &&& (15 : Int64)) * (2305843009213693951 : Int64)) + (((p1 >>> ((1 : Int32) &&& 31)) % (16 : Int32)).toInt64))), .second, .val (.long (q0 &&& (15 : Int64))), .second, .val (.long (((p1 >>> ((1 : Int32) &&& 31)) % (16 : Int32)).toInt64)), .second] [(.long (((q0 &&& (15 : Int64)) * (2305843009213693951 : Int64)) + (((p1 >>> ((1 : Int32) &&& 31)) % (16 : Int32)).toInt64)))])) rfl (by rw [hml]; rfl) (rest := []) (lenOf pd0_0 rfl) rfl (hb hby at_38) (W := 0) (by show 2 * 0 + _ ≤ _; exact Nat.le_of_eq rfl) (by decide) (by decide) (by decide) (by decide)
    obtain ⟨rfl, e4, rfl⟩ := hQ4
    have N4 := Fr.app N0 (Fr.nil n0)
    refine own_go (g' := (mkF m 41 #[.val (.long q0), .second, .val (.int p1), .val (.long (((q0 &&& (15 : Int64)) * (2305843009213693951 : Int64)) + (((p1 >>> ((1 : Int32) &&& 31)) % (16 : Int32)).toInt64))), .second, .val (.long (q0 &&& (15 : Int64))), .second, .val (.long (((p1 >>> ((1 : Int32) &&& 31)) % (16 : Int32)).toInt64)), .second] [(.long (own_mp (((q0 &&& (15 : Int64)) * (2305843009213693951 : Int64)) + (((p1 >>> ((1 : Int32) &&& 31)) % (16 : Int32)).toInt64))))])) (st4) ?_
    refine own_go (g' := (mkF m 43 #[.val (.long q0), .second, .val (.int p1), .val (.long (((q0 &&& (15 : Int64)) * (2305843009213693951 : Int64)) + (((p1 >>> ((1 : Int32) &&& 31)) % (16 : Int32)).toInt64))), .second, .val (.long (own_mp (((q0 &&& (15 : Int64)) * (2305843009213693951 : Int64)) + (((p1 >>> ((1 : Int32) &&& 31)) % (16 : Int32)).toInt64)))), .second, .val (.long (((p1 >>> ((1 : Int32) &&& 31)) % (16 : Int32)).toInt64)), .second] [])) (fun _ k => XS.lstore X4.here hx rfl (hb hby at_41) rfl (l' := #[.val (.long q0), .second, .val (.int p1), .val (.long (((q0 &&& (15 : Int64)) * (2305843009213693951 : Int64)) + (((p1 >>> ((1 : Int32) &&& 31)) % (16 : Int32)).toInt64))), .second, .val (.long (own_mp (((q0 &&& (15 : Int64)) * (2305843009213693951 : Int64)) + (((p1 >>> ((1 : Int32) &&& 31)) % (16 : Int32)).toInt64)))), .second, .val (.long (((p1 >>> ((1 : Int32) &&& 31)) % (16 : Int32)).toInt64)), .second]) rfl k) ?_
    refine own_go (g' := (mkF m 45 #[.val (.long q0), .second, .val (.int p1), .val (.long (((q0 &&& (15 : Int64)) * (2305843009213693951 : Int64)) + (((p1 >>> ((1 : Int32) &&& 31)) % (16 : Int32)).toInt64))), .second, .val (.long (own_mp (((q0 &&& (15 : Int64)) * (2305843009213693951 : Int64)) + (((p1 >>> ((1 : Int32) &&& 31)) % (16 : Int32)).toInt64)))), .second, .val (.long (((p1 >>> ((1 : Int32) &&& 31)) % (16 : Int32)).toInt64)), .second] [(.long (own_mp (((q0 &&& (15 : Int64)) * (2305843009213693951 : Int64)) + (((p1 >>> ((1 : Int32) &&& 31)) % (16 : Int32)).toInt64))))])) (fun _ k => XS.lload X4.here hx rfl (hb hby at_43) rfl k) ?_
    refine own_go (g' := (mkF m 46 #[.val (.long q0), .second, .val (.int p1), .val (.long (((q0 &&& (15 : Int64)) * (2305843009213693951 : Int64)) + (((p1 >>> ((1 : Int32) &&& 31)) % (16 : Int32)).toInt64))), .second, .val (.long (own_mp (((q0 &&& (15 : Int64)) * (2305843009213693951 : Int64)) + (((p1 >>> ((1 : Int32) &&& 31)) % (16 : Int32)).toInt64)))), .second, .val (.long (((p1 >>> ((1 : Int32) &&& 31)) % (16 : Int32)).toInt64)), .second] [(.long (((q0 &&& (15 : Int64)) * (2305843009213693951 : Int64)) + (((p1 >>> ((1 : Int32) &&& 31)) % (16 : Int32)).toInt64))), (.long (own_mp (((q0 &&& (15 : Int64)) * (2305843009213693951 : Int64)) + (((p1 >>> ((1 : Int32) &&& 31)) % (16 : Int32)).toInt64))))])) (fun _ k => XS.lloadN X4.here hx rfl (hb hby at_45) rfl k) ?_
    obtain ⟨v5, T5, L5, hQ5, X5, st5⟩ := own_callS X4 hx hZ (y := (⟨"com/example/gist_sketch/gistsketch/similarity/MinHashModPrimePinLaw", "reference", "(J)J"⟩ : MethodName)) hown (hw _ (List.mem_of_getElem? (i := 5) rfl)) (hw _ (List.mem_of_getElem? (i := 6) rfl)) (hw _ (List.mem_of_getElem? (i := 7) rfl)) (hw _ (List.mem_of_getElem? (i := 8) rfl)) ⟨by decide, by decide⟩ (argsL := [(.long (((q0 &&& (15 : Int64)) * (2305843009213693951 : Int64)) + (((p1 >>> ((1 : Int32) &&& 31)) % (16 : Int32)).toInt64)))]) (rm2 l Z a0 hw (((q0 &&& (15 : Int64)) * (2305843009213693951 : Int64)) + (((p1 >>> ((1 : Int32) &&& 31)) % (16 : Int32)).toInt64)) h0) e4 (g := (mkF m 46 #[.val (.long q0), .second, .val (.int p1), .val (.long (((q0 &&& (15 : Int64)) * (2305843009213693951 : Int64)) + (((p1 >>> ((1 : Int32) &&& 31)) % (16 : Int32)).toInt64))), .second, .val (.long (own_mp (((q0 &&& (15 : Int64)) * (2305843009213693951 : Int64)) + (((p1 >>> ((1 : Int32) &&& 31)) % (16 : Int32)).toInt64)))), .second, .val (.long (((p1 >>> ((1 : Int32) &&& 31)) % (16 : Int32)).toInt64)), .second] [(.long (((q0 &&& (15 : Int64)) * (2305843009213693951 : Int64)) + (((p1 >>> ((1 : Int32) &&& 31)) % (16 : Int32)).toInt64))), (.long (own_mp (((q0 &&& (15 : Int64)) * (2305843009213693951 : Int64)) + (((p1 >>> ((1 : Int32) &&& 31)) % (16 : Int32)).toInt64))))])) rfl (by rw [hml]; rfl) (rest := [(.long (own_mp (((q0 &&& (15 : Int64)) * (2305843009213693951 : Int64)) + (((p1 >>> ((1 : Int32) &&& 31)) % (16 : Int32)).toInt64))))]) (lenOf pd0_0 rfl) rfl (hb hby at_46) (W := 2) (by show 2 * 0 + _ ≤ _; exact Nat.le_of_eq rfl) (by decide) (by decide) (by decide) (by decide)
    obtain ⟨rfl, e5, rfl⟩ := hQ5
    have N5 := Fr.app N4 (Fr.nil n0)
    refine own_go (g' := (mkF m 49 #[.val (.long q0), .second, .val (.int p1), .val (.long (((q0 &&& (15 : Int64)) * (2305843009213693951 : Int64)) + (((p1 >>> ((1 : Int32) &&& 31)) % (16 : Int32)).toInt64))), .second, .val (.long (own_mp (((q0 &&& (15 : Int64)) * (2305843009213693951 : Int64)) + (((p1 >>> ((1 : Int32) &&& 31)) % (16 : Int32)).toInt64)))), .second, .val (.long (((p1 >>> ((1 : Int32) &&& 31)) % (16 : Int32)).toInt64)), .second] [(.long (own_mp (((q0 &&& (15 : Int64)) * (2305843009213693951 : Int64)) + (((p1 >>> ((1 : Int32) &&& 31)) % (16 : Int32)).toInt64)))), (.long (own_mp (((q0 &&& (15 : Int64)) * (2305843009213693951 : Int64)) + (((p1 >>> ((1 : Int32) &&& 31)) % (16 : Int32)).toInt64))))])) (st5) ?_
    refine own_go (g' := (mkF m 50 #[.val (.long q0), .second, .val (.int p1), .val (.long (((q0 &&& (15 : Int64)) * (2305843009213693951 : Int64)) + (((p1 >>> ((1 : Int32) &&& 31)) % (16 : Int32)).toInt64))), .second, .val (.long (own_mp (((q0 &&& (15 : Int64)) * (2305843009213693951 : Int64)) + (((p1 >>> ((1 : Int32) &&& 31)) % (16 : Int32)).toInt64)))), .second, .val (.long (((p1 >>> ((1 : Int32) &&& 31)) % (16 : Int32)).toInt64)), .second] [(.int (lcmpW (own_mp (((q0 &&& (15 : Int64)) * (2305843009213693951 : Int64)) + (((p1 >>> ((1 : Int32) &&& 31)) % (16 : Int32)).toInt64))) (own_mp (((q0 &&& (15 : Int64)) * (2305843009213693951 : Int64)) + (((p1 >>> ((1 : Int32) &&& 31)) % (16 : Int32)).toInt64)))))])) (fun _ k => XS.lcmp X5.here hx rfl (hb hby at_49) rfl k) ?_
    refine own_go (g' := (mkF m 53 #[.val (.long q0), .second, .val (.int p1), .val (.long (((q0 &&& (15 : Int64)) * (2305843009213693951 : Int64)) + (((p1 >>> ((1 : Int32) &&& 31)) % (16 : Int32)).toInt64))), .second, .val (.long (own_mp (((q0 &&& (15 : Int64)) * (2305843009213693951 : Int64)) + (((p1 >>> ((1 : Int32) &&& 31)) % (16 : Int32)).toInt64)))), .second, .val (.long (((p1 >>> ((1 : Int32) &&& 31)) % (16 : Int32)).toInt64)), .second] [])) (fun _ k => XS.ifNo X5.here hx rfl (hb hby at_50) rfl ((if0 _ _).trans (teq ((lw_eq _ _).mpr rfl)).2) k) ?_
    refine own_go (g' := (mkF m 54 #[.val (.long q0), .second, .val (.int p1), .val (.long (((q0 &&& (15 : Int64)) * (2305843009213693951 : Int64)) + (((p1 >>> ((1 : Int32) &&& 31)) % (16 : Int32)).toInt64))), .second, .val (.long (own_mp (((q0 &&& (15 : Int64)) * (2305843009213693951 : Int64)) + (((p1 >>> ((1 : Int32) &&& 31)) % (16 : Int32)).toInt64)))), .second, .val (.long (((p1 >>> ((1 : Int32) &&& 31)) % (16 : Int32)).toInt64)), .second] [(.int (1 : Int32))])) (fun _ k => XS.iconst X5.here hx rfl (hb hby at_53) k) ?_
    refine own_go (g' := (mkF m 58 #[.val (.long q0), .second, .val (.int p1), .val (.long (((q0 &&& (15 : Int64)) * (2305843009213693951 : Int64)) + (((p1 >>> ((1 : Int32) &&& 31)) % (16 : Int32)).toInt64))), .second, .val (.long (own_mp (((q0 &&& (15 : Int64)) * (2305843009213693951 : Int64)) + (((p1 >>> ((1 : Int32) &&& 31)) % (16 : Int32)).toInt64)))), .second, .val (.long (((p1 >>> ((1 : Int32) &&& 31)) % (16 : Int32)).toInt64)), .second] [(.int (1 : Int32))])) (fun _ k => XS.goto X5.here hx rfl (pc0 := 54) (pc' := 58) rfl (hb hby at_54) (by decide) (by decide) k) ?_
    refine own_retN X5 hx .boolean Bd.returns Bd.notSynchronized (by simp) (hb hby at_58) (by decide) (by decide) ?_
    show QQ _ T5.heap _
    rw [e5]
    rw [← hQQ]
    exact ⟨rfl, N5⟩
set_option maxRecDepth 65536 in
set_option maxHeartbeats 40000000 in
theorem comes_1 {Post : Tables → Env → Array Value → State → Outcome → State → Prop} (hpost : ∀ tb e args s v u, (limb_1_1.after args s (.returned v) u = true ∧ limb_1_2.after args s (.returned v) u = true ∧ True) → FrameEnd s (.returned v) u (Jvm.fieldLocs frame_1_writes args s ++ Jvm.arrayLocs frame_1_arrays args s ++ Jvm.staticLocs frame_1_statics s) 0 0 → Post tb e args s (.returned v) u) :
    ArmFor flags0 classFile x code maxLocals ret World_1 tables_1 room_1 Calls_1 rest_1 Pre_1 Post := by
  intro l hfl _ _ p e ha hc hk s m args below hf hA hF happ hP
  obtain ⟨hcalls, hrest, hpre⟩ := hP
  obtain ⟨-, -, -, hnamed, -, -, -, hat⟩ := (Spec.applies_iff hf).mp happ
  obtain ⟨hg, hn⟩ := and_e (Cond.before_iff.mp (show (Jvm.Cond.and given_1 narrow_1).before args s = true from hpre))
  obtain ⟨g1, g2⟩ := and_e hg
  obtain ⟨g3, g4⟩ := and_e g2
  obtain ⟨w0, w1, rfl⟩ : ∃ w0 w1 : Value, args = #[w0, w1] := by
    have hs : args.size = 2 := by simpa [Cond.value, given_1] using g1
    obtain ⟨L⟩ := args
    match L, hs with
    | [w0, w1], _ => exact ⟨w0, w1, rfl⟩
  have hw := fun d (hd : d ∈ tables_1) => atoms_spec (ws := Jvm.Cond.code x code maxLocals ret :: tables_1) hat d (List.mem_cons_of_mem _ hd)
  obtain ⟨i0, ei0⟩ := isL_v g3
  obtain rfl : w0 = (.long i0) := Option.some.inj ei0
  obtain ⟨i1, ei1⟩ := is_v g4
  obtain rfl : w1 = (.int i1) := Option.some.inj ei1
  obtain ⟨n, o, h1, h2, h3, _, L, rfl, ⟨rfl, N⟩, hq⟩ := rm0 l s _ hw i0 i1 s.heap s.heap.size (Nat.le_refl _) p e ha hc hk s m _ below hf ((Spec.applies_iff_loose hf).mp happ).1 ⟨rfl, State.Warmed39.refl s, rfl⟩ trivial
  refine ⟨n, _, h1, h2, h3, hpost _ _ _ _ _ _ ⟨Cond.after_iff.mpr rfl, Cond.after_iff.mpr (eq_i res_at (Term.int_eval (1)) rfl), trivial⟩ ⟨hq.1, hq.2.1, (hq.2.2.sift fun y hy => Or.inr (N y hy)).mono (by decide) (by decide)⟩⟩
theorem main_1_1 : Claimed_1_1 := comes_1 fun _ _ _ _ _ _ h hF => ⟨h.1, hF⟩
theorem main_1_2 : Claimed_1_2 := comes_1 fun _ _ _ _ _ _ h hF => ⟨h.2.1, hF⟩
end Jvm.Pilot.@@N@@
namespace Jvm.Pilot.@@N@@
open Jvm Jvm.ClassFile Sem Op Lib Jvm.Free Jvm.Stand Jvm.Pilot.@@N@@.Jvm.D
/-! MADE BY PROGRAM (witnessworld.py) out of the Statement's table words and the real class files: 10 classes; the members and pool entries that the words name. The judged class is class 1, her method 1. -/
namespace start1
open Jvm.ClassFile
def u (s : String) : CpInfo := .utf8 (stringToUtf16 s)
/-- a pool by its gaps: so many unusable entries, then the entry; so many at the end -/
def gap : Nat → List CpInfo → List CpInfo
  | 0, r => r
  | n + 1, r => .unusable :: gap n r
def poolList (es : List (Nat × CpInfo)) (last : Nat) : List CpInfo := es.foldr (fun e r => gap e.1 (e.2 :: r)) (gap last [])
def pool (es : List (Nat × CpInfo)) (last : Nat) : Array CpInfo := ⟨poolList es last⟩
def fileOf (pool : Array CpInfo) (this : Nat) (attrs : Array Attribute := #[]) (ms : Array MethodInfo := #[]) (fl : Nat := 33) (sup : Nat := 0) (ifs : Array Nat := #[]) (fds : Array FieldInfo := #[]) : ClassFile where
  minorVersion := 0
  majorVersion := 65
  constantPool := pool
  accessFlags := fl
  thisClass := this
  superClass := sup
  interfaces := ifs
  fields := fds
  methods := ms
  attributes := attrs
def plain (name : String) (sup : Option ClassId) : Class where
  name := name
  kind := .ordinary
  loader := none
  accessFlags := 33
  super := sup
  interfaces := #[]
  cf := none
  fields := #[]
  methods := #[]
  instanceTypes := #[]
  staticTypes := #[]
  resolved := #[]
  callSites := []
  init := .initialized
  statics := none
  mirror := none

def pool0 : Array CpInfo := pool [(5, u "<init>"), (0, u "()V"), (1, .class_ 10), (1, u "java/lang/Object")] 113

def k0m0 : Method := { name := "<init>", desc := "()V", sig := { parameters := [], returnType := none }, accessFlags := 1, code := none }
/-- java/lang/Object -/
def k0 : Class := { plain "java/lang/Object" none with
  accessFlags := 33
  interfaces := #[]
  cf := some (fileOf pool0 8 #[] #[{ accessFlags := 1, nameIndex := 5, descriptorIndex := 6, attributes := #[] }] 33 0 #[] #[])
  fields := #[]
  methods := #[k0m0]
  instanceTypes := #[]
  staticTypes := #[]
  resolved := Array.replicate 124 none
  statics := none }

def pool1 : Array CpInfo := pool [(2, .class_ 4), (1, u "java/lang/Object"), (0, u "<init>"), (0, u "()V"), (0, .long 15), (1, .class_ 10), (0, u "com/example/gist_sketch/gistsketch/similarity/MinHashModPrimePinLaw"), (0, .long 2305843009213693951), (1, .methodref 14 15), (0, .class_ 16), (0, .nameAndType 17 18), (0, u "com/example/gist_sketch/gistsketch/similarity/MinHash"), (0, u "modPrime"), (0, u "(J)J"), (0, .methodref 9 20), (0, .nameAndType 21 18), (0, u "reference"), (2, .long 9223372036854775807), (1, .long 4), (1, u "P"), (0, u "J"), (3, u "law"), (0, u "(JI)Z")] 3

def k1m0 : Method := { name := "<init>", desc := "()V", sig := { parameters := [], returnType := none }, accessFlags := 1, code := none }
def k1c1 : Code := { maxStack := 4, maxLocals := 9, code := code, exceptionTable := #[], attributes := #[] }
def k1m1 : Method := { name := "law", desc := "(JI)Z", sig := { parameters := [.long, .int], returnType := some .boolean }, accessFlags := 9, code := some k1c1 }
def k1c2 : Code := { maxStack := 4, maxLocals := 6, code := method_3_code, exceptionTable := #[], attributes := #[] }
def k1m2 : Method := { name := "reference", desc := "(J)J", sig := { parameters := [.long], returnType := some .long }, accessFlags := 10, code := some k1c2 }
/-- com/example/gist_sketch/gistsketch/similarity/MinHashModPrimePinLaw -/
def k1 : Class := { plain "com/example/gist_sketch/gistsketch/similarity/MinHashModPrimePinLaw" (some 0) with
  accessFlags := 49
  interfaces := #[]
  cf := some (fileOf pool1 9 #[] #[{ accessFlags := 1, nameIndex := 5, descriptorIndex := 6, attributes := #[] }, { accessFlags := 9, nameIndex := 33, descriptorIndex := 34, attributes := #[] }, { accessFlags := 10, nameIndex := 21, descriptorIndex := 18, attributes := #[] }] 49 2 #[] #[{ accessFlags := 26, nameIndex := 28, descriptorIndex := 29, attributes := #[] }])
  fields := #[{ name := "P", type := .long, accessFlags := 26, slot := 0, constantValue := 0 }]
  methods := #[k1m0, k1m1, k1m2]
  instanceTypes := #[]
  staticTypes := #[.long]
  resolved := Array.replicate 38 none
  statics := none }

def pool2 : Array CpInfo := pool [(31, .class_ 32), (0, u "com/example/gist_sketch/gistsketch/format/Sketch"), (0, .class_ 34), (0, u "java/lang/Object")] 36

/-- com/example/gist_sketch/gistsketch/format/Sketch -/
def k2 : Class := { plain "com/example/gist_sketch/gistsketch/format/Sketch" (some 0) with
  accessFlags := 1537
  interfaces := #[]
  cf := some (fileOf pool2 31 #[] #[] 1537 33 #[] #[])
  fields := #[]
  methods := #[]
  instanceTypes := #[]
  staticTypes := #[]
  resolved := Array.replicate 71 none
  statics := none }

def pool3 : Array CpInfo := pool [(4, .class_ 6), (1, u "java/lang/Object"), (3, .class_ 12), (1, u "com/example/gist_sketch/gistsketch/similarity/MinHash"), (0, u "seed"), (0, u "I"), (1, .class_ 18), (1, u "com/example/gist_sketch/gistsketch/similarity/MinHash$Permutations"), (4, u "permutations"), (0, u "Lcom/example/gist_sketch/gistsketch/similarity/MinHash$Permutations;"), (2, u "values"), (0, u "[J"), (63, .long 2305843009213693951), (28, .class_ 123), (1, u "com/example/gist_sketch/gistsketch/format/Sketch"), (46, u "modPrime"), (0, u "(J)J"), (28, u "latest"), (0, u "MAX_LENGTH"), (1, u "PRIME"), (0, u "J"), (0, u "EMPTY")] 56

def k3c0 : Code := { maxStack := 5, maxLocals := 4, code := prog_52_method_17_code, exceptionTable := #[], attributes := #[] }
def k3m0 : Method := { name := "modPrime", desc := "(J)J", sig := { parameters := [.long], returnType := some .long }, accessFlags := 8, code := some k3c0 }
/-- com/example/gist_sketch/gistsketch/similarity/MinHash -/
def k3 : Class := { plain "com/example/gist_sketch/gistsketch/similarity/MinHash" (some 0) with
  accessFlags := 49
  interfaces := #[2]
  cf := some (fileOf pool3 10 #[.nestMembers #[16]] #[{ accessFlags := 8, nameIndex := 170, descriptorIndex := 171, attributes := #[] }] 49 4 #[121] #[{ accessFlags := 25, nameIndex := 201, descriptorIndex := 14, attributes := #[] }, { accessFlags := 24, nameIndex := 203, descriptorIndex := 204, attributes := #[] }, { accessFlags := 26, nameIndex := 205, descriptorIndex := 204, attributes := #[] }, { accessFlags := 74, nameIndex := 200, descriptorIndex := 24, attributes := #[] }, { accessFlags := 18, nameIndex := 13, descriptorIndex := 14, attributes := #[] }, { accessFlags := 18, nameIndex := 23, descriptorIndex := 24, attributes := #[] }, { accessFlags := 18, nameIndex := 27, descriptorIndex := 28, attributes := #[] }])
  fields := #[{ name := "MAX_LENGTH", type := .int, accessFlags := 25, slot := 0, constantValue := 0 }, { name := "PRIME", type := .long, accessFlags := 24, slot := 1, constantValue := 0 }, { name := "EMPTY", type := .long, accessFlags := 26, slot := 2, constantValue := 0 }, { name := "latest", type := (.object "com/example/gist_sketch/gistsketch/similarity/MinHash$Permutations"), accessFlags := 74, slot := 3, constantValue := 0 }, { name := "seed", type := .int, accessFlags := 18, slot := 0, constantValue := 0 }, { name := "permutations", type := (.object "com/example/gist_sketch/gistsketch/similarity/MinHash$Permutations"), accessFlags := 18, slot := 1, constantValue := 0 }, { name := "values", type := (.array .long), accessFlags := 18, slot := 2, constantValue := 0 }]
  methods := #[k3m0]
  instanceTypes := #[.int, (.object "com/example/gist_sketch/gistsketch/similarity/MinHash$Permutations"), (.array .long)]
  staticTypes := #[.int, .long, .long, (.object "com/example/gist_sketch/gistsketch/similarity/MinHash$Permutations")]
  resolved := Array.replicate 262 none
  statics := none }

def pool4 : Array CpInfo := pool [(1, u "java/lang/Cloneable"), (0, .class_ 1), (0, u "java/lang/Object"), (0, .class_ 3)] 3

/-- java/lang/Cloneable -/
def k4 : Class := { plain "java/lang/Cloneable" (some 0) with
  accessFlags := 1537
  interfaces := #[]
  cf := some (fileOf pool4 2 #[] #[] 1537 4 #[] #[])
  fields := #[]
  methods := #[]
  instanceTypes := #[]
  staticTypes := #[]
  resolved := Array.replicate 8 none
  statics := none }

def pool5 : Array CpInfo := pool [(1, u "java/io/Serializable"), (0, .class_ 1), (0, u "java/lang/Object"), (0, .class_ 3)] 3

/-- java/io/Serializable -/
def k5 : Class := { plain "java/io/Serializable" (some 0) with
  accessFlags := 1537
  interfaces := #[]
  cf := some (fileOf pool5 2 #[] #[] 1537 4 #[] #[])
  fields := #[]
  methods := #[]
  instanceTypes := #[]
  staticTypes := #[]
  resolved := Array.replicate 8 none
  statics := none }

/-- the primitive byte -/
def k6 : Class := { plain "byte" none with kind := .primitive 'B', accessFlags := 0x411 }
/-- [B -/
def k7 : Class := { plain "[B" (some 0) with kind := .array 6 .byte, interfaces := #[4, 5], accessFlags := 1041 }

/-- the primitive int -/
def k8 : Class := { plain "int" none with kind := .primitive 'I', accessFlags := 0x411 }
/-- [I -/
def k9 : Class := { plain "[I" (some 0) with kind := .array 8 .int, interfaces := #[4, 5], accessFlags := 1041 }

def heap : Heap := #[]
def classes : Array Class := #[k0, k1, k2, k3, k4, k5, k6, k7, k8, k9]
def interned : List (Array UInt16 × Addr) := []
def slotsUsed : Nat := 0
def theMethod : MethodId := ⟨1, 1⟩
def args0 : Array Value := #[.long 5, .int 7]
def aboutOver (below : List Frame) : State where
  vm := { classes := classes, interned := interned.toArray }
  heap := heap
  slotsUsed := slotsUsed
  threads := #[{ frames := .invoking theMethod args0 :: below }]
def below0 : List Frame := [.native { method := ⟨0, 0⟩, args := #[] }]
def about1 : State := aboutOver below0
def p0 : Program := .bare "" "" ""
def e0 : Env := launch0.env 0 0 0
theorem w_frames : about1.frames = Frame.invoking theMethod args0 :: below0 := rfl
set_option maxRecDepth 65536 in
theorem w_args : argsFit about1.vm theMethod args0 = true := by decide +kernel
set_option maxRecDepth 65536 in
theorem w_heap : heapFits about1 = true := by decide +kernel
set_option maxRecDepth 65536 in
theorem w_runnable : about1.curStatus? = some .runnable := by decide +kernel
set_option maxRecDepth 65536 in
theorem w_alone : about1.alone = true := by decide +kernel
set_option maxRecDepth 65536 in
theorem w_named : about1.methodNamed? x = some theMethod := by decide +kernel
set_option maxRecDepth 65536 in
theorem w_hears : about1.hears theMethod below0 = true := by decide +kernel
set_option maxRecDepth 65536 in
theorem w_ripe : about1.ripe theMethod args0 below0 = true := by decide +kernel
theorem w_running : about1.status = .running := rfl
set_option maxRecDepth 65536 in
theorem w_room : about1.hasRoom e0.platform room_1 = true :=
  launch0.hasRoom_least _ room_1 (by decide +kernel) (by decide +kernel) (by decide +kernel) (by decide +kernel) (by decide +kernel) (by decide +kernel)
theorem allAtoms_all (ts : List Jvm.Cond) (a : Array Jvm.Value) (st : Jvm.State) : (allAtoms ts).before a st = ts.all (fun c => c.before a st) := by
  induction ts with
  | nil => rfl
  | cons c t ih =>
    show (Jvm.Cond.and c (allAtoms t)).before a st = _
    rw [Jvm.Cond.before_and, ih, List.all_cons]
def words1 : List Jvm.Cond := Jvm.Cond.code x code maxLocals ret :: tables_1
/-- a 'code' word, met by the world's own term for the bytes: nothing is compared byte by byte -/
theorem code_word {y : MethodName} {bytes : ByteArray} {mx : Nat} {rt : Option FieldType} {a : Array Value} {s : State} {m : MethodId} {meth : Method} {c : Code} (h1 : s.methodNamed? y = some m) (h2 : s.vm.method? m = some meth) (h3 : meth.code = some c) (h4 : c.code = bytes)
    (h5 : (c.maxLocals == mx && c.exceptionTable.isEmpty && decide (c.maxStack ≤ mostOperands) && decide (meth.sig.returnType = rt) && !meth.locks && decide (parseMethodDescriptor y.desc = some meth.sig)) = true) : (Jvm.Cond.code y bytes mx rt).before a s = true := by
  simp only [Bool.and_eq_true, beq_iff_eq, Bool.not_eq_true', decide_eq_true_eq] at h5
  obtain ⟨⟨⟨⟨⟨g1, g2⟩, g3⟩, g4⟩, g5⟩, g6⟩ := h5
  simp [Cond.before, Cond.holds, Cond.value, h1, h2, h3, h4, g1, g2, g3, g4, g5, g6]
def isCode : Jvm.Cond → Bool
  | .code _ _ _ _ => true
  | _ => false
theorem all_split {L : List Jvm.Cond} {P : Jvm.Cond → Bool} (h1 : L.all (fun c => isCode c || P c) = true) (h2 : ∀ c ∈ L.filter isCode, P c = true) : L.all P = true := by
  refine List.all_eq_true.mpr fun c hc => ?_
  have h := List.all_eq_true.mp h1 c hc
  rcases Bool.eq_false_or_eq_true (isCode c) with hi | hi
  · exact h2 c (List.mem_filter.mpr ⟨hc, hi⟩)
  · simpa [hi] using h
set_option maxRecDepth 65536 in
theorem w_c0 : (Jvm.Cond.code x code maxLocals ret).before args0 about1 = true := code_word (m := ⟨1, 1⟩) (meth := k1m1) (c := k1c1) (by decide +kernel) rfl rfl rfl (by decide +kernel)
set_option maxRecDepth 65536 in
theorem w_c1 : (Jvm.Cond.code ({ cls := "com/example/gist_sketch/gistsketch/similarity/MinHash", name := "modPrime", desc := "(J)J" } : Jvm.MethodName) prog_52_method_17_code (4 : Nat) (Option.some Jvm.ClassFile.FieldType.long)).before args0 about1 = true := code_word (m := ⟨3, 0⟩) (meth := k3m0) (c := k3c0) (by decide +kernel) rfl rfl rfl (by decide +kernel)
set_option maxRecDepth 65536 in
theorem w_c2 : (Jvm.Cond.code ({ cls := "com/example/gist_sketch/gistsketch/similarity/MinHashModPrimePinLaw", name := "reference", desc := "(J)J" } : Jvm.MethodName) method_3_code (6 : Nat) (Option.some Jvm.ClassFile.FieldType.long)).before args0 about1 = true := code_word (m := ⟨1, 2⟩) (meth := k1m2) (c := k1c2) (by decide +kernel) rfl rfl rfl (by decide +kernel)
def codes1 : List Jvm.Cond := [Jvm.Cond.code x code maxLocals ret, Jvm.Cond.code ({ cls := "com/example/gist_sketch/gistsketch/similarity/MinHash", name := "modPrime", desc := "(J)J" } : Jvm.MethodName) prog_52_method_17_code (4 : Nat) (Option.some Jvm.ClassFile.FieldType.long), Jvm.Cond.code ({ cls := "com/example/gist_sketch/gistsketch/similarity/MinHashModPrimePinLaw", name := "reference", desc := "(J)J" } : Jvm.MethodName) method_3_code (6 : Nat) (Option.some Jvm.ClassFile.FieldType.long)]
set_option maxRecDepth 65536 in
theorem codes_eq : words1.filter isCode = codes1 := rfl
theorem w_codes : ∀ c ∈ words1.filter isCode, c.before args0 about1 = true := by
  rw [codes_eq]
  intro c hc
  simp only [codes1, List.mem_cons, List.not_mem_nil, or_false] at hc
  rcases hc with rfl | rfl | rfl
  · exact w_c0
  · exact w_c1
  · exact w_c2
set_option maxRecDepth 65536 in
theorem w_t1 : words1.all (fun c => isCode c || c.before args0 about1) = true := by decide +kernel
theorem w_tables : (allAtoms (Jvm.Cond.code x code maxLocals ret :: tables_1)).before args0 about1 = true := by
  rw [allAtoms_all]
  show words1.all (fun c => c.before args0 about1) = true
  refine all_split ?_ w_codes
  rw [w_t1]
set_option maxRecDepth 65536 in
theorem w_case : (Jvm.Cond.and given_1 narrow_1).before args0 about1 = true := by decide +kernel
theorem w_applies : (headSpec (Jvm.Cond.code x code maxLocals ret :: tables_1) room_1).applies x e0.platform about1 = true :=
  (Spec.applies_iff w_frames).mpr ⟨w_running, w_runnable, w_alone, w_named, w_hears, w_ripe, w_room, w_tables⟩
theorem atStart : AtStart classFile x code maxLocals ret World_1 tables_1 room_1 Calls_1 rest_1 Pre_1 launch0 p0 e0 about1 theMethod args0 below0 :=
  ⟨lists_1, trivial, launch0.admits_env _ _ _, launch0.least_env, fairChoices_fair.cas, fairChoices_fair.clock, w_frames, w_args, w_heap, w_applies, trivial, trivial, w_case⟩
end start1
theorem witness_1 : WitnessClaimed_1 := ⟨start1.p0, start1.e0, start1.about1, start1.theMethod, start1.args0, start1.below0, start1.atStart⟩
end Jvm.Pilot.@@N@@
