import JvmDerived
import JvmDerived.Pilot.@@N@@Statement
import JvmDerived.Pilot.@@N@@Code
set_option linter.unusedVariables false
set_option linter.unusedSimpArgs false
namespace Jvm.Pilot.@@N@@
open Jvm Jvm.ClassFile Sem Op Lib Jvm.Free Jvm.Stand Jvm.LawKit Jvm.RoadKit Bundle Jvm.Pilot.@@N@@.Jvm.D
/-! own_..: the walk in goal form: own_Go says that from a frame on the run comes to its end as the contract says; every step turns the goal for one frame into the goal for the next, so a branch is a case split and a join a 'have'. -/
def own_Post (s : State) (Q : Option Value → Heap → List Loc → Prop) (cs ss : Nat) (o : Outcome) (u : State) : Prop := ∃ v L, o = .returned v ∧ Q v u.heap L ∧ FrameEnd s o u L cs ss
def own_Go (p : Program) (e : Env) (below : List Frame) (Qf : Outcome → State → Prop) (T : State) (g : JFrame) : Prop := ∃ s₂ o, Steps p.tables e below (T.setTop g) s₂ ∧ s₂.status = .running ∧ Ended s₂ below o ∧ Qf o s₂
abbrev own_Met (l : Launch) (Z : State) (y : MethodName) (bytes : ByteArray) (maxL : Nat) (ret : Option FieldType) (ws : List Jvm.Cond) (rm : Room) (as' : Array Value) (h0 : Heap) (cs ss : Nat) (Q : Option Value → Heap → List Loc → Prop) : Prop :=
  MetFree l y (head1 (Jvm.Cond.code y bytes maxL ret :: ws) rm) (fun a U => a = as' ∧ Z.Warmed39 U.vm ∧ U.heap = h0) (fun _ _ _ _ _ => True) (fun _ U o U' => ∃ v L, o = .returned v ∧ Q v U'.heap L ∧ FrameEnd U o U' L cs ss)
def own_b (b : Bool) : Int32 := if b then 1 else 0
theorem own_b_t {b : Bool} (h : b = true) : own_b b = 1 := by subst h; rfl
theorem own_b_f {b : Bool} (h : ¬ b = true) : own_b b = 0 := by rw [Bool.eq_false_iff.mpr h]; rfl
theorem own_b_n {b : Bool} (h : b = true) : ¬ own_b b = 0 := by subst h; decide
theorem own_b_nar (b : Bool) : nar .boolean (own_b b) = own_b b := by cases b <;> rfl
theorem own_b_fits (b : Bool) : fits .boolean (.int (own_b b)) = true := by cases b <;> rfl
theorem own_b_inj {a b : Bool} (h : own_b a = own_b b) : a = b := by cases a <;> cases b <;> first | rfl | exact absurd h (by decide)
section Own
variable {p : Program} {l : Launch} {e : Env} {R : Room} {s : State} {m : MethodId} {args : Array Value} {below : List Frame} {meth : Method} {c : Code} {T T' : State} {locs : List Loc} {cells slots : Nat} {Z : State} {a0 : Array Value} {h : Heap}
theorem own_go {Qf : Outcome → State → Prop} {g g' : JFrame} (h : ∀ t, Steps p.tables e below (T'.setTop g') t → Steps p.tables e below (T.setTop g) t) (k : own_Go p e below Qf T' g') : own_Go p e below Qf T g := by
  obtain ⟨s₂, o, h1, h2⟩ := k
  exact ⟨s₂, o, h _ h1, h2⟩
theorem own_cast {Qf : Outcome → State → Prop} {g g' : JFrame} (q : g = g') (k : own_Go p e below Qf T g') : own_Go p e below Qf T g := q ▸ k
theorem own_met {y : MethodName} {bytes : ByteArray} {maxL : Nat} {ret : Option FieldType} {ws : List Jvm.Cond} {rm : Room} {as' : Array Value} {h0 : Heap} {cs ss : Nat} {Q : Option Value → Heap → List Loc → Prop} (hp : plainFor y = true)
    (body : ∀ (p : Program) (e : Env) (s : State) (m : MethodId) (below : List Frame) (meth : Method) (c : Code) (s₁ : State), BodyLoose p l y (head1 (Jvm.Cond.code y bytes maxL ret :: ws) rm) bytes maxL ret e s m as' below meth c s₁ → c.maxLocals = maxL → Z.Warmed39 s.vm →
      Stand p l e rm s m as' below meth c s₁ [] 0 0 → s₁.heap = h0 → own_Go p e below (own_Post s Q cs ss) s₁ (entryFrame m as' maxL)) : own_Met l Z y bytes maxL ret ws rm as' h0 cs ss Q := by
  refine MetFree.of_bodySF hp hisR ?_
  intro p e s m args below meth c s₁ Bd hml0 hP hK
  obtain ⟨rfl, hZ, hh⟩ := hP
  exact body p e s m below meth c s₁ Bd hml0 hZ (Stand.of_body Bd) (by rw [← hh, Bd.state]; rfl)
theorem own_retN (X : Stand p l e R s m args below meth c T locs cells slots) (hx : p.tables.exec = Jvm.exec) (t : FieldType) (hret : meth.sig.returnType = some t) (hlk : meth.locks = false) (ht : t = .boolean ∨ t = .byte ∨ t = .char ∨ t = .short) {pc : Nat} {Ls : Array Slot} {z : Int32} {rest : List Value} (hd : decode c.code pc = .ok (.ireturn, 1))
    {Q : Option Value → Heap → List Loc → Prop} {cs ss : Nat} (hc : cells ≤ cs) (hs : slots ≤ ss) (hQ : Q (some (.int (nar t z))) T.heap locs) : own_Go p e below (own_Post s Q cs ss) T (mkF m pc Ls (.int z :: rest)) := by
  obtain ⟨fs, hr, hrun, hended, hW, hsame⟩ := X.leave (v := some (.int (nar t z))) (fun h => by rw [hret] at h; cases h) hlk
  exact ⟨_, _, retN X hx hret ht hd hr, hrun, hended, _, _, rfl, hQ, ⟨_, rfl⟩, hW, hsame.mono hc hs⟩
theorem own_retI (X : Stand p l e R s m args below meth c T locs cells slots) (hx : p.tables.exec = Jvm.exec) (hret : meth.sig.returnType = some .int) (hlk : meth.locks = false) {pc : Nat} {Ls : Array Slot} {z : Int32} {rest : List Value} (hd : decode c.code pc = .ok (.ireturn, 1))
    {Q : Option Value → Heap → List Loc → Prop} {cs ss : Nat} (hc : cells ≤ cs) (hs : slots ≤ ss) (hQ : Q (some (.int z)) T.heap locs) : own_Go p e below (own_Post s Q cs ss) T (mkF m pc Ls (.int z :: rest)) := by
  obtain ⟨fs, hr, hrun, hended, hW, hsame⟩ := X.leave (v := some (.int z)) (fun h => by rw [hret] at h; cases h) hlk
  exact ⟨_, _, retOut X hx hret rfl (Or.inl ⟨rfl, Or.inl rfl, _, rfl⟩) hd hr, hrun, hended, _, _, rfl, hQ, ⟨_, rfl⟩, hW, hsame.mono hc hs⟩
theorem own_retJ (X : Stand p l e R s m args below meth c T locs cells slots) (hx : p.tables.exec = Jvm.exec) (hret : meth.sig.returnType = some .long) (hlk : meth.locks = false) {pc : Nat} {Ls : Array Slot} {z : Int64} {rest : List Value} (hd : decode c.code pc = .ok (.lreturn, 1))
    {Q : Option Value → Heap → List Loc → Prop} {cs ss : Nat} (hc : cells ≤ cs) (hs : slots ≤ ss) (hQ : Q (some (.long z)) T.heap locs) : own_Go p e below (own_Post s Q cs ss) T (mkF m pc Ls (.long z :: rest)) := by
  obtain ⟨fs, hr, hrun, hended, hW, hsame⟩ := X.leave (v := some (.long z)) (fun h => by rw [hret] at h; cases h) hlk
  exact ⟨_, _, retOut X hx hret rfl (Or.inr (Or.inl ⟨rfl, rfl, _, rfl⟩)) hd hr, hrun, hended, _, _, rfl, hQ, ⟨_, rfl⟩, hW, hsame.mono hc hs⟩
theorem own_retA (X : Stand p l e R s m args below meth c T locs cells slots) (hx : p.tables.exec = Jvm.exec) {t : FieldType} (hret : meth.sig.returnType = some t) (hlk : meth.locks = false) (ht : t.isReference = true) {pc : Nat} {Ls : Array Slot} {w : Value} {rest : List Value} (hw : w.isRef = true) (hd : decode c.code pc = .ok (.areturn, 1))
    {Q : Option Value → Heap → List Loc → Prop} {cs ss : Nat} (hc : cells ≤ cs) (hs : slots ≤ ss) (hQ : Q (some w) T.heap locs) : own_Go p e below (own_Post s Q cs ss) T (mkF m pc Ls (w :: rest)) := by
  obtain ⟨fs, hr, hrun, hended, hW, hsame⟩ := X.leave (v := some w) (fun h => by rw [hret] at h; cases h) hlk
  have hn : narrow t w = w := by rcases ref_cases hw with rfl | ⟨a, rfl⟩ <;> cases t <;> first | rfl | cases ht
  exact ⟨_, _, retOut X hx hret hn (Or.inr (Or.inr (Or.inr (Or.inr ⟨rfl, ht, hw⟩)))) hd hr, hrun, hended, _, _, rfl, hQ, ⟨_, rfl⟩, hW, hsame.mono hc hs⟩
theorem own_retV (X : Stand p l e R s m args below meth c T locs cells slots) (hx : p.tables.exec = Jvm.exec) (hret : meth.sig.returnType = none) (hlk : meth.locks = false) {pc : Nat} {Ls : Array Slot} (hd : decode c.code pc = .ok (.return_, 1))
    {Q : Option Value → Heap → List Loc → Prop} {cs ss : Nat} (hc : cells ≤ cs) (hs : slots ≤ ss) (hQ : Q none T.heap locs) : own_Go p e below (own_Post s Q cs ss) T (mkF m pc Ls []) := by
  obtain ⟨fs, hr, hrun, hended, hW, hsame⟩ := X.leave (v := none) (fun _ => rfl) hlk
  exact ⟨_, _, X.returnOut hx hret hd hr, hrun, hended, _, _, rfl, hQ, ⟨_, rfl⟩, hW, hsame.mono hc hs⟩
theorem own_callS (X : Stand p l e R s m args below meth c T locs cells slots) (hx : p.tables.exec = Jvm.exec) (hZ : Z.Warmed39 s.vm) {own : String} {index : Nat} {y : MethodName} {bytes : ByteArray} {maxL : Nat} {ret : Option FieldType} (hown : s.vm.findClass own = some m.cls)
    (w1 : (Jvm.Cond.methodLink own index y).before a0 Z = true) (w2 : (Jvm.Cond.static y).before a0 Z = true) (w3 : (Jvm.Cond.initialized y.cls).before a0 Z = true) (w4 : (Jvm.Cond.code y bytes maxL ret).before a0 Z = true)
    (hy : y.cls ≠ "java/lang/invoke/MethodHandle" ∧ y.cls ≠ "java/lang/invoke/VarHandle") {rm : Room} {argsL : List Value} {Q : Option Value → Heap → List Loc → Prop} (hM : own_Met l Z y bytes maxL ret [] rm argsL.toArray h rm.cells rm.slots Q) (eT : T.heap = h)
    {g : JFrame} (hg : g.method = m) (hsize : g.locals.size = c.maxLocals) {rest : List Value} (hlen : ∀ sig, parseMethodDescriptor y.desc = some sig → argsL.length = sig.parameters.length) (hstack : g.stack = argsL.reverse ++ rest)
    (hdg : decode c.code g.pc = .ok (.invokestatic index, 3)) {W : Nat} (hW : 2 * g.monitorRoom + (rest.map fun v => v.category).sum ≤ W) (hf : rm.frames + 1 ≤ R.frames) (hl : W + (maxL + 11) + rm.locals ≤ R.locals) (hc : cells + rm.cells ≤ R.cells) (hs : slots + rm.slots ≤ R.slots) :
    ∃ (v : Option Value) (T' : State) (L : List Loc), Q v T'.heap L ∧ Stand p l e R s m args below meth c T' (locs ++ L) (cells + rm.cells) (slots + rm.slots) ∧
      ∀ t, Steps p.tables e below (T'.setTop { g with pc := g.pc + 3, stack := v.toList ++ rest }) t → Steps p.tables e below (T.setTop g) t := by
  obtain ⟨v, _, ⟨T', L', k', n'⟩, -, X', ⟨L, hQ, l1, l2, l3⟩, st⟩ := Jvm.LawKit.callS X hx hown (mvT hZ w1) (mvT hZ w2) (mvT hZ w3) (mvT hZ w4) hy (backOf (W := W) hM hZ w4 w3 hf hl) hg hsize hlen hstack hW hdg (fun _ _ => ⟨rfl, eT, hc, hs⟩)
  dsimp only [Pt.U, Pt.locs, Pt.cells, Pt.slots] at X' l1 l2 l3 st hQ
  subst l1 l2 l3
  exact ⟨v, T', L, hQ, X', st⟩
theorem own_callI (X : Stand p l e R s m args below meth c T locs cells slots) (hx : p.tables.exec = Jvm.exec) (hZ : Z.Warmed39 s.vm) {own : String} {index : Nat} {y : MethodName} {bytes : ByteArray} {maxL : Nat} (hy1 : y.name = "<init>") (hown : s.vm.findClass own = some m.cls)
    (w1 : (Jvm.Cond.methodLink own index y).before a0 Z = true) (w2 : (Jvm.Cond.instanceMethod y).before a0 Z = true) (w3 : (Jvm.Cond.initialized y.cls).before a0 Z = true) (w4 : (Jvm.Cond.code y bytes maxL none).before a0 Z = true)
    (hy : y.cls ≠ "java/lang/invoke/MethodHandle" ∧ y.cls ≠ "java/lang/invoke/VarHandle") {rm : Room} {a : Addr} {argsL : List Value} {Q : Option Value → Heap → List Loc → Prop} (hM : own_Met l Z y bytes maxL none [] rm (.ref a :: argsL).toArray h rm.cells rm.slots Q) (eT : T.heap = h)
    {g : JFrame} (hg : g.method = m) (hsize : g.locals.size = c.maxLocals) {rest : List Value} (hlen : ∀ sig, parseMethodDescriptor y.desc = some sig → argsL.length = sig.parameters.length) (hstack : g.stack = argsL.reverse ++ .ref a :: rest)
    (hdg : decode c.code g.pc = .ok (.invokespecial index, 3)) {W : Nat} (hW : 2 * g.monitorRoom + (rest.map fun v => v.category).sum ≤ W) (hf : rm.frames + 1 ≤ R.frames) (hl : W + (maxL + 11) + rm.locals ≤ R.locals) (hc : cells + rm.cells ≤ R.cells) (hs : slots + rm.slots ≤ R.slots) :
    ∃ (v : Option Value) (T' : State) (L : List Loc), Q v T'.heap L ∧ Stand p l e R s m args below meth c T' (locs ++ L) (cells + rm.cells) (slots + rm.slots) ∧
      ∀ t, Steps p.tables e below (T'.setTop { g with pc := g.pc + 3, stack := v.toList ++ rest }) t → Steps p.tables e below (T.setTop g) t := by
  obtain ⟨v, _, ⟨T', L', k', n'⟩, -, X', ⟨L, hQ, l1, l2, l3⟩, st⟩ := X.specialBack hx hy1 hown (mvT hZ w1) (mvT hZ w2) (mvT hZ w4) hy (backOf (W := W) hM hZ w4 w3 hf hl) hg hsize (Steps.refl _) hlen hstack hW hdg (fun _ _ => ⟨rfl, eT, hc, hs⟩)
  dsimp only [Pt.U, Pt.locs, Pt.cells, Pt.slots] at X' l1 l2 l3 st hQ
  subst l1 l2 l3
  exact ⟨v, T', L, hQ, X', fun _ k => st.trans k⟩
theorem own_callV (X : Stand p l e R s m args below meth c T locs cells slots) (hx : p.tables.exec = Jvm.exec) (hZ : Z.Warmed39 s.vm) {own C : String} {index : Nat} {y z : MethodName} {bytes : ByteArray} {maxL : Nat} {ret : Option FieldType} (hown : s.vm.findClass own = some m.cls)
    (w1 : (Jvm.Cond.methodLink own index y).before a0 Z = true) (w2 : (Jvm.Cond.declares y).before a0 Z = true) (hnf : NotFace s y) (ws : (Jvm.Cond.selects C y z).before a0 Z = true) (wi : (Jvm.Cond.instanceMethod z).before a0 Z = true) (w3 : (Jvm.Cond.initialized z.cls).before a0 Z = true) (w4 : (Jvm.Cond.code z bytes maxL ret).before a0 Z = true)
    (hy : y.cls ≠ "java/lang/invoke/MethodHandle" ∧ y.cls ≠ "java/lang/invoke/VarHandle") {rm : Room} {a : Addr} {argsL : List Value} {Q : Option Value → Heap → List Loc → Prop} (hM : own_Met l Z z bytes maxL ret [] rm (.ref a :: argsL).toArray h rm.cells rm.slots Q) (eT : T.heap = h) (E : Exa Z h a C)
    {g : JFrame} (hg : g.method = m) (hsize : g.locals.size = c.maxLocals) {rest : List Value} (hlen : ∀ sig, parseMethodDescriptor y.desc = some sig → argsL.length = sig.parameters.length) (hstack : g.stack = argsL.reverse ++ .ref a :: rest)
    (hdg : decode c.code g.pc = .ok (.invokevirtual index, 3)) {W : Nat} (hW : 2 * g.monitorRoom + (rest.map fun v => v.category).sum ≤ W) (hf : rm.frames + 1 ≤ R.frames) (hl : W + (maxL + 11) + rm.locals ≤ R.locals) (hc : cells + rm.cells ≤ R.cells) (hs : slots + rm.slots ≤ R.slots) :
    ∃ (v : Option Value) (T' : State) (L : List Loc), Q v T'.heap L ∧ Stand p l e R s m args below meth c T' (locs ++ L) (cells + rm.cells) (slots + rm.slots) ∧
      ∀ t, Steps p.tables e below (T'.setTop { g with pc := g.pc + 3, stack := v.toList ++ rest }) t → Steps p.tables e below (T.setTop g) t := by
  obtain ⟨cq, kq, qa, qb, qc⟩ := isOf hZ eT E
  obtain ⟨v, _, ⟨T', L', k', n'⟩, -, X', ⟨L, hQ, l1, l2, l3⟩, st⟩ := X.virtualBack hx hown (mvT hZ w1) (mvT hZ w2) hnf (mvT hZ ws) (mvT hZ wi) hy (backOf (W := W) hM hZ w4 w3 hf hl) qa qc hg hsize (Steps.refl _) hlen hstack hW hdg (fun _ _ => ⟨rfl, eT, hc, hs⟩)
  dsimp only [Pt.U, Pt.locs, Pt.cells, Pt.slots] at X' l1 l2 l3 st hQ
  subst l1 l2 l3
  exact ⟨v, T', L, hQ, X', fun _ k => st.trans k⟩
theorem own_irem {g : JFrame} {target : State} (X : Stand p l e R s m args below meth c T locs cells slots) (hx : p.tables.exec = Jvm.exec) (hg : g.method = m) {x y : Int32} {rest : List Value} (hd : decode c.code g.pc = .ok (.irem, 1)) (hs : g.stack = .int y :: .int x :: rest) (hy : y ≠ 0)
    (hr : Steps p.tables e below (T.setTop { g with pc := g.pc + 1, stack := .int (x % y) :: rest }) target) : Steps p.tables e below (T.setTop g) target := iremM X hx hg hd hs hy hr
theorem own_lrem {g : JFrame} {target : State} (X : Stand p l e R s m args below meth c T locs cells slots) (hx : p.tables.exec = Jvm.exec) (hg : g.method = m) {x y : Int64} {rest : List Value} (hd : decode c.code g.pc = .ok (.lrem, 1)) (hs : g.stack = .long y :: .long x :: rest) (hy : y ≠ 0)
    (hr : Steps p.tables e below (T.setTop { g with pc := g.pc + 1, stack := .long (x % y) :: rest }) target) : Steps p.tables e below (T.setTop g) target :=
  XS.lrem X.here hx hg hd hs hy (by rw [lrem_mod]; exact hr)
theorem own_fldJ {t : Term} {C n d : String} {a : Addr} {z : Int64} (ht : t.eval args s none [] s = some (.ref a)) (q : (Jvm.Cond.eq (.field t C n d) (.long z)).value args s none s [] = some true) : Fld s s.heap a C n d (.long z) := by
  obtain ⟨x, y, ha, hb, -, k2⟩ := cmp_v (Or.inl q)
  obtain rfl : y = .long z := Option.some.inj (hb.symm.trans (long_at z))
  obtain ⟨w, rfl⟩ := k2
  have e : w = z := gotT (eq_L ha hb) q
  subst e
  exact Fld.start ((fld_at ht).symm.trans ha)
theorem own_ns_exa {a : Addr} {C : String} (E : Exa Z h a C) : ∃ c : Cell, h[a]? = some c ∧ c.vm.isStatics = false := by
  obtain ⟨c, k, h1, -, -, h4, -⟩ := E
  exact ⟨c, h1, h4⟩
theorem own_ns_arv {a : Addr} {k : ClassId} {ty : FieldType} {z : Int32} {vs : List Value} {dv : Value} (F : Arv Z h a k ty z vs dv) : ∃ c : Cell, h[a]? = some c ∧ c.vm.isStatics = false := by
  obtain ⟨c, A, -⟩ := F
  exact ⟨c, A.1, A.plain⟩
theorem own_sta_keep {h' : Heap} {C n d : String} {w : Value} {ws : List Addr} (F : Sta Z h C n d w) (K : Keep h h' ws) (hn : ∀ x ∈ ws, ∃ c : Cell, h[x]? = some c ∧ c.vm.isStatics = false) : Sta Z h' C n d w := by
  obtain ⟨cf, i, k, f, st, cell, h1, h2, h3, h4, h5, h6, h7⟩ := F
  exact ⟨cf, i, k, f, st, cell, h1, h2, h3, h4, K.2.1 st cell h5 (fun q => by obtain ⟨c, e1, e2⟩ := hn st q; cases h5.symm.trans e1; rw [e2] at h6; cases h6), h6, h7⟩
end Own
theorem d1_0 : decode prog_55_method_2_code 0 = .ok (.iload_n 0, 1) := by decide +kernel
theorem d1_1 : decode prog_55_method_2_code 1 = .ok (.bipush 32, 2) := by decide +kernel
theorem d1_3 : decode prog_55_method_2_code 3 = .ok (.if_icmp .ge 9, 3) := by decide +kernel
theorem d1_6 : decode prog_55_method_2_code 6 = .ok (.iload_n 0, 1) := by decide +kernel
theorem d1_7 : decode prog_55_method_2_code 7 = .ok (.bipush 9, 2) := by decide +kernel
theorem d1_9 : decode prog_55_method_2_code 9 = .ok (.if_icmp .ne 16, 3) := by decide +kernel
theorem d1_12 : decode prog_55_method_2_code 12 = .ok (.iload_n 0, 1) := by decide +kernel
theorem d1_13 : decode prog_55_method_2_code 13 = .ok (.bipush 127, 2) := by decide +kernel
theorem d1_15 : decode prog_55_method_2_code 15 = .ok (.if_icmp .lt 14, 3) := by decide +kernel
theorem d1_18 : decode prog_55_method_2_code 18 = .ok (.iload_n 0, 1) := by decide +kernel
theorem d1_19 : decode prog_55_method_2_code 19 = .ok (.sipush 159, 3) := by decide +kernel
theorem d1_22 : decode prog_55_method_2_code 22 = .ok (.if_icmp .gt 7, 3) := by decide +kernel
theorem d1_25 : decode prog_55_method_2_code 25 = .ok (.iconst 1, 1) := by decide +kernel
theorem d1_26 : decode prog_55_method_2_code 26 = .ok (.goto 4, 3) := by decide +kernel
theorem d1_29 : decode prog_55_method_2_code 29 = .ok (.iconst 0, 1) := by decide +kernel
theorem d1_30 : decode prog_55_method_2_code 30 = .ok (.ireturn, 1) := by decide +kernel
theorem pn_rm1 : plainName "com/example/restlint/restlint/report/ControlCharacters" = true := by first | (simp [plainName, overriddenIn]; done) | decide +kernel
theorem ef_rm1 (m : MethodId) (p0 : Int32) : entryFrame m #[(.int p0)] 1 = mkF m 0 #[.val (.int p0)] [] := by first | (simp [entryFrame, mkF, argsToLocals, Value.category]; done) | rfl
set_option maxRecDepth 65536 in
set_option maxHeartbeats 40000000 in
theorem rm1 (l : Launch) (Z : State) (a0 : Array Value) (hw : ∀ d ∈ tables_1, d.before a0 Z = true) (p0 : Int32)  (h0 : Heap) :
    own_Met l Z (⟨"com/example/restlint/restlint/report/ControlCharacters", "isEscaped", "(I)Z"⟩ : MethodName) prog_55_method_2_code 1 (some .boolean) [] ({ frames := 0, cells := 0, slots := 0, locals := 0 } : Room) #[(.int p0)] h0 0 0 (fun v h L => v = some (.int (own_b (decide ((p0 < (32 : Int32) ∧ ¬ p0 = (9 : Int32)) ∨ (¬ p0 < (127 : Int32) ∧ ¬ (159 : Int32) < p0))))) ∧ h = h0 ∧ L = []) := by
  refine own_met (plainFor_of_name pn_rm1) ?_
  intro p e s m below meth c s₁ Bd hml0 hZ X0 e0
  have hx := Bd.exec
  have hby := Bd.bytes
  have hml : c.maxLocals = 1 := hml0
  have hown : s.vm.findClass "com/example/restlint/restlint/report/ControlCharacters" = some m.cls := findClass_of_methodNamed Bd.named
  have hnm := (name_of_methodNamed Bd.named Bd.method).1
  refine own_cast (ef_rm1 m p0) ?_
  generalize hQQ : (fun (v : Option Value) (h : Heap) (L : List Loc) => v = some (.int (own_b (decide ((p0 < (32 : Int32) ∧ ¬ p0 = (9 : Int32)) ∨ (¬ p0 < (127 : Int32) ∧ ¬ (159 : Int32) < p0))))) ∧ h = h0 ∧ L = []) = QQ
  refine own_go (g' := (mkF m 1 #[.val (.int p0)] [(.int p0)])) (fun _ k => XS.iloadN X0.here hx rfl (hb hby d1_0) rfl k) ?_
  refine own_go (g' := (mkF m 3 #[.val (.int p0)] [(.int (32 : Int32)), (.int p0)])) (fun _ k => XS.bipush X0.here hx rfl (hb hby d1_1) k) ?_
  by_cases hc1 : p0 < (32 : Int32)
  ·
    refine own_go (g' := (mkF m 6 #[.val (.int p0)] [])) (fun _ k => XS.icmpNo X0.here hx rfl (hb hby d1_3) rfl (tlt hc1).2.1 k) ?_
    refine own_go (g' := (mkF m 7 #[.val (.int p0)] [(.int p0)])) (fun _ k => XS.iloadN X0.here hx rfl (hb hby d1_6) rfl k) ?_
    refine own_go (g' := (mkF m 9 #[.val (.int p0)] [(.int (9 : Int32)), (.int p0)])) (fun _ k => XS.bipush X0.here hx rfl (hb hby d1_7) k) ?_
    by_cases hc2 : p0 = (9 : Int32)
    ·
      refine own_go (g' := (mkF m 12 #[.val (.int p0)] [])) (fun _ k => XS.icmpNo X0.here hx rfl (hb hby d1_9) rfl (teq hc2).2 k) ?_
      refine own_go (g' := (mkF m 13 #[.val (.int p0)] [(.int p0)])) (fun _ k => XS.iloadN X0.here hx rfl (hb hby d1_12) rfl k) ?_
      refine own_go (g' := (mkF m 15 #[.val (.int p0)] [(.int (127 : Int32)), (.int p0)])) (fun _ k => XS.bipush X0.here hx rfl (hb hby d1_13) k) ?_
      by_cases hc3 : p0 < (127 : Int32)
      ·
        refine own_go (g' := (mkF m 29 #[.val (.int p0)] [])) (fun _ k => XS.icmpYes X0.here hx rfl (pc0 := 15) (pc' := 29) rfl (hb hby d1_15) rfl (tlt hc3).1 (by decide) (by decide) k) ?_
        refine own_go (g' := (mkF m 30 #[.val (.int p0)] [(.int (0 : Int32))])) (fun _ k => XS.iconst X0.here hx rfl (hb hby d1_29) k) ?_
        refine own_retN X0 hx .boolean Bd.returns Bd.notSynchronized (by simp) (hb hby d1_30) (by decide) (by decide) ?_
        show QQ _ s₁.heap _
        rw [e0]
        rw [← hQQ]
        have hv : own_b (decide ((p0 < (32 : Int32) ∧ ¬ p0 = (9 : Int32)) ∨ (¬ p0 < (127 : Int32) ∧ ¬ (159 : Int32) < p0))) = 0 := own_b_f (by simp only [decide_eq_true_eq, ← Int32.toInt_inj, ← Int64.toInt_inj, Int32.lt_iff_toInt_lt, Int64.lt_iff_toInt_lt, Int32.le_iff_toInt_le, Int64.le_iff_toInt_le, Int32.reduceToInt, Int64.reduceToInt] at hc1 hc2 hc3 ⊢; omega)
        exact ⟨by rw [hv]; rfl, rfl, rfl⟩
      ·
        refine own_go (g' := (mkF m 18 #[.val (.int p0)] [])) (fun _ k => XS.icmpNo X0.here hx rfl (hb hby d1_15) rfl (flt hc3).1 k) ?_
        refine own_go (g' := (mkF m 19 #[.val (.int p0)] [(.int p0)])) (fun _ k => XS.iloadN X0.here hx rfl (hb hby d1_18) rfl k) ?_
        refine own_go (g' := (mkF m 22 #[.val (.int p0)] [(.int (159 : Int32)), (.int p0)])) (fun _ k => XS.sipush X0.here hx rfl (hb hby d1_19) k) ?_
        by_cases hc4 : (159 : Int32) < p0
        ·
          refine own_go (g' := (mkF m 29 #[.val (.int p0)] [])) (fun _ k => XS.icmpYes X0.here hx rfl (pc0 := 22) (pc' := 29) rfl (hb hby d1_22) rfl (tlt hc4).2.2.1 (by decide) (by decide) k) ?_
          refine own_go (g' := (mkF m 30 #[.val (.int p0)] [(.int (0 : Int32))])) (fun _ k => XS.iconst X0.here hx rfl (hb hby d1_29) k) ?_
          refine own_retN X0 hx .boolean Bd.returns Bd.notSynchronized (by simp) (hb hby d1_30) (by decide) (by decide) ?_
          show QQ _ s₁.heap _
          rw [e0]
          rw [← hQQ]
          have hv : own_b (decide ((p0 < (32 : Int32) ∧ ¬ p0 = (9 : Int32)) ∨ (¬ p0 < (127 : Int32) ∧ ¬ (159 : Int32) < p0))) = 0 := own_b_f (by simp only [decide_eq_true_eq, ← Int32.toInt_inj, ← Int64.toInt_inj, Int32.lt_iff_toInt_lt, Int64.lt_iff_toInt_lt, Int32.le_iff_toInt_le, Int64.le_iff_toInt_le, Int32.reduceToInt, Int64.reduceToInt] at hc1 hc2 hc3 hc4 ⊢; omega)
          exact ⟨by rw [hv]; rfl, rfl, rfl⟩
        ·
          refine own_go (g' := (mkF m 25 #[.val (.int p0)] [])) (fun _ k => XS.icmpNo X0.here hx rfl (hb hby d1_22) rfl (flt hc4).2.2.1 k) ?_
          refine own_go (g' := (mkF m 26 #[.val (.int p0)] [(.int (1 : Int32))])) (fun _ k => XS.iconst X0.here hx rfl (hb hby d1_25) k) ?_
          refine own_go (g' := (mkF m 30 #[.val (.int p0)] [(.int (1 : Int32))])) (fun _ k => XS.goto X0.here hx rfl (pc0 := 26) (pc' := 30) rfl (hb hby d1_26) (by decide) (by decide) k) ?_
          refine own_retN X0 hx .boolean Bd.returns Bd.notSynchronized (by simp) (hb hby d1_30) (by decide) (by decide) ?_
          show QQ _ s₁.heap _
          rw [e0]
          rw [← hQQ]
          have hv : own_b (decide ((p0 < (32 : Int32) ∧ ¬ p0 = (9 : Int32)) ∨ (¬ p0 < (127 : Int32) ∧ ¬ (159 : Int32) < p0))) = 1 := own_b_t (by simp only [decide_eq_true_eq, ← Int32.toInt_inj, ← Int64.toInt_inj, Int32.lt_iff_toInt_lt, Int64.lt_iff_toInt_lt, Int32.le_iff_toInt_le, Int64.le_iff_toInt_le, Int32.reduceToInt, Int64.reduceToInt] at hc1 hc2 hc3 hc4 ⊢; omega)
          exact ⟨by rw [hv]; rfl, rfl, rfl⟩
    ·
      refine own_go (g' := (mkF m 25 #[.val (.int p0)] [])) (fun _ k => XS.icmpYes X0.here hx rfl (pc0 := 9) (pc' := 25) rfl (hb hby d1_9) rfl (feq hc2).2 (by decide) (by decide) k) ?_
      refine own_go (g' := (mkF m 26 #[.val (.int p0)] [(.int (1 : Int32))])) (fun _ k => XS.iconst X0.here hx rfl (hb hby d1_25) k) ?_
      refine own_go (g' := (mkF m 30 #[.val (.int p0)] [(.int (1 : Int32))])) (fun _ k => XS.goto X0.here hx rfl (pc0 := 26) (pc' := 30) rfl (hb hby d1_26) (by decide) (by decide) k) ?_
      refine own_retN X0 hx .boolean Bd.returns Bd.notSynchronized (by simp) (hb hby d1_30) (by decide) (by decide) ?_
      show QQ _ s₁.heap _
      rw [e0]
      rw [← hQQ]
      have hv : own_b (decide ((p0 < (32 : Int32) ∧ ¬ p0 = (9 : Int32)) ∨ (¬ p0 < (127 : Int32) ∧ ¬ (159 : Int32) < p0))) = 1 := own_b_t (by simp only [decide_eq_true_eq, ← Int32.toInt_inj, ← Int64.toInt_inj, Int32.lt_iff_toInt_lt, Int64.lt_iff_toInt_lt, Int32.le_iff_toInt_le, Int64.le_iff_toInt_le, Int32.reduceToInt, Int64.reduceToInt] at hc1 hc2 ⊢; omega)
      exact ⟨by rw [hv]; rfl, rfl, rfl⟩
  ·
    refine own_go (g' := (mkF m 12 #[.val (.int p0)] [])) (fun _ k => XS.icmpYes X0.here hx rfl (pc0 := 3) (pc' := 12) rfl (hb hby d1_3) rfl (flt hc1).2.1 (by decide) (by decide) k) ?_
    refine own_go (g' := (mkF m 13 #[.val (.int p0)] [(.int p0)])) (fun _ k => XS.iloadN X0.here hx rfl (hb hby d1_12) rfl k) ?_
    refine own_go (g' := (mkF m 15 #[.val (.int p0)] [(.int (127 : Int32)), (.int p0)])) (fun _ k => XS.bipush X0.here hx rfl (hb hby d1_13) k) ?_
    by_cases hc5 : p0 < (127 : Int32)
    ·
      refine own_go (g' := (mkF m 29 #[.val (.int p0)] [])) (fun _ k => XS.icmpYes X0.here hx rfl (pc0 := 15) (pc' := 29) rfl (hb hby d1_15) rfl (tlt hc5).1 (by decide) (by decide) k) ?_
      refine own_go (g' := (mkF m 30 #[.val (.int p0)] [(.int (0 : Int32))])) (fun _ k => XS.iconst X0.here hx rfl (hb hby d1_29) k) ?_
      refine own_retN X0 hx .boolean Bd.returns Bd.notSynchronized (by simp) (hb hby d1_30) (by decide) (by decide) ?_
      show QQ _ s₁.heap _
      rw [e0]
      rw [← hQQ]
      have hv : own_b (decide ((p0 < (32 : Int32) ∧ ¬ p0 = (9 : Int32)) ∨ (¬ p0 < (127 : Int32) ∧ ¬ (159 : Int32) < p0))) = 0 := own_b_f (by simp only [decide_eq_true_eq, ← Int32.toInt_inj, ← Int64.toInt_inj, Int32.lt_iff_toInt_lt, Int64.lt_iff_toInt_lt, Int32.le_iff_toInt_le, Int64.le_iff_toInt_le, Int32.reduceToInt, Int64.reduceToInt] at hc1 hc5 ⊢; omega)
      exact ⟨by rw [hv]; rfl, rfl, rfl⟩
    ·
      refine own_go (g' := (mkF m 18 #[.val (.int p0)] [])) (fun _ k => XS.icmpNo X0.here hx rfl (hb hby d1_15) rfl (flt hc5).1 k) ?_
      refine own_go (g' := (mkF m 19 #[.val (.int p0)] [(.int p0)])) (fun _ k => XS.iloadN X0.here hx rfl (hb hby d1_18) rfl k) ?_
      refine own_go (g' := (mkF m 22 #[.val (.int p0)] [(.int (159 : Int32)), (.int p0)])) (fun _ k => XS.sipush X0.here hx rfl (hb hby d1_19) k) ?_
      by_cases hc6 : (159 : Int32) < p0
      ·
        refine own_go (g' := (mkF m 29 #[.val (.int p0)] [])) (fun _ k => XS.icmpYes X0.here hx rfl (pc0 := 22) (pc' := 29) rfl (hb hby d1_22) rfl (tlt hc6).2.2.1 (by decide) (by decide) k) ?_
        refine own_go (g' := (mkF m 30 #[.val (.int p0)] [(.int (0 : Int32))])) (fun _ k => XS.iconst X0.here hx rfl (hb hby d1_29) k) ?_
        refine own_retN X0 hx .boolean Bd.returns Bd.notSynchronized (by simp) (hb hby d1_30) (by decide) (by decide) ?_
        show QQ _ s₁.heap _
        rw [e0]
        rw [← hQQ]
        have hv : own_b (decide ((p0 < (32 : Int32) ∧ ¬ p0 = (9 : Int32)) ∨ (¬ p0 < (127 : Int32) ∧ ¬ (159 : Int32) < p0))) = 0 := own_b_f (by simp only [decide_eq_true_eq, ← Int32.toInt_inj, ← Int64.toInt_inj, Int32.lt_iff_toInt_lt, Int64.lt_iff_toInt_lt, Int32.le_iff_toInt_le, Int64.le_iff_toInt_le, Int32.reduceToInt, Int64.reduceToInt] at hc1 hc5 hc6 ⊢; omega)
        exact ⟨by rw [hv]; rfl, rfl, rfl⟩
      ·
        refine own_go (g' := (mkF m 25 #[.val (.int p0)] [])) (fun _ k => XS.icmpNo X0.here hx rfl (hb hby d1_22) rfl (flt hc6).2.2.1 k) ?_
        refine own_go (g' := (mkF m 26 #[.val (.int p0)] [(.int (1 : Int32))])) (fun _ k => XS.iconst X0.here hx rfl (hb hby d1_25) k) ?_
        refine own_go (g' := (mkF m 30 #[.val (.int p0)] [(.int (1 : Int32))])) (fun _ k => XS.goto X0.here hx rfl (pc0 := 26) (pc' := 30) rfl (hb hby d1_26) (by decide) (by decide) k) ?_
        refine own_retN X0 hx .boolean Bd.returns Bd.notSynchronized (by simp) (hb hby d1_30) (by decide) (by decide) ?_
        show QQ _ s₁.heap _
        rw [e0]
        rw [← hQQ]
        have hv : own_b (decide ((p0 < (32 : Int32) ∧ ¬ p0 = (9 : Int32)) ∨ (¬ p0 < (127 : Int32) ∧ ¬ (159 : Int32) < p0))) = 1 := own_b_t (by simp only [decide_eq_true_eq, ← Int32.toInt_inj, ← Int64.toInt_inj, Int32.lt_iff_toInt_lt, Int64.lt_iff_toInt_lt, Int32.le_iff_toInt_le, Int64.le_iff_toInt_le, Int32.reduceToInt, Int64.reduceToInt] at hc1 hc5 hc6 ⊢; omega)
        exact ⟨by rw [hv]; rfl, rfl, rfl⟩
theorem pn_rm0 : plainName "com/example/restlint/restlint/report/ControlCharactersIsEscapedPinLaw" = true := by first | (simp [plainName, overriddenIn]; done) | decide +kernel
theorem pd0_0 : parseMethodDescriptor "(I)Z" = some ⟨[.int], some .boolean⟩ := by decide +kernel
theorem ef_rm0 (m : MethodId) (p0 : Int32) (p1 : Int32) : entryFrame m #[(.int p0), (.int p1)] maxLocals = mkF m 0 #[.val (.int p0), .val (.int p1), .unset, .unset, .unset, .unset, .unset] [] := by first | (simp [entryFrame, mkF, argsToLocals, Value.category, maxLocals]; done) | rfl
set_option maxRecDepth 65536 in
set_option maxHeartbeats 40000000 in
theorem rm0 (l : Launch) (Z : State) (a0 : Array Value) (hw : ∀ d ∈ tables_1, d.before a0 Z = true) (p0 : Int32) (p1 : Int32)  (h0 : Heap) (n0 : Nat) (Z0 : n0 ≤ h0.size) :
    own_Met l Z x code maxLocals ret tables_1 room_1 #[(.int p0), (.int p1)] h0 0 0 (fun v h L => v = some (.int 1) ∧ Fr n0 L) := by
  refine own_met (plainFor_of_name pn_rm0) ?_
  intro p e s m below meth c s₁ Bd hml0 hZ X0 e0
  have hx := Bd.exec
  have hby := Bd.bytes
  have hml : c.maxLocals = 7 := hml0
  have hown : s.vm.findClass "com/example/restlint/restlint/report/ControlCharactersIsEscapedPinLaw" = some m.cls := findClass_of_methodNamed Bd.named
  have hnm := (name_of_methodNamed Bd.named Bd.method).1
  refine own_cast (ef_rm0 m p0 p1) ?_
  generalize hQQ : (fun (v : Option Value) (h : Heap) (L : List Loc) => v = some (.int 1) ∧ Fr n0 L) = QQ
  have N0 := Fr.nil n0
  refine own_go (g' := (mkF m 1 #[.val (.int p0), .val (.int p1), .unset, .unset, .unset, .unset, .unset] [(.int p1)])) (fun _ k => XS.iloadN X0.here hx rfl (hb hby at_0) rfl k) ?_
  refine own_go (g' := (mkF m 2 #[.val (.int p0), .val (.int p1), .unset, .unset, .unset, .unset, .unset] [(.int (1 : Int32)), (.int p1)])) (fun _ k => XS.iconst X0.here hx rfl (hb hby at_1) k) ?_
  refine own_go (g' := (mkF m 3 #[.val (.int p0), .val (.int p1), .unset, .unset, .unset, .unset, .unset] [(.int (p1 &&& (1 : Int32)))])) (fun _ k => XS.iand X0.here hx rfl (hb hby at_2) rfl k) ?_
  have J1 : ∀ (c : Int32), (0 ≤ c.toInt) → own_Go p e below (own_Post s QQ 0 0) s₁ (mkF m 18 #[.val (.int p0), .val (.int p1), .unset, .unset, .unset, .unset, .unset] [(.int c)]) := by
    intro c hcn
    refine own_go (g' := (mkF m 19 #[.val (.int p0), .val (.int p1), .val (.int c), .unset, .unset, .unset, .unset] [])) (fun _ k => XS.istoreN X0.here hx rfl (hb hby at_18) rfl (l' := #[.val (.int p0), .val (.int p1), .val (.int c), .unset, .unset, .unset, .unset]) rfl k) ?_
    refine own_go (g' := (mkF m 20 #[.val (.int p0), .val (.int p1), .val (.int c), .unset, .unset, .unset, .unset] [(.int c)])) (fun _ k => XS.iloadN X0.here hx rfl (hb hby at_19) rfl k) ?_
    refine own_go (g' := (mkF m 21 #[.val (.int p0), .val (.int p1), .val (.int c), .unset, .unset, .unset, .unset] [(.int (5 : Int32)), (.int c)])) (fun _ k => XS.iconst X0.here hx rfl (hb hby at_20) k) ?_
    refine own_go (g' := (mkF m 22 #[.val (.int p0), .val (.int p1), .val (.int c), .unset, .unset, .unset, .unset] [(.int ((c.toUInt32 >>> ((5 : Int32) &&& 31).toUInt32).toInt32))])) (fun _ k => XS.iushr X0.here hx rfl (hb hby at_21) rfl k) ?_
    have J2 : own_Go p e below (own_Post s QQ 0 0) s₁ (mkF m 36 #[.val (.int p0), .val (.int p1), .val (.int c), .unset, .unset, .unset, .unset] [(.int (own_b ((decide (((c.toUInt32 >>> ((5 : Int32) &&& 31).toUInt32).toInt32) = (0 : Int32)) && !decide (c = (9 : Int32))))))]) := by
      suffices JNhc0 : ∀ c0 : Bool, c0 = ((decide (((c.toUInt32 >>> ((5 : Int32) &&& 31).toUInt32).toInt32) = (0 : Int32)) && !decide (c = (9 : Int32)))) → own_Go p e below (own_Post s QQ 0 0) s₁ (mkF m 36 #[.val (.int p0), .val (.int p1), .val (.int c), .unset, .unset, .unset, .unset] [(.int (own_b c0))]) from JNhc0 _ (rfl)
      intro c0 hc0
      refine own_go (g' := (mkF m 37 #[.val (.int p0), .val (.int p1), .val (.int c), .val (.int (own_b c0)), .unset, .unset, .unset] [])) (fun _ k => XS.istoreN X0.here hx rfl (hb hby at_36) rfl (l' := #[.val (.int p0), .val (.int p1), .val (.int c), .val (.int (own_b c0)), .unset, .unset, .unset]) rfl k) ?_
      refine own_go (g' := (mkF m 38 #[.val (.int p0), .val (.int p1), .val (.int c), .val (.int (own_b c0)), .unset, .unset, .unset] [(.int c)])) (fun _ k => XS.iloadN X0.here hx rfl (hb hby at_37) rfl k) ?_
      refine own_go (g' := (mkF m 40 #[.val (.int p0), .val (.int p1), .val (.int c), .val (.int (own_b c0)), .unset, .unset, .unset] [(.int (127 : Int32)), (.int c)])) (fun _ k => XS.bipush X0.here hx rfl (hb hby at_38) k) ?_
      have J3 : own_Go p e below (own_Post s QQ 0 0) s₁ (mkF m 48 #[.val (.int p0), .val (.int p1), .val (.int c), .val (.int (own_b c0)), .unset, .unset, .unset] [(.int (own_b (decide (c = (127 : Int32)))))]) := by
        suffices JNhcd : ∀ cd : Bool, cd = (decide (c = (127 : Int32))) → own_Go p e below (own_Post s QQ 0 0) s₁ (mkF m 48 #[.val (.int p0), .val (.int p1), .val (.int c), .val (.int (own_b c0)), .unset, .unset, .unset] [(.int (own_b cd))]) from JNhcd _ (rfl)
        intro cd hcd
        refine own_go (g' := (mkF m 50 #[.val (.int p0), .val (.int p1), .val (.int c), .val (.int (own_b c0)), .val (.int (own_b cd)), .unset, .unset] [])) (fun _ k => XS.istore X0.here hx rfl (hb hby at_48) rfl (l' := #[.val (.int p0), .val (.int p1), .val (.int c), .val (.int (own_b c0)), .val (.int (own_b cd)), .unset, .unset]) rfl k) ?_
        refine own_go (g' := (mkF m 51 #[.val (.int p0), .val (.int p1), .val (.int c), .val (.int (own_b c0)), .val (.int (own_b cd)), .unset, .unset] [(.int c)])) (fun _ k => XS.iloadN X0.here hx rfl (hb hby at_50) rfl k) ?_
        refine own_go (g' := (mkF m 52 #[.val (.int p0), .val (.int p1), .val (.int c), .val (.int (own_b c0)), .val (.int (own_b cd)), .unset, .unset] [(.int (5 : Int32)), (.int c)])) (fun _ k => XS.iconst X0.here hx rfl (hb hby at_51) k) ?_
        refine own_go (g' := (mkF m 53 #[.val (.int p0), .val (.int p1), .val (.int c), .val (.int (own_b c0)), .val (.int (own_b cd)), .unset, .unset] [(.int ((c.toUInt32 >>> ((5 : Int32) &&& 31).toUInt32).toInt32))])) (fun _ k => XS.iushr X0.here hx rfl (hb hby at_52) rfl k) ?_
        refine own_go (g' := (mkF m 54 #[.val (.int p0), .val (.int p1), .val (.int c), .val (.int (own_b c0)), .val (.int (own_b cd)), .unset, .unset] [(.int (4 : Int32)), (.int ((c.toUInt32 >>> ((5 : Int32) &&& 31).toUInt32).toInt32))])) (fun _ k => XS.iconst X0.here hx rfl (hb hby at_53) k) ?_
        have J4 : own_Go p e below (own_Post s QQ 0 0) s₁ (mkF m 62 #[.val (.int p0), .val (.int p1), .val (.int c), .val (.int (own_b c0)), .val (.int (own_b cd)), .unset, .unset] [(.int (own_b (decide (((c.toUInt32 >>> ((5 : Int32) &&& 31).toUInt32).toInt32) = (4 : Int32)))))]) := by
          suffices JNhc1 : ∀ c1 : Bool, c1 = (decide (((c.toUInt32 >>> ((5 : Int32) &&& 31).toUInt32).toInt32) = (4 : Int32))) → own_Go p e below (own_Post s QQ 0 0) s₁ (mkF m 62 #[.val (.int p0), .val (.int p1), .val (.int c), .val (.int (own_b c0)), .val (.int (own_b cd)), .unset, .unset] [(.int (own_b c1))]) from JNhc1 _ (rfl)
          intro c1 hc1
          refine own_go (g' := (mkF m 64 #[.val (.int p0), .val (.int p1), .val (.int c), .val (.int (own_b c0)), .val (.int (own_b cd)), .val (.int (own_b c1)), .unset] [])) (fun _ k => XS.istore X0.here hx rfl (hb hby at_62) rfl (l' := #[.val (.int p0), .val (.int p1), .val (.int c), .val (.int (own_b c0)), .val (.int (own_b cd)), .val (.int (own_b c1)), .unset]) rfl k) ?_
          refine own_go (g' := (mkF m 65 #[.val (.int p0), .val (.int p1), .val (.int c), .val (.int (own_b c0)), .val (.int (own_b cd)), .val (.int (own_b c1)), .unset] [(.int (own_b c0))])) (fun _ k => XS.iloadN X0.here hx rfl (hb hby at_64) rfl k) ?_
          have J5 : own_Go p e below (own_Post s QQ 0 0) s₁ (mkF m 83 #[.val (.int p0), .val (.int p1), .val (.int c), .val (.int (own_b c0)), .val (.int (own_b cd)), .val (.int (own_b c1)), .unset] [(.int (own_b ((c0 || (cd || c1)))))]) := by
            suffices JNhex : ∀ ex : Bool, ex = ((c0 || (cd || c1))) → own_Go p e below (own_Post s QQ 0 0) s₁ (mkF m 83 #[.val (.int p0), .val (.int p1), .val (.int c), .val (.int (own_b c0)), .val (.int (own_b cd)), .val (.int (own_b c1)), .unset] [(.int (own_b ex))]) from JNhex _ (rfl)
            intro ex hex
            refine own_go (g' := (mkF m 85 #[.val (.int p0), .val (.int p1), .val (.int c), .val (.int (own_b c0)), .val (.int (own_b cd)), .val (.int (own_b c1)), .val (.int (own_b ex))] [])) (fun _ k => XS.istore X0.here hx rfl (hb hby at_83) rfl (l' := #[.val (.int p0), .val (.int p1), .val (.int c), .val (.int (own_b c0)), .val (.int (own_b cd)), .val (.int (own_b c1)), .val (.int (own_b ex))]) rfl k) ?_
            refine own_go (g' := (mkF m 86 #[.val (.int p0), .val (.int p1), .val (.int c), .val (.int (own_b c0)), .val (.int (own_b cd)), .val (.int (own_b c1)), .val (.int (own_b ex))] [(.int c)])) (fun _ k => XS.iloadN X0.here hx rfl (hb hby at_85) rfl k) ?_
            obtain ⟨v6, T6, L6, hQ6, X6, st6⟩ := own_callS X0 hx hZ (y := (⟨"com/example/restlint/restlint/report/ControlCharacters", "isEscaped", "(I)Z"⟩ : MethodName)) hown (hw _ (List.mem_of_getElem? (i := 0) rfl)) (hw _ (List.mem_of_getElem? (i := 1) rfl)) (hw _ (List.mem_of_getElem? (i := 2) rfl)) (hw _ (List.mem_of_getElem? (i := 3) rfl)) ⟨by decide, by decide⟩ (argsL := [(.int c)]) (rm1 l Z a0 hw c h0) e0 (g := (mkF m 86 #[.val (.int p0), .val (.int p1), .val (.int c), .val (.int (own_b c0)), .val (.int (own_b cd)), .val (.int (own_b c1)), .val (.int (own_b ex))] [(.int c)])) rfl (by rw [hml]; rfl) (rest := []) (lenOf pd0_0 rfl) rfl (hb hby at_86) (W := 0) (by show 2 * 0 + _ ≤ _; exact Nat.le_of_eq rfl) (by decide) (by decide) (by decide) (by decide)
            obtain ⟨rfl, e6, rfl⟩ := hQ6
            have N6 := Fr.app N0 (Fr.nil n0)
            refine own_go (g' := (mkF m 89 #[.val (.int p0), .val (.int p1), .val (.int c), .val (.int (own_b c0)), .val (.int (own_b cd)), .val (.int (own_b c1)), .val (.int (own_b ex))] [(.int (own_b (decide ((c < (32 : Int32) ∧ ¬ c = (9 : Int32)) ∨ (¬ c < (127 : Int32) ∧ ¬ (159 : Int32) < c)))))])) (st6) ?_
            refine own_go (g' := (mkF m 91 #[.val (.int p0), .val (.int p1), .val (.int c), .val (.int (own_b c0)), .val (.int (own_b cd)), .val (.int (own_b c1)), .val (.int (own_b ex))] [(.int (own_b ex)), (.int (own_b (decide ((c < (32 : Int32) ∧ ¬ c = (9 : Int32)) ∨ (¬ c < (127 : Int32) ∧ ¬ (159 : Int32) < c)))))])) (fun _ k => XS.iload X6.here hx rfl (hb hby at_89) rfl k) ?_
            have hr := c_iushr c (5 : Int32) 5 (by decide) (by decide)
            have hfin : ((decide ((c < (32 : Int32) ∧ ¬ c = (9 : Int32)) ∨ (¬ c < (127 : Int32) ∧ ¬ (159 : Int32) < c)))) = ex := by
              subst hex hc0 hcd hc1
              rw [Bool.eq_iff_iff]
              have hb := c.toInt_lt
              simp only [Bool.and_eq_true, Bool.or_eq_true, Bool.not_eq_true', decide_eq_false_iff_not, decide_eq_true_eq, ← Int32.toInt_inj, ← Int64.toInt_inj, Int32.lt_iff_toInt_lt, Int64.lt_iff_toInt_lt, Int32.le_iff_toInt_le, Int64.le_iff_toInt_le, Int32.reduceToInt, Int64.reduceToInt, hr]
              omega
            refine own_go (g' := (mkF m 94 #[.val (.int p0), .val (.int p1), .val (.int c), .val (.int (own_b c0)), .val (.int (own_b cd)), .val (.int (own_b c1)), .val (.int (own_b ex))] [])) (fun _ k => XS.icmpNo X6.here hx rfl (hb hby at_91) rfl (teq (congrArg own_b hfin)).2 k) ?_
            refine own_go (g' := (mkF m 95 #[.val (.int p0), .val (.int p1), .val (.int c), .val (.int (own_b c0)), .val (.int (own_b cd)), .val (.int (own_b c1)), .val (.int (own_b ex))] [(.int (1 : Int32))])) (fun _ k => XS.iconst X6.here hx rfl (hb hby at_94) k) ?_
            refine own_go (g' := (mkF m 99 #[.val (.int p0), .val (.int p1), .val (.int c), .val (.int (own_b c0)), .val (.int (own_b cd)), .val (.int (own_b c1)), .val (.int (own_b ex))] [(.int (1 : Int32))])) (fun _ k => XS.goto X6.here hx rfl (pc0 := 95) (pc' := 99) rfl (hb hby at_95) (by decide) (by decide) k) ?_
            refine own_retN X6 hx .boolean Bd.returns Bd.notSynchronized (by simp) (hb hby at_99) (by decide) (by decide) ?_
            show QQ _ T6.heap _
            rw [e6]
            rw [← hQQ]
            exact ⟨rfl, N6⟩
          by_cases hc7 : c0 = true
          ·
            refine own_go (g' := (mkF m 78 #[.val (.int p0), .val (.int p1), .val (.int c), .val (.int (own_b c0)), .val (.int (own_b cd)), .val (.int (own_b c1)), .unset] [])) (fun _ k => XS.ifYes X0.here hx rfl (pc0 := 65) (pc' := 78) rfl (hb hby at_65) rfl ((if0 _ _).trans (feq (own_b_n hc7)).2) (by decide) (by decide) k) ?_
            refine own_go (g' := (mkF m 79 #[.val (.int p0), .val (.int p1), .val (.int c), .val (.int (own_b c0)), .val (.int (own_b cd)), .val (.int (own_b c1)), .unset] [(.int (1 : Int32))])) (fun _ k => XS.iconst X0.here hx rfl (hb hby at_78) k) ?_
            refine own_go (g' := (mkF m 83 #[.val (.int p0), .val (.int p1), .val (.int c), .val (.int (own_b c0)), .val (.int (own_b cd)), .val (.int (own_b c1)), .unset] [(.int (1 : Int32))])) (fun _ k => XS.goto X0.here hx rfl (pc0 := 79) (pc' := 83) rfl (hb hby at_79) (by decide) (by decide) k) ?_
            have hE5 : own_b ((c0 || (cd || c1))) = (1 : Int32) := by simp only [hc7]; first | done | rfl
            exact own_cast (by rw [hE5]) J5
          ·
            refine own_go (g' := (mkF m 68 #[.val (.int p0), .val (.int p1), .val (.int c), .val (.int (own_b c0)), .val (.int (own_b cd)), .val (.int (own_b c1)), .unset] [])) (fun _ k => XS.ifNo X0.here hx rfl (hb hby at_65) rfl ((if0 _ _).trans (teq (own_b_f hc7)).2) k) ?_
            refine own_go (g' := (mkF m 70 #[.val (.int p0), .val (.int p1), .val (.int c), .val (.int (own_b c0)), .val (.int (own_b cd)), .val (.int (own_b c1)), .unset] [(.int (own_b cd))])) (fun _ k => XS.iload X0.here hx rfl (hb hby at_68) rfl k) ?_
            have J8 : own_Go p e below (own_Post s QQ 0 0) s₁ (mkF m 83 #[.val (.int p0), .val (.int p1), .val (.int c), .val (.int (own_b c0)), .val (.int (own_b cd)), .val (.int (own_b c1)), .unset] [(.int (own_b ((cd || c1))))]) := by
              have hE5 : own_b ((c0 || (cd || c1))) = (own_b ((cd || c1))) := by simp only [(Bool.eq_false_iff.mpr hc7)]; first | done | rfl
              exact own_cast (by rw [hE5]) J5
            by_cases hc9 : cd = true
            ·
              refine own_go (g' := (mkF m 78 #[.val (.int p0), .val (.int p1), .val (.int c), .val (.int (own_b c0)), .val (.int (own_b cd)), .val (.int (own_b c1)), .unset] [])) (fun _ k => XS.ifYes X0.here hx rfl (pc0 := 70) (pc' := 78) rfl (hb hby at_70) rfl ((if0 _ _).trans (feq (own_b_n hc9)).2) (by decide) (by decide) k) ?_
              refine own_go (g' := (mkF m 79 #[.val (.int p0), .val (.int p1), .val (.int c), .val (.int (own_b c0)), .val (.int (own_b cd)), .val (.int (own_b c1)), .unset] [(.int (1 : Int32))])) (fun _ k => XS.iconst X0.here hx rfl (hb hby at_78) k) ?_
              refine own_go (g' := (mkF m 83 #[.val (.int p0), .val (.int p1), .val (.int c), .val (.int (own_b c0)), .val (.int (own_b cd)), .val (.int (own_b c1)), .unset] [(.int (1 : Int32))])) (fun _ k => XS.goto X0.here hx rfl (pc0 := 79) (pc' := 83) rfl (hb hby at_79) (by decide) (by decide) k) ?_
              have hE8 : own_b ((cd || c1)) = (1 : Int32) := by simp only [hc9]; first | done | rfl
              exact own_cast (by rw [hE8]) J8
            ·
              refine own_go (g' := (mkF m 73 #[.val (.int p0), .val (.int p1), .val (.int c), .val (.int (own_b c0)), .val (.int (own_b cd)), .val (.int (own_b c1)), .unset] [])) (fun _ k => XS.ifNo X0.here hx rfl (hb hby at_70) rfl ((if0 _ _).trans (teq (own_b_f hc9)).2) k) ?_
              refine own_go (g' := (mkF m 75 #[.val (.int p0), .val (.int p1), .val (.int c), .val (.int (own_b c0)), .val (.int (own_b cd)), .val (.int (own_b c1)), .unset] [(.int (own_b c1))])) (fun _ k => XS.iload X0.here hx rfl (hb hby at_73) rfl k) ?_
              have J10 : own_Go p e below (own_Post s QQ 0 0) s₁ (mkF m 83 #[.val (.int p0), .val (.int p1), .val (.int c), .val (.int (own_b c0)), .val (.int (own_b cd)), .val (.int (own_b c1)), .unset] [(.int (own_b (c1)))]) := by
                have hE8 : own_b ((cd || c1)) = (own_b (c1)) := by simp only [(Bool.eq_false_iff.mpr hc9)]; first | done | rfl
                exact own_cast (by rw [hE8]) J8
              by_cases hc11 : c1 = true
              ·
                refine own_go (g' := (mkF m 78 #[.val (.int p0), .val (.int p1), .val (.int c), .val (.int (own_b c0)), .val (.int (own_b cd)), .val (.int (own_b c1)), .unset] [])) (fun _ k => XS.ifNo X0.here hx rfl (hb hby at_75) rfl ((if0 _ _).trans (feq (own_b_n hc11)).1) k) ?_
                refine own_go (g' := (mkF m 79 #[.val (.int p0), .val (.int p1), .val (.int c), .val (.int (own_b c0)), .val (.int (own_b cd)), .val (.int (own_b c1)), .unset] [(.int (1 : Int32))])) (fun _ k => XS.iconst X0.here hx rfl (hb hby at_78) k) ?_
                refine own_go (g' := (mkF m 83 #[.val (.int p0), .val (.int p1), .val (.int c), .val (.int (own_b c0)), .val (.int (own_b cd)), .val (.int (own_b c1)), .unset] [(.int (1 : Int32))])) (fun _ k => XS.goto X0.here hx rfl (pc0 := 79) (pc' := 83) rfl (hb hby at_79) (by decide) (by decide) k) ?_
                have hE10 : own_b (c1) = (1 : Int32) := by simp only [hc11]; first | done | rfl
                exact own_cast (by rw [hE10]) J10
              ·
                refine own_go (g' := (mkF m 82 #[.val (.int p0), .val (.int p1), .val (.int c), .val (.int (own_b c0)), .val (.int (own_b cd)), .val (.int (own_b c1)), .unset] [])) (fun _ k => XS.ifYes X0.here hx rfl (pc0 := 75) (pc' := 82) rfl (hb hby at_75) rfl ((if0 _ _).trans (teq (own_b_f hc11)).1) (by decide) (by decide) k) ?_
                refine own_go (g' := (mkF m 83 #[.val (.int p0), .val (.int p1), .val (.int c), .val (.int (own_b c0)), .val (.int (own_b cd)), .val (.int (own_b c1)), .unset] [(.int (0 : Int32))])) (fun _ k => XS.iconst X0.here hx rfl (hb hby at_82) k) ?_
                have hE10 : own_b (c1) = (0 : Int32) := by simp only [(Bool.eq_false_iff.mpr hc11)]; first | done | rfl
                exact own_cast (by rw [hE10]) J10
        by_cases hc12 : ((c.toUInt32 >>> ((5 : Int32) &&& 31).toUInt32).toInt32) = (4 : Int32)
        ·
          refine own_go (g' := (mkF m 57 #[.val (.int p0), .val (.int p1), .val (.int c), .val (.int (own_b c0)), .val (.int (own_b cd)), .unset, .unset] [])) (fun _ k => XS.icmpNo X0.here hx rfl (hb hby at_54) rfl (teq hc12).2 k) ?_
          refine own_go (g' := (mkF m 58 #[.val (.int p0), .val (.int p1), .val (.int c), .val (.int (own_b c0)), .val (.int (own_b cd)), .unset, .unset] [(.int (1 : Int32))])) (fun _ k => XS.iconst X0.here hx rfl (hb hby at_57) k) ?_
          refine own_go (g' := (mkF m 62 #[.val (.int p0), .val (.int p1), .val (.int c), .val (.int (own_b c0)), .val (.int (own_b cd)), .unset, .unset] [(.int (1 : Int32))])) (fun _ k => XS.goto X0.here hx rfl (pc0 := 58) (pc' := 62) rfl (hb hby at_58) (by decide) (by decide) k) ?_
          have hE4 : own_b (decide (((c.toUInt32 >>> ((5 : Int32) &&& 31).toUInt32).toInt32) = (4 : Int32))) = (1 : Int32) := by simp only [decide_eq_true hc12]; first | done | rfl
          exact own_cast (by rw [hE4]) J4
        ·
          refine own_go (g' := (mkF m 61 #[.val (.int p0), .val (.int p1), .val (.int c), .val (.int (own_b c0)), .val (.int (own_b cd)), .unset, .unset] [])) (fun _ k => XS.icmpYes X0.here hx rfl (pc0 := 54) (pc' := 61) rfl (hb hby at_54) rfl (feq hc12).2 (by decide) (by decide) k) ?_
          refine own_go (g' := (mkF m 62 #[.val (.int p0), .val (.int p1), .val (.int c), .val (.int (own_b c0)), .val (.int (own_b cd)), .unset, .unset] [(.int (0 : Int32))])) (fun _ k => XS.iconst X0.here hx rfl (hb hby at_61) k) ?_
          have hE4 : own_b (decide (((c.toUInt32 >>> ((5 : Int32) &&& 31).toUInt32).toInt32) = (4 : Int32))) = (0 : Int32) := by simp only [decide_eq_false hc12]; first | done | rfl
          exact own_cast (by rw [hE4]) J4
      by_cases hc13 : c = (127 : Int32)
      ·
        refine own_go (g' := (mkF m 43 #[.val (.int p0), .val (.int p1), .val (.int c), .val (.int (own_b c0)), .unset, .unset, .unset] [])) (fun _ k => XS.icmpNo X0.here hx rfl (hb hby at_40) rfl (teq hc13).2 k) ?_
        refine own_go (g' := (mkF m 44 #[.val (.int p0), .val (.int p1), .val (.int c), .val (.int (own_b c0)), .unset, .unset, .unset] [(.int (1 : Int32))])) (fun _ k => XS.iconst X0.here hx rfl (hb hby at_43) k) ?_
        refine own_go (g' := (mkF m 48 #[.val (.int p0), .val (.int p1), .val (.int c), .val (.int (own_b c0)), .unset, .unset, .unset] [(.int (1 : Int32))])) (fun _ k => XS.goto X0.here hx rfl (pc0 := 44) (pc' := 48) rfl (hb hby at_44) (by decide) (by decide) k) ?_
        have hE3 : own_b (decide (c = (127 : Int32))) = (1 : Int32) := by simp only [decide_eq_true hc13]; first | done | rfl
        exact own_cast (by rw [hE3]) J3
      ·
        refine own_go (g' := (mkF m 47 #[.val (.int p0), .val (.int p1), .val (.int c), .val (.int (own_b c0)), .unset, .unset, .unset] [])) (fun _ k => XS.icmpYes X0.here hx rfl (pc0 := 40) (pc' := 47) rfl (hb hby at_40) rfl (feq hc13).2 (by decide) (by decide) k) ?_
        refine own_go (g' := (mkF m 48 #[.val (.int p0), .val (.int p1), .val (.int c), .val (.int (own_b c0)), .unset, .unset, .unset] [(.int (0 : Int32))])) (fun _ k => XS.iconst X0.here hx rfl (hb hby at_47) k) ?_
        have hE3 : own_b (decide (c = (127 : Int32))) = (0 : Int32) := by simp only [decide_eq_false hc13]; first | done | rfl
        exact own_cast (by rw [hE3]) J3
    by_cases hc14 : ((c.toUInt32 >>> ((5 : Int32) &&& 31).toUInt32).toInt32) = (0 : Int32)
    ·
      refine own_go (g' := (mkF m 25 #[.val (.int p0), .val (.int p1), .val (.int c), .unset, .unset, .unset, .unset] [])) (fun _ k => XS.ifNo X0.here hx rfl (hb hby at_22) rfl ((if0 _ _).trans (teq hc14).2) k) ?_
      refine own_go (g' := (mkF m 26 #[.val (.int p0), .val (.int p1), .val (.int c), .unset, .unset, .unset, .unset] [(.int c)])) (fun _ k => XS.iloadN X0.here hx rfl (hb hby at_25) rfl k) ?_
      refine own_go (g' := (mkF m 28 #[.val (.int p0), .val (.int p1), .val (.int c), .unset, .unset, .unset, .unset] [(.int (9 : Int32)), (.int c)])) (fun _ k => XS.bipush X0.here hx rfl (hb hby at_26) k) ?_
      have J15 : own_Go p e below (own_Post s QQ 0 0) s₁ (mkF m 36 #[.val (.int p0), .val (.int p1), .val (.int c), .unset, .unset, .unset, .unset] [(.int (own_b (!decide (c = (9 : Int32)))))]) := by
        have hE2 : own_b ((decide (((c.toUInt32 >>> ((5 : Int32) &&& 31).toUInt32).toInt32) = (0 : Int32)) && !decide (c = (9 : Int32)))) = (own_b (!decide (c = (9 : Int32)))) := by simp only [decide_eq_true hc14]; first | done | rfl
        exact own_cast (by rw [hE2]) J2
      by_cases hc16 : c = (9 : Int32)
      ·
        refine own_go (g' := (mkF m 35 #[.val (.int p0), .val (.int p1), .val (.int c), .unset, .unset, .unset, .unset] [])) (fun _ k => XS.icmpYes X0.here hx rfl (pc0 := 28) (pc' := 35) rfl (hb hby at_28) rfl (teq hc16).1 (by decide) (by decide) k) ?_
        refine own_go (g' := (mkF m 36 #[.val (.int p0), .val (.int p1), .val (.int c), .unset, .unset, .unset, .unset] [(.int (0 : Int32))])) (fun _ k => XS.iconst X0.here hx rfl (hb hby at_35) k) ?_
        have hE15 : own_b (!decide (c = (9 : Int32))) = (0 : Int32) := by simp only [decide_eq_true hc16]; first | done | rfl
        exact own_cast (by rw [hE15]) J15
      ·
        refine own_go (g' := (mkF m 31 #[.val (.int p0), .val (.int p1), .val (.int c), .unset, .unset, .unset, .unset] [])) (fun _ k => XS.icmpNo X0.here hx rfl (hb hby at_28) rfl (feq hc16).1 k) ?_
        refine own_go (g' := (mkF m 32 #[.val (.int p0), .val (.int p1), .val (.int c), .unset, .unset, .unset, .unset] [(.int (1 : Int32))])) (fun _ k => XS.iconst X0.here hx rfl (hb hby at_31) k) ?_
        refine own_go (g' := (mkF m 36 #[.val (.int p0), .val (.int p1), .val (.int c), .unset, .unset, .unset, .unset] [(.int (1 : Int32))])) (fun _ k => XS.goto X0.here hx rfl (pc0 := 32) (pc' := 36) rfl (hb hby at_32) (by decide) (by decide) k) ?_
        have hE15 : own_b (!decide (c = (9 : Int32))) = (1 : Int32) := by simp only [decide_eq_false hc16]; first | done | rfl
        exact own_cast (by rw [hE15]) J15
    ·
      refine own_go (g' := (mkF m 35 #[.val (.int p0), .val (.int p1), .val (.int c), .unset, .unset, .unset, .unset] [])) (fun _ k => XS.ifYes X0.here hx rfl (pc0 := 22) (pc' := 35) rfl (hb hby at_22) rfl ((if0 _ _).trans (feq hc14).2) (by decide) (by decide) k) ?_
      refine own_go (g' := (mkF m 36 #[.val (.int p0), .val (.int p1), .val (.int c), .unset, .unset, .unset, .unset] [(.int (0 : Int32))])) (fun _ k => XS.iconst X0.here hx rfl (hb hby at_35) k) ?_
      have hE2 : own_b ((decide (((c.toUInt32 >>> ((5 : Int32) &&& 31).toUInt32).toInt32) = (0 : Int32)) && !decide (c = (9 : Int32)))) = (0 : Int32) := by simp only [decide_eq_false hc14]; first | done | rfl
      exact own_cast (by rw [hE2]) J2
  by_cases hc17 : (p1 &&& (1 : Int32)) = (0 : Int32)
  ·
    refine own_go (g' := (mkF m 14 #[.val (.int p0), .val (.int p1), .unset, .unset, .unset, .unset, .unset] [])) (fun _ k => XS.ifYes X0.here hx rfl (pc0 := 3) (pc' := 14) rfl (hb hby at_3) rfl ((if0 _ _).trans (teq hc17).1) (by decide) (by decide) k) ?_
    refine own_go (g' := (mkF m 15 #[.val (.int p0), .val (.int p1), .unset, .unset, .unset, .unset, .unset] [(.int p0)])) (fun _ k => XS.iloadN X0.here hx rfl (hb hby at_14) rfl k) ?_
    refine own_go (g' := (mkF m 17 #[.val (.int p0), .val (.int p1), .unset, .unset, .unset, .unset, .unset] [(.int (2147483647 : Int32)), (.int p0)])) (X0.ldcInt hx hown (mvT hZ (hw _ (List.mem_of_getElem? (i := 4) rfl))) (g := (mkF m 15 #[.val (.int p0), .val (.int p1), .unset, .unset, .unset, .unset, .unset] [(.int p0)])) rfl (hb hby at_15)) ?_
    refine own_go (g' := (mkF m 18 #[.val (.int p0), .val (.int p1), .unset, .unset, .unset, .unset, .unset] [(.int (p0 &&& (2147483647 : Int32)))])) (fun _ k => XS.iand X0.here hx rfl (hb hby at_17) rfl k) ?_
    exact J1 (p0 &&& (2147483647 : Int32)) (c_and _ _ (by decide)).1
  ·
    refine own_go (g' := (mkF m 6 #[.val (.int p0), .val (.int p1), .unset, .unset, .unset, .unset, .unset] [])) (fun _ k => XS.ifNo X0.here hx rfl (hb hby at_3) rfl ((if0 _ _).trans (feq hc17).1) k) ?_
    refine own_go (g' := (mkF m 7 #[.val (.int p0), .val (.int p1), .unset, .unset, .unset, .unset, .unset] [(.int p0)])) (fun _ k => XS.iloadN X0.here hx rfl (hb hby at_6) rfl k) ?_
    refine own_go (g' := (mkF m 10 #[.val (.int p0), .val (.int p1), .unset, .unset, .unset, .unset, .unset] [(.int (255 : Int32)), (.int p0)])) (fun _ k => XS.sipush X0.here hx rfl (hb hby at_7) k) ?_
    refine own_go (g' := (mkF m 11 #[.val (.int p0), .val (.int p1), .unset, .unset, .unset, .unset, .unset] [(.int (p0 &&& (255 : Int32)))])) (fun _ k => XS.iand X0.here hx rfl (hb hby at_10) rfl k) ?_
    refine own_go (g' := (mkF m 18 #[.val (.int p0), .val (.int p1), .unset, .unset, .unset, .unset, .unset] [(.int (p0 &&& (255 : Int32)))])) (fun _ k => XS.goto X0.here hx rfl (pc0 := 11) (pc' := 18) rfl (hb hby at_11) (by decide) (by decide) k) ?_
    exact J1 (p0 &&& (255 : Int32)) (c_and _ _ (by decide)).1
set_option maxRecDepth 65536 in
set_option maxHeartbeats 40000000 in
theorem comes_1 {Post : Tables → Env → Array Value → State → Outcome → State → Prop} (hpost : ∀ tb e args s v u, (limb_1_1.after args s (.returned v) u = true ∧ limb_1_2.after args s (.returned v) u = true ∧ True) → FrameEnd s (.returned v) u (Jvm.fieldLocs frame_1_writes args s ++ Jvm.arrayLocs frame_1_arrays args s ++ Jvm.staticLocs frame_1_statics s) 0 0 → Post tb e args s (.returned v) u) :
    ArmFor flags0 classFile x code maxLocals ret World_1 tables_1 room_1 Calls_1 rest_1 Pre_1 Post := by
  intro l hfl _ _ p e ha hc hk s m args below hf hA hF happ hP
  obtain ⟨hcalls, hrest, hpre⟩ := hP
  obtain ⟨-, -, -, hnamed, -, -, -, hat⟩ := (Spec.applies_iff hf).mp happ
  obtain ⟨hg, hn⟩ := and_e (Cond.before_iff.mp (show (Jvm.Cond.and given_1 narrow_1).before args s = true from hpre))
  obtain ⟨g1, g2⟩ := and_e hg
  obtain ⟨g3, g4⟩ := and_e g2
  obtain ⟨w0, w1, rfl⟩ : ∃ w0 w1 : Value, args = #[w0, w1] := by
    have hs : args.size = 2 := by simpa [Cond.value, given_1] using g1
    obtain ⟨L⟩ := args
    match L, hs with
    | [w0, w1], _ => exact ⟨w0, w1, rfl⟩
  have hw := fun d (hd : d ∈ tables_1) => atoms_spec (ws := Jvm.Cond.code x code maxLocals ret :: tables_1) hat d (List.mem_cons_of_mem _ hd)
  obtain ⟨i0, ei0⟩ := is_v g3
  obtain rfl : w0 = (.int i0) := Option.some.inj ei0
  obtain ⟨i1, ei1⟩ := is_v g4
  obtain rfl : w1 = (.int i1) := Option.some.inj ei1
  obtain ⟨n, o, h1, h2, h3, _, L, rfl, ⟨rfl, N⟩, hq⟩ := rm0 l s _ hw i0 i1 s.heap s.heap.size (Nat.le_refl _) p e ha hc hk s m _ below hf ((Spec.applies_iff_loose hf).mp happ).1 ⟨rfl, State.Warmed39.refl s, rfl⟩ trivial
  refine ⟨n, _, h1, h2, h3, hpost _ _ _ _ _ _ ⟨Cond.after_iff.mpr rfl, Cond.after_iff.mpr (eq_i res_at (Term.int_eval (1)) rfl), trivial⟩ ⟨hq.1, hq.2.1, (hq.2.2.sift fun y hy => Or.inr (N y hy)).mono (by decide) (by decide)⟩⟩
theorem main_1_1 : Claimed_1_1 := comes_1 fun _ _ _ _ _ _ h hF => ⟨h.1, hF⟩
theorem main_1_2 : Claimed_1_2 := comes_1 fun _ _ _ _ _ _ h hF => ⟨h.2.1, hF⟩
end Jvm.Pilot.@@N@@
namespace Jvm.Pilot.@@N@@
open Jvm Jvm.ClassFile Sem Op Lib Jvm.Free Jvm.Stand Jvm.Pilot.@@N@@.Jvm.D
/-! MADE BY PROGRAM (witnessworld.py) out of the Statement's table words and the real class files: 9 classes; the members and pool entries that the words name. The judged class is class 1, her method 1. -/
namespace start1
open Jvm.ClassFile
def u (s : String) : CpInfo := .utf8 (stringToUtf16 s)
/-- a pool by its gaps: so many unusable entries, then the entry; so many at the end -/
def gap : Nat → List CpInfo → List CpInfo
  | 0, r => r
  | n + 1, r => .unusable :: gap n r
def poolList (es : List (Nat × CpInfo)) (last : Nat) : List CpInfo := es.foldr (fun e r => gap e.1 (e.2 :: r)) (gap last [])
def pool (es : List (Nat × CpInfo)) (last : Nat) : Array CpInfo := ⟨poolList es last⟩
def fileOf (pool : Array CpInfo) (this : Nat) (attrs : Array Attribute := #[]) (ms : Array MethodInfo := #[]) (fl : Nat := 33) (sup : Nat := 0) (ifs : Array Nat := #[]) (fds : Array FieldInfo := #[]) : ClassFile where
  minorVersion := 0
  majorVersion := 65
  constantPool := pool
  accessFlags := fl
  thisClass := this
  superClass := sup
  interfaces := ifs
  fields := fds
  methods := ms
  attributes := attrs
def plain (name : String) (sup : Option ClassId) : Class where
  name := name
  kind := .ordinary
  loader := none
  accessFlags := 33
  super := sup
  interfaces := #[]
  cf := none
  fields := #[]
  methods := #[]
  instanceTypes := #[]
  staticTypes := #[]
  resolved := #[]
  callSites := []
  init := .initialized
  statics := none
  mirror := none

def pool0 : Array CpInfo := pool [(5, u "<init>"), (0, u "()V"), (1, .class_ 10), (1, u "java/lang/Object")] 113

def k0m0 : Method := { name := "<init>", desc := "()V", sig := { parameters := [], returnType := none }, accessFlags := 1, code := none }
/-- java/lang/Object -/
def k0 : Class := { plain "java/lang/Object" none with
  accessFlags := 33
  interfaces := #[]
  cf := some (fileOf pool0 8 #[] #[{ accessFlags := 1, nameIndex := 5, descriptorIndex := 6, attributes := #[] }] 33 0 #[] #[])
  fields := #[]
  methods := #[k0m0]
  instanceTypes := #[]
  staticTypes := #[]
  resolved := Array.replicate 124 none
  statics := none }

def pool1 : Array CpInfo := pool [(2, .class_ 4), (1, u "java/lang/Object"), (0, u "<init>"), (0, u "()V"), (0, .integer 2147483647), (0, .methodref 9 10), (0, .class_ 11), (0, .nameAndType 12 13), (0, u "com/example/restlint/restlint/report/ControlCharacters"), (0, u "isEscaped"), (0, u "(I)Z"), (0, .class_ 15), (0, u "com/example/restlint/restlint/report/ControlCharactersIsEscapedPinLaw"), (2, u "law"), (0, u "(II)Z")] 3

def k1m0 : Method := { name := "<init>", desc := "()V", sig := { parameters := [], returnType := none }, accessFlags := 2, code := none }
def k1c1 : Code := { maxStack := 2, maxLocals := 7, code := code, exceptionTable := #[], attributes := #[] }
def k1m1 : Method := { name := "law", desc := "(II)Z", sig := { parameters := [.int, .int], returnType := some .boolean }, accessFlags := 9, code := some k1c1 }
/-- com/example/restlint/restlint/report/ControlCharactersIsEscapedPinLaw -/
def k1 : Class := { plain "com/example/restlint/restlint/report/ControlCharactersIsEscapedPinLaw" (some 0) with
  accessFlags := 49
  interfaces := #[]
  cf := some (fileOf pool1 14 #[] #[{ accessFlags := 2, nameIndex := 5, descriptorIndex := 6, attributes := #[] }, { accessFlags := 9, nameIndex := 18, descriptorIndex := 19, attributes := #[] }] 49 2 #[] #[])
  fields := #[]
  methods := #[k1m0, k1m1]
  instanceTypes := #[]
  staticTypes := #[]
  resolved := Array.replicate 23 none
  statics := none }

def pool2 : Array CpInfo := pool [(2, .class_ 4), (1, u "java/lang/Object"), (0, u "<init>"), (0, u "()V"), (11, .class_ 20), (1, u "com/example/restlint/restlint/report/ControlCharacters"), (0, u "isEscaped"), (0, u "(I)Z"), (23, u "HEX_DIGITS"), (0, u "Ljava/lang/String;")] 8

def k2m0 : Method := { name := "<init>", desc := "()V", sig := { parameters := [], returnType := none }, accessFlags := 2, code := none }
def k2c1 : Code := { maxStack := 2, maxLocals := 1, code := prog_55_method_2_code, exceptionTable := #[], attributes := #[] }
def k2m1 : Method := { name := "isEscaped", desc := "(I)Z", sig := { parameters := [.int], returnType := some .boolean }, accessFlags := 8, code := some k2c1 }
/-- com/example/restlint/restlint/report/ControlCharacters -/
def k2 : Class := { plain "com/example/restlint/restlint/report/ControlCharacters" (some 0) with
  accessFlags := 49
  interfaces := #[]
  cf := some (fileOf pool2 18 #[] #[{ accessFlags := 2, nameIndex := 5, descriptorIndex := 6, attributes := #[] }, { accessFlags := 8, nameIndex := 21, descriptorIndex := 22, attributes := #[] }] 49 2 #[] #[{ accessFlags := 26, nameIndex := 46, descriptorIndex := 47, attributes := #[] }])
  fields := #[{ name := "HEX_DIGITS", type := (.object "java/lang/String"), accessFlags := 26, slot := 0, constantValue := 0 }]
  methods := #[k2m0, k2m1]
  instanceTypes := #[]
  staticTypes := #[(.object "java/lang/String")]
  resolved := Array.replicate 56 none
  statics := none }

def pool3 : Array CpInfo := pool [(1, u "java/lang/Cloneable"), (0, .class_ 1), (0, u "java/lang/Object"), (0, .class_ 3)] 3

/-- java/lang/Cloneable -/
def k3 : Class := { plain "java/lang/Cloneable" (some 0) with
  accessFlags := 1537
  interfaces := #[]
  cf := some (fileOf pool3 2 #[] #[] 1537 4 #[] #[])
  fields := #[]
  methods := #[]
  instanceTypes := #[]
  staticTypes := #[]
  resolved := Array.replicate 8 none
  statics := none }

def pool4 : Array CpInfo := pool [(1, u "java/io/Serializable"), (0, .class_ 1), (0, u "java/lang/Object"), (0, .class_ 3)] 3

/-- java/io/Serializable -/
def k4 : Class := { plain "java/io/Serializable" (some 0) with
  accessFlags := 1537
  interfaces := #[]
  cf := some (fileOf pool4 2 #[] #[] 1537 4 #[] #[])
  fields := #[]
  methods := #[]
  instanceTypes := #[]
  staticTypes := #[]
  resolved := Array.replicate 8 none
  statics := none }

/-- the primitive byte -/
def k5 : Class := { plain "byte" none with kind := .primitive 'B', accessFlags := 0x411 }
/-- [B -/
def k6 : Class := { plain "[B" (some 0) with kind := .array 5 .byte, interfaces := #[3, 4], accessFlags := 1041 }

/-- the primitive int -/
def k7 : Class := { plain "int" none with kind := .primitive 'I', accessFlags := 0x411 }
/-- [I -/
def k8 : Class := { plain "[I" (some 0) with kind := .array 7 .int, interfaces := #[3, 4], accessFlags := 1041 }

def heap : Heap := #[]
def classes : Array Class := #[k0, k1, k2, k3, k4, k5, k6, k7, k8]
def interned : List (Array UInt16 × Addr) := []
def slotsUsed : Nat := 0
def theMethod : MethodId := ⟨1, 1⟩
def args0 : Array Value := #[.int 5, .int 7]
def aboutOver (below : List Frame) : State where
  vm := { classes := classes, interned := interned.toArray }
  heap := heap
  slotsUsed := slotsUsed
  threads := #[{ frames := .invoking theMethod args0 :: below }]
def below0 : List Frame := [.native { method := ⟨0, 0⟩, args := #[] }]
def about1 : State := aboutOver below0
def p0 : Program := .bare "" "" ""
def e0 : Env := launch0.env 0 0 0
theorem w_frames : about1.frames = Frame.invoking theMethod args0 :: below0 := rfl
set_option maxRecDepth 65536 in
theorem w_args : argsFit about1.vm theMethod args0 = true := by decide +kernel
set_option maxRecDepth 65536 in
theorem w_heap : heapFits about1 = true := by decide +kernel
set_option maxRecDepth 65536 in
theorem w_runnable : about1.curStatus? = some .runnable := by decide +kernel
set_option maxRecDepth 65536 in
theorem w_alone : about1.alone = true := by decide +kernel
set_option maxRecDepth 65536 in
theorem w_named : about1.methodNamed? x = some theMethod := by decide +kernel
set_option maxRecDepth 65536 in
theorem w_hears : about1.hears theMethod below0 = true := by decide +kernel
set_option maxRecDepth 65536 in
theorem w_ripe : about1.ripe theMethod args0 below0 = true := by decide +kernel
theorem w_running : about1.status = .running := rfl
set_option maxRecDepth 65536 in
theorem w_room : about1.hasRoom e0.platform room_1 = true :=
  launch0.hasRoom_least _ room_1 (by decide +kernel) (by decide +kernel) (by decide +kernel) (by decide +kernel) (by decide +kernel) (by decide +kernel)
theorem allAtoms_all (ts : List Jvm.Cond) (a : Array Jvm.Value) (st : Jvm.State) : (allAtoms ts).before a st = ts.all (fun c => c.before a st) := by
  induction ts with
  | nil => rfl
  | cons c t ih =>
    show (Jvm.Cond.and c (allAtoms t)).before a st = _
    rw [Jvm.Cond.before_and, ih, List.all_cons]
def words1 : List Jvm.Cond := Jvm.Cond.code x code maxLocals ret :: tables_1
/-- a 'code' word, met by the world's own term for the bytes: nothing is compared byte by byte -/
theorem code_word {y : MethodName} {bytes : ByteArray} {mx : Nat} {rt : Option FieldType} {a : Array Value} {s : State} {m : MethodId} {meth : Method} {c : Code} (h1 : s.methodNamed? y = some m) (h2 : s.vm.method? m = some meth) (h3 : meth.code = some c) (h4 : c.code = bytes)
    (h5 : (c.maxLocals == mx && c.exceptionTable.isEmpty && decide (c.maxStack ≤ mostOperands) && decide (meth.sig.returnType = rt) && !meth.locks && decide (parseMethodDescriptor y.desc = some meth.sig)) = true) : (Jvm.Cond.code y bytes mx rt).before a s = true := by
  simp only [Bool.and_eq_true, beq_iff_eq, Bool.not_eq_true', decide_eq_true_eq] at h5
  obtain ⟨⟨⟨⟨⟨g1, g2⟩, g3⟩, g4⟩, g5⟩, g6⟩ := h5
  simp [Cond.before, Cond.holds, Cond.value, h1, h2, h3, h4, g1, g2, g3, g4, g5, g6]
def isCode : Jvm.Cond → Bool
  | .code _ _ _ _ => true
  | _ => false
theorem all_split {L : List Jvm.Cond} {P : Jvm.Cond → Bool} (h1 : L.all (fun c => isCode c || P c) = true) (h2 : ∀ c ∈ L.filter isCode, P c = true) : L.all P = true := by
  refine List.all_eq_true.mpr fun c hc => ?_
  have h := List.all_eq_true.mp h1 c hc
  rcases Bool.eq_false_or_eq_true (isCode c) with hi | hi
  · exact h2 c (List.mem_filter.mpr ⟨hc, hi⟩)
  · simpa [hi] using h
set_option maxRecDepth 65536 in
theorem w_c0 : (Jvm.Cond.code x code maxLocals ret).before args0 about1 = true := code_word (m := ⟨1, 1⟩) (meth := k1m1) (c := k1c1) (by decide +kernel) rfl rfl rfl (by decide +kernel)
set_option maxRecDepth 65536 in
theorem w_c1 : (Jvm.Cond.code ({ cls := "com/example/restlint/restlint/report/ControlCharacters", name := "isEscaped", desc := "(I)Z" } : Jvm.MethodName) prog_55_method_2_code (1 : Nat) (Option.some Jvm.ClassFile.FieldType.boolean)).before args0 about1 = true := code_word (m := ⟨2, 1⟩) (meth := k2m1) (c := k2c1) (by decide +kernel) rfl rfl rfl (by decide +kernel)
def codes1 : List Jvm.Cond := [Jvm.Cond.code x code maxLocals ret, Jvm.Cond.code ({ cls := "com/example/restlint/restlint/report/ControlCharacters", name := "isEscaped", desc := "(I)Z" } : Jvm.MethodName) prog_55_method_2_code (1 : Nat) (Option.some Jvm.ClassFile.FieldType.boolean)]
set_option maxRecDepth 65536 in
theorem codes_eq : words1.filter isCode = codes1 := rfl
theorem w_codes : ∀ c ∈ words1.filter isCode, c.before args0 about1 = true := by
  rw [codes_eq]
  intro c hc
  simp only [codes1, List.mem_cons, List.not_mem_nil, or_false] at hc
  rcases hc with rfl | rfl
  · exact w_c0
  · exact w_c1
set_option maxRecDepth 65536 in
theorem w_t1 : words1.all (fun c => isCode c || c.before args0 about1) = true := by decide +kernel
theorem w_tables : (allAtoms (Jvm.Cond.code x code maxLocals ret :: tables_1)).before args0 about1 = true := by
  rw [allAtoms_all]
  show words1.all (fun c => c.before args0 about1) = true
  refine all_split ?_ w_codes
  rw [w_t1]
set_option maxRecDepth 65536 in
theorem w_case : (Jvm.Cond.and given_1 narrow_1).before args0 about1 = true := by decide +kernel
theorem w_applies : (headSpec (Jvm.Cond.code x code maxLocals ret :: tables_1) room_1).applies x e0.platform about1 = true :=
  (Spec.applies_iff w_frames).mpr ⟨w_running, w_runnable, w_alone, w_named, w_hears, w_ripe, w_room, w_tables⟩
theorem atStart : AtStart classFile x code maxLocals ret World_1 tables_1 room_1 Calls_1 rest_1 Pre_1 launch0 p0 e0 about1 theMethod args0 below0 :=
  ⟨lists_1, trivial, launch0.admits_env _ _ _, launch0.least_env, fairChoices_fair.cas, fairChoices_fair.clock, w_frames, w_args, w_heap, w_applies, trivial, trivial, w_case⟩
end start1
theorem witness_1 : WitnessClaimed_1 := ⟨start1.p0, start1.e0, start1.about1, start1.theMethod, start1.args0, start1.below0, start1.atStart⟩
end Jvm.Pilot.@@N@@
