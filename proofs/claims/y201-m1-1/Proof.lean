import JvmDerived
import JvmDerived.Pilot.@@N@@Statement
import JvmDerived.Pilot.@@N@@Code
set_option linter.unusedVariables false
set_option linter.unusedSimpArgs false
namespace Jvm.Pilot.@@N@@
open Jvm Jvm.ClassFile Sem Op Lib Jvm.Free Jvm.Stand Jvm.LawKit Jvm.RoadKit Bundle Jvm.Pilot.@@N@@.Jvm.D
/-! ### how a walk is told: 'own_Go' says that from here the body comes to its end, and what holds there -/
section OwnKit
variable {p : Program} {l : Launch} {e : Env} {R : Room} {s : State} {m : MethodId} {args : Array Value} {below : List Frame} {meth : Method} {c : Code} {T T' : State} {locs : List Loc} {cells slots kc ks : Nat} {F : Option Value → State → Prop} {Q : Option Value → Heap → List Loc → Prop} {g g' : JFrame} {Z : State} {a0 : Array Value} {h0 : Heap}
def own_Go (p : Program) (e : Env) (below : List Frame) (F : Option Value → State → Prop) (T : State) (g : JFrame) : Prop :=
  ∃ U v, Steps p.tables e below (T.setTop g) U ∧ U.status = .running ∧ Ended U below (.returned v) ∧ F v U
def own_N (s : State) (kc ks : Nat) (Q : Option Value → Heap → List Loc → Prop) : Option Value → State → Prop := fun v U => ∃ L, Q v U.heap L ∧ FrameEnd s (.returned v) U L kc ks
def own_W (s : State) (kc ks : Nat) (Q : Option Value → Heap → List Loc → Prop) : Option Value → State → Prop := fun v U => ∃ L, Q v U.heap L ∧ ReturnedEndW s (.returned v) U L kc ks
theorem own_st (h : ∀ t, Steps p.tables e below (T'.setTop g') t → Steps p.tables e below (T.setTop g) t) (G : own_Go p e below F T' g') : own_Go p e below F T g := by
  obtain ⟨U, v, h1, r⟩ := G
  exact ⟨U, v, h _ h1, r⟩
theorem own_ret (X : Stand p l e R s m args below meth c T locs cells slots) (hx : p.tables.exec = Jvm.exec) (hlk : meth.locks = false) {pc : Nat} {Ls : Array Slot} {w : Value} {t : FieldType} {i : Instr} {rest : List Value} (hret : meth.sig.returnType = some t) (hn : narrow t w = w)
    (hi : (i = .ireturn ∧ (t = .int ∨ t = .boolean ∨ t = .byte ∨ t = .char ∨ t = .short) ∧ ∃ z, w = .int z) ∨ (i = .lreturn ∧ t = .long ∧ ∃ z, w = .long z) ∨ (i = .dreturn ∧ t = .double ∧ ∃ z, w = .double z) ∨ (i = .freturn ∧ t = .float ∧ ∃ z, w = .float z) ∨ (i = .areturn ∧ t.isReference = true ∧ w.isRef = true))
    (hd : decode c.code pc = .ok (i, 1)) (hc : cells ≤ kc) (hs : slots ≤ ks) (q : Q (some w) T.heap locs) : own_Go p e below (own_N s kc ks Q) T (mkF m pc Ls (w :: rest)) := by
  obtain ⟨fs, hr, hrun, hended, hW, hsame⟩ := X.leave (v := some w) (fun h => by rw [hret] at h; cases h) hlk
  exact ⟨_, _, retOut X hx hret hn hi hd hr, hrun, hended, _, q, ⟨_, rfl⟩, hW, hsame.mono hc hs⟩
theorem own_retV (X : Stand p l e R s m args below meth c T locs cells slots) (hx : p.tables.exec = Jvm.exec) (hlk : meth.locks = false) {pc : Nat} {Ls : Array Slot} (hret : meth.sig.returnType = none) (hd : decode c.code pc = .ok (.return_, 1)) (hc : cells ≤ kc) (hs : slots ≤ ks) (q : Q none T.heap locs) : own_Go p e below (own_N s kc ks Q) T (mkF m pc Ls []) := by
  obtain ⟨fs, hr, hrun, hended, hW, hsame⟩ := X.leave (v := none) (fun _ => rfl) hlk
  exact ⟨_, _, X.returnOut hx hret hd hr, hrun, hended, _, q, ⟨_, rfl⟩, hW, hsame.mono hc hs⟩
theorem own_he {h h' : Heap} {a : Addr} {c : Cell} (e : h' = h) (q : h[a]? = some c) : h'[a]? = some c := by rw [e]; exact q
theorem own_cat1 {w : Value} (h : w.isRef = true) : w.category = 1 := by
  rcases ref_cases h with rfl | ⟨a, rfl⟩ <;> rfl
/-- what a body does, begun at the heap h0 with these arguments -/
def own_Met (l : Launch) (Z : State) (h0 : Heap) (ws : List Jvm.Cond) (rm : Room) (y : MethodName) (bytes : ByteArray) (maxL : Nat) (ret : Option FieldType) (as' : Array Value) (Q : Option Value → Heap → List Loc → Prop) : Prop :=
  MetFree l y (head1 (Jvm.Cond.code y bytes maxL ret :: ws) rm) (fun a U => a = as' ∧ Z.Warmed39 U.vm ∧ U.heap = h0) (fun _ _ _ _ _ => True) (fun _ U o U' => ∃ v L, o = .returned v ∧ Q v U'.heap L ∧ FrameEnd U o U' L rm.cells rm.slots)
/-- it returns w and writes nothing -/
def own_Pure (l : Launch) (Z : State) (h0 : Heap) (ws : List Jvm.Cond) (rm : Room) (y : MethodName) (bytes : ByteArray) (maxL : Nat) (ret : Option FieldType) (as' : Array Value) (w : Option Value) : Prop :=
  own_Met l Z h0 ws rm y bytes maxL ret as' (fun v h L => v = w ∧ L = [] ∧ h = h0)
theorem own_body {ws : List Jvm.Cond} {rm : Room} {y : MethodName} {bytes : ByteArray} {maxL : Nat} {ret : Option FieldType} {as' : Array Value} (hpl : plainFor y = true)
    (H : ∀ (p : Program) (e : Env) (s : State) (m : MethodId) (below : List Frame) (meth : Method) (c : Code) (T : State), Stand p l e rm s m as' below meth c T [] 0 0 → p.tables.exec = Jvm.exec → c.code = bytes → c.maxLocals = maxL → s.vm.findClass y.cls = some m.cls → Z.Warmed39 s.vm → T.heap = h0 → meth.sig.returnType = ret → meth.locks = false → meth.name = y.name → s.methodNamed? y = some m →
      own_Go p e below (own_N s rm.cells rm.slots Q) T (entryFrame m as' maxL)) : own_Met l Z h0 ws rm y bytes maxL ret as' Q := by
  refine MetFree.of_bodySF hpl hisR ?_
  intro p e s m args below meth c s₁ Bd hml0 hP hK
  obtain ⟨rfl, hZ, hh⟩ := hP
  obtain ⟨U, v, h1, h2, h3, L, h4, h5⟩ := H p e s m below meth c s₁ (Stand.of_body Bd) Bd.exec Bd.bytes hml0 (findClass_of_methodNamed Bd.named) hZ (by rw [← hh, Bd.state]; rfl) Bd.returns Bd.notSynchronized (name_of_methodNamed Bd.named Bd.method).1 Bd.named
  exact ⟨U, _, h1, h2, h3, v, L, rfl, h4, h5⟩
theorem own_gS {rm : Room} {y : MethodName} {bytes : ByteArray} {maxL W index : Nat} {ret : Option FieldType} {own : String} {argsL rest : List Value} (X : Stand p l e R s m args below meth c T locs cells slots) (hx : p.tables.exec = Jvm.exec) (hZ : Z.Warmed39 s.vm) (hown : s.vm.findClass own = some m.cls)
    (w1 : (Jvm.Cond.methodLink own index y).before a0 Z = true) (w2 : (Jvm.Cond.static y).before a0 Z = true) (w3 : (Jvm.Cond.initialized y.cls).before a0 Z = true) (w4 : (Jvm.Cond.code y bytes maxL ret).before a0 Z = true) (hy : y.cls ≠ "java/lang/invoke/MethodHandle" ∧ y.cls ≠ "java/lang/invoke/VarHandle") (eT : T.heap = h0)
    (hM : own_Met l Z h0 [] rm y bytes maxL ret argsL.toArray Q) (hf : rm.frames + 1 ≤ R.frames) (hl : W + (maxL + 11) + rm.locals ≤ R.locals) (hc1 : cells + rm.cells ≤ R.cells) (hs1 : slots + rm.slots ≤ R.slots)
    (hg : g.method = m) (hsize : g.locals.size = c.maxLocals) (hlen : ∀ sig, parseMethodDescriptor y.desc = some sig → argsL.length = sig.parameters.length) (hstack : g.stack = argsL.reverse ++ rest) (hW : 2 * g.monitorRoom + (rest.map fun v => v.category).sum ≤ W) (hdg : decode c.code g.pc = .ok (.invokestatic index, 3)) :
    ∃ (v : Option Value) (T' : State) (L : List Loc), Stand p l e R s m args below meth c T' (locs ++ L) (cells + rm.cells) (slots + rm.slots) ∧ Q v T'.heap L ∧ ∀ target, Steps p.tables e below (T'.setTop { g with pc := g.pc + 3, stack := v.toList ++ rest }) target → Steps p.tables e below (T.setTop g) target := by
  obtain ⟨v, _, ⟨T1, L1, k1, n1⟩, -, X1, ⟨Lc, hq, l1, y1, z1⟩, st⟩ := Jvm.LawKit.callS X hx (y := y) hown (mvT hZ w1) (mvT hZ w2) (mvT hZ w3) (mvT hZ w4) hy (backOf (W := W) (Q := Q) hM hZ w4 w3 hf hl) (g := g) hg hsize (argsL := argsL) (rest := rest) hlen hstack hW hdg (fun _ _ => ⟨rfl, eT, hc1, hs1⟩)
  dsimp only [Pt.U, Pt.locs, Pt.cells, Pt.slots] at X1 l1 y1 z1 st hq
  subst l1 y1 z1
  exact ⟨v, T1, Lc, X1, hq, st⟩
theorem own_gV {rm : Room} {y z : MethodName} {bytes : ByteArray} {maxL W index : Nat} {ret : Option FieldType} {own C : String} {argsL rest : List Value} {b : Addr} (X : Stand p l e R s m args below meth c T locs cells slots) (hx : p.tables.exec = Jvm.exec) (hZ : Z.Warmed39 s.vm) (hown : s.vm.findClass own = some m.cls)
    (w1 : (Jvm.Cond.methodLink own index y).before a0 Z = true) (w2 : (Jvm.Cond.declares y).before a0 Z = true) (hnf : NotFace s y) (w5 : (Jvm.Cond.selects C y z).before a0 Z = true) (w6 : (Jvm.Cond.instanceMethod z).before a0 Z = true) (w3 : (Jvm.Cond.initialized z.cls).before a0 Z = true) (w4 : (Jvm.Cond.code z bytes maxL ret).before a0 Z = true) (hy : y.cls ≠ "java/lang/invoke/MethodHandle" ∧ y.cls ≠ "java/lang/invoke/VarHandle") (eT : T.heap = h0) (E : Exa Z h0 b C)
    (hM : own_Met l Z h0 [] rm z bytes maxL ret (.ref b :: argsL).toArray Q) (hf : rm.frames + 1 ≤ R.frames) (hl : W + (maxL + 11) + rm.locals ≤ R.locals) (hc1 : cells + rm.cells ≤ R.cells) (hs1 : slots + rm.slots ≤ R.slots)
    (hg : g.method = m) (hsize : g.locals.size = c.maxLocals) (hlen : ∀ sig, parseMethodDescriptor y.desc = some sig → argsL.length = sig.parameters.length) (hstack : g.stack = argsL.reverse ++ .ref b :: rest) (hW : 2 * g.monitorRoom + (rest.map fun v => v.category).sum ≤ W) (hdg : decode c.code g.pc = .ok (.invokevirtual index, 3)) :
    ∃ (v : Option Value) (T' : State) (L : List Loc), Stand p l e R s m args below meth c T' (locs ++ L) (cells + rm.cells) (slots + rm.slots) ∧ Q v T'.heap L ∧ ∀ target, Steps p.tables e below (T'.setTop { g with pc := g.pc + 3, stack := v.toList ++ rest }) target → Steps p.tables e below (T.setTop g) target := by
  obtain ⟨cq, kq, qa, qb, qc⟩ := isOf hZ eT E
  obtain ⟨v, _, ⟨T1, L1, k1, n1⟩, -, X1, ⟨Lc, hq, l1, y1, z1⟩, st⟩ := X.virtualBack hx (y := y) (z := z) hown (mvT hZ w1) (mvT hZ w2) hnf (mvT hZ w5) (mvT hZ w6) hy (backOf (W := W) (Q := Q) hM hZ w4 w3 hf hl) qa qc (g := g) hg hsize (Steps.refl _) (argsL := argsL) (rest := rest) hlen hstack hW hdg (fun _ _ => ⟨rfl, eT, hc1, hs1⟩)
  dsimp only [Pt.U, Pt.locs, Pt.cells, Pt.slots] at X1 l1 y1 z1 st hq
  subst l1 y1 z1
  exact ⟨v, T1, Lc, X1, hq, fun _ k => st.trans k⟩
theorem own_gVU {rm : Room} {y z : MethodName} {owner : String} {bytes : ByteArray} {maxL W index : Nat} {ret : Option FieldType} {own C : String} {argsL rest : List Value} {b : Addr} (X : Stand p l e R s m args below meth c T locs cells slots) (hx : p.tables.exec = Jvm.exec) (hZ : Z.Warmed39 s.vm) (hown : s.vm.findClass own = some m.cls)
    (w1 : (Jvm.Cond.methodLink own index y).before a0 Z = true) (wsm : (Jvm.Cond.sameMethod y.cls owner y.name y.desc).before a0 Z = true) (w2 : (Jvm.Cond.declares ⟨owner, y.name, y.desc⟩).before a0 Z = true) (ho : owner ≠ "java/lang/invoke/MethodHandle" ∧ owner ≠ "java/lang/invoke/VarHandle") (w5 : (Jvm.Cond.selects C y z).before a0 Z = true) (w6 : (Jvm.Cond.instanceMethod z).before a0 Z = true) (w3 : (Jvm.Cond.initialized z.cls).before a0 Z = true) (w4 : (Jvm.Cond.code z bytes maxL ret).before a0 Z = true) (eT : T.heap = h0) (E : Exa Z h0 b C)
    (hM : own_Met l Z h0 [] rm z bytes maxL ret (.ref b :: argsL).toArray Q) (hf : rm.frames + 1 ≤ R.frames) (hl : W + (maxL + 11) + rm.locals ≤ R.locals) (hc1 : cells + rm.cells ≤ R.cells) (hs1 : slots + rm.slots ≤ R.slots)
    (hg : g.method = m) (hsize : g.locals.size = c.maxLocals) (hlen : ∀ sig, parseMethodDescriptor y.desc = some sig → argsL.length = sig.parameters.length) (hstack : g.stack = argsL.reverse ++ .ref b :: rest) (hW : 2 * g.monitorRoom + (rest.map fun v => v.category).sum ≤ W) (hdg : decode c.code g.pc = .ok (.invokevirtual index, 3)) :
    ∃ (v : Option Value) (T' : State) (L : List Loc), Stand p l e R s m args below meth c T' (locs ++ L) (cells + rm.cells) (slots + rm.slots) ∧ Q v T'.heap L ∧ ∀ target, Steps p.tables e below (T'.setTop { g with pc := g.pc + 3, stack := v.toList ++ rest }) target → Steps p.tables e below (T.setTop g) target := by
  obtain ⟨cq, kq, qa, qb, qc⟩ := isOf hZ eT E
  obtain ⟨v, _, ⟨T1, L1, k1, n1⟩, -, X1, ⟨Lc, hq, l1, y1, z1⟩, st⟩ := X.virtualBackUp hx (x := y) (y := z) (owner := owner) hown (mvT hZ w1) (mvT hZ wsm) (mvT hZ w2) ho (mvT hZ w5) (mvT hZ w6) (backOf (W := W) (Q := Q) hM hZ w4 w3 hf hl) qa qc (g := g) hg hsize (Steps.refl _) (argsL := argsL) (rest := rest) hlen hstack hW hdg (fun _ _ => ⟨rfl, eT, hc1, hs1⟩)
  dsimp only [Pt.U, Pt.locs, Pt.cells, Pt.slots] at X1 l1 y1 z1 st hq
  subst l1 y1 z1
  exact ⟨v, T1, Lc, X1, hq, fun _ k => st.trans k⟩
/-- behind a call that writes nothing -/
theorem own_pure {w : Value} {rm : Room} {rest : List Value} (hc0 : rm.cells = 0) (hs0 : rm.slots = 0)
    (H : ∃ (v : Option Value) (T' : State) (L : List Loc), Stand p l e R s m args below meth c T' (locs ++ L) (cells + rm.cells) (slots + rm.slots) ∧ (v = some w ∧ L = [] ∧ T'.heap = h0) ∧ ∀ target, Steps p.tables e below (T'.setTop { g with pc := g.pc + 3, stack := v.toList ++ rest }) target → Steps p.tables e below (T.setTop g) target) :
    ∃ T', Stand p l e R s m args below meth c T' locs cells slots ∧ T'.heap = h0 ∧ ∀ target, Steps p.tables e below (T'.setTop { g with pc := g.pc + 3, stack := w :: rest }) target → Steps p.tables e below (T.setTop g) target := by
  obtain ⟨_, T', _, X', ⟨rfl, rfl, hh⟩, st⟩ := H
  rw [hc0, hs0, List.append_nil] at X'
  exact ⟨T', X', hh, st⟩
/-- what the case says of statics and fields, as facts of the start -/
theorem own_sx {C n d K : String} (h : (Jvm.Cond.exactly (Term.static C n d) K).value args s none s [] = some true) (wi : (Jvm.Cond.initialized C).before args s = true) (wl : (Jvm.Cond.laysStatic C n d).before args s = true) :
    ∃ a, (Term.static C n d).eval args s none [] s = some (.ref a) ∧ Exa s s.heap a K ∧ Sta s s.heap C n d (.ref a) := by
  obtain ⟨a, ev⟩ := exa_v h
  exact ⟨a, ev, Exa.start ev h, Sta.start ev (Or.inr ⟨wi, wl⟩)⟩
theorem own_fi {t : Term} {a : Addr} {C n d : String} {k : Int32} (ev : t.eval args s none [] s = some (.ref a)) (h : (Jvm.Cond.eq (Term.field t C n d) (Term.int k)).value args s none s [] = some true) : Fld s s.heap a C n d (.int k) := by
  have q := eqv_i (Term.int_eval k) h
  rw [fld_at ev] at q
  exact Fld.start q
theorem own_fn {t : Term} {a : Addr} {C n d : String} (ev : t.eval args s none [] s = some (.ref a)) (h : (Jvm.Cond.eq (Term.field t C n d) Term.null).value args s none s [] = some true) : Fld s s.heap a C n d .null := by
  have q := null_v h
  rw [fld_at ev] at q
  exact Fld.start q
theorem own_fx {t : Term} {a : Addr} {C n d K : String} (ev : t.eval args s none [] s = some (.ref a)) (h : (Jvm.Cond.exactly (Term.field t C n d) K).value args s none s [] = some true) : ∃ b, Fld s s.heap a C n d (.ref b) ∧ Exa s s.heap b K := by
  obtain ⟨b, q⟩ := exa_v h
  have E := Exa.start q h
  rw [fld_at ev] at q
  exact ⟨b, Fld.start q, E⟩
theorem own_eqr {t u : Term} {b : Addr} (eu : u.eval args s none [] s = some (.ref b)) (h : (Jvm.Cond.eq t u).value args s none s [] = some true) : t.eval args s none [] s = some (.ref b) := by
  obtain ⟨x, y, h1, h2, -⟩ := cmp_v (Or.inl h)
  rw [eu] at h2
  cases h2
  simp only [Cond.value, h1, eu] at h
  cases x <;> simp_all
theorem own_fs {t u : Term} {a b : Addr} {C n d : String} (ev : t.eval args s none [] s = some (.ref a)) (eu : u.eval args s none [] s = some (.ref b)) (h : (Jvm.Cond.eq (Term.field t C n d) u).value args s none s [] = some true) : Fld s s.heap a C n d (.ref b) := by
  have q := own_eqr eu h
  rw [fld_at ev] at q
  exact Fld.start q
theorem own_ax {C n d : String} {ty : FieldType} (h : (Jvm.Cond.arrayOf (Term.static C n d) ty).value args s none s [] = some true) (wi : (Jvm.Cond.initialized C).before args s = true) (wl : (Jvm.Cond.laysStatic C n d).before args s = true) :
    ∃ b cl, (Term.static C n d).eval args s none [] s = some (.ref b) ∧ Arr s s.heap b cl ty ∧ Sta s s.heap C n d (.ref b) := by
  obtain ⟨b, ev⟩ := arr_v h
  obtain ⟨cl, A⟩ := Arr.start ev h
  exact ⟨b, cl, ev, A, Sta.start ev (Or.inr ⟨wi, wl⟩)⟩
theorem own_len {t : Term} {b : Addr} {cl : Cell} {ty : FieldType} {k : Int32} (ev : t.eval args s none [] s = some (.ref b)) (A : Arr s s.heap b cl ty) (h : (Jvm.Cond.eq (Term.length t) (Term.int k)).value args s none s [] = some true) : cl.slots.size = k.toNatClampNeg := by
  have q := eqv_i (Term.int_eval k) h
  have ha : s.arrayAt? b = some cl := A.fin (Vm.Alike.refl _)
  by_cases hl : cl.slots.size < 2 ^ 31
  · rw [len_f ev ha hl] at q
    have e : cl.slots.size.toInt32 = k := Value.int.inj (Option.some.inj q)
    have e1 := len_toInt hl
    rw [← e]
    simp only [Int32.toNatClampNeg, e1]
    rfl
  · simp [Term.eval, ev, ha, hl] at q
theorem own_elr {t u : Term} {b x : Addr} {cl : Cell} {ty : FieldType} {k : Int32} (ev : t.eval args s none [] s = some (.ref b)) (A : Arr s s.heap b cl ty) (eu : u.eval args s none [] s = some (.ref x)) (h : (Jvm.Cond.eq (Term.elem t (Term.int k)) u).value args s none s [] = some true) : cl.slots[k.toNatClampNeg]? = some (.ref x) :=
  (elem_in (own_eqr eu h) ev (Term.int_eval k) A.1).2
theorem own_eln {t : Term} {b : Addr} {cl : Cell} {ty : FieldType} {k : Int32} (ev : t.eval args s none [] s = some (.ref b)) (A : Arr s s.heap b cl ty) (h : (Jvm.Cond.eq (Term.elem t (Term.int k)) Term.null).value args s none s [] = some true) : cl.slots[k.toNatClampNeg]? = some .null :=
  (elem_in (null_v h) ev (Term.int_eval k) A.1).2
theorem own_eli {t : Term} {b : Addr} {cl : Cell} {ty : FieldType} {k v : Int32} (ev : t.eval args s none [] s = some (.ref b)) (A : Arr s s.heap b cl ty) (h : (Jvm.Cond.eq (Term.elem t (Term.int k)) (Term.int v)).value args s none s [] = some true) : cl.slots[k.toNatClampNeg]? = some (.int v) :=
  (elem_in (eqv_i (Term.int_eval v) h) ev (Term.int_eval k) A.1).2
theorem own_args1 {k : Nat} (h : (Jvm.Cond.and (Jvm.Cond.count 1) (Jvm.Cond.isInt (Term.arg 0))).value args s none s [] = some true) : ∃ a : Int32, args = #[.int a] := by
  obtain ⟨h1, h2⟩ := and_e h
  have hs : args.size = 1 := by simpa [Cond.value] using h1
  obtain ⟨L⟩ := args
  match L, hs with
  | [w0], _ =>
    obtain ⟨i, e0⟩ := is_v h2
    obtain rfl : w0 = (.int i) := Option.some.inj e0
    exact ⟨i, rfl⟩
theorem own_args2 {k : Nat} (h : (Jvm.Cond.and (Jvm.Cond.count 2) (Jvm.Cond.and (Jvm.Cond.isInt (Term.arg 0)) (Jvm.Cond.isInt (Term.arg 1)))).value args s none s [] = some true) : ∃ a b : Int32, args = #[.int a, .int b] := by
  obtain ⟨h1, h2⟩ := and_e h
  obtain ⟨h2, h3⟩ := and_e h2
  have hs : args.size = 2 := by simpa [Cond.value] using h1
  obtain ⟨L⟩ := args
  match L, hs with
  | [w0, w1], _ =>
    obtain ⟨i, e0⟩ := is_v h2
    obtain ⟨j, e1⟩ := is_v h3
    obtain rfl : w0 = (.int i) := Option.some.inj e0
    obtain rfl : w1 = (.int j) := Option.some.inj e1
    exact ⟨i, j, rfl⟩
theorem own_weaken {ws : List Jvm.Cond} {rm : Room} {y : MethodName} {bytes : ByteArray} {maxL : Nat} {ret : Option FieldType} {as' : Array Value} {w : Value} {n0 : Nat} (M : own_Pure l Z h0 ws rm y bytes maxL ret as' (some w)) : own_Met l Z h0 ws rm y bytes maxL ret as' (fun v h L => v = some w ∧ Fr n0 L) := by
  intro p e ha hc hk s m args below hf happ hP hK
  obtain ⟨n, o, h1, h2, h3, v, L, h4, ⟨h5, h6, h7⟩, h8⟩ := M p e ha hc hk s m args below hf happ hP hK
  exact ⟨n, o, h1, h2, h3, v, L, h4, ⟨h5, by rw [h6]; exact Fr.nil n0⟩, h8⟩
end OwnKit
section OwnWide
variable {p : Program} {l : Launch} {e : Env} {R : Room} {s : State} {m : MethodId} {args : Array Value} {below : List Frame} {meth : Method} {c : Code} {T T' : State} {locs : List Loc} {cells slots kc ks k0 : Nat} {F : Option Value → State → Prop} {Q : Option Value → Heap → List Loc → Prop} {g g' : JFrame} {Z : State} {a0 : Array Value} {h0 : Heap} {vm0 : Vm}
theorem own_retW (X : Stand p l e R (s.setVm vm0) m args below meth c T locs cells slots) (hx : p.tables.exec = Jvm.exec) (hlk : meth.locks = false) (hS : s.Since vm0 k0) (hk : k0 ≤ T.heap.size) {pc : Nat} {Ls : Array Slot} {w : Value} {t : FieldType} {i : Instr} {rest : List Value} (hret : meth.sig.returnType = some t) (hn : narrow t w = w)
    (hi : (i = .ireturn ∧ (t = .int ∨ t = .boolean ∨ t = .byte ∨ t = .char ∨ t = .short) ∧ ∃ z, w = .int z) ∨ (i = .lreturn ∧ t = .long ∧ ∃ z, w = .long z) ∨ (i = .dreturn ∧ t = .double ∧ ∃ z, w = .double z) ∨ (i = .freturn ∧ t = .float ∧ ∃ z, w = .float z) ∨ (i = .areturn ∧ t.isReference = true ∧ w.isRef = true))
    (hd : decode c.code pc = .ok (i, 1)) (hc : cells ≤ kc) (hs : slots ≤ ks) (q : Q (some w) T.heap locs) : own_Go p e below (own_W s kc ks Q) T (mkF m pc Ls (w :: rest)) := by
  obtain ⟨fs, hr, hrun, hended, h1, h2, h3, h4⟩ := X.leaveW hS hk (v := some w) (fun h => by rw [hret] at h; cases h) hlk
  exact ⟨_, _, retOut X hx hret hn hi hd hr, hrun, hended, _, q, h1, h2, h3, h4.mono hc hs⟩
theorem own_retVW (X : Stand p l e R (s.setVm vm0) m args below meth c T locs cells slots) (hx : p.tables.exec = Jvm.exec) (hlk : meth.locks = false) (hS : s.Since vm0 k0) (hk : k0 ≤ T.heap.size) {pc : Nat} {Ls : Array Slot} (hret : meth.sig.returnType = none) (hd : decode c.code pc = .ok (.return_, 1)) (hc : cells ≤ kc) (hs : slots ≤ ks) (q : Q none T.heap locs) : own_Go p e below (own_W s kc ks Q) T (mkF m pc Ls []) := by
  obtain ⟨fs, hr, hrun, hended, h1, h2, h3, h4⟩ := X.leaveW hS hk (v := none) (fun _ => rfl) hlk
  exact ⟨_, _, X.returnOut hx hret hd hr, hrun, hended, _, q, h1, h2, h3, h4.mono hc hs⟩
def own_MetW (l : Launch) (Z : State) (h0 : Heap) (ws : List Jvm.Cond) (rm : Room) (y : MethodName) (bytes : ByteArray) (maxL : Nat) (ret : Option FieldType) (as' : Array Value) (Q : Option Value → Heap → List Loc → Prop) : Prop :=
  MetFree l y (head1 (Jvm.Cond.code y bytes maxL ret :: ws) rm) (fun a U => a = as' ∧ Z.Warmed39 U.vm ∧ U.heap = h0) (fun _ _ _ _ _ => True) (fun _ U o U' => ∃ v L, o = .returned v ∧ Q v U'.heap L ∧ ReturnedEndW U o U' L rm.cells rm.slots)
theorem own_bodyW {ws : List Jvm.Cond} {rm : Room} {y : MethodName} {bytes : ByteArray} {maxL : Nat} {ret : Option FieldType} {as' : Array Value} (hpl : plainFor y = true)
    (H : ∀ (p : Program) (e : Env) (s : State) (m : MethodId) (below : List Frame) (meth : Method) (c : Code) (T : State) (vm0 : Vm) (k0 : Nat), Stand p l e rm (s.setVm vm0) m as' below meth c T [] 0 0 → s.Since vm0 k0 → k0 ≤ h0.size → p.tables.exec = Jvm.exec → c.code = bytes → c.maxLocals = maxL → (s.setVm vm0).vm.findClass y.cls = some m.cls → Z.Warmed39 (s.setVm vm0).vm → T.heap = h0 → meth.sig.returnType = ret → meth.locks = false → meth.name = y.name → s.methodNamed? y = some m →
      own_Go p e below (own_W s rm.cells rm.slots Q) T (entryFrame m as' maxL)) : own_MetW l Z h0 ws rm y bytes maxL ret as' Q := by
  refine MetFree.of_bodySF hpl hisR ?_
  intro p e s m args below meth c s₁ Bd hml0 hP hK
  obtain ⟨rfl, hZ, hh⟩ := hP
  obtain ⟨U, v, h1, h2, h3, L, h4, h5⟩ := H p e s m below meth c s₁ s.vm 0 (Stand.of_body Bd) ((State.WarmedH.refl s).since 0) (Nat.zero_le _) Bd.exec Bd.bytes hml0 (findClass_of_methodNamed Bd.named) hZ (by rw [← hh, Bd.state]; rfl) Bd.returns Bd.notSynchronized (name_of_methodNamed Bd.named Bd.method).1 Bd.named
  exact ⟨U, _, h1, h2, h3, v, L, rfl, h4, h5⟩
theorem own_gSW {rm : Room} {y : MethodName} {bytes : ByteArray} {maxL W index : Nat} {ret : Option FieldType} {own : String} {argsL rest : List Value} (X : Stand p l e R (s.setVm vm0) m args below meth c T locs cells slots) (hS : s.Since vm0 k0) (hk : k0 ≤ h0.size) (hx : p.tables.exec = Jvm.exec) (hZ : Z.Warmed39 (s.setVm vm0).vm) (hown : (s.setVm vm0).vm.findClass own = some m.cls)
    (w1 : (Jvm.Cond.methodLink own index y).before a0 Z = true) (w2 : (Jvm.Cond.static y).before a0 Z = true) (w3 : (Jvm.Cond.initialized y.cls).before a0 Z = true) (w4 : (Jvm.Cond.code y bytes maxL ret).before a0 Z = true) (hy : y.cls ≠ "java/lang/invoke/MethodHandle" ∧ y.cls ≠ "java/lang/invoke/VarHandle") (eT : T.heap = h0)
    (hM : own_MetW l Z h0 [] rm y bytes maxL ret argsL.toArray Q) (hf : rm.frames + 1 ≤ R.frames) (hl : W + (maxL + 11) + rm.locals ≤ R.locals) (hc1 : cells + rm.cells ≤ R.cells) (hs1 : slots + rm.slots ≤ R.slots)
    (hg : g.method = m) (hsize : g.locals.size = c.maxLocals) (hlen : ∀ sig, parseMethodDescriptor y.desc = some sig → argsL.length = sig.parameters.length) (hstack : g.stack = argsL.reverse ++ rest) (hW : 2 * g.monitorRoom + (rest.map fun v => v.category).sum ≤ W) (hdg : decode c.code g.pc = .ok (.invokestatic index, 3)) :
    ∃ (v : Option Value) (T' : State) (L : List Loc) (k1 : Nat), Stand p l e R (s.setVm T'.vm) m args below meth c T' (locs ++ L) (cells + rm.cells) (slots + rm.slots) ∧ Q v T'.heap L ∧ s.Since T'.vm k1 ∧ k1 ≤ T'.heap.size ∧ Z.Warmed39 (s.setVm T'.vm).vm ∧ (s.setVm T'.vm).vm.findClass own = some m.cls ∧
      ∀ target, Steps p.tables e below (T'.setTop { g with pc := g.pc + 3, stack := v.toList ++ rest }) target → Steps p.tables e below (T.setTop g) target := by
  obtain ⟨v, _, ⟨T1, L1, n1, n2⟩, -, X1, hS1, hgr, ⟨Lc, hq, l1, y1, z1⟩, st⟩ := callSS X hx (y := y) hown (mvT hZ w1) (mvT hZ w2) (mvT hZ w3) (mvT hZ w4) hy (backOfS (W := W) (Q := Q) hM hZ w4 w3 hf hl) (g := g) hg hsize (argsL := argsL) (rest := rest) hlen hstack hW hdg (fun _ _ => ⟨rfl, eT, hc1, hs1⟩)
  dsimp only [Pt.U, Pt.locs, Pt.cells, Pt.slots] at X1 l1 y1 z1 st hq hS1 hgr
  subst l1 y1 z1
  exact ⟨v, T1, Lc, T1.heap.size, X1, hq, hS.trans hS1 (Nat.le_trans hk (by rw [← eT]; exact hgr)), Nat.le_refl _, State.Warmed39.trans (t := s.setVm vm0) hZ hS1.1, by rw [show (s.setVm T1.vm).vm = T1.vm from rfl, hS1.1.alike.findClass]; exact hown, fun _ k => st.trans k⟩
theorem own_gI {rm : Room} {y : MethodName} {bytes : ByteArray} {maxL W index : Nat} {own : String} {argsL rest : List Value} {b : Addr} (X : Stand p l e R s m args below meth c T locs cells slots) (hx : p.tables.exec = Jvm.exec) (hZ : Z.Warmed39 s.vm) (hy1 : y.name = "<init>") (hown : s.vm.findClass own = some m.cls)
    (w1 : (Jvm.Cond.methodLink own index y).before a0 Z = true) (w2 : (Jvm.Cond.instanceMethod y).before a0 Z = true) (w3 : (Jvm.Cond.initialized y.cls).before a0 Z = true) (w4 : (Jvm.Cond.code y bytes maxL none).before a0 Z = true) (hy : y.cls ≠ "java/lang/invoke/MethodHandle" ∧ y.cls ≠ "java/lang/invoke/VarHandle") (eT : T.heap = h0)
    (hM : own_Met l Z h0 [] rm y bytes maxL none (.ref b :: argsL).toArray Q) (hf : rm.frames + 1 ≤ R.frames) (hl : W + (maxL + 11) + rm.locals ≤ R.locals) (hc1 : cells + rm.cells ≤ R.cells) (hs1 : slots + rm.slots ≤ R.slots)
    (hg : g.method = m) (hsize : g.locals.size = c.maxLocals) (hlen : ∀ sig, parseMethodDescriptor y.desc = some sig → argsL.length = sig.parameters.length) (hstack : g.stack = argsL.reverse ++ .ref b :: rest) (hW : 2 * g.monitorRoom + (rest.map fun v => v.category).sum ≤ W) (hdg : decode c.code g.pc = .ok (.invokespecial index, 3)) :
    ∃ (v : Option Value) (T' : State) (L : List Loc), Stand p l e R s m args below meth c T' (locs ++ L) (cells + rm.cells) (slots + rm.slots) ∧ Q v T'.heap L ∧ ∀ target, Steps p.tables e below (T'.setTop { g with pc := g.pc + 3, stack := v.toList ++ rest }) target → Steps p.tables e below (T.setTop g) target := by
  obtain ⟨v, _, ⟨T1, L1, k1, n1⟩, -, X1, ⟨Lc, hq, l1, y1, z1⟩, st⟩ := X.specialBack hx (y := y) hy1 hown (mvT hZ w1) (mvT hZ w2) (mvT hZ w4) hy (backOf (W := W) (Q := Q) hM hZ w4 w3 hf hl) (g := g) hg hsize (Steps.refl _) (a := b) (argsL := argsL) (rest := rest) hlen hstack hW hdg (fun _ _ => ⟨rfl, eT, hc1, hs1⟩)
  dsimp only [Pt.U, Pt.locs, Pt.cells, Pt.slots] at X1 l1 y1 z1 st hq
  subst l1 y1 z1
  exact ⟨v, T1, Lc, X1, hq, fun _ k => st.trans k⟩
theorem own_gIW {rm : Room} {y : MethodName} {bytes : ByteArray} {maxL W index : Nat} {own : String} {argsL rest : List Value} {b : Addr} (X : Stand p l e R (s.setVm vm0) m args below meth c T locs cells slots) (hS : s.Since vm0 k0) (hk : k0 ≤ h0.size) (hx : p.tables.exec = Jvm.exec) (hZ : Z.Warmed39 (s.setVm vm0).vm) (hy1 : y.name = "<init>") (hown : (s.setVm vm0).vm.findClass own = some m.cls)
    (w1 : (Jvm.Cond.methodLink own index y).before a0 Z = true) (w2 : (Jvm.Cond.instanceMethod y).before a0 Z = true) (w3 : (Jvm.Cond.initialized y.cls).before a0 Z = true) (w4 : (Jvm.Cond.code y bytes maxL none).before a0 Z = true) (hy : y.cls ≠ "java/lang/invoke/MethodHandle" ∧ y.cls ≠ "java/lang/invoke/VarHandle") (eT : T.heap = h0)
    (hM : own_MetW l Z h0 [] rm y bytes maxL none (.ref b :: argsL).toArray Q) (hf : rm.frames + 1 ≤ R.frames) (hl : W + (maxL + 11) + rm.locals ≤ R.locals) (hc1 : cells + rm.cells ≤ R.cells) (hs1 : slots + rm.slots ≤ R.slots)
    (hg : g.method = m) (hsize : g.locals.size = c.maxLocals) (hlen : ∀ sig, parseMethodDescriptor y.desc = some sig → argsL.length = sig.parameters.length) (hstack : g.stack = argsL.reverse ++ .ref b :: rest) (hW : 2 * g.monitorRoom + (rest.map fun v => v.category).sum ≤ W) (hdg : decode c.code g.pc = .ok (.invokespecial index, 3)) :
    ∃ (v : Option Value) (T' : State) (L : List Loc) (k1 : Nat), Stand p l e R (s.setVm T'.vm) m args below meth c T' (locs ++ L) (cells + rm.cells) (slots + rm.slots) ∧ Q v T'.heap L ∧ s.Since T'.vm k1 ∧ k1 ≤ T'.heap.size ∧ Z.Warmed39 (s.setVm T'.vm).vm ∧ (s.setVm T'.vm).vm.findClass own = some m.cls ∧
      ∀ target, Steps p.tables e below (T'.setTop { g with pc := g.pc + 3, stack := v.toList ++ rest }) target → Steps p.tables e below (T.setTop g) target := by
  obtain ⟨v, _, ⟨T1, L1, n1, n2⟩, -, X1, hS1, hgr, ⟨Lc, hq, l1, y1, z1⟩, st⟩ := X.specialBackS hx (y := y) hy1 hown (mvT hZ w1) (mvT hZ w2) (mvT hZ w4) hy (backOfS (W := W) (Q := Q) hM hZ w4 w3 hf hl) (g := g) hg hsize (Steps.refl _) (a := b) (argsL := argsL) (rest := rest) hlen hstack hW hdg (fun _ _ => ⟨rfl, eT, hc1, hs1⟩)
  dsimp only [Pt.U, Pt.locs, Pt.cells, Pt.slots] at X1 l1 y1 z1 st hq hS1 hgr
  subst l1 y1 z1
  exact ⟨v, T1, Lc, T1.heap.size, X1, hq, hS.trans hS1 (Nat.le_trans hk (by rw [← eT]; exact hgr)), Nat.le_refl _, State.Warmed39.trans (t := s.setVm vm0) hZ hS1.1, by rw [show (s.setVm T1.vm).vm = T1.vm from rfl, hS1.1.alike.findClass]; exact hown, fun _ k => st.trans k⟩
theorem own_ext_wr {h h' h1 : Heap} {a : Addr} {sl : Nat} {v : Value} (E : Ext h h1) (W : Wr h1 h' a sl v) (q : h.size ≤ a) : Ext h h' := by
  obtain ⟨cell, c1, -, -, rfl⟩ := W
  refine ⟨by simpa using E.1, fun x c hx => ?_⟩
  have hlt : x < h.size := (Array.getElem?_eq_some_iff.mp hx).1
  have hne : a ≠ x := Nat.ne_of_gt (Nat.lt_of_lt_of_le hlt q)
  rw [Array.getElem?_setIfInBounds_ne hne]
  exact E.2 _ _ hx
theorem own_ext_keep {h h' h1 : Heap} {ws : List Addr} (E : Ext h h1) (K : Keep h1 h' ws) (q : ∀ x ∈ ws, h.size ≤ x) : Ext h h' :=
  ⟨Nat.le_trans E.1 K.1, fun x c hx => K.2.1 x c (E.2 _ _ hx) fun z => absurd (Array.getElem?_eq_some_iff.mp hx).1 (Nat.not_lt.mpr (q x z))⟩
theorem own_ext_tr {h h1 h2 : Heap} (E : Ext h h1) (E' : Ext h1 h2) : Ext h h2 := ⟨Nat.le_trans E.1 E'.1, fun x c hx => E'.2 _ _ (E.2 _ _ hx)⟩
theorem own_ext_rf (h : Heap) : Ext h h := ⟨Nat.le_refl _, fun _ _ q => q⟩
theorem own_fr_mono {n0 k : Nat} {L : List Loc} (h : n0 ≤ k) (N : Fr k L) : Fr n0 L := fun y hy => Nat.le_trans h (N y hy)
theorem own_i8 (x : Int32) : x.toInt8.toInt32.toInt8.toInt32 = x.toInt8.toInt32 := by simp
end OwnWide

theorem own_pn_0 : plainName "java/util/Objects" = true := by first | (simp [plainName, overriddenIn]; done) | decide +kernel
theorem own_pn_1 : plainName "com/example/earnest_key/earnestkey/Outcome" = true := by first | (simp [plainName, overriddenIn]; done) | decide +kernel
theorem own_pn_2 : plainName "com/example/earnest_key/earnestkey/OutcomeFailurePinLaw" = true := by first | (simp [plainName, overriddenIn]; done) | decide +kernel
theorem own_pd_0 : parseMethodDescriptor "(Ljava/lang/Object;Ljava/lang/String;)Ljava/lang/Object;" = some ⟨[(.object "java/lang/Object"), (.object "java/lang/String")], some (.object "java/lang/Object")⟩ := by decide +kernel
theorem own_pd_1 : parseMethodDescriptor "([BZ)V" = some ⟨[(.array .byte), .boolean], none⟩ := by decide +kernel
theorem own_pd_2 : parseMethodDescriptor "([BII)V" = some ⟨[(.array .byte), .int, .int], none⟩ := by decide +kernel
theorem own_pd_3 : parseMethodDescriptor "([B)Lcom/example/earnest_key/earnestkey/Outcome;" = some ⟨[(.array .byte)], some (.object "com/example/earnest_key/earnestkey/Outcome")⟩ := by decide +kernel
theorem own_pd_4 : parseMethodDescriptor "([BI)V" = some ⟨[(.array .byte), .int], none⟩ := by decide +kernel
theorem own_pd_5 : parseMethodDescriptor "()[B" = some ⟨[], some (.array .byte)⟩ := by decide +kernel
theorem own_pd_6 : parseMethodDescriptor "([BII)Z" = some ⟨[(.array .byte), .int, .int], some .boolean⟩ := by decide +kernel
theorem own_pd_7 : parseMethodDescriptor "()Z" = some ⟨[], some .boolean⟩ := by decide +kernel
theorem own_pd_8 : parseMethodDescriptor "()Lcom/example/earnest_key/earnestkey/RecordState;" = some ⟨[], some (.object "com/example/earnest_key/earnestkey/RecordState")⟩ := by decide +kernel
theorem own_d_jdk_31_method_11_code_0 : decode jdk_31_method_11_code 0 = .ok (.aload_n 0, 1) := by decide +kernel
theorem own_d_jdk_31_method_11_code_1 : decode jdk_31_method_11_code 1 = .ok (.ifnonnull 12, 3) := by decide +kernel
theorem own_d_jdk_31_method_11_code_13 : decode jdk_31_method_11_code 13 = .ok (.aload_n 0, 1) := by decide +kernel
theorem own_d_jdk_31_method_11_code_14 : decode jdk_31_method_11_code 14 = .ok (.areturn, 1) := by decide +kernel
theorem own_d_prog_11_method_1_code_0 : decode prog_11_method_1_code 0 = .ok (.aload_n 0, 1) := by decide +kernel
theorem own_d_prog_11_method_1_code_1 : decode prog_11_method_1_code 1 = .ok (.invokespecial 1, 3) := by decide +kernel
theorem own_d_prog_11_method_1_code_4 : decode prog_11_method_1_code 4 = .ok (.aload_n 0, 1) := by decide +kernel
theorem own_d_prog_11_method_1_code_5 : decode prog_11_method_1_code 5 = .ok (.aload_n 1, 1) := by decide +kernel
theorem own_d_prog_11_method_1_code_6 : decode prog_11_method_1_code 6 = .ok (.putfield 7, 3) := by decide +kernel
theorem own_d_prog_11_method_1_code_9 : decode prog_11_method_1_code 9 = .ok (.aload_n 0, 1) := by decide +kernel
theorem own_d_prog_11_method_1_code_10 : decode prog_11_method_1_code 10 = .ok (.iload_n 2, 1) := by decide +kernel
theorem own_d_prog_11_method_1_code_11 : decode prog_11_method_1_code 11 = .ok (.putfield 13, 3) := by decide +kernel
theorem own_d_prog_11_method_1_code_14 : decode prog_11_method_1_code 14 = .ok (.return_, 1) := by decide +kernel
theorem own_d_prog_11_method_3_code_0 : decode prog_11_method_3_code 0 = .ok (.new 8, 3) := by decide +kernel
theorem own_d_prog_11_method_3_code_3 : decode prog_11_method_3_code 3 = .ok (.dup, 1) := by decide +kernel
theorem own_d_prog_11_method_3_code_4 : decode prog_11_method_3_code 4 = .ok (.aload_n 0, 1) := by decide +kernel
theorem own_d_prog_11_method_3_code_5 : decode prog_11_method_3_code 5 = .ok (.ldc 17, 2) := by decide +kernel
theorem own_d_prog_11_method_3_code_7 : decode prog_11_method_3_code 7 = .ok (.invokestatic 18, 3) := by decide +kernel
theorem own_d_prog_11_method_3_code_10 : decode prog_11_method_3_code 10 = .ok (.checkcast 24, 3) := by decide +kernel
theorem own_d_prog_11_method_3_code_13 : decode prog_11_method_3_code 13 = .ok (.invokevirtual 25, 3) := by decide +kernel
theorem own_d_prog_11_method_3_code_16 : decode prog_11_method_3_code 16 = .ok (.checkcast 24, 3) := by decide +kernel
theorem own_d_prog_11_method_3_code_19 : decode prog_11_method_3_code 19 = .ok (.iconst 1, 1) := by decide +kernel
theorem own_d_prog_11_method_3_code_20 : decode prog_11_method_3_code 20 = .ok (.invokespecial 29, 3) := by decide +kernel
theorem own_d_prog_11_method_3_code_23 : decode prog_11_method_3_code 23 = .ok (.areturn, 1) := by decide +kernel
theorem own_d_prog_11_method_5_code_0 : decode prog_11_method_5_code 0 = .ok (.aload_n 0, 1) := by decide +kernel
theorem own_d_prog_11_method_5_code_1 : decode prog_11_method_5_code 1 = .ok (.getfield 7, 3) := by decide +kernel
theorem own_d_prog_11_method_5_code_4 : decode prog_11_method_5_code 4 = .ok (.invokevirtual 25, 3) := by decide +kernel
theorem own_d_prog_11_method_5_code_7 : decode prog_11_method_5_code 7 = .ok (.checkcast 24, 3) := by decide +kernel
theorem own_d_prog_11_method_5_code_10 : decode prog_11_method_5_code 10 = .ok (.areturn, 1) := by decide +kernel
theorem own_d_prog_11_method_6_code_0 : decode prog_11_method_6_code 0 = .ok (.aload_n 0, 1) := by decide +kernel
theorem own_d_prog_11_method_6_code_1 : decode prog_11_method_6_code 1 = .ok (.getfield 13, 3) := by decide +kernel
theorem own_d_prog_11_method_6_code_4 : decode prog_11_method_6_code 4 = .ok (.ireturn, 1) := by decide +kernel
theorem own_d_prog_11_method_7_code_0 : decode prog_11_method_7_code 0 = .ok (.aload_n 0, 1) := by decide +kernel
theorem own_d_prog_11_method_7_code_1 : decode prog_11_method_7_code 1 = .ok (.getfield 13, 3) := by decide +kernel
theorem own_d_prog_11_method_7_code_4 : decode prog_11_method_7_code 4 = .ok (.ifCond .eq 9, 3) := by decide +kernel
theorem own_d_prog_11_method_7_code_7 : decode prog_11_method_7_code 7 = .ok (.getstatic 42, 3) := by decide +kernel
theorem own_d_prog_11_method_7_code_10 : decode prog_11_method_7_code 10 = .ok (.goto 6, 3) := by decide +kernel
theorem own_d_prog_11_method_7_code_16 : decode prog_11_method_7_code 16 = .ok (.areturn, 1) := by decide +kernel
theorem own_d_method_3_code_0 : decode method_3_code 0 = .ok (.iload_n 1, 1) := by decide +kernel
theorem own_d_method_3_code_1 : decode method_3_code 1 = .ok (.aload_n 0, 1) := by decide +kernel
theorem own_d_method_3_code_2 : decode method_3_code 2 = .ok (.arraylength, 1) := by decide +kernel
theorem own_d_method_3_code_3 : decode method_3_code 3 = .ok (.if_icmp .ge 8, 3) := by decide +kernel
theorem own_d_method_3_code_6 : decode method_3_code 6 = .ok (.aload_n 0, 1) := by decide +kernel
theorem own_d_method_3_code_7 : decode method_3_code 7 = .ok (.iload_n 1, 1) := by decide +kernel
theorem own_d_method_3_code_8 : decode method_3_code 8 = .ok (.iload_n 2, 1) := by decide +kernel
theorem own_d_method_3_code_9 : decode method_3_code 9 = .ok (.i2b, 1) := by decide +kernel
theorem own_d_method_3_code_10 : decode method_3_code 10 = .ok (.bastore, 1) := by decide +kernel
theorem own_d_method_3_code_11 : decode method_3_code 11 = .ok (.return_, 1) := by decide +kernel
theorem own_d_method_4_code_0 : decode method_4_code 0 = .ok (.iload_n 1, 1) := by decide +kernel
theorem own_d_method_4_code_1 : decode method_4_code 1 = .ok (.aload_n 0, 1) := by decide +kernel
theorem own_d_method_4_code_2 : decode method_4_code 2 = .ok (.arraylength, 1) := by decide +kernel
theorem own_d_method_4_code_3 : decode method_4_code 3 = .ok (.if_icmp .ge 12, 3) := by decide +kernel
theorem own_d_method_4_code_6 : decode method_4_code 6 = .ok (.aload_n 0, 1) := by decide +kernel
theorem own_d_method_4_code_7 : decode method_4_code 7 = .ok (.iload_n 1, 1) := by decide +kernel
theorem own_d_method_4_code_8 : decode method_4_code 8 = .ok (.aload_n 0, 1) := by decide +kernel
theorem own_d_method_4_code_9 : decode method_4_code 9 = .ok (.iload_n 1, 1) := by decide +kernel
theorem own_d_method_4_code_10 : decode method_4_code 10 = .ok (.baload, 1) := by decide +kernel
theorem own_d_method_4_code_11 : decode method_4_code 11 = .ok (.iconst 1, 1) := by decide +kernel
theorem own_d_method_4_code_12 : decode method_4_code 12 = .ok (.iadd, 1) := by decide +kernel
theorem own_d_method_4_code_13 : decode method_4_code 13 = .ok (.i2b, 1) := by decide +kernel
theorem own_d_method_4_code_14 : decode method_4_code 14 = .ok (.bastore, 1) := by decide +kernel
theorem own_d_method_4_code_15 : decode method_4_code 15 = .ok (.return_, 1) := by decide +kernel
theorem own_d_method_5_code_0 : decode method_5_code 0 = .ok (.iload_n 1, 1) := by decide +kernel
theorem own_d_method_5_code_1 : decode method_5_code 1 = .ok (.aload_n 0, 1) := by decide +kernel
theorem own_d_method_5_code_2 : decode method_5_code 2 = .ok (.arraylength, 1) := by decide +kernel
theorem own_d_method_5_code_3 : decode method_5_code 3 = .ok (.if_icmp .ge 11, 3) := by decide +kernel
theorem own_d_method_5_code_6 : decode method_5_code 6 = .ok (.aload_n 0, 1) := by decide +kernel
theorem own_d_method_5_code_7 : decode method_5_code 7 = .ok (.iload_n 1, 1) := by decide +kernel
theorem own_d_method_5_code_8 : decode method_5_code 8 = .ok (.baload, 1) := by decide +kernel
theorem own_d_method_5_code_9 : decode method_5_code 9 = .ok (.iload_n 2, 1) := by decide +kernel
theorem own_d_method_5_code_10 : decode method_5_code 10 = .ok (.i2b, 1) := by decide +kernel
theorem own_d_method_5_code_11 : decode method_5_code 11 = .ok (.if_icmp .ne 7, 3) := by decide +kernel
theorem own_d_method_5_code_14 : decode method_5_code 14 = .ok (.iconst 1, 1) := by decide +kernel
theorem own_d_method_5_code_15 : decode method_5_code 15 = .ok (.goto 4, 3) := by decide +kernel
theorem own_d_method_5_code_19 : decode method_5_code 19 = .ok (.ireturn, 1) := by decide +kernel
theorem own_wS {Z : State} {a0 : Array Value} (hw : ∀ d ∈ tables_1, d.before a0 Z = true) : ∀ a ∈ Bundle.stringAtoms, a.before a0 Z = true := by
  intro a ha
  simp only [Bundle.stringAtoms, List.mem_cons, List.not_mem_nil, or_false] at ha
  rcases ha with rfl | rfl | rfl | rfl | rfl | rfl | rfl
  · exact hw _ (List.mem_of_getElem? (i := 13) rfl)
  · exact hw _ (List.mem_of_getElem? (i := 14) rfl)
  · exact hw _ (List.mem_of_getElem? (i := 1) rfl)
  · exact hw _ (List.mem_of_getElem? (i := 15) rfl)
  · exact hw _ (List.mem_of_getElem? (i := 16) rfl)
  · exact hw _ (List.mem_of_getElem? (i := 17) rfl)
  · exact hw _ (List.mem_of_getElem? (i := 18) rfl)
theorem own_mod (x : Int32) : ((x &&& (2147483647 : Int32)) % (5 : Int32)) = (0 : Int32) ∨ ((x &&& (2147483647 : Int32)) % (5 : Int32)) = (1 : Int32) ∨ ((x &&& (2147483647 : Int32)) % (5 : Int32)) = (2 : Int32) ∨ ((x &&& (2147483647 : Int32)) % (5 : Int32)) = (3 : Int32) ∨ ((x &&& (2147483647 : Int32)) % (5 : Int32)) = (4 : Int32) := by
  have e1 : (x &&& (2147483647 : Int32)).toInt = x.toInt % (2 ^ 31 : Nat) := c_mask x _ 31 (by decide) (by decide)
  have e2 := (c_irem (x &&& (2147483647 : Int32)) (5 : Int32) 5 rfl).1 (by omega)
  have h : ((x &&& (2147483647 : Int32)) % (5 : Int32)).toInt = 0 ∨ ((x &&& (2147483647 : Int32)) % (5 : Int32)).toInt = 1 ∨ ((x &&& (2147483647 : Int32)) % (5 : Int32)).toInt = 2 ∨ ((x &&& (2147483647 : Int32)) % (5 : Int32)).toInt = 3 ∨ ((x &&& (2147483647 : Int32)) % (5 : Int32)).toInt = 4 := by omega
  rcases h with h | h | h | h | h
  · exact Or.inl (Int32.toInt_inj.mp h)
  · exact Or.inr (Or.inl (Int32.toInt_inj.mp h))
  · exact Or.inr (Or.inr (Or.inl (Int32.toInt_inj.mp h)))
  · exact Or.inr (Or.inr (Or.inr (Or.inl (Int32.toInt_inj.mp h))))
  · exact Or.inr (Or.inr (Or.inr (Or.inr ((Int32.toInt_inj.mp h)))))
theorem own_fitb {c : Cell} {hs : List (Int32 × Value)} {vs : List Value} {d : Value} {j : Int32} (G : ∀ i, i < c.slots.size → fits .byte (getH hs vs d i) = true) (q : ¬ (j < 0 ∨ c.slots.size ≤ j.toNatClampNeg)) : ∃ w : Int32, getH hs vs d j.toNatClampNeg = .int w :=
  fit_I (G _ (Nat.lt_of_not_le fun y => q (Or.inr y))) (by simp)
theorem own_args5 {args : Array Value} {s : State} (h : given_1.value args s none s [] = some true) : ∃ a b c d e : Int32, args = #[.int a, .int b, .int c, .int d, .int e] := by
  obtain ⟨h1, h2⟩ := and_e h
  obtain ⟨g0, h2⟩ := and_e h2
  obtain ⟨g1, h2⟩ := and_e h2
  obtain ⟨g2, h2⟩ := and_e h2
  obtain ⟨g3, g4⟩ := and_e h2
  have hs : args.size = 5 := by simpa [Cond.value] using h1
  obtain ⟨L⟩ := args
  match L, hs with
  | [w0, w1, w2, w3, w4], _ =>
    obtain ⟨i0, e0⟩ := is_v g0
    obtain ⟨i1, e1⟩ := is_v g1
    obtain ⟨i2, e2⟩ := is_v g2
    obtain ⟨i3, e3⟩ := is_v g3
    obtain ⟨i4, e4⟩ := is_v g4
    obtain rfl : w0 = (.int i0) := Option.some.inj e0
    obtain rfl : w1 = (.int i1) := Option.some.inj e1
    obtain rfl : w2 = (.int i2) := Option.some.inj e2
    obtain rfl : w3 = (.int i3) := Option.some.inj e3
    obtain rfl : w4 = (.int i4) := Option.some.inj e4
    exact ⟨i0, i1, i2, i3, i4, rfl⟩
set_option maxRecDepth 65536 in
set_option maxHeartbeats 40000000 in
theorem own_rnn (l : Launch) (Z : State) (a0 : Array Value) (hw : ∀ d ∈ tables_1, d.before a0 Z = true) (h0 : Heap) (y0 y1 : Addr) :
    own_Pure l Z h0 [] ({ frames := 0, cells := 0, slots := 0, locals := 0 } : Room) (⟨"java/util/Objects", "requireNonNull", "(Ljava/lang/Object;Ljava/lang/String;)Ljava/lang/Object;"⟩ : MethodName) jdk_31_method_11_code 2 (some (.object "java/lang/Object")) #[(.ref y0), (.ref y1)] (some (.ref y0)) := by
  refine own_body (plainFor_of_name own_pn_0) ?_
  intro p e s m below meth c T0 X0 hx hby hml hown hZ e0 hret hlk hnm hnamed
  replace hown : s.vm.findClass "java/util/Objects" = some m.cls := hown
  replace hml : c.maxLocals = 2 := hml
  have ef : entryFrame m #[(.ref y0), (.ref y1)] 2 = mkF m 0 #[.val (.ref y0), .val (.ref y1)] [] := by first | (simp [entryFrame, mkF, argsToLocals, Value.category]; done) | rfl
  rw [ef]
  refine own_st (T' := T0) (g' := (mkF m 1 #[.val (.ref y0), .val (.ref y1)] [(.ref y0)])) (fun _ k => XS.aloadN X0.here hx rfl (hb hby own_d_jdk_31_method_11_code_0) rfl rfl k) ?_
  refine own_st (T' := T0) (g' := (mkF m 13 #[.val (.ref y0), .val (.ref y1)] [])) (fun _ k => XS.ifnonnullYes X0.here hx rfl (pc0 := 1) (pc' := 13) rfl (hb hby own_d_jdk_31_method_11_code_1) rfl (by decide) (by decide) k) ?_
  refine own_st (T' := T0) (g' := (mkF m 14 #[.val (.ref y0), .val (.ref y1)] [(.ref y0)])) (fun _ k => XS.aloadN X0.here hx rfl (hb hby own_d_jdk_31_method_11_code_13) rfl rfl k) ?_
  exact own_ret X0 hx hlk hret rfl (Or.inr (Or.inr (Or.inr (Or.inr ⟨rfl, rfl, rfl⟩)))) (hb hby own_d_jdk_31_method_11_code_14) (by decide) (by decide) ⟨rfl, rfl, e0⟩
set_option maxRecDepth 65536 in
set_option maxHeartbeats 40000000 in
theorem own_init (l : Launch) (Z : State) (a0 : Array Value) (hw : ∀ d ∈ tables_1, d.before a0 Z = true) (h0 : Heap)  (o d : Addr) (n0 : Nat) (g_o : n0 ≤ o) (E_o : Exa Z h0 o "com/example/earnest_key/earnestkey/Outcome") (F_bytes_o : Fld Z h0 o "com/example/earnest_key/earnestkey/Outcome" "bytes" "[B" .null) (F_failure_o : Fld Z h0 o "com/example/earnest_key/earnestkey/Outcome" "failure" "Z" (.int (0 : Int32))) :
    own_Met l Z h0 [] ({ frames := 1, cells := 0, slots := 0, locals := 12 } : Room) (⟨"com/example/earnest_key/earnestkey/Outcome", "<init>", "([BZ)V"⟩ : MethodName) prog_11_method_1_code 3 none #[(.ref o), (.ref d), (.int (1 : Int32))] (fun v h L => v = none ∧ Fr n0 L ∧ Keep h0 h [o] ∧ Exa Z h o "com/example/earnest_key/earnestkey/Outcome" ∧ Fld Z h o "com/example/earnest_key/earnestkey/Outcome" "bytes" "[B" (.ref d) ∧ Fld Z h o "com/example/earnest_key/earnestkey/Outcome" "failure" "Z" (.int (1 : Int32))) := by
  refine own_body (plainFor_of_name own_pn_1) ?_
  intro p e s m below meth c T0 X0 hx hby hml hown hZ e0 hret hlk hnm hnamed
  replace hown : s.vm.findClass "com/example/earnest_key/earnestkey/Outcome" = some m.cls := hown
  replace hml : c.maxLocals = 3 := hml
  have ef : entryFrame m #[(.ref o), (.ref d), (.int (1 : Int32))] 3 = mkF m 0 #[.val (.ref o), .val (.ref d), .val (.int (1 : Int32))] [] := by first | (simp [entryFrame, mkF, argsToLocals, Value.category]; done) | rfl
  rw [ef]
  have K0 := Keep.refl h0 [o]
  have Nf := Fr.nil n0
  refine own_st (T' := T0) (g' := (mkF m 1 #[.val (.ref o), .val (.ref d), .val (.int (1 : Int32))] [(.ref o)])) (fun _ k => XS.aloadN X0.here hx rfl (hb hby own_d_prog_11_method_1_code_0) rfl rfl k) ?_
  obtain ⟨T1, X1, e1, st1⟩ := initO X0 hx hZ hown (hw _ (List.mem_of_getElem? (i := 35) rfl)) (hw _ (List.mem_of_getElem? (i := 36) rfl)) (hw _ (List.mem_of_getElem? (i := 37) rfl)) e0 (g := (mkF m 1 #[.val (.ref o), .val (.ref d), .val (.int (1 : Int32))] [(.ref o)])) rfl (by rw [hml]; rfl) rfl (hb hby own_d_prog_11_method_1_code_1) (by decide) (W := 0) (by show 2 * 0 + _ ≤ _; exact Nat.le_of_eq rfl) (by decide)
  refine own_st (T' := T1) (g' := (mkF m 4 #[.val (.ref o), .val (.ref d), .val (.int (1 : Int32))] [])) st1 ?_
  refine own_st (T' := T1) (g' := (mkF m 5 #[.val (.ref o), .val (.ref d), .val (.int (1 : Int32))] [(.ref o)])) (fun _ k => XS.aloadN X1.here hx rfl (hb hby own_d_prog_11_method_1_code_4) rfl rfl k) ?_
  refine own_st (T' := T1) (g' := (mkF m 6 #[.val (.ref o), .val (.ref d), .val (.int (1 : Int32))] [(.ref d), (.ref o)])) (fun _ k => XS.aloadN X1.here hx rfl (hb hby own_d_prog_11_method_1_code_5) rfl rfl k) ?_
  obtain ⟨T2, h2, X2, e2, W2, st2⟩ := putF X1 hx hZ hown (host := "") (Or.inl (hw _ (List.mem_of_getElem? (i := 38) rfl))) Via.refl e1 F_bytes_o E_o (Or.inr ⟨(hw _ (List.mem_of_getElem? (i := 39) rfl)), rfl, hnm⟩) (hw _ (List.mem_of_getElem? (i := 11) rfl)) (ty := (.array .byte)) (by decide) rfl rfl (g := (mkF m 6 #[.val (.ref o), .val (.ref d), .val (.int (1 : Int32))] [(.ref d), (.ref o)])) rfl rfl (hb hby own_d_prog_11_method_1_code_6)
  have E_o := E_o.wr W2
  have K0 := K0.wr W2 (Or.inl (List.mem_of_getElem? (i := 0) rfl))
  have F_bytes_o := F_bytes_o.same W2
  have F_failure_o := F_failure_o.other W2 (Or.inr (slot_ne (Or.inr (hw _ (List.mem_of_getElem? (i := 41) rfl))) (Or.inr (hw _ (List.mem_of_getElem? (i := 39) rfl))) (by decide) (t := .boolean) (t' := (.array .byte)) (by decide) (by decide)))
  have Nf := Fr.snoc X2 Nf g_o
  refine own_st (T' := T2) (g' := (mkF m 9 #[.val (.ref o), .val (.ref d), .val (.int (1 : Int32))] [])) st2 ?_
  refine own_st (T' := T2) (g' := (mkF m 10 #[.val (.ref o), .val (.ref d), .val (.int (1 : Int32))] [(.ref o)])) (fun _ k => XS.aloadN X2.here hx rfl (hb hby own_d_prog_11_method_1_code_9) rfl rfl k) ?_
  refine own_st (T' := T2) (g' := (mkF m 11 #[.val (.ref o), .val (.ref d), .val (.int (1 : Int32))] [(.int (1 : Int32)), (.ref o)])) (fun _ k => XS.iloadN X2.here hx rfl (hb hby own_d_prog_11_method_1_code_10) rfl k) ?_
  obtain ⟨T3, h3, X3, e3, W3, st3⟩ := putF X2 hx hZ hown (host := "") (Or.inl (hw _ (List.mem_of_getElem? (i := 40) rfl))) Via.refl e2 F_failure_o E_o (Or.inr ⟨(hw _ (List.mem_of_getElem? (i := 41) rfl)), rfl, hnm⟩) (hw _ (List.mem_of_getElem? (i := 11) rfl)) (ty := .boolean) (by decide) rfl rfl (g := (mkF m 11 #[.val (.ref o), .val (.ref d), .val (.int (1 : Int32))] [(.int (1 : Int32)), (.ref o)])) rfl rfl (hb hby own_d_prog_11_method_1_code_11)
  have E_o := E_o.wr W3
  have K0 := K0.wr W3 (Or.inl (List.mem_of_getElem? (i := 0) rfl))
  have F_bytes_o := F_bytes_o.other W3 (Or.inr (slot_ne (Or.inr (hw _ (List.mem_of_getElem? (i := 39) rfl))) (Or.inr (hw _ (List.mem_of_getElem? (i := 41) rfl))) (by decide) (t := (.array .byte)) (t' := .boolean) (by decide) (by decide)))
  have F_failure_o := F_failure_o.same W3
  have Nf := Fr.snoc X3 Nf g_o
  refine own_st (T' := T3) (g' := (mkF m 14 #[.val (.ref o), .val (.ref d), .val (.int (1 : Int32))] [])) st3 ?_
  exact own_retV X3 hx hlk hret (hb hby own_d_prog_11_method_1_code_14) (by decide) (by decide) (by rw [e3]; exact ⟨rfl, Nf, K0, E_o, F_bytes_o, F_failure_o⟩)
set_option maxRecDepth 65536 in
set_option maxHeartbeats 40000000 in
theorem own_succ (l : Launch) (Z : State) (a0 : Array Value) (hw : ∀ d ∈ tables_1, d.before a0 Z = true) (h0 : Heap)  (c0 : Addr) (kc : ClassId) (N : Int32) (hs : List (Int32 × Value)) (hN : N.toNatClampNeg ≤ 4) (V_c0 : Arh Z h0 c0 kc .byte N hs [] (.int (0 : Int32))) (E_c0 : Exa Z h0 c0 "[B") :
    own_MetW l Z h0 [] ({ frames := 2, cells := 4, slots := 30, locals := 27 } : Room) (⟨"com/example/earnest_key/earnestkey/Outcome", "failure", "([B)Lcom/example/earnest_key/earnestkey/Outcome;"⟩ : MethodName) prog_11_method_3_code 1 (some (.object "com/example/earnest_key/earnestkey/Outcome")) #[(.ref c0)] (fun v h L => ∃ o d, v = some (.ref o) ∧ h0.size ≤ o ∧ h0.size ≤ d ∧ Fr h0.size L ∧ Ext h0 h ∧ Exa Z h o "com/example/earnest_key/earnestkey/Outcome" ∧ Fld Z h o "com/example/earnest_key/earnestkey/Outcome" "bytes" "[B" (.ref d) ∧ Fld Z h o "com/example/earnest_key/earnestkey/Outcome" "failure" "Z" (.int (1 : Int32)) ∧ Arh Z h d kc .byte N hs [] (.int (0 : Int32)) ∧ Exa Z h d "[B" ∧ o ≠ d) := by
  refine own_bodyW (plainFor_of_name own_pn_1) ?_
  intro p e s m below meth c T0 vm0 k0 X0 hS hk hx hby hml hown hZ e0 hret hlk hnm hnamed
  replace hown : (s.setVm vm0).vm.findClass "com/example/earnest_key/earnestkey/Outcome" = some m.cls := hown
  replace hml : c.maxLocals = 1 := hml
  have ef : entryFrame m #[(.ref c0)] 1 = mkF m 0 #[.val (.ref c0)] [] := by first | (simp [entryFrame, mkF, argsToLocals, Value.category]; done) | rfl
  rw [ef]
  have E0 := own_ext_rf h0
  have Nf := Fr.nil h0.size
  obtain ⟨T1, h1, X1, e1, E1, A1, D1, -, st1⟩ := newO X0 hx hZ hown (hw _ (List.mem_of_getElem? (i := 10) rfl)) (hw _ (List.mem_of_getElem? (i := 11) rfl)) (hw _ (List.mem_of_getElem? (i := 8) rfl)) e0 (g := (mkF m 0 #[.val (.ref c0)] [])) rfl (hb hby own_d_prog_11_method_3_code_0) (by decide) (by decide)
  obtain ⟨b1, gb_b1⟩ : ∃ z, z = h0.size := ⟨_, rfl⟩
  rw [← gb_b1] at A1 D1 st1
  have ne_c0_b1 : c0 ≠ b1 := Nat.ne_of_lt (Nat.lt_of_lt_of_le V_c0.lt (Nat.le_of_eq gb_b1.symm))
  have g_b1 : h0.size ≤ b1 := Nat.le_trans E0.1 (Nat.le_of_eq gb_b1.symm)
  have V_c0 := V_c0.ext E1
  have E_c0 := E_c0.ext E1
  have E0 := own_ext_tr E0 E1
  have hk := Nat.le_trans hk E1.1
  have E_b1 := A1
  have F_bytes_b1 : Fld Z h1 b1 "com/example/earnest_key/earnestkey/Outcome" "bytes" "[B" .null := D1 (Or.inr (hw _ (List.mem_of_getElem? (i := 39) rfl))) (ty := (.array .byte)) (by decide)
  have F_failure_b1 : Fld Z h1 b1 "com/example/earnest_key/earnestkey/Outcome" "failure" "Z" (.int (0 : Int32)) := D1 (Or.inr (hw _ (List.mem_of_getElem? (i := 41) rfl))) (ty := .boolean) (by decide)
  refine own_st (T' := T1) (g' := (mkF m 3 #[.val (.ref c0)] [(.ref b1)])) st1 ?_
  refine own_st (T' := T1) (g' := (mkF m 4 #[.val (.ref c0)] [(.ref b1), (.ref b1)])) (fun _ k => XS.dup X1.here hx rfl (hb hby own_d_prog_11_method_3_code_3) rfl rfl k) ?_
  refine own_st (T' := T1) (g' := (mkF m 5 #[.val (.ref c0)] [(.ref c0), (.ref b1), (.ref b1)])) (fun _ k => XS.aloadN X1.here hx rfl (hb hby own_d_prog_11_method_3_code_4) rfl rfl k) ?_
  obtain ⟨a2, T2, h2, k2, X2, e2, E2, hS, hk, hZ, hown, st2⟩ := ldcS X1 hx hZ hown (hw _ (List.mem_of_getElem? (i := 12) rfl)) (own_wS hw) e1 hS hk (g := (mkF m 5 #[.val (.ref c0)] [(.ref c0), (.ref b1), (.ref b1)])) rfl (hb hby own_d_prog_11_method_3_code_5) (n := 20) (by decide) (by decide) (by decide) (by decide)
  have V_c0 := V_c0.ext E2
  have E_c0 := E_c0.ext E2
  have E_b1 := E_b1.ext E2
  have F_bytes_b1 := F_bytes_b1.ext E2
  have F_failure_b1 := F_failure_b1.ext E2
  have E0 := own_ext_tr E0 E2
  refine own_st (T' := T2) (g' := (mkF m 7 #[.val (.ref c0)] [(.ref a2), (.ref c0), (.ref b1), (.ref b1)])) st2 ?_
  obtain ⟨T3, X3, e3, st3⟩ := own_pure (w := (.ref c0)) rfl rfl (own_gS X2 hx hZ hown (hw _ (List.mem_of_getElem? (i := 19) rfl)) (hw _ (List.mem_of_getElem? (i := 20) rfl)) (hw _ (List.mem_of_getElem? (i := 21) rfl)) (hw _ (List.mem_of_getElem? (i := 22) rfl)) (by decide) e2 (own_rnn l Z a0 hw h2 c0 a2) (by decide) (by decide) (by decide) (by decide) (Q := fun v h L => v = some (.ref c0) ∧ L = [] ∧ h = h2) (W := 2) (g := (mkF m 7 #[.val (.ref c0)] [(.ref a2), (.ref c0), (.ref b1), (.ref b1)])) (argsL := [(.ref c0), (.ref a2)]) (rest := [(.ref b1), (.ref b1)]) rfl (by rw [hml]; rfl) (lenOf own_pd_0 rfl) rfl (by show 2 * 0 + _ ≤ _; exact Nat.le_of_eq rfl) (hb hby own_d_prog_11_method_3_code_7))
  refine own_st (T' := T3) (g' := (mkF m 10 #[.val (.ref c0)] [(.ref c0), (.ref b1), (.ref b1)])) st3 ?_
  obtain ⟨T4, X4, e4, st4⟩ := castY X3 hx hZ hown (hw _ (List.mem_of_getElem? (i := 23) rfl)) e3 (Ins.self E_c0) (g := (mkF m 10 #[.val (.ref c0)] [(.ref c0), (.ref b1), (.ref b1)])) rfl rfl (hb hby own_d_prog_11_method_3_code_10)
  refine own_st (T' := T4) (g' := (mkF m 13 #[.val (.ref c0)] [(.ref c0), (.ref b1), (.ref b1)])) st4 ?_
  obtain ⟨T5, h5, X5, e5, E5, V5, Q5, st5⟩ := cloneH X4 hx hZ hown (hw _ (List.mem_of_getElem? (i := 25) rfl)) (hw _ (List.mem_of_getElem? (i := 26) rfl)) (hw _ (List.mem_of_getElem? (i := 30) rfl)) (hw _ (List.mem_of_getElem? (i := 28) rfl)) (hw _ (List.mem_of_getElem? (i := 29) rfl)) (hw _ (List.mem_of_getElem? (i := 31) rfl)) e4 V_c0 E_c0 (g := (mkF m 13 #[.val (.ref c0)] [(.ref c0), (.ref b1), (.ref b1)])) rfl (by rw [hml]; rfl) rfl (hb hby own_d_prog_11_method_3_code_13) (by decide) (W := 2) (cap := 4) (by show 2 * 0 + _ ≤ _; exact Nat.le_of_eq rfl) (by decide) hN (by decide) (by decide)
  obtain ⟨b5, gb_b5⟩ : ∃ z, z = h2.size := ⟨_, rfl⟩
  rw [← gb_b5] at V5 Q5 st5
  have ne_c0_b5 : c0 ≠ b5 := Nat.ne_of_lt (Nat.lt_of_lt_of_le V_c0.lt (Nat.le_of_eq gb_b5.symm))
  have ne_b1_b5 : b1 ≠ b5 := Nat.ne_of_lt (Nat.lt_of_lt_of_le E_b1.lt (Nat.le_of_eq gb_b5.symm))
  have g_b5 : h0.size ≤ b5 := Nat.le_trans E0.1 (Nat.le_of_eq gb_b5.symm)
  have V_c0 := V_c0.ext E5
  have E_c0 := E_c0.ext E5
  have E_b1 := E_b1.ext E5
  have F_bytes_b1 := F_bytes_b1.ext E5
  have F_failure_b1 := F_failure_b1.ext E5
  have E0 := own_ext_tr E0 E5
  have hk := Nat.le_trans hk E5.1
  have V_b5 := V5
  have E_b5 := Q5
  refine own_st (T' := T5) (g' := (mkF m 16 #[.val (.ref c0)] [(.ref b5), (.ref b1), (.ref b1)])) st5 ?_
  obtain ⟨T6, X6, e6, st6⟩ := castY X5 hx hZ hown (hw _ (List.mem_of_getElem? (i := 23) rfl)) e5 (Ins.self E_b5) (g := (mkF m 16 #[.val (.ref c0)] [(.ref b5), (.ref b1), (.ref b1)])) rfl rfl (hb hby own_d_prog_11_method_3_code_16)
  refine own_st (T' := T6) (g' := (mkF m 19 #[.val (.ref c0)] [(.ref b5), (.ref b1), (.ref b1)])) st6 ?_
  refine own_st (T' := T6) (g' := (mkF m 20 #[.val (.ref c0)] [(.int (1 : Int32)), (.ref b5), (.ref b1), (.ref b1)])) (fun _ k => XS.iconst X6.here hx rfl (hb hby own_d_prog_11_method_3_code_19) k) ?_
  obtain ⟨v7, T7, L7, X7, hQ7, st7⟩ := own_gI X6 hx hZ rfl hown (hw _ (List.mem_of_getElem? (i := 32) rfl)) (hw _ (List.mem_of_getElem? (i := 33) rfl)) (hw _ (List.mem_of_getElem? (i := 8) rfl)) (hw _ (List.mem_of_getElem? (i := 34) rfl)) (by decide) e6 (own_init l Z a0 hw h5 b1 b5 h0.size g_b1 E_b1 F_bytes_b1 F_failure_b1) (by decide) (by decide) (by decide) (by decide) (Q := (fun v h L => v = none ∧ Fr h0.size L ∧ Keep h5 h [b1] ∧ Exa Z h b1 "com/example/earnest_key/earnestkey/Outcome" ∧ Fld Z h b1 "com/example/earnest_key/earnestkey/Outcome" "bytes" "[B" (.ref b5) ∧ Fld Z h b1 "com/example/earnest_key/earnestkey/Outcome" "failure" "Z" (.int (1 : Int32)))) (W := 1) (g := (mkF m 20 #[.val (.ref c0)] [(.int (1 : Int32)), (.ref b5), (.ref b1), (.ref b1)])) (argsL := [(.ref b5), (.int (1 : Int32))]) (rest := [(.ref b1)]) rfl (by rw [hml]; rfl) (lenOf own_pd_1 rfl) rfl (by show 2 * 0 + _ ≤ _; exact Nat.le_of_eq rfl) (hb hby own_d_prog_11_method_3_code_20)
  obtain ⟨rfl, NL7, K7, EE7, FB7, FF7⟩ := hQ7
  have V_c0 := V_c0.keep K7 (ninS ne_c0_b1 nin0)
  have E_c0 := E_c0.keep K7
  have V_b5 := V_b5.keep K7 (ninS (Ne.symm ne_b1_b5) nin0)
  have E_b5 := E_b5.keep K7
  have E_b1 := EE7
  have F_bytes_b1 := FB7
  have F_failure_b1 := FF7
  have E0 := own_ext_keep E0 K7 (allS g_b1 all0)
  have Nf := Fr.app Nf NL7
  have hk := Nat.le_trans hk K7.1
  refine own_st (T' := T7) (g' := (mkF m 23 #[.val (.ref c0)] [(.ref b1)])) st7 ?_
  exact own_retW X7 hx hlk hS hk hret rfl (Or.inr (Or.inr (Or.inr (Or.inr ⟨rfl, rfl, rfl⟩)))) (hb hby own_d_prog_11_method_3_code_23) (by decide) (by decide) ⟨b1, b5, rfl, g_b1, g_b5, Nf, E0, E_b1, F_bytes_b1, F_failure_b1, V_b5, E_b5, ne_b1_b5⟩
set_option maxRecDepth 65536 in
set_option maxHeartbeats 40000000 in
theorem own_byt (l : Launch) (Z : State) (a0 : Array Value) (hw : ∀ d ∈ tables_1, d.before a0 Z = true) (h0 : Heap)  (o d : Addr) (kc : ClassId) (N : Int32) (hs : List (Int32 × Value)) (hN : N.toNatClampNeg ≤ 4) (F_bytes_o : Fld Z h0 o "com/example/earnest_key/earnestkey/Outcome" "bytes" "[B" (.ref d)) (V_d : Arh Z h0 d kc .byte N hs [] (.int (0 : Int32))) (E_d : Exa Z h0 d "[B") :
    own_Met l Z h0 [] ({ frames := 1, cells := 1, slots := 4, locals := 14 } : Room) (⟨"com/example/earnest_key/earnestkey/Outcome", "bytes", "()[B"⟩ : MethodName) prog_11_method_5_code 1 (some (.array .byte)) #[(.ref o)] (fun v h L => ∃ b, v = some (.ref b) ∧ h0.size ≤ b ∧ Fr h0.size L ∧ Ext h0 h ∧ Arh Z h b kc .byte N hs [] (.int (0 : Int32)) ∧ Exa Z h b "[B") := by
  refine own_body (plainFor_of_name own_pn_1) ?_
  intro p e s m below meth c T0 X0 hx hby hml hown hZ e0 hret hlk hnm hnamed
  replace hown : s.vm.findClass "com/example/earnest_key/earnestkey/Outcome" = some m.cls := hown
  replace hml : c.maxLocals = 1 := hml
  have ef : entryFrame m #[(.ref o)] 1 = mkF m 0 #[.val (.ref o)] [] := by first | (simp [entryFrame, mkF, argsToLocals, Value.category]; done) | rfl
  rw [ef]
  have E0 := own_ext_rf h0
  have Nf := Fr.nil h0.size
  refine own_st (T' := T0) (g' := (mkF m 1 #[.val (.ref o)] [(.ref o)])) (fun _ k => XS.aloadN X0.here hx rfl (hb hby own_d_prog_11_method_5_code_0) rfl rfl k) ?_
  obtain ⟨T1, X1, e1, st1⟩ := getF X0 hx hZ hown (host := "") (Or.inl (hw _ (List.mem_of_getElem? (i := 38) rfl))) Via.refl e0 F_bytes_o (g := (mkF m 1 #[.val (.ref o)] [(.ref o)])) rfl rfl (hb hby own_d_prog_11_method_5_code_1)
  refine own_st (T' := T1) (g' := (mkF m 4 #[.val (.ref o)] [(.ref d)])) st1 ?_
  obtain ⟨T2, h2, X2, e2, E2, V2, Q2, st2⟩ := cloneH X1 hx hZ hown (hw _ (List.mem_of_getElem? (i := 25) rfl)) (hw _ (List.mem_of_getElem? (i := 26) rfl)) (hw _ (List.mem_of_getElem? (i := 30) rfl)) (hw _ (List.mem_of_getElem? (i := 28) rfl)) (hw _ (List.mem_of_getElem? (i := 29) rfl)) (hw _ (List.mem_of_getElem? (i := 31) rfl)) e1 V_d E_d (g := (mkF m 4 #[.val (.ref o)] [(.ref d)])) rfl (by rw [hml]; rfl) rfl (hb hby own_d_prog_11_method_5_code_4) (by decide) (W := 0) (cap := 4) (by show 2 * 0 + _ ≤ _; exact Nat.le_of_eq rfl) (by decide) hN (by decide) (by decide)
  obtain ⟨b2, gb_b2⟩ : ∃ z, z = h0.size := ⟨_, rfl⟩
  rw [← gb_b2] at V2 Q2 st2
  have ne_o_b2 : o ≠ b2 := Nat.ne_of_lt (Nat.lt_of_lt_of_le F_bytes_o.lt (Nat.le_of_eq gb_b2.symm))
  have ne_d_b2 : d ≠ b2 := Nat.ne_of_lt (Nat.lt_of_lt_of_le V_d.lt (Nat.le_of_eq gb_b2.symm))
  have g_b2 : h0.size ≤ b2 := Nat.le_trans E0.1 (Nat.le_of_eq gb_b2.symm)
  have F_bytes_o := F_bytes_o.ext E2
  have V_d := V_d.ext E2
  have E_d := E_d.ext E2
  have E0 := own_ext_tr E0 E2
  have V_b2 := V2
  have E_b2 := Q2
  refine own_st (T' := T2) (g' := (mkF m 7 #[.val (.ref o)] [(.ref b2)])) st2 ?_
  obtain ⟨T3, X3, e3, st3⟩ := castY X2 hx hZ hown (hw _ (List.mem_of_getElem? (i := 23) rfl)) e2 (Ins.self E_b2) (g := (mkF m 7 #[.val (.ref o)] [(.ref b2)])) rfl rfl (hb hby own_d_prog_11_method_5_code_7)
  refine own_st (T' := T3) (g' := (mkF m 10 #[.val (.ref o)] [(.ref b2)])) st3 ?_
  exact own_ret X3 hx hlk hret rfl (Or.inr (Or.inr (Or.inr (Or.inr ⟨rfl, rfl, rfl⟩)))) (hb hby own_d_prog_11_method_5_code_10) (by decide) (by decide) (by rw [e3]; exact ⟨b2, rfl, g_b2, Nf, E0, V_b2, E_b2⟩)
set_option maxRecDepth 65536 in
set_option maxHeartbeats 40000000 in
theorem own_isf (l : Launch) (Z : State) (a0 : Array Value) (hw : ∀ d ∈ tables_1, d.before a0 Z = true) (h0 : Heap) (o : Addr) (F : Fld Z h0 o "com/example/earnest_key/earnestkey/Outcome" "failure" "Z" (.int (1 : Int32))) :
    own_Pure l Z h0 [] ({ frames := 0, cells := 0, slots := 0, locals := 0 } : Room) (⟨"com/example/earnest_key/earnestkey/Outcome", "isFailure", "()Z"⟩ : MethodName) prog_11_method_6_code 1 (some .boolean) #[(.ref o)] (some (.int (1 : Int32))) := by
  refine own_body (plainFor_of_name own_pn_1) ?_
  intro p e s m below meth c T0 X0 hx hby hml hown hZ e0 hret hlk hnm hnamed
  replace hown : s.vm.findClass "com/example/earnest_key/earnestkey/Outcome" = some m.cls := hown
  replace hml : c.maxLocals = 1 := hml
  have ef : entryFrame m #[(.ref o)] 1 = mkF m 0 #[.val (.ref o)] [] := by first | (simp [entryFrame, mkF, argsToLocals, Value.category]; done) | rfl
  rw [ef]
  refine own_st (T' := T0) (g' := (mkF m 1 #[.val (.ref o)] [(.ref o)])) (fun _ k => XS.aloadN X0.here hx rfl (hb hby own_d_prog_11_method_6_code_0) rfl rfl k) ?_
  obtain ⟨T1, X1, e1, st1⟩ := getF X0 hx hZ hown (host := "") (Or.inl (hw _ (List.mem_of_getElem? (i := 40) rfl))) Via.refl e0 F (g := (mkF m 1 #[.val (.ref o)] [(.ref o)])) rfl rfl (hb hby own_d_prog_11_method_6_code_1)
  refine own_st (T' := T1) (g' := (mkF m 4 #[.val (.ref o)] [(.int (1 : Int32))])) st1 ?_
  exact own_ret X1 hx hlk hret rfl (Or.inl ⟨rfl, Or.inr (Or.inl rfl), _, rfl⟩) (hb hby own_d_prog_11_method_6_code_4) (by decide) (by decide) ⟨rfl, rfl, e1⟩
set_option maxRecDepth 65536 in
set_option maxHeartbeats 40000000 in
theorem own_stat (l : Launch) (Z : State) (a0 : Array Value) (hw : ∀ d ∈ tables_1, d.before a0 Z = true) (h0 : Heap) (o r : Addr) (F : Fld Z h0 o "com/example/earnest_key/earnestkey/Outcome" "failure" "Z" (.int (1 : Int32))) (S : Sta Z h0 "com/example/earnest_key/earnestkey/RecordState" "FAILED" "Lcom/example/earnest_key/earnestkey/RecordState;" (.ref r)) :
    own_Pure l Z h0 [] ({ frames := 0, cells := 0, slots := 0, locals := 0 } : Room) (⟨"com/example/earnest_key/earnestkey/Outcome", "state", "()Lcom/example/earnest_key/earnestkey/RecordState;"⟩ : MethodName) prog_11_method_7_code 1 (some (.object "com/example/earnest_key/earnestkey/RecordState")) #[(.ref o)] (some (.ref r)) := by
  refine own_body (plainFor_of_name own_pn_1) ?_
  intro p e s m below meth c T0 X0 hx hby hml hown hZ e0 hret hlk hnm hnamed
  replace hown : s.vm.findClass "com/example/earnest_key/earnestkey/Outcome" = some m.cls := hown
  replace hml : c.maxLocals = 1 := hml
  have ef : entryFrame m #[(.ref o)] 1 = mkF m 0 #[.val (.ref o)] [] := by first | (simp [entryFrame, mkF, argsToLocals, Value.category]; done) | rfl
  rw [ef]
  refine own_st (T' := T0) (g' := (mkF m 1 #[.val (.ref o)] [(.ref o)])) (fun _ k => XS.aloadN X0.here hx rfl (hb hby own_d_prog_11_method_7_code_0) rfl rfl k) ?_
  obtain ⟨T1, X1, e1, st1⟩ := getF X0 hx hZ hown (host := "") (Or.inl (hw _ (List.mem_of_getElem? (i := 40) rfl))) Via.refl e0 F (g := (mkF m 1 #[.val (.ref o)] [(.ref o)])) rfl rfl (hb hby own_d_prog_11_method_7_code_1)
  refine own_st (T' := T1) (g' := (mkF m 4 #[.val (.ref o)] [(.int (1 : Int32))])) st1 ?_
  refine own_st (T' := T1) (g' := (mkF m 7 #[.val (.ref o)] [])) (fun _ k => XS.ifNo X1.here hx rfl (hb hby own_d_prog_11_method_7_code_4) rfl (by decide) k) ?_
  obtain ⟨T2, X2, e2, st2⟩ := getS2 X1 hx hZ hown (host := "") (Or.inl (hw _ (List.mem_of_getElem? (i := 63) rfl))) Via.refl e1 S (g := (mkF m 7 #[.val (.ref o)] [])) rfl (hb hby own_d_prog_11_method_7_code_7)
  refine own_st (T' := T2) (g' := (mkF m 10 #[.val (.ref o)] [(.ref r)])) st2 ?_
  refine own_st (T' := T2) (g' := (mkF m 16 #[.val (.ref o)] [(.ref r)])) (fun _ k => XS.goto X2.here hx rfl (pc0 := 10) (pc' := 16) rfl (hb hby own_d_prog_11_method_7_code_10) (by decide) (by decide) k) ?_
  exact own_ret X2 hx hlk hret rfl (Or.inr (Or.inr (Or.inr (Or.inr ⟨rfl, rfl, rfl⟩)))) (hb hby own_d_prog_11_method_7_code_16) (by decide) (by decide) ⟨rfl, rfl, e2⟩
set_option maxRecDepth 65536 in
set_option maxHeartbeats 40000000 in
theorem own_set_in (l : Launch) (Z : State) (a0 : Array Value) (hw : ∀ d ∈ tables_1, d.before a0 Z = true) (h0 : Heap)  (b0 : Addr) (kc : ClassId) (N j x : Int32) (hs : List (Int32 × Value)) (n0 : Nat) (g_b0 : n0 ≤ b0) (V_b0 : Arh Z h0 b0 kc .byte N hs [] (.int (0 : Int32))) (hj0 : ¬ j < (0 : Int32)) (hjN : j < N) :
    own_Met l Z h0 [] ({ frames := 0, cells := 0, slots := 0, locals := 0 } : Room) (⟨"com/example/earnest_key/earnestkey/OutcomeFailurePinLaw", "set", "([BII)V"⟩ : MethodName) method_3_code 3 none #[(.ref b0), (.int j), (.int x)] (fun v h L => v = none ∧ Fr n0 L ∧ Keep h0 h [b0] ∧ Arh Z h b0 kc .byte N ((j, (.int (x.toInt8.toInt32))) :: hs) [] (.int (0 : Int32))) := by
  refine own_body (plainFor_of_name own_pn_2) ?_
  intro p e s m below meth c T0 X0 hx hby hml hown hZ e0 hret hlk hnm hnamed
  replace hown : s.vm.findClass "com/example/earnest_key/earnestkey/OutcomeFailurePinLaw" = some m.cls := hown
  replace hml : c.maxLocals = 3 := hml
  have ef : entryFrame m #[(.ref b0), (.int j), (.int x)] 3 = mkF m 0 #[.val (.ref b0), .val (.int j), .val (.int x)] [] := by first | (simp [entryFrame, mkF, argsToLocals, Value.category]; done) | rfl
  rw [ef]
  have K0 := Keep.refl h0 [b0]
  have Nf := Fr.nil n0
  refine own_st (T' := T0) (g' := (mkF m 1 #[.val (.ref b0), .val (.int j), .val (.int x)] [(.int j)])) (fun _ k => XS.iloadN X0.here hx rfl (hb hby own_d_method_3_code_0) rfl k) ?_
  refine own_st (T' := T0) (g' := (mkF m 2 #[.val (.ref b0), .val (.int j), .val (.int x)] [(.ref b0), (.int j)])) (fun _ k => XS.aloadN X0.here hx rfl (hb hby own_d_method_3_code_1) rfl rfl k) ?_
  have V1 := V_b0
  obtain ⟨cl1, Ar1, qk1, Sz1, Nn1, Hh1, Gg1⟩ := V1
  refine own_st (T' := T0) (g' := (mkF m 3 #[.val (.ref b0), .val (.int j), .val (.int x)] [(.int cl1.slots.size.toInt32), (.int j)])) (fun _ k => X0.arraylength hx (own_he e0 Ar1.1) (State.isArrayOf_alike hZ.alike Ar1.2.1) (g := (mkF m 2 #[.val (.ref b0), .val (.int j), .val (.int x)] [(.ref b0), (.int j)])) rfl rfl (hb hby own_d_method_3_code_2) _ k) ?_
  rw [len_of Sz1 Nn1]
  refine own_st (T' := T0) (g' := (mkF m 6 #[.val (.ref b0), .val (.int j), .val (.int x)] [])) (fun _ k => XS.icmpNo X0.here hx rfl (hb hby own_d_method_3_code_3) rfl (tlt hjN).2.1 k) ?_
  refine own_st (T' := T0) (g' := (mkF m 7 #[.val (.ref b0), .val (.int j), .val (.int x)] [(.ref b0)])) (fun _ k => XS.aloadN X0.here hx rfl (hb hby own_d_method_3_code_6) rfl rfl k) ?_
  refine own_st (T' := T0) (g' := (mkF m 8 #[.val (.ref b0), .val (.int j), .val (.int x)] [(.int j), (.ref b0)])) (fun _ k => XS.iloadN X0.here hx rfl (hb hby own_d_method_3_code_7) rfl k) ?_
  refine own_st (T' := T0) (g' := (mkF m 9 #[.val (.ref b0), .val (.int j), .val (.int x)] [(.int x), (.int j), (.ref b0)])) (fun _ k => XS.iloadN X0.here hx rfl (hb hby own_d_method_3_code_8) rfl k) ?_
  refine own_st (T' := T0) (g' := (mkF m 10 #[.val (.ref b0), .val (.int j), .val (.int x)] [(.int (x.toInt8.toInt32)), (.int j), (.ref b0)])) (fun _ k => XS.i2b X0.here hx rfl (hb hby own_d_method_3_code_9) rfl k) ?_
  have V2 := V_b0
  obtain ⟨cl2, Ar2, qk2, Sz2, Nn2, Hh2, Gg2⟩ := V2
  have hin3 : ¬ (j < 0 ∨ cl2.slots.size ≤ (j).toNatClampNeg) := inb_of Sz2 ⟨hj0, hjN⟩
  obtain ⟨T3, h3, X3, e3, W3, st3⟩ := stB X0 hx hZ e0 Ar2 (j := j) hin3 (g := (mkF m 10 #[.val (.ref b0), .val (.int j), .val (.int x)] [(.int (x.toInt8.toInt32)), (.int j), (.ref b0)])) rfl rfl (hb hby own_d_method_3_code_10)
  have K0 := K0.wr W3 (Or.inl (List.mem_of_getElem? (i := 0) rfl))
  have V_b0 : Arh Z h3 b0 kc .byte N ((j, (.int ((x.toInt8.toInt32).toInt8.toInt32))) :: hs) [] (.int (0 : Int32)) := Arh.push Ar2 qk2 Sz2 Nn2 Hh2 Gg2 (fits_nar_byte _) W3 hin3
  rw [own_i8] at V_b0
  have Nf := Fr.snoc X3 Nf g_b0
  refine own_st (T' := T3) (g' := (mkF m 11 #[.val (.ref b0), .val (.int j), .val (.int x)] [])) st3 ?_
  exact own_retV X3 hx hlk hret (hb hby own_d_method_3_code_11) (by decide) (by decide) (by rw [e3]; exact ⟨rfl, Nf, K0, V_b0⟩)
set_option maxRecDepth 65536 in
set_option maxHeartbeats 40000000 in
theorem own_set_out (l : Launch) (Z : State) (a0 : Array Value) (hw : ∀ d ∈ tables_1, d.before a0 Z = true) (h0 : Heap)  (b0 : Addr) (kc : ClassId) (N j x : Int32) (hs : List (Int32 × Value)) (n0 : Nat) (g_b0 : n0 ≤ b0) (V_b0 : Arh Z h0 b0 kc .byte N hs [] (.int (0 : Int32))) (hj0 : ¬ j < (0 : Int32)) (hjN : ¬ j < N) :
    own_Met l Z h0 [] ({ frames := 0, cells := 0, slots := 0, locals := 0 } : Room) (⟨"com/example/earnest_key/earnestkey/OutcomeFailurePinLaw", "set", "([BII)V"⟩ : MethodName) method_3_code 3 none #[(.ref b0), (.int j), (.int x)] (fun v h L => v = none ∧ L = [] ∧ h = h0) := by
  refine own_body (plainFor_of_name own_pn_2) ?_
  intro p e s m below meth c T0 X0 hx hby hml hown hZ e0 hret hlk hnm hnamed
  replace hown : s.vm.findClass "com/example/earnest_key/earnestkey/OutcomeFailurePinLaw" = some m.cls := hown
  replace hml : c.maxLocals = 3 := hml
  have ef : entryFrame m #[(.ref b0), (.int j), (.int x)] 3 = mkF m 0 #[.val (.ref b0), .val (.int j), .val (.int x)] [] := by first | (simp [entryFrame, mkF, argsToLocals, Value.category]; done) | rfl
  rw [ef]
  have Nf := Fr.nil 0
  refine own_st (T' := T0) (g' := (mkF m 1 #[.val (.ref b0), .val (.int j), .val (.int x)] [(.int j)])) (fun _ k => XS.iloadN X0.here hx rfl (hb hby own_d_method_3_code_0) rfl k) ?_
  refine own_st (T' := T0) (g' := (mkF m 2 #[.val (.ref b0), .val (.int j), .val (.int x)] [(.ref b0), (.int j)])) (fun _ k => XS.aloadN X0.here hx rfl (hb hby own_d_method_3_code_1) rfl rfl k) ?_
  have V1 := V_b0
  obtain ⟨cl1, Ar1, qk1, Sz1, Nn1, Hh1, Gg1⟩ := V1
  refine own_st (T' := T0) (g' := (mkF m 3 #[.val (.ref b0), .val (.int j), .val (.int x)] [(.int cl1.slots.size.toInt32), (.int j)])) (fun _ k => X0.arraylength hx (own_he e0 Ar1.1) (State.isArrayOf_alike hZ.alike Ar1.2.1) (g := (mkF m 2 #[.val (.ref b0), .val (.int j), .val (.int x)] [(.ref b0), (.int j)])) rfl rfl (hb hby own_d_method_3_code_2) _ k) ?_
  rw [len_of Sz1 Nn1]
  refine own_st (T' := T0) (g' := (mkF m 11 #[.val (.ref b0), .val (.int j), .val (.int x)] [])) (fun _ k => XS.icmpYes X0.here hx rfl (pc0 := 3) (pc' := 11) rfl (hb hby own_d_method_3_code_3) rfl (flt hjN).2.1 (by decide) (by decide) k) ?_
  exact own_retV X0 hx hlk hret (hb hby own_d_method_3_code_11) (by decide) (by decide) ⟨rfl, rfl, e0⟩
set_option maxRecDepth 65536 in
set_option maxHeartbeats 40000000 in
theorem own_bump_in (l : Launch) (Z : State) (a0 : Array Value) (hw : ∀ d ∈ tables_1, d.before a0 Z = true) (h0 : Heap)  (b0 : Addr) (kc : ClassId) (N j x : Int32) (hs : List (Int32 × Value)) (n0 : Nat) (g_b0 : n0 ≤ b0) (V_b0 : Arh Z h0 b0 kc .byte N hs [] (.int (0 : Int32))) (hj0 : ¬ j < (0 : Int32)) (hjN : j < N) :
    own_Met l Z h0 [] ({ frames := 0, cells := 0, slots := 0, locals := 0 } : Room) (⟨"com/example/earnest_key/earnestkey/OutcomeFailurePinLaw", "bump", "([BI)V"⟩ : MethodName) method_4_code 2 none #[(.ref b0), (.int j)] (fun v h L => v = none ∧ Fr n0 L ∧ Keep h0 h [b0] ∧ ∃ hs', Arh Z h b0 kc .byte N hs' [] (.int (0 : Int32))) := by
  refine own_body (plainFor_of_name own_pn_2) ?_
  intro p e s m below meth c T0 X0 hx hby hml hown hZ e0 hret hlk hnm hnamed
  replace hown : s.vm.findClass "com/example/earnest_key/earnestkey/OutcomeFailurePinLaw" = some m.cls := hown
  replace hml : c.maxLocals = 2 := hml
  have ef : entryFrame m #[(.ref b0), (.int j)] 2 = mkF m 0 #[.val (.ref b0), .val (.int j)] [] := by first | (simp [entryFrame, mkF, argsToLocals, Value.category]; done) | rfl
  rw [ef]
  have K0 := Keep.refl h0 [b0]
  have Nf := Fr.nil n0
  refine own_st (T' := T0) (g' := (mkF m 1 #[.val (.ref b0), .val (.int j)] [(.int j)])) (fun _ k => XS.iloadN X0.here hx rfl (hb hby own_d_method_4_code_0) rfl k) ?_
  refine own_st (T' := T0) (g' := (mkF m 2 #[.val (.ref b0), .val (.int j)] [(.ref b0), (.int j)])) (fun _ k => XS.aloadN X0.here hx rfl (hb hby own_d_method_4_code_1) rfl rfl k) ?_
  have V1 := V_b0
  obtain ⟨cl1, Ar1, qk1, Sz1, Nn1, Hh1, Gg1⟩ := V1
  refine own_st (T' := T0) (g' := (mkF m 3 #[.val (.ref b0), .val (.int j)] [(.int cl1.slots.size.toInt32), (.int j)])) (fun _ k => X0.arraylength hx (own_he e0 Ar1.1) (State.isArrayOf_alike hZ.alike Ar1.2.1) (g := (mkF m 2 #[.val (.ref b0), .val (.int j)] [(.ref b0), (.int j)])) rfl rfl (hb hby own_d_method_4_code_2) _ k) ?_
  rw [len_of Sz1 Nn1]
  refine own_st (T' := T0) (g' := (mkF m 6 #[.val (.ref b0), .val (.int j)] [])) (fun _ k => XS.icmpNo X0.here hx rfl (hb hby own_d_method_4_code_3) rfl (tlt hjN).2.1 k) ?_
  refine own_st (T' := T0) (g' := (mkF m 7 #[.val (.ref b0), .val (.int j)] [(.ref b0)])) (fun _ k => XS.aloadN X0.here hx rfl (hb hby own_d_method_4_code_6) rfl rfl k) ?_
  refine own_st (T' := T0) (g' := (mkF m 8 #[.val (.ref b0), .val (.int j)] [(.int j), (.ref b0)])) (fun _ k => XS.iloadN X0.here hx rfl (hb hby own_d_method_4_code_7) rfl k) ?_
  refine own_st (T' := T0) (g' := (mkF m 9 #[.val (.ref b0), .val (.int j)] [(.ref b0), (.int j), (.ref b0)])) (fun _ k => XS.aloadN X0.here hx rfl (hb hby own_d_method_4_code_8) rfl rfl k) ?_
  refine own_st (T' := T0) (g' := (mkF m 10 #[.val (.ref b0), .val (.int j)] [(.int j), (.ref b0), (.int j), (.ref b0)])) (fun _ k => XS.iloadN X0.here hx rfl (hb hby own_d_method_4_code_9) rfl k) ?_
  have V2 := V_b0
  obtain ⟨cl2, Ar2, qk2, Sz2, Nn2, Hh2, Gg2⟩ := V2
  have hin3 : ¬ (j < 0 ∨ cl2.slots.size ≤ (j).toNatClampNeg) := inb_of Sz2 ⟨hj0, hjN⟩
  obtain ⟨w3, hw3⟩ := own_fitb Gg2 hin3
  refine own_st (T' := T0) (g' := (mkF m 11 #[.val (.ref b0), .val (.int j)] [(.int w3), (.int j), (.ref b0)])) (fun _ k => X0.baloadBytes hx (j := j) (v := (.int w3)) (own_he e0 Ar2.1) (State.isArrayOf_alike hZ.alike Ar2.2.1) Ar2.2.2 hin3 (atH Hh2 hin3 hw3) (g := (mkF m 10 #[.val (.ref b0), .val (.int j)] [(.int j), (.ref b0), (.int j), (.ref b0)])) rfl rfl (hb hby own_d_method_4_code_10) _ k) ?_
  refine own_st (T' := T0) (g' := (mkF m 12 #[.val (.ref b0), .val (.int j)] [(.int (1 : Int32)), (.int w3), (.int j), (.ref b0)])) (fun _ k => XS.iconst X0.here hx rfl (hb hby own_d_method_4_code_11) k) ?_
  refine own_st (T' := T0) (g' := (mkF m 13 #[.val (.ref b0), .val (.int j)] [(.int (w3 + (1 : Int32))), (.int j), (.ref b0)])) (fun _ k => XS.iadd X0.here hx rfl (hb hby own_d_method_4_code_12) rfl k) ?_
  refine own_st (T' := T0) (g' := (mkF m 14 #[.val (.ref b0), .val (.int j)] [(.int ((w3 + (1 : Int32)).toInt8.toInt32)), (.int j), (.ref b0)])) (fun _ k => XS.i2b X0.here hx rfl (hb hby own_d_method_4_code_13) rfl k) ?_
  have V4 := V_b0
  obtain ⟨cl4, Ar4, qk4, Sz4, Nn4, Hh4, Gg4⟩ := V4
  have hin5 : ¬ (j < 0 ∨ cl4.slots.size ≤ (j).toNatClampNeg) := inb_of Sz4 ⟨hj0, hjN⟩
  obtain ⟨T5, h5, X5, e5, W5, st5⟩ := stB X0 hx hZ e0 Ar4 (j := j) hin5 (g := (mkF m 14 #[.val (.ref b0), .val (.int j)] [(.int ((w3 + (1 : Int32)).toInt8.toInt32)), (.int j), (.ref b0)])) rfl rfl (hb hby own_d_method_4_code_14)
  have K0 := K0.wr W5 (Or.inl (List.mem_of_getElem? (i := 0) rfl))
  have V_b0 : Arh Z h5 b0 kc .byte N ((j, (.int (((w3 + (1 : Int32)).toInt8.toInt32).toInt8.toInt32))) :: hs) [] (.int (0 : Int32)) := Arh.push Ar4 qk4 Sz4 Nn4 Hh4 Gg4 (fits_nar_byte _) W5 hin5
  rw [own_i8] at V_b0
  have Nf := Fr.snoc X5 Nf g_b0
  refine own_st (T' := T5) (g' := (mkF m 15 #[.val (.ref b0), .val (.int j)] [])) st5 ?_
  exact own_retV X5 hx hlk hret (hb hby own_d_method_4_code_15) (by decide) (by decide) (by rw [e5]; exact ⟨rfl, Nf, K0, _, V_b0⟩)
set_option maxRecDepth 65536 in
set_option maxHeartbeats 40000000 in
theorem own_bump_out (l : Launch) (Z : State) (a0 : Array Value) (hw : ∀ d ∈ tables_1, d.before a0 Z = true) (h0 : Heap)  (b0 : Addr) (kc : ClassId) (N j x : Int32) (hs : List (Int32 × Value)) (n0 : Nat) (g_b0 : n0 ≤ b0) (V_b0 : Arh Z h0 b0 kc .byte N hs [] (.int (0 : Int32))) (hj0 : ¬ j < (0 : Int32)) (hjN : ¬ j < N) :
    own_Met l Z h0 [] ({ frames := 0, cells := 0, slots := 0, locals := 0 } : Room) (⟨"com/example/earnest_key/earnestkey/OutcomeFailurePinLaw", "bump", "([BI)V"⟩ : MethodName) method_4_code 2 none #[(.ref b0), (.int j)] (fun v h L => v = none ∧ L = [] ∧ h = h0) := by
  refine own_body (plainFor_of_name own_pn_2) ?_
  intro p e s m below meth c T0 X0 hx hby hml hown hZ e0 hret hlk hnm hnamed
  replace hown : s.vm.findClass "com/example/earnest_key/earnestkey/OutcomeFailurePinLaw" = some m.cls := hown
  replace hml : c.maxLocals = 2 := hml
  have ef : entryFrame m #[(.ref b0), (.int j)] 2 = mkF m 0 #[.val (.ref b0), .val (.int j)] [] := by first | (simp [entryFrame, mkF, argsToLocals, Value.category]; done) | rfl
  rw [ef]
  have Nf := Fr.nil 0
  refine own_st (T' := T0) (g' := (mkF m 1 #[.val (.ref b0), .val (.int j)] [(.int j)])) (fun _ k => XS.iloadN X0.here hx rfl (hb hby own_d_method_4_code_0) rfl k) ?_
  refine own_st (T' := T0) (g' := (mkF m 2 #[.val (.ref b0), .val (.int j)] [(.ref b0), (.int j)])) (fun _ k => XS.aloadN X0.here hx rfl (hb hby own_d_method_4_code_1) rfl rfl k) ?_
  have V1 := V_b0
  obtain ⟨cl1, Ar1, qk1, Sz1, Nn1, Hh1, Gg1⟩ := V1
  refine own_st (T' := T0) (g' := (mkF m 3 #[.val (.ref b0), .val (.int j)] [(.int cl1.slots.size.toInt32), (.int j)])) (fun _ k => X0.arraylength hx (own_he e0 Ar1.1) (State.isArrayOf_alike hZ.alike Ar1.2.1) (g := (mkF m 2 #[.val (.ref b0), .val (.int j)] [(.ref b0), (.int j)])) rfl rfl (hb hby own_d_method_4_code_2) _ k) ?_
  rw [len_of Sz1 Nn1]
  refine own_st (T' := T0) (g' := (mkF m 15 #[.val (.ref b0), .val (.int j)] [])) (fun _ k => XS.icmpYes X0.here hx rfl (pc0 := 3) (pc' := 15) rfl (hb hby own_d_method_4_code_3) rfl (flt hjN).2.1 (by decide) (by decide) k) ?_
  exact own_retV X0 hx hlk hret (hb hby own_d_method_4_code_15) (by decide) (by decide) ⟨rfl, rfl, e0⟩
set_option maxRecDepth 65536 in
set_option maxHeartbeats 40000000 in
theorem own_at_in (l : Launch) (Z : State) (a0 : Array Value) (hw : ∀ d ∈ tables_1, d.before a0 Z = true) (h0 : Heap)  (b0 : Addr) (kc : ClassId) (N j x : Int32) (hs : List (Int32 × Value)) (n0 : Nat) (g_b0 : n0 ≤ b0) (V_b0 : Arh Z h0 b0 kc .byte N hs [] (.int (0 : Int32))) (hj0 : ¬ j < (0 : Int32)) (hjN : j < N) (hat : getH hs [] (.int (0 : Int32)) j.toNatClampNeg = .int (x.toInt8.toInt32)) :
    own_Met l Z h0 [] ({ frames := 0, cells := 0, slots := 0, locals := 0 } : Room) (⟨"com/example/earnest_key/earnestkey/OutcomeFailurePinLaw", "at", "([BII)Z"⟩ : MethodName) method_5_code 3 (some .boolean) #[(.ref b0), (.int j), (.int x)] (fun v h L => v = some (.int (1 : Int32)) ∧ L = [] ∧ h = h0) := by
  refine own_body (plainFor_of_name own_pn_2) ?_
  intro p e s m below meth c T0 X0 hx hby hml hown hZ e0 hret hlk hnm hnamed
  replace hown : s.vm.findClass "com/example/earnest_key/earnestkey/OutcomeFailurePinLaw" = some m.cls := hown
  replace hml : c.maxLocals = 3 := hml
  have ef : entryFrame m #[(.ref b0), (.int j), (.int x)] 3 = mkF m 0 #[.val (.ref b0), .val (.int j), .val (.int x)] [] := by first | (simp [entryFrame, mkF, argsToLocals, Value.category]; done) | rfl
  rw [ef]
  have Nf := Fr.nil 0
  refine own_st (T' := T0) (g' := (mkF m 1 #[.val (.ref b0), .val (.int j), .val (.int x)] [(.int j)])) (fun _ k => XS.iloadN X0.here hx rfl (hb hby own_d_method_5_code_0) rfl k) ?_
  refine own_st (T' := T0) (g' := (mkF m 2 #[.val (.ref b0), .val (.int j), .val (.int x)] [(.ref b0), (.int j)])) (fun _ k => XS.aloadN X0.here hx rfl (hb hby own_d_method_5_code_1) rfl rfl k) ?_
  have V1 := V_b0
  obtain ⟨cl1, Ar1, qk1, Sz1, Nn1, Hh1, Gg1⟩ := V1
  refine own_st (T' := T0) (g' := (mkF m 3 #[.val (.ref b0), .val (.int j), .val (.int x)] [(.int cl1.slots.size.toInt32), (.int j)])) (fun _ k => X0.arraylength hx (own_he e0 Ar1.1) (State.isArrayOf_alike hZ.alike Ar1.2.1) (g := (mkF m 2 #[.val (.ref b0), .val (.int j), .val (.int x)] [(.ref b0), (.int j)])) rfl rfl (hb hby own_d_method_5_code_2) _ k) ?_
  rw [len_of Sz1 Nn1]
  refine own_st (T' := T0) (g' := (mkF m 6 #[.val (.ref b0), .val (.int j), .val (.int x)] [])) (fun _ k => XS.icmpNo X0.here hx rfl (hb hby own_d_method_5_code_3) rfl (tlt hjN).2.1 k) ?_
  refine own_st (T' := T0) (g' := (mkF m 7 #[.val (.ref b0), .val (.int j), .val (.int x)] [(.ref b0)])) (fun _ k => XS.aloadN X0.here hx rfl (hb hby own_d_method_5_code_6) rfl rfl k) ?_
  refine own_st (T' := T0) (g' := (mkF m 8 #[.val (.ref b0), .val (.int j), .val (.int x)] [(.int j), (.ref b0)])) (fun _ k => XS.iloadN X0.here hx rfl (hb hby own_d_method_5_code_7) rfl k) ?_
  have V2 := V_b0
  obtain ⟨cl2, Ar2, qk2, Sz2, Nn2, Hh2, Gg2⟩ := V2
  have hin3 : ¬ (j < 0 ∨ cl2.slots.size ≤ (j).toNatClampNeg) := inb_of Sz2 ⟨hj0, hjN⟩
  refine own_st (T' := T0) (g' := (mkF m 9 #[.val (.ref b0), .val (.int j), .val (.int x)] [(.int (x.toInt8.toInt32))])) (fun _ k => X0.baloadBytes hx (j := j) (v := (.int (x.toInt8.toInt32))) (own_he e0 Ar2.1) (State.isArrayOf_alike hZ.alike Ar2.2.1) Ar2.2.2 hin3 (atH Hh2 hin3 hat) (g := (mkF m 8 #[.val (.ref b0), .val (.int j), .val (.int x)] [(.int j), (.ref b0)])) rfl rfl (hb hby own_d_method_5_code_8) _ k) ?_
  refine own_st (T' := T0) (g' := (mkF m 10 #[.val (.ref b0), .val (.int j), .val (.int x)] [(.int x), (.int (x.toInt8.toInt32))])) (fun _ k => XS.iloadN X0.here hx rfl (hb hby own_d_method_5_code_9) rfl k) ?_
  refine own_st (T' := T0) (g' := (mkF m 11 #[.val (.ref b0), .val (.int j), .val (.int x)] [(.int (x.toInt8.toInt32)), (.int (x.toInt8.toInt32))])) (fun _ k => XS.i2b X0.here hx rfl (hb hby own_d_method_5_code_10) rfl k) ?_
  refine own_st (T' := T0) (g' := (mkF m 14 #[.val (.ref b0), .val (.int j), .val (.int x)] [])) (fun _ k => XS.icmpNo X0.here hx rfl (hb hby own_d_method_5_code_11) rfl (teq rfl).2 k) ?_
  refine own_st (T' := T0) (g' := (mkF m 15 #[.val (.ref b0), .val (.int j), .val (.int x)] [(.int (1 : Int32))])) (fun _ k => XS.iconst X0.here hx rfl (hb hby own_d_method_5_code_14) k) ?_
  refine own_st (T' := T0) (g' := (mkF m 19 #[.val (.ref b0), .val (.int j), .val (.int x)] [(.int (1 : Int32))])) (fun _ k => XS.goto X0.here hx rfl (pc0 := 15) (pc' := 19) rfl (hb hby own_d_method_5_code_15) (by decide) (by decide) k) ?_
  exact own_ret X0 hx hlk hret rfl (Or.inl ⟨rfl, Or.inr (Or.inl rfl), _, rfl⟩) (hb hby own_d_method_5_code_19) (by decide) (by decide) ⟨rfl, rfl, e0⟩
set_option maxRecDepth 65536 in
set_option maxHeartbeats 40000000 in
theorem own_at_out (l : Launch) (Z : State) (a0 : Array Value) (hw : ∀ d ∈ tables_1, d.before a0 Z = true) (h0 : Heap)  (b0 : Addr) (kc : ClassId) (N j x : Int32) (hs : List (Int32 × Value)) (n0 : Nat) (g_b0 : n0 ≤ b0) (V_b0 : Arh Z h0 b0 kc .byte N hs [] (.int (0 : Int32))) (hj0 : ¬ j < (0 : Int32)) (hjN : ¬ j < N) :
    own_Met l Z h0 [] ({ frames := 0, cells := 0, slots := 0, locals := 0 } : Room) (⟨"com/example/earnest_key/earnestkey/OutcomeFailurePinLaw", "at", "([BII)Z"⟩ : MethodName) method_5_code 3 (some .boolean) #[(.ref b0), (.int j), (.int x)] (fun v h L => v = some (.int (1 : Int32)) ∧ L = [] ∧ h = h0) := by
  refine own_body (plainFor_of_name own_pn_2) ?_
  intro p e s m below meth c T0 X0 hx hby hml hown hZ e0 hret hlk hnm hnamed
  replace hown : s.vm.findClass "com/example/earnest_key/earnestkey/OutcomeFailurePinLaw" = some m.cls := hown
  replace hml : c.maxLocals = 3 := hml
  have ef : entryFrame m #[(.ref b0), (.int j), (.int x)] 3 = mkF m 0 #[.val (.ref b0), .val (.int j), .val (.int x)] [] := by first | (simp [entryFrame, mkF, argsToLocals, Value.category]; done) | rfl
  rw [ef]
  have Nf := Fr.nil 0
  refine own_st (T' := T0) (g' := (mkF m 1 #[.val (.ref b0), .val (.int j), .val (.int x)] [(.int j)])) (fun _ k => XS.iloadN X0.here hx rfl (hb hby own_d_method_5_code_0) rfl k) ?_
  refine own_st (T' := T0) (g' := (mkF m 2 #[.val (.ref b0), .val (.int j), .val (.int x)] [(.ref b0), (.int j)])) (fun _ k => XS.aloadN X0.here hx rfl (hb hby own_d_method_5_code_1) rfl rfl k) ?_
  have V1 := V_b0
  obtain ⟨cl1, Ar1, qk1, Sz1, Nn1, Hh1, Gg1⟩ := V1
  refine own_st (T' := T0) (g' := (mkF m 3 #[.val (.ref b0), .val (.int j), .val (.int x)] [(.int cl1.slots.size.toInt32), (.int j)])) (fun _ k => X0.arraylength hx (own_he e0 Ar1.1) (State.isArrayOf_alike hZ.alike Ar1.2.1) (g := (mkF m 2 #[.val (.ref b0), .val (.int j), .val (.int x)] [(.ref b0), (.int j)])) rfl rfl (hb hby own_d_method_5_code_2) _ k) ?_
  rw [len_of Sz1 Nn1]
  refine own_st (T' := T0) (g' := (mkF m 14 #[.val (.ref b0), .val (.int j), .val (.int x)] [])) (fun _ k => XS.icmpYes X0.here hx rfl (pc0 := 3) (pc' := 14) rfl (hb hby own_d_method_5_code_3) rfl (flt hjN).2.1 (by decide) (by decide) k) ?_
  refine own_st (T' := T0) (g' := (mkF m 15 #[.val (.ref b0), .val (.int j), .val (.int x)] [(.int (1 : Int32))])) (fun _ k => XS.iconst X0.here hx rfl (hb hby own_d_method_5_code_14) k) ?_
  refine own_st (T' := T0) (g' := (mkF m 19 #[.val (.ref b0), .val (.int j), .val (.int x)] [(.int (1 : Int32))])) (fun _ k => XS.goto X0.here hx rfl (pc0 := 15) (pc' := 19) rfl (hb hby own_d_method_5_code_15) (by decide) (by decide) k) ?_
  exact own_ret X0 hx hlk hret rfl (Or.inl ⟨rfl, Or.inr (Or.inl rfl), _, rfl⟩) (hb hby own_d_method_5_code_19) (by decide) (by decide) ⟨rfl, rfl, e0⟩
set_option maxRecDepth 65536 in
set_option maxHeartbeats 40000000 in
theorem own_lawP (l : Launch) (Z : State) (a0 : Array Value) (hw : ∀ d ∈ tables_1, d.before a0 Z = true) (h0 : Heap) (a_FAILED : Addr) (S_FAILED : Sta Z h0 "com/example/earnest_key/earnestkey/RecordState" "FAILED" "Lcom/example/earnest_key/earnestkey/RecordState;" (.ref a_FAILED)) (E_FAILED : Exa Z h0 a_FAILED "com/example/earnest_key/earnestkey/RecordState") (i : Int32) (xa : Int32) (xb : Int32) (xc : Int32) (xd : Int32)  :
    own_MetW l Z h0 tables_1 room_1 x code maxLocals ret #[(.int i), (.int xa), (.int xb), (.int xc), (.int xd)] (fun v h L => v = some (.int (1 : Int32)) ∧ Fr h0.size L) := by
  refine own_bodyW (plainFor_of_name own_pn_2) ?_
  intro p e s m below meth c T0 vm0 k0 X0 hS hk hx hby hml hown hZ e0 hret hlk hnm hnamed
  replace hown : (s.setVm vm0).vm.findClass "com/example/earnest_key/earnestkey/OutcomeFailurePinLaw" = some m.cls := hown
  replace hml : c.maxLocals = 10 := hml
  have ef : entryFrame m #[(.int i), (.int xa), (.int xb), (.int xc), (.int xd)] maxLocals = mkF m 0 #[.val (.int i), .val (.int xa), .val (.int xb), .val (.int xc), .val (.int xd), .unset, .unset, .unset, .unset, .unset] [] := by first | (simp [entryFrame, mkF, argsToLocals, Value.category, maxLocals]; done) | rfl
  rw [ef]
  have E0 := own_ext_rf h0
  have Nf := Fr.nil h0.size
  refine own_st (T' := T0) (g' := (mkF m 1 #[.val (.int i), .val (.int xa), .val (.int xb), .val (.int xc), .val (.int xd), .unset, .unset, .unset, .unset, .unset] [(.int i)])) (fun _ k => XS.iloadN X0.here hx rfl (hb hby at_0) rfl k) ?_
  refine own_st (T' := T0) (g' := (mkF m 3 #[.val (.int i), .val (.int xa), .val (.int xb), .val (.int xc), .val (.int xd), .unset, .unset, .unset, .unset, .unset] [(.int (2147483647 : Int32)), (.int i)])) (fun _ k => X0.ldcInt hx hown (mvT hZ (hw _ (List.mem_of_getElem? (i := 0) rfl))) (g := (mkF m 1 #[.val (.int i), .val (.int xa), .val (.int xb), .val (.int xc), .val (.int xd), .unset, .unset, .unset, .unset, .unset] [(.int i)])) rfl (hb hby at_1) _ k) ?_
  refine own_st (T' := T0) (g' := (mkF m 4 #[.val (.int i), .val (.int xa), .val (.int xb), .val (.int xc), .val (.int xd), .unset, .unset, .unset, .unset, .unset] [(.int (i &&& (2147483647 : Int32)))])) (fun _ k => XS.iand X0.here hx rfl (hb hby at_3) rfl k) ?_
  refine own_st (T' := T0) (g' := (mkF m 5 #[.val (.int i), .val (.int xa), .val (.int xb), .val (.int xc), .val (.int xd), .unset, .unset, .unset, .unset, .unset] [(.int (5 : Int32)), (.int (i &&& (2147483647 : Int32)))])) (fun _ k => XS.iconst X0.here hx rfl (hb hby at_4) k) ?_
  refine own_st (T' := T0) (g' := (mkF m 6 #[.val (.int i), .val (.int xa), .val (.int xb), .val (.int xc), .val (.int xd), .unset, .unset, .unset, .unset, .unset] [(.int ((i &&& (2147483647 : Int32)) % (5 : Int32)))])) (fun _ k => iremM X0 hx (g := (mkF m 5 #[.val (.int i), .val (.int xa), .val (.int xb), .val (.int xc), .val (.int xd), .unset, .unset, .unset, .unset, .unset] [(.int (5 : Int32)), (.int (i &&& (2147483647 : Int32)))])) rfl (hb hby at_5) rfl (by decide) k) ?_
  have hE := own_mod i
  rcases hE with hE | hE | hE | hE | hE
  ·
    rw [hE]
    refine own_st (T' := T0) (g' := (mkF m 8 #[.val (.int i), .val (.int xa), .val (.int xb), .val (.int xc), .val (.int xd), .val (.int (0 : Int32)), .unset, .unset, .unset, .unset] [])) (fun _ k => XS.istore X0.here hx rfl (hb hby at_6) rfl (l' := #[.val (.int i), .val (.int xa), .val (.int xb), .val (.int xc), .val (.int xd), .val (.int (0 : Int32)), .unset, .unset, .unset, .unset]) rfl k) ?_
    refine own_st (T' := T0) (g' := (mkF m 10 #[.val (.int i), .val (.int xa), .val (.int xb), .val (.int xc), .val (.int xd), .val (.int (0 : Int32)), .unset, .unset, .unset, .unset] [(.int (0 : Int32))])) (fun _ k => XS.iload X0.here hx rfl (hb hby at_8) rfl k) ?_
    obtain ⟨T1, h1, k1, X1, e1, E1, A1, Q1, st1⟩ := newPE X0 hx hZ (hw _ (List.mem_of_getElem? (i := 1) rfl)) e0 (g := (mkF m 10 #[.val (.int i), .val (.int xa), .val (.int xb), .val (.int xc), .val (.int xd), .val (.int (0 : Int32)), .unset, .unset, .unset, .unset] [(.int (0 : Int32))])) rfl (hb hby at_10) rfl (by decide) (cap := 0) (by decide) (by decide) (by decide) (by decide) (ad := "[B") rfl
    obtain ⟨b1, gb_b1⟩ : ∃ z, z = h0.size := ⟨_, rfl⟩
    rw [← gb_b1] at A1 Q1 st1
    have g_b1 : h0.size ≤ b1 := Nat.le_trans E0.1 (Nat.le_of_eq gb_b1.symm)
    have E0 := own_ext_tr E0 E1
    have hk := Nat.le_trans hk E1.1
    have V_b1 : Arh Z h1 b1 k1 .byte (0 : Int32) [] [] (.int (0 : Int32)) := Arv.arh (Arv.new A1 (by decide))
    have E_b1 := Q1
    refine own_st (T' := T1) (g' := (mkF m 12 #[.val (.int i), .val (.int xa), .val (.int xb), .val (.int xc), .val (.int xd), .val (.int (0 : Int32)), .unset, .unset, .unset, .unset] [(.ref b1)])) st1 ?_
    refine own_st (T' := T1) (g' := (mkF m 14 #[.val (.int i), .val (.int xa), .val (.int xb), .val (.int xc), .val (.int xd), .val (.int (0 : Int32)), .val (.ref b1), .unset, .unset, .unset] [])) (fun _ k => XS.astore X1.here hx rfl (hb hby at_12) rfl rfl (l' := #[.val (.int i), .val (.int xa), .val (.int xb), .val (.int xc), .val (.int xd), .val (.int (0 : Int32)), .val (.ref b1), .unset, .unset, .unset]) rfl k) ?_
    refine own_st (T' := T1) (g' := (mkF m 16 #[.val (.int i), .val (.int xa), .val (.int xb), .val (.int xc), .val (.int xd), .val (.int (0 : Int32)), .val (.ref b1), .unset, .unset, .unset] [(.ref b1)])) (fun _ k => XS.aload X1.here hx rfl (hb hby at_14) rfl rfl k) ?_
    refine own_st (T' := T1) (g' := (mkF m 17 #[.val (.int i), .val (.int xa), .val (.int xb), .val (.int xc), .val (.int xd), .val (.int (0 : Int32)), .val (.ref b1), .unset, .unset, .unset] [(.int (0 : Int32)), (.ref b1)])) (fun _ k => XS.iconst X1.here hx rfl (hb hby at_16) k) ?_
    refine own_st (T' := T1) (g' := (mkF m 18 #[.val (.int i), .val (.int xa), .val (.int xb), .val (.int xc), .val (.int xd), .val (.int (0 : Int32)), .val (.ref b1), .unset, .unset, .unset] [(.int xa), (.int (0 : Int32)), (.ref b1)])) (fun _ k => XS.iloadN X1.here hx rfl (hb hby at_17) rfl k) ?_
    obtain ⟨v2, T2, L2, X2, hQ2, st2⟩ := own_gS X1  hx hZ hown (hw _ (List.mem_of_getElem? (i := 2) rfl)) (hw _ (List.mem_of_getElem? (i := 3) rfl)) (hw _ (List.mem_of_getElem? (i := 4) rfl)) (hw _ (List.mem_of_getElem? (i := 5) rfl)) (by decide) e1 (own_set_out l Z a0 hw h1 b1 k1 (0 : Int32) (0 : Int32) xa [] h0.size g_b1 V_b1 (by decide) (by decide)) (by decide) (by decide) (by decide) (by decide) (Q := (fun v h L => v = none ∧ L = [] ∧ h = h1)) (W := 0) (g := (mkF m 18 #[.val (.int i), .val (.int xa), .val (.int xb), .val (.int xc), .val (.int xd), .val (.int (0 : Int32)), .val (.ref b1), .unset, .unset, .unset] [(.int xa), (.int (0 : Int32)), (.ref b1)])) (argsL := [(.ref b1), (.int (0 : Int32)), (.int xa)]) (rest := []) rfl (by rw [hml]; rfl) (lenOf own_pd_2 rfl) rfl (by show 2 * 0 + _ ≤ _; exact Nat.le_of_eq rfl) (hb hby at_18)
    obtain ⟨rfl, rfl, hh2⟩ := hQ2
    rw [List.append_nil] at X2
    refine own_st (T' := T2) (g' := (mkF m 21 #[.val (.int i), .val (.int xa), .val (.int xb), .val (.int xc), .val (.int xd), .val (.int (0 : Int32)), .val (.ref b1), .unset, .unset, .unset] [])) st2 ?_
    refine own_st (T' := T2) (g' := (mkF m 23 #[.val (.int i), .val (.int xa), .val (.int xb), .val (.int xc), .val (.int xd), .val (.int (0 : Int32)), .val (.ref b1), .unset, .unset, .unset] [(.ref b1)])) (fun _ k => XS.aload X2.here hx rfl (hb hby at_21) rfl rfl k) ?_
    refine own_st (T' := T2) (g' := (mkF m 24 #[.val (.int i), .val (.int xa), .val (.int xb), .val (.int xc), .val (.int xd), .val (.int (0 : Int32)), .val (.ref b1), .unset, .unset, .unset] [(.int (1 : Int32)), (.ref b1)])) (fun _ k => XS.iconst X2.here hx rfl (hb hby at_23) k) ?_
    refine own_st (T' := T2) (g' := (mkF m 25 #[.val (.int i), .val (.int xa), .val (.int xb), .val (.int xc), .val (.int xd), .val (.int (0 : Int32)), .val (.ref b1), .unset, .unset, .unset] [(.int xb), (.int (1 : Int32)), (.ref b1)])) (fun _ k => XS.iloadN X2.here hx rfl (hb hby at_24) rfl k) ?_
    obtain ⟨v3, T3, L3, X3, hQ3, st3⟩ := own_gS X2  hx hZ hown (hw _ (List.mem_of_getElem? (i := 2) rfl)) (hw _ (List.mem_of_getElem? (i := 3) rfl)) (hw _ (List.mem_of_getElem? (i := 4) rfl)) (hw _ (List.mem_of_getElem? (i := 5) rfl)) (by decide) hh2 (own_set_out l Z a0 hw h1 b1 k1 (0 : Int32) (1 : Int32) xb [] h0.size g_b1 V_b1 (by decide) (by decide)) (by decide) (by decide) (by decide) (by decide) (Q := (fun v h L => v = none ∧ L = [] ∧ h = h1)) (W := 0) (g := (mkF m 25 #[.val (.int i), .val (.int xa), .val (.int xb), .val (.int xc), .val (.int xd), .val (.int (0 : Int32)), .val (.ref b1), .unset, .unset, .unset] [(.int xb), (.int (1 : Int32)), (.ref b1)])) (argsL := [(.ref b1), (.int (1 : Int32)), (.int xb)]) (rest := []) rfl (by rw [hml]; rfl) (lenOf own_pd_2 rfl) rfl (by show 2 * 0 + _ ≤ _; exact Nat.le_of_eq rfl) (hb hby at_25)
    obtain ⟨rfl, rfl, hh3⟩ := hQ3
    rw [List.append_nil] at X3
    refine own_st (T' := T3) (g' := (mkF m 28 #[.val (.int i), .val (.int xa), .val (.int xb), .val (.int xc), .val (.int xd), .val (.int (0 : Int32)), .val (.ref b1), .unset, .unset, .unset] [])) st3 ?_
    refine own_st (T' := T3) (g' := (mkF m 30 #[.val (.int i), .val (.int xa), .val (.int xb), .val (.int xc), .val (.int xd), .val (.int (0 : Int32)), .val (.ref b1), .unset, .unset, .unset] [(.ref b1)])) (fun _ k => XS.aload X3.here hx rfl (hb hby at_28) rfl rfl k) ?_
    refine own_st (T' := T3) (g' := (mkF m 31 #[.val (.int i), .val (.int xa), .val (.int xb), .val (.int xc), .val (.int xd), .val (.int (0 : Int32)), .val (.ref b1), .unset, .unset, .unset] [(.int (2 : Int32)), (.ref b1)])) (fun _ k => XS.iconst X3.here hx rfl (hb hby at_30) k) ?_
    refine own_st (T' := T3) (g' := (mkF m 32 #[.val (.int i), .val (.int xa), .val (.int xb), .val (.int xc), .val (.int xd), .val (.int (0 : Int32)), .val (.ref b1), .unset, .unset, .unset] [(.int xc), (.int (2 : Int32)), (.ref b1)])) (fun _ k => XS.iloadN X3.here hx rfl (hb hby at_31) rfl k) ?_
    obtain ⟨v4, T4, L4, X4, hQ4, st4⟩ := own_gS X3  hx hZ hown (hw _ (List.mem_of_getElem? (i := 2) rfl)) (hw _ (List.mem_of_getElem? (i := 3) rfl)) (hw _ (List.mem_of_getElem? (i := 4) rfl)) (hw _ (List.mem_of_getElem? (i := 5) rfl)) (by decide) hh3 (own_set_out l Z a0 hw h1 b1 k1 (0 : Int32) (2 : Int32) xc [] h0.size g_b1 V_b1 (by decide) (by decide)) (by decide) (by decide) (by decide) (by decide) (Q := (fun v h L => v = none ∧ L = [] ∧ h = h1)) (W := 0) (g := (mkF m 32 #[.val (.int i), .val (.int xa), .val (.int xb), .val (.int xc), .val (.int xd), .val (.int (0 : Int32)), .val (.ref b1), .unset, .unset, .unset] [(.int xc), (.int (2 : Int32)), (.ref b1)])) (argsL := [(.ref b1), (.int (2 : Int32)), (.int xc)]) (rest := []) rfl (by rw [hml]; rfl) (lenOf own_pd_2 rfl) rfl (by show 2 * 0 + _ ≤ _; exact Nat.le_of_eq rfl) (hb hby at_32)
    obtain ⟨rfl, rfl, hh4⟩ := hQ4
    rw [List.append_nil] at X4
    refine own_st (T' := T4) (g' := (mkF m 35 #[.val (.int i), .val (.int xa), .val (.int xb), .val (.int xc), .val (.int xd), .val (.int (0 : Int32)), .val (.ref b1), .unset, .unset, .unset] [])) st4 ?_
    refine own_st (T' := T4) (g' := (mkF m 37 #[.val (.int i), .val (.int xa), .val (.int xb), .val (.int xc), .val (.int xd), .val (.int (0 : Int32)), .val (.ref b1), .unset, .unset, .unset] [(.ref b1)])) (fun _ k => XS.aload X4.here hx rfl (hb hby at_35) rfl rfl k) ?_
    refine own_st (T' := T4) (g' := (mkF m 38 #[.val (.int i), .val (.int xa), .val (.int xb), .val (.int xc), .val (.int xd), .val (.int (0 : Int32)), .val (.ref b1), .unset, .unset, .unset] [(.int (3 : Int32)), (.ref b1)])) (fun _ k => XS.iconst X4.here hx rfl (hb hby at_37) k) ?_
    refine own_st (T' := T4) (g' := (mkF m 40 #[.val (.int i), .val (.int xa), .val (.int xb), .val (.int xc), .val (.int xd), .val (.int (0 : Int32)), .val (.ref b1), .unset, .unset, .unset] [(.int xd), (.int (3 : Int32)), (.ref b1)])) (fun _ k => XS.iload X4.here hx rfl (hb hby at_38) rfl k) ?_
    obtain ⟨v5, T5, L5, X5, hQ5, st5⟩ := own_gS X4  hx hZ hown (hw _ (List.mem_of_getElem? (i := 2) rfl)) (hw _ (List.mem_of_getElem? (i := 3) rfl)) (hw _ (List.mem_of_getElem? (i := 4) rfl)) (hw _ (List.mem_of_getElem? (i := 5) rfl)) (by decide) hh4 (own_set_out l Z a0 hw h1 b1 k1 (0 : Int32) (3 : Int32) xd [] h0.size g_b1 V_b1 (by decide) (by decide)) (by decide) (by decide) (by decide) (by decide) (Q := (fun v h L => v = none ∧ L = [] ∧ h = h1)) (W := 0) (g := (mkF m 40 #[.val (.int i), .val (.int xa), .val (.int xb), .val (.int xc), .val (.int xd), .val (.int (0 : Int32)), .val (.ref b1), .unset, .unset, .unset] [(.int xd), (.int (3 : Int32)), (.ref b1)])) (argsL := [(.ref b1), (.int (3 : Int32)), (.int xd)]) (rest := []) rfl (by rw [hml]; rfl) (lenOf own_pd_2 rfl) rfl (by show 2 * 0 + _ ≤ _; exact Nat.le_of_eq rfl) (hb hby at_40)
    obtain ⟨rfl, rfl, hh5⟩ := hQ5
    rw [List.append_nil] at X5
    refine own_st (T' := T5) (g' := (mkF m 43 #[.val (.int i), .val (.int xa), .val (.int xb), .val (.int xc), .val (.int xd), .val (.int (0 : Int32)), .val (.ref b1), .unset, .unset, .unset] [])) st5 ?_
    refine own_st (T' := T5) (g' := (mkF m 45 #[.val (.int i), .val (.int xa), .val (.int xb), .val (.int xc), .val (.int xd), .val (.int (0 : Int32)), .val (.ref b1), .unset, .unset, .unset] [(.ref b1)])) (fun _ k => XS.aload X5.here hx rfl (hb hby at_43) rfl rfl k) ?_
    obtain ⟨v6, T6, L6, k6, X6, hQ6, hS, hk, hZ, hown, st6⟩ := own_gSW X5 hS hk hx hZ hown (hw _ (List.mem_of_getElem? (i := 6) rfl)) (hw _ (List.mem_of_getElem? (i := 7) rfl)) (hw _ (List.mem_of_getElem? (i := 8) rfl)) (hw _ (List.mem_of_getElem? (i := 9) rfl)) (by decide) hh5 (own_succ l Z a0 hw h1 b1 k1 (0 : Int32) [] (by decide) V_b1 E_b1) (by decide) (by decide) (by decide) (by decide) (Q := (fun v h L => ∃ o d, v = some (.ref o) ∧ h1.size ≤ o ∧ h1.size ≤ d ∧ Fr h1.size L ∧ Ext h1 h ∧ Exa Z h o "com/example/earnest_key/earnestkey/Outcome" ∧ Fld Z h o "com/example/earnest_key/earnestkey/Outcome" "bytes" "[B" (.ref d) ∧ Fld Z h o "com/example/earnest_key/earnestkey/Outcome" "failure" "Z" (.int (1 : Int32)) ∧ Arh Z h d k1 .byte (0 : Int32) [] [] (.int (0 : Int32)) ∧ Exa Z h d "[B" ∧ o ≠ d)) (W := 0) (g := (mkF m 45 #[.val (.int i), .val (.int xa), .val (.int xb), .val (.int xc), .val (.int xd), .val (.int (0 : Int32)), .val (.ref b1), .unset, .unset, .unset] [(.ref b1)])) (argsL := [(.ref b1)]) (rest := []) rfl (by rw [hml]; rfl) (lenOf own_pd_3 rfl) rfl (by show 2 * 0 + _ ≤ _; exact Nat.le_of_eq rfl) (hb hby at_45)
    obtain ⟨b6, d6, rfl, gq6, gd6, NL6, EX6, EE6, FB6, FF6, VV6, ED6, nod6⟩ := hQ6
    have ne_b1_b6 : b1 ≠ b6 := Nat.ne_of_lt (Nat.lt_of_lt_of_le V_b1.lt gq6)
    have g_b6 : h0.size ≤ b6 := Nat.le_trans E0.1 gq6
    have ne_b1_d6 : b1 ≠ d6 := Nat.ne_of_lt (Nat.lt_of_lt_of_le V_b1.lt gd6)
    have g_d6 : h0.size ≤ d6 := Nat.le_trans E0.1 gd6
    have Nf := Fr.app Nf (own_fr_mono E0.1 NL6)
    have V_b1 := V_b1.ext EX6
    have E_b1 := E_b1.ext EX6
    have E0 := own_ext_tr E0 EX6
    have E_b6 := EE6
    have F_bytes_b6 := FB6
    have F_failure_b6 := FF6
    have V_d6 := VV6
    have E_d6 := ED6
    refine own_st (T' := T6) (g' := (mkF m 48 #[.val (.int i), .val (.int xa), .val (.int xb), .val (.int xc), .val (.int xd), .val (.int (0 : Int32)), .val (.ref b1), .unset, .unset, .unset] [(.ref b6)])) st6 ?_
    refine own_st (T' := T6) (g' := (mkF m 50 #[.val (.int i), .val (.int xa), .val (.int xb), .val (.int xc), .val (.int xd), .val (.int (0 : Int32)), .val (.ref b1), .val (.ref b6), .unset, .unset] [])) (fun _ k => XS.astore X6.here hx rfl (hb hby at_48) rfl rfl (l' := #[.val (.int i), .val (.int xa), .val (.int xb), .val (.int xc), .val (.int xd), .val (.int (0 : Int32)), .val (.ref b1), .val (.ref b6), .unset, .unset]) rfl k) ?_
    refine own_st (T' := T6) (g' := (mkF m 52 #[.val (.int i), .val (.int xa), .val (.int xb), .val (.int xc), .val (.int xd), .val (.int (0 : Int32)), .val (.ref b1), .val (.ref b6), .unset, .unset] [(.ref b1)])) (fun _ k => XS.aload X6.here hx rfl (hb hby at_50) rfl rfl k) ?_
    refine own_st (T' := T6) (g' := (mkF m 53 #[.val (.int i), .val (.int xa), .val (.int xb), .val (.int xc), .val (.int xd), .val (.int (0 : Int32)), .val (.ref b1), .val (.ref b6), .unset, .unset] [(.int (0 : Int32)), (.ref b1)])) (fun _ k => XS.iconst X6.here hx rfl (hb hby at_52) k) ?_
    obtain ⟨v7, T7, L7, X7, hQ7, st7⟩ := own_gS X6  hx hZ hown (hw _ (List.mem_of_getElem? (i := 42) rfl)) (hw _ (List.mem_of_getElem? (i := 43) rfl)) (hw _ (List.mem_of_getElem? (i := 4) rfl)) (hw _ (List.mem_of_getElem? (i := 44) rfl)) (by decide) rfl (own_bump_out l Z a0 hw T6.heap b1 k1 (0 : Int32) (0 : Int32) (0 : Int32) [] h0.size g_b1 V_b1 (by decide) (by decide)) (by decide) (by decide) (by decide) (by decide) (Q := (fun v h L => v = none ∧ L = [] ∧ h = T6.heap)) (W := 0) (g := (mkF m 53 #[.val (.int i), .val (.int xa), .val (.int xb), .val (.int xc), .val (.int xd), .val (.int (0 : Int32)), .val (.ref b1), .val (.ref b6), .unset, .unset] [(.int (0 : Int32)), (.ref b1)])) (argsL := [(.ref b1), (.int (0 : Int32))]) (rest := []) rfl (by rw [hml]; rfl) (lenOf own_pd_4 rfl) rfl (by show 2 * 0 + _ ≤ _; exact Nat.le_of_eq rfl) (hb hby at_53)
    obtain ⟨rfl, rfl, hh7⟩ := hQ7
    rw [List.append_nil] at X7
    refine own_st (T' := T7) (g' := (mkF m 56 #[.val (.int i), .val (.int xa), .val (.int xb), .val (.int xc), .val (.int xd), .val (.int (0 : Int32)), .val (.ref b1), .val (.ref b6), .unset, .unset] [])) st7 ?_
    refine own_st (T' := T7) (g' := (mkF m 58 #[.val (.int i), .val (.int xa), .val (.int xb), .val (.int xc), .val (.int xd), .val (.int (0 : Int32)), .val (.ref b1), .val (.ref b6), .unset, .unset] [(.ref b1)])) (fun _ k => XS.aload X7.here hx rfl (hb hby at_56) rfl rfl k) ?_
    refine own_st (T' := T7) (g' := (mkF m 59 #[.val (.int i), .val (.int xa), .val (.int xb), .val (.int xc), .val (.int xd), .val (.int (0 : Int32)), .val (.ref b1), .val (.ref b6), .unset, .unset] [(.int (1 : Int32)), (.ref b1)])) (fun _ k => XS.iconst X7.here hx rfl (hb hby at_58) k) ?_
    obtain ⟨v8, T8, L8, X8, hQ8, st8⟩ := own_gS X7  hx hZ hown (hw _ (List.mem_of_getElem? (i := 42) rfl)) (hw _ (List.mem_of_getElem? (i := 43) rfl)) (hw _ (List.mem_of_getElem? (i := 4) rfl)) (hw _ (List.mem_of_getElem? (i := 44) rfl)) (by decide) hh7 (own_bump_out l Z a0 hw T6.heap b1 k1 (0 : Int32) (1 : Int32) (0 : Int32) [] h0.size g_b1 V_b1 (by decide) (by decide)) (by decide) (by decide) (by decide) (by decide) (Q := (fun v h L => v = none ∧ L = [] ∧ h = T6.heap)) (W := 0) (g := (mkF m 59 #[.val (.int i), .val (.int xa), .val (.int xb), .val (.int xc), .val (.int xd), .val (.int (0 : Int32)), .val (.ref b1), .val (.ref b6), .unset, .unset] [(.int (1 : Int32)), (.ref b1)])) (argsL := [(.ref b1), (.int (1 : Int32))]) (rest := []) rfl (by rw [hml]; rfl) (lenOf own_pd_4 rfl) rfl (by show 2 * 0 + _ ≤ _; exact Nat.le_of_eq rfl) (hb hby at_59)
    obtain ⟨rfl, rfl, hh8⟩ := hQ8
    rw [List.append_nil] at X8
    refine own_st (T' := T8) (g' := (mkF m 62 #[.val (.int i), .val (.int xa), .val (.int xb), .val (.int xc), .val (.int xd), .val (.int (0 : Int32)), .val (.ref b1), .val (.ref b6), .unset, .unset] [])) st8 ?_
    refine own_st (T' := T8) (g' := (mkF m 64 #[.val (.int i), .val (.int xa), .val (.int xb), .val (.int xc), .val (.int xd), .val (.int (0 : Int32)), .val (.ref b1), .val (.ref b6), .unset, .unset] [(.ref b1)])) (fun _ k => XS.aload X8.here hx rfl (hb hby at_62) rfl rfl k) ?_
    refine own_st (T' := T8) (g' := (mkF m 65 #[.val (.int i), .val (.int xa), .val (.int xb), .val (.int xc), .val (.int xd), .val (.int (0 : Int32)), .val (.ref b1), .val (.ref b6), .unset, .unset] [(.int (2 : Int32)), (.ref b1)])) (fun _ k => XS.iconst X8.here hx rfl (hb hby at_64) k) ?_
    obtain ⟨v9, T9, L9, X9, hQ9, st9⟩ := own_gS X8  hx hZ hown (hw _ (List.mem_of_getElem? (i := 42) rfl)) (hw _ (List.mem_of_getElem? (i := 43) rfl)) (hw _ (List.mem_of_getElem? (i := 4) rfl)) (hw _ (List.mem_of_getElem? (i := 44) rfl)) (by decide) hh8 (own_bump_out l Z a0 hw T6.heap b1 k1 (0 : Int32) (2 : Int32) (0 : Int32) [] h0.size g_b1 V_b1 (by decide) (by decide)) (by decide) (by decide) (by decide) (by decide) (Q := (fun v h L => v = none ∧ L = [] ∧ h = T6.heap)) (W := 0) (g := (mkF m 65 #[.val (.int i), .val (.int xa), .val (.int xb), .val (.int xc), .val (.int xd), .val (.int (0 : Int32)), .val (.ref b1), .val (.ref b6), .unset, .unset] [(.int (2 : Int32)), (.ref b1)])) (argsL := [(.ref b1), (.int (2 : Int32))]) (rest := []) rfl (by rw [hml]; rfl) (lenOf own_pd_4 rfl) rfl (by show 2 * 0 + _ ≤ _; exact Nat.le_of_eq rfl) (hb hby at_65)
    obtain ⟨rfl, rfl, hh9⟩ := hQ9
    rw [List.append_nil] at X9
    refine own_st (T' := T9) (g' := (mkF m 68 #[.val (.int i), .val (.int xa), .val (.int xb), .val (.int xc), .val (.int xd), .val (.int (0 : Int32)), .val (.ref b1), .val (.ref b6), .unset, .unset] [])) st9 ?_
    refine own_st (T' := T9) (g' := (mkF m 70 #[.val (.int i), .val (.int xa), .val (.int xb), .val (.int xc), .val (.int xd), .val (.int (0 : Int32)), .val (.ref b1), .val (.ref b6), .unset, .unset] [(.ref b1)])) (fun _ k => XS.aload X9.here hx rfl (hb hby at_68) rfl rfl k) ?_
    refine own_st (T' := T9) (g' := (mkF m 71 #[.val (.int i), .val (.int xa), .val (.int xb), .val (.int xc), .val (.int xd), .val (.int (0 : Int32)), .val (.ref b1), .val (.ref b6), .unset, .unset] [(.int (3 : Int32)), (.ref b1)])) (fun _ k => XS.iconst X9.here hx rfl (hb hby at_70) k) ?_
    obtain ⟨v10, T10, L10, X10, hQ10, st10⟩ := own_gS X9  hx hZ hown (hw _ (List.mem_of_getElem? (i := 42) rfl)) (hw _ (List.mem_of_getElem? (i := 43) rfl)) (hw _ (List.mem_of_getElem? (i := 4) rfl)) (hw _ (List.mem_of_getElem? (i := 44) rfl)) (by decide) hh9 (own_bump_out l Z a0 hw T6.heap b1 k1 (0 : Int32) (3 : Int32) (0 : Int32) [] h0.size g_b1 V_b1 (by decide) (by decide)) (by decide) (by decide) (by decide) (by decide) (Q := (fun v h L => v = none ∧ L = [] ∧ h = T6.heap)) (W := 0) (g := (mkF m 71 #[.val (.int i), .val (.int xa), .val (.int xb), .val (.int xc), .val (.int xd), .val (.int (0 : Int32)), .val (.ref b1), .val (.ref b6), .unset, .unset] [(.int (3 : Int32)), (.ref b1)])) (argsL := [(.ref b1), (.int (3 : Int32))]) (rest := []) rfl (by rw [hml]; rfl) (lenOf own_pd_4 rfl) rfl (by show 2 * 0 + _ ≤ _; exact Nat.le_of_eq rfl) (hb hby at_71)
    obtain ⟨rfl, rfl, hh10⟩ := hQ10
    rw [List.append_nil] at X10
    refine own_st (T' := T10) (g' := (mkF m 74 #[.val (.int i), .val (.int xa), .val (.int xb), .val (.int xc), .val (.int xd), .val (.int (0 : Int32)), .val (.ref b1), .val (.ref b6), .unset, .unset] [])) st10 ?_
    refine own_st (T' := T10) (g' := (mkF m 76 #[.val (.int i), .val (.int xa), .val (.int xb), .val (.int xc), .val (.int xd), .val (.int (0 : Int32)), .val (.ref b1), .val (.ref b6), .unset, .unset] [(.ref b6)])) (fun _ k => XS.aload X10.here hx rfl (hb hby at_74) rfl rfl k) ?_
    obtain ⟨v11, T11, L11, X11, hQ11, st11⟩ := own_gV X10 hx hZ hown (hw _ (List.mem_of_getElem? (i := 45) rfl)) (hw _ (List.mem_of_getElem? (i := 46) rfl)) (notFace_of_selects (args := #[]) (mvT hZ (hw _ (List.mem_of_getElem? (i := 48) rfl)))) (hw _ (List.mem_of_getElem? (i := 48) rfl)) (hw _ (List.mem_of_getElem? (i := 47) rfl)) (hw _ (List.mem_of_getElem? (i := 8) rfl)) (hw _ (List.mem_of_getElem? (i := 49) rfl)) (by decide) hh10 E_b6 (own_byt l Z a0 hw T6.heap b6 d6 k1 (0 : Int32) [] (by decide) F_bytes_b6 V_d6 E_d6) (by decide) (by decide) (by decide) (by decide) (Q := (fun v h L => ∃ b, v = some (.ref b) ∧ T6.heap.size ≤ b ∧ Fr T6.heap.size L ∧ Ext T6.heap h ∧ Arh Z h b k1 .byte (0 : Int32) [] [] (.int (0 : Int32)) ∧ Exa Z h b "[B")) (W := 0) (g := (mkF m 76 #[.val (.int i), .val (.int xa), .val (.int xb), .val (.int xc), .val (.int xd), .val (.int (0 : Int32)), .val (.ref b1), .val (.ref b6), .unset, .unset] [(.ref b6)])) (argsL := []) (rest := []) rfl (by rw [hml]; rfl) (lenOf own_pd_5 rfl) rfl (by show 2 * 0 + _ ≤ _; exact Nat.le_of_eq rfl) (hb hby at_76)
    obtain ⟨b11, rfl, gq11, NL11, EX11, VV11, EE11⟩ := hQ11
    have ne_b1_b11 : b1 ≠ b11 := Nat.ne_of_lt (Nat.lt_of_lt_of_le V_b1.lt gq11)
    have ne_b6_b11 : b6 ≠ b11 := Nat.ne_of_lt (Nat.lt_of_lt_of_le E_b6.lt gq11)
    have ne_d6_b11 : d6 ≠ b11 := Nat.ne_of_lt (Nat.lt_of_lt_of_le V_d6.lt gq11)
    have g_b11 : h0.size ≤ b11 := Nat.le_trans E0.1 gq11
    have Nf := Fr.app Nf (own_fr_mono E0.1 NL11)
    have V_b1 := V_b1.ext EX11
    have E_b1 := E_b1.ext EX11
    have E_b6 := E_b6.ext EX11
    have F_bytes_b6 := F_bytes_b6.ext EX11
    have F_failure_b6 := F_failure_b6.ext EX11
    have V_d6 := V_d6.ext EX11
    have E_d6 := E_d6.ext EX11
    have E0 := own_ext_tr E0 EX11
    have hk := Nat.le_trans hk EX11.1
    have V_b11 := VV11
    have E_b11 := EE11
    refine own_st (T' := T11) (g' := (mkF m 79 #[.val (.int i), .val (.int xa), .val (.int xb), .val (.int xc), .val (.int xd), .val (.int (0 : Int32)), .val (.ref b1), .val (.ref b6), .unset, .unset] [(.ref b11)])) st11 ?_
    refine own_st (T' := T11) (g' := (mkF m 81 #[.val (.int i), .val (.int xa), .val (.int xb), .val (.int xc), .val (.int xd), .val (.int (0 : Int32)), .val (.ref b1), .val (.ref b6), .val (.ref b11), .unset] [])) (fun _ k => XS.astore X11.here hx rfl (hb hby at_79) rfl rfl (l' := #[.val (.int i), .val (.int xa), .val (.int xb), .val (.int xc), .val (.int xd), .val (.int (0 : Int32)), .val (.ref b1), .val (.ref b6), .val (.ref b11), .unset]) rfl k) ?_
    refine own_st (T' := T11) (g' := (mkF m 83 #[.val (.int i), .val (.int xa), .val (.int xb), .val (.int xc), .val (.int xd), .val (.int (0 : Int32)), .val (.ref b1), .val (.ref b6), .val (.ref b11), .unset] [(.ref b11)])) (fun _ k => XS.aload X11.here hx rfl (hb hby at_81) rfl rfl k) ?_
    refine own_st (T' := T11) (g' := (mkF m 85 #[.val (.int i), .val (.int xa), .val (.int xb), .val (.int xc), .val (.int xd), .val (.int (0 : Int32)), .val (.ref b1), .val (.ref b6), .val (.ref b11), .unset] [(.ref b1), (.ref b11)])) (fun _ k => XS.aload X11.here hx rfl (hb hby at_83) rfl rfl k) ?_
    refine own_st (T' := T11) (g' := (mkF m 90 #[.val (.int i), .val (.int xa), .val (.int xb), .val (.int xc), .val (.int xd), .val (.int (0 : Int32)), .val (.ref b1), .val (.ref b6), .val (.ref b11), .unset] [])) (fun _ k => Jvm.RoadKit.acmp (g := (mkF m 85 #[.val (.int i), .val (.int xa), .val (.int xb), .val (.int xc), .val (.int xd), .val (.int (0 : Int32)), .val (.ref b1), .val (.ref b6), .val (.ref b11), .unset] [(.ref b1), (.ref b11)])) X11 hx rfl rfl rfl (pc0 := 85) (pc' := 90) (same := false) rfl (hb hby at_85) rfl (decide_eq_false fun q => (Ne.symm ne_b1_b11) (Value.ref.inj q)) (by decide) (by decide) k) ?_
    refine own_st (T' := T11) (g' := (mkF m 92 #[.val (.int i), .val (.int xa), .val (.int xb), .val (.int xc), .val (.int xd), .val (.int (0 : Int32)), .val (.ref b1), .val (.ref b6), .val (.ref b11), .unset] [(.ref b11)])) (fun _ k => XS.aload X11.here hx rfl (hb hby at_90) rfl rfl k) ?_
    have V12 := V_b11
    obtain ⟨cl12, Ar12, qk12, Sz12, Nn12, Hh12, Gg12⟩ := V12
    refine own_st (T' := T11) (g' := (mkF m 93 #[.val (.int i), .val (.int xa), .val (.int xb), .val (.int xc), .val (.int xd), .val (.int (0 : Int32)), .val (.ref b1), .val (.ref b6), .val (.ref b11), .unset] [(.int cl12.slots.size.toInt32)])) (fun _ k => X11.arraylength hx (own_he rfl Ar12.1) (State.isArrayOf_alike hZ.alike Ar12.2.1) (g := (mkF m 92 #[.val (.int i), .val (.int xa), .val (.int xb), .val (.int xc), .val (.int xd), .val (.int (0 : Int32)), .val (.ref b1), .val (.ref b6), .val (.ref b11), .unset] [(.ref b11)])) rfl rfl (hb hby at_92) _ k) ?_
    rw [len_of Sz12 Nn12]
    refine own_st (T' := T11) (g' := (mkF m 95 #[.val (.int i), .val (.int xa), .val (.int xb), .val (.int xc), .val (.int xd), .val (.int (0 : Int32)), .val (.ref b1), .val (.ref b6), .val (.ref b11), .unset] [(.int (0 : Int32)), (.int (0 : Int32))])) (fun _ k => XS.iload X11.here hx rfl (hb hby at_93) rfl k) ?_
    refine own_st (T' := T11) (g' := (mkF m 98 #[.val (.int i), .val (.int xa), .val (.int xb), .val (.int xc), .val (.int xd), .val (.int (0 : Int32)), .val (.ref b1), .val (.ref b6), .val (.ref b11), .unset] [])) (fun _ k => XS.icmpNo X11.here hx rfl (hb hby at_95) rfl (by decide) k) ?_
    refine own_st (T' := T11) (g' := (mkF m 100 #[.val (.int i), .val (.int xa), .val (.int xb), .val (.int xc), .val (.int xd), .val (.int (0 : Int32)), .val (.ref b1), .val (.ref b6), .val (.ref b11), .unset] [(.ref b11)])) (fun _ k => XS.aload X11.here hx rfl (hb hby at_98) rfl rfl k) ?_
    refine own_st (T' := T11) (g' := (mkF m 101 #[.val (.int i), .val (.int xa), .val (.int xb), .val (.int xc), .val (.int xd), .val (.int (0 : Int32)), .val (.ref b1), .val (.ref b6), .val (.ref b11), .unset] [(.int (0 : Int32)), (.ref b11)])) (fun _ k => XS.iconst X11.here hx rfl (hb hby at_100) k) ?_
    refine own_st (T' := T11) (g' := (mkF m 102 #[.val (.int i), .val (.int xa), .val (.int xb), .val (.int xc), .val (.int xd), .val (.int (0 : Int32)), .val (.ref b1), .val (.ref b6), .val (.ref b11), .unset] [(.int xa), (.int (0 : Int32)), (.ref b11)])) (fun _ k => XS.iloadN X11.here hx rfl (hb hby at_101) rfl k) ?_
    obtain ⟨T13, X13, e13, st13⟩ := own_pure (w := (.int (1 : Int32))) rfl rfl (own_gS X11 hx hZ hown (hw _ (List.mem_of_getElem? (i := 50) rfl)) (hw _ (List.mem_of_getElem? (i := 51) rfl)) (hw _ (List.mem_of_getElem? (i := 4) rfl)) (hw _ (List.mem_of_getElem? (i := 52) rfl)) (by decide) rfl (own_at_out l Z a0 hw T11.heap b11 k1 (0 : Int32) (0 : Int32) xa [] h0.size g_b11 V_b11 (by decide) (by decide)) (by decide) (by decide) (by decide) (by decide) (Q := fun v h L => v = some (.int (1 : Int32)) ∧ L = [] ∧ h = T11.heap) (W := 0) (g := (mkF m 102 #[.val (.int i), .val (.int xa), .val (.int xb), .val (.int xc), .val (.int xd), .val (.int (0 : Int32)), .val (.ref b1), .val (.ref b6), .val (.ref b11), .unset] [(.int xa), (.int (0 : Int32)), (.ref b11)])) (argsL := [(.ref b11), (.int (0 : Int32)), (.int xa)]) (rest := []) rfl (by rw [hml]; rfl) (lenOf own_pd_6 rfl) rfl (by show 2 * 0 + _ ≤ _; exact Nat.le_of_eq rfl) (hb hby at_102))
    refine own_st (T' := T13) (g' := (mkF m 105 #[.val (.int i), .val (.int xa), .val (.int xb), .val (.int xc), .val (.int xd), .val (.int (0 : Int32)), .val (.ref b1), .val (.ref b6), .val (.ref b11), .unset] [(.int (1 : Int32))])) st13 ?_
    refine own_st (T' := T13) (g' := (mkF m 108 #[.val (.int i), .val (.int xa), .val (.int xb), .val (.int xc), .val (.int xd), .val (.int (0 : Int32)), .val (.ref b1), .val (.ref b6), .val (.ref b11), .unset] [])) (fun _ k => XS.ifNo X13.here hx rfl (hb hby at_105) rfl (by decide) k) ?_
    refine own_st (T' := T13) (g' := (mkF m 110 #[.val (.int i), .val (.int xa), .val (.int xb), .val (.int xc), .val (.int xd), .val (.int (0 : Int32)), .val (.ref b1), .val (.ref b6), .val (.ref b11), .unset] [(.ref b11)])) (fun _ k => XS.aload X13.here hx rfl (hb hby at_108) rfl rfl k) ?_
    refine own_st (T' := T13) (g' := (mkF m 111 #[.val (.int i), .val (.int xa), .val (.int xb), .val (.int xc), .val (.int xd), .val (.int (0 : Int32)), .val (.ref b1), .val (.ref b6), .val (.ref b11), .unset] [(.int (1 : Int32)), (.ref b11)])) (fun _ k => XS.iconst X13.here hx rfl (hb hby at_110) k) ?_
    refine own_st (T' := T13) (g' := (mkF m 112 #[.val (.int i), .val (.int xa), .val (.int xb), .val (.int xc), .val (.int xd), .val (.int (0 : Int32)), .val (.ref b1), .val (.ref b6), .val (.ref b11), .unset] [(.int xb), (.int (1 : Int32)), (.ref b11)])) (fun _ k => XS.iloadN X13.here hx rfl (hb hby at_111) rfl k) ?_
    obtain ⟨T14, X14, e14, st14⟩ := own_pure (w := (.int (1 : Int32))) rfl rfl (own_gS X13 hx hZ hown (hw _ (List.mem_of_getElem? (i := 50) rfl)) (hw _ (List.mem_of_getElem? (i := 51) rfl)) (hw _ (List.mem_of_getElem? (i := 4) rfl)) (hw _ (List.mem_of_getElem? (i := 52) rfl)) (by decide) e13 (own_at_out l Z a0 hw T11.heap b11 k1 (0 : Int32) (1 : Int32) xb [] h0.size g_b11 V_b11 (by decide) (by decide)) (by decide) (by decide) (by decide) (by decide) (Q := fun v h L => v = some (.int (1 : Int32)) ∧ L = [] ∧ h = T11.heap) (W := 0) (g := (mkF m 112 #[.val (.int i), .val (.int xa), .val (.int xb), .val (.int xc), .val (.int xd), .val (.int (0 : Int32)), .val (.ref b1), .val (.ref b6), .val (.ref b11), .unset] [(.int xb), (.int (1 : Int32)), (.ref b11)])) (argsL := [(.ref b11), (.int (1 : Int32)), (.int xb)]) (rest := []) rfl (by rw [hml]; rfl) (lenOf own_pd_6 rfl) rfl (by show 2 * 0 + _ ≤ _; exact Nat.le_of_eq rfl) (hb hby at_112))
    refine own_st (T' := T14) (g' := (mkF m 115 #[.val (.int i), .val (.int xa), .val (.int xb), .val (.int xc), .val (.int xd), .val (.int (0 : Int32)), .val (.ref b1), .val (.ref b6), .val (.ref b11), .unset] [(.int (1 : Int32))])) st14 ?_
    refine own_st (T' := T14) (g' := (mkF m 118 #[.val (.int i), .val (.int xa), .val (.int xb), .val (.int xc), .val (.int xd), .val (.int (0 : Int32)), .val (.ref b1), .val (.ref b6), .val (.ref b11), .unset] [])) (fun _ k => XS.ifNo X14.here hx rfl (hb hby at_115) rfl (by decide) k) ?_
    refine own_st (T' := T14) (g' := (mkF m 120 #[.val (.int i), .val (.int xa), .val (.int xb), .val (.int xc), .val (.int xd), .val (.int (0 : Int32)), .val (.ref b1), .val (.ref b6), .val (.ref b11), .unset] [(.ref b11)])) (fun _ k => XS.aload X14.here hx rfl (hb hby at_118) rfl rfl k) ?_
    refine own_st (T' := T14) (g' := (mkF m 121 #[.val (.int i), .val (.int xa), .val (.int xb), .val (.int xc), .val (.int xd), .val (.int (0 : Int32)), .val (.ref b1), .val (.ref b6), .val (.ref b11), .unset] [(.int (2 : Int32)), (.ref b11)])) (fun _ k => XS.iconst X14.here hx rfl (hb hby at_120) k) ?_
    refine own_st (T' := T14) (g' := (mkF m 122 #[.val (.int i), .val (.int xa), .val (.int xb), .val (.int xc), .val (.int xd), .val (.int (0 : Int32)), .val (.ref b1), .val (.ref b6), .val (.ref b11), .unset] [(.int xc), (.int (2 : Int32)), (.ref b11)])) (fun _ k => XS.iloadN X14.here hx rfl (hb hby at_121) rfl k) ?_
    obtain ⟨T15, X15, e15, st15⟩ := own_pure (w := (.int (1 : Int32))) rfl rfl (own_gS X14 hx hZ hown (hw _ (List.mem_of_getElem? (i := 50) rfl)) (hw _ (List.mem_of_getElem? (i := 51) rfl)) (hw _ (List.mem_of_getElem? (i := 4) rfl)) (hw _ (List.mem_of_getElem? (i := 52) rfl)) (by decide) e14 (own_at_out l Z a0 hw T11.heap b11 k1 (0 : Int32) (2 : Int32) xc [] h0.size g_b11 V_b11 (by decide) (by decide)) (by decide) (by decide) (by decide) (by decide) (Q := fun v h L => v = some (.int (1 : Int32)) ∧ L = [] ∧ h = T11.heap) (W := 0) (g := (mkF m 122 #[.val (.int i), .val (.int xa), .val (.int xb), .val (.int xc), .val (.int xd), .val (.int (0 : Int32)), .val (.ref b1), .val (.ref b6), .val (.ref b11), .unset] [(.int xc), (.int (2 : Int32)), (.ref b11)])) (argsL := [(.ref b11), (.int (2 : Int32)), (.int xc)]) (rest := []) rfl (by rw [hml]; rfl) (lenOf own_pd_6 rfl) rfl (by show 2 * 0 + _ ≤ _; exact Nat.le_of_eq rfl) (hb hby at_122))
    refine own_st (T' := T15) (g' := (mkF m 125 #[.val (.int i), .val (.int xa), .val (.int xb), .val (.int xc), .val (.int xd), .val (.int (0 : Int32)), .val (.ref b1), .val (.ref b6), .val (.ref b11), .unset] [(.int (1 : Int32))])) st15 ?_
    refine own_st (T' := T15) (g' := (mkF m 128 #[.val (.int i), .val (.int xa), .val (.int xb), .val (.int xc), .val (.int xd), .val (.int (0 : Int32)), .val (.ref b1), .val (.ref b6), .val (.ref b11), .unset] [])) (fun _ k => XS.ifNo X15.here hx rfl (hb hby at_125) rfl (by decide) k) ?_
    refine own_st (T' := T15) (g' := (mkF m 130 #[.val (.int i), .val (.int xa), .val (.int xb), .val (.int xc), .val (.int xd), .val (.int (0 : Int32)), .val (.ref b1), .val (.ref b6), .val (.ref b11), .unset] [(.ref b11)])) (fun _ k => XS.aload X15.here hx rfl (hb hby at_128) rfl rfl k) ?_
    refine own_st (T' := T15) (g' := (mkF m 131 #[.val (.int i), .val (.int xa), .val (.int xb), .val (.int xc), .val (.int xd), .val (.int (0 : Int32)), .val (.ref b1), .val (.ref b6), .val (.ref b11), .unset] [(.int (3 : Int32)), (.ref b11)])) (fun _ k => XS.iconst X15.here hx rfl (hb hby at_130) k) ?_
    refine own_st (T' := T15) (g' := (mkF m 133 #[.val (.int i), .val (.int xa), .val (.int xb), .val (.int xc), .val (.int xd), .val (.int (0 : Int32)), .val (.ref b1), .val (.ref b6), .val (.ref b11), .unset] [(.int xd), (.int (3 : Int32)), (.ref b11)])) (fun _ k => XS.iload X15.here hx rfl (hb hby at_131) rfl k) ?_
    obtain ⟨T16, X16, e16, st16⟩ := own_pure (w := (.int (1 : Int32))) rfl rfl (own_gS X15 hx hZ hown (hw _ (List.mem_of_getElem? (i := 50) rfl)) (hw _ (List.mem_of_getElem? (i := 51) rfl)) (hw _ (List.mem_of_getElem? (i := 4) rfl)) (hw _ (List.mem_of_getElem? (i := 52) rfl)) (by decide) e15 (own_at_out l Z a0 hw T11.heap b11 k1 (0 : Int32) (3 : Int32) xd [] h0.size g_b11 V_b11 (by decide) (by decide)) (by decide) (by decide) (by decide) (by decide) (Q := fun v h L => v = some (.int (1 : Int32)) ∧ L = [] ∧ h = T11.heap) (W := 0) (g := (mkF m 133 #[.val (.int i), .val (.int xa), .val (.int xb), .val (.int xc), .val (.int xd), .val (.int (0 : Int32)), .val (.ref b1), .val (.ref b6), .val (.ref b11), .unset] [(.int xd), (.int (3 : Int32)), (.ref b11)])) (argsL := [(.ref b11), (.int (3 : Int32)), (.int xd)]) (rest := []) rfl (by rw [hml]; rfl) (lenOf own_pd_6 rfl) rfl (by show 2 * 0 + _ ≤ _; exact Nat.le_of_eq rfl) (hb hby at_133))
    refine own_st (T' := T16) (g' := (mkF m 136 #[.val (.int i), .val (.int xa), .val (.int xb), .val (.int xc), .val (.int xd), .val (.int (0 : Int32)), .val (.ref b1), .val (.ref b6), .val (.ref b11), .unset] [(.int (1 : Int32))])) st16 ?_
    refine own_st (T' := T16) (g' := (mkF m 139 #[.val (.int i), .val (.int xa), .val (.int xb), .val (.int xc), .val (.int xd), .val (.int (0 : Int32)), .val (.ref b1), .val (.ref b6), .val (.ref b11), .unset] [])) (fun _ k => XS.ifNo X16.here hx rfl (hb hby at_136) rfl (by decide) k) ?_
    refine own_st (T' := T16) (g' := (mkF m 140 #[.val (.int i), .val (.int xa), .val (.int xb), .val (.int xc), .val (.int xd), .val (.int (0 : Int32)), .val (.ref b1), .val (.ref b6), .val (.ref b11), .unset] [(.int (1 : Int32))])) (fun _ k => XS.iconst X16.here hx rfl (hb hby at_139) k) ?_
    refine own_st (T' := T16) (g' := (mkF m 144 #[.val (.int i), .val (.int xa), .val (.int xb), .val (.int xc), .val (.int xd), .val (.int (0 : Int32)), .val (.ref b1), .val (.ref b6), .val (.ref b11), .unset] [(.int (1 : Int32))])) (fun _ k => XS.goto X16.here hx rfl (pc0 := 140) (pc' := 144) rfl (hb hby at_140) (by decide) (by decide) k) ?_
    refine own_st (T' := T16) (g' := (mkF m 146 #[.val (.int i), .val (.int xa), .val (.int xb), .val (.int xc), .val (.int xd), .val (.int (0 : Int32)), .val (.ref b1), .val (.ref b6), .val (.ref b11), .val (.int (1 : Int32))] [])) (fun _ k => XS.istore X16.here hx rfl (hb hby at_144) rfl (l' := #[.val (.int i), .val (.int xa), .val (.int xb), .val (.int xc), .val (.int xd), .val (.int (0 : Int32)), .val (.ref b1), .val (.ref b6), .val (.ref b11), .val (.int (1 : Int32))]) rfl k) ?_
    refine own_st (T' := T16) (g' := (mkF m 148 #[.val (.int i), .val (.int xa), .val (.int xb), .val (.int xc), .val (.int xd), .val (.int (0 : Int32)), .val (.ref b1), .val (.ref b6), .val (.ref b11), .val (.int (1 : Int32))] [(.int (1 : Int32))])) (fun _ k => XS.iload X16.here hx rfl (hb hby at_146) rfl k) ?_
    refine own_st (T' := T16) (g' := (mkF m 151 #[.val (.int i), .val (.int xa), .val (.int xb), .val (.int xc), .val (.int xd), .val (.int (0 : Int32)), .val (.ref b1), .val (.ref b6), .val (.ref b11), .val (.int (1 : Int32))] [])) (fun _ k => XS.ifNo X16.here hx rfl (hb hby at_148) rfl (by decide) k) ?_
    refine own_st (T' := T16) (g' := (mkF m 153 #[.val (.int i), .val (.int xa), .val (.int xb), .val (.int xc), .val (.int xd), .val (.int (0 : Int32)), .val (.ref b1), .val (.ref b6), .val (.ref b11), .val (.int (1 : Int32))] [(.ref b6)])) (fun _ k => XS.aload X16.here hx rfl (hb hby at_151) rfl rfl k) ?_
    obtain ⟨T17, X17, e17, st17⟩ := own_pure (w := (.int (1 : Int32))) rfl rfl (own_gV X16 hx hZ hown (hw _ (List.mem_of_getElem? (i := 53) rfl)) (hw _ (List.mem_of_getElem? (i := 54) rfl)) (notFace_of_selects (args := #[]) (mvT hZ (hw _ (List.mem_of_getElem? (i := 56) rfl)))) (hw _ (List.mem_of_getElem? (i := 56) rfl)) (hw _ (List.mem_of_getElem? (i := 55) rfl)) (hw _ (List.mem_of_getElem? (i := 8) rfl)) (hw _ (List.mem_of_getElem? (i := 57) rfl)) (by decide) e16 E_b6 (own_isf l Z a0 hw T11.heap b6 F_failure_b6) (by decide) (by decide) (by decide) (by decide) (Q := fun v h L => v = some (.int (1 : Int32)) ∧ L = [] ∧ h = T11.heap) (W := 0) (g := (mkF m 153 #[.val (.int i), .val (.int xa), .val (.int xb), .val (.int xc), .val (.int xd), .val (.int (0 : Int32)), .val (.ref b1), .val (.ref b6), .val (.ref b11), .val (.int (1 : Int32))] [(.ref b6)])) (argsL := []) (rest := []) rfl (by rw [hml]; rfl) (lenOf own_pd_7 rfl) rfl (by show 2 * 0 + _ ≤ _; exact Nat.le_of_eq rfl) (hb hby at_153))
    refine own_st (T' := T17) (g' := (mkF m 156 #[.val (.int i), .val (.int xa), .val (.int xb), .val (.int xc), .val (.int xd), .val (.int (0 : Int32)), .val (.ref b1), .val (.ref b6), .val (.ref b11), .val (.int (1 : Int32))] [(.int (1 : Int32))])) st17 ?_
    refine own_st (T' := T17) (g' := (mkF m 159 #[.val (.int i), .val (.int xa), .val (.int xb), .val (.int xc), .val (.int xd), .val (.int (0 : Int32)), .val (.ref b1), .val (.ref b6), .val (.ref b11), .val (.int (1 : Int32))] [])) (fun _ k => XS.ifNo X17.here hx rfl (hb hby at_156) rfl (by decide) k) ?_
    refine own_st (T' := T17) (g' := (mkF m 161 #[.val (.int i), .val (.int xa), .val (.int xb), .val (.int xc), .val (.int xd), .val (.int (0 : Int32)), .val (.ref b1), .val (.ref b6), .val (.ref b11), .val (.int (1 : Int32))] [(.ref b6)])) (fun _ k => XS.aload X17.here hx rfl (hb hby at_159) rfl rfl k) ?_
    obtain ⟨T18, X18, e18, st18⟩ := own_pure (w := (.ref a_FAILED)) rfl rfl (own_gV X17 hx hZ hown (hw _ (List.mem_of_getElem? (i := 58) rfl)) (hw _ (List.mem_of_getElem? (i := 59) rfl)) (notFace_of_selects (args := #[]) (mvT hZ (hw _ (List.mem_of_getElem? (i := 61) rfl)))) (hw _ (List.mem_of_getElem? (i := 61) rfl)) (hw _ (List.mem_of_getElem? (i := 60) rfl)) (hw _ (List.mem_of_getElem? (i := 8) rfl)) (hw _ (List.mem_of_getElem? (i := 62) rfl)) (by decide) e17 E_b6 (own_stat l Z a0 hw T11.heap b6 a_FAILED F_failure_b6 (S_FAILED.ext E0)) (by decide) (by decide) (by decide) (by decide) (Q := fun v h L => v = some (.ref a_FAILED) ∧ L = [] ∧ h = T11.heap) (W := 0) (g := (mkF m 161 #[.val (.int i), .val (.int xa), .val (.int xb), .val (.int xc), .val (.int xd), .val (.int (0 : Int32)), .val (.ref b1), .val (.ref b6), .val (.ref b11), .val (.int (1 : Int32))] [(.ref b6)])) (argsL := []) (rest := []) rfl (by rw [hml]; rfl) (lenOf own_pd_8 rfl) rfl (by show 2 * 0 + _ ≤ _; exact Nat.le_of_eq rfl) (hb hby at_161))
    refine own_st (T' := T18) (g' := (mkF m 164 #[.val (.int i), .val (.int xa), .val (.int xb), .val (.int xc), .val (.int xd), .val (.int (0 : Int32)), .val (.ref b1), .val (.ref b6), .val (.ref b11), .val (.int (1 : Int32))] [(.ref a_FAILED)])) st18 ?_
    obtain ⟨T19, X19, e19, st19⟩ := getS2 X18 hx hZ hown (host := "") (Or.inl (hw _ (List.mem_of_getElem? (i := 66) rfl))) Via.refl e18 (S_FAILED.ext E0) (g := (mkF m 164 #[.val (.int i), .val (.int xa), .val (.int xb), .val (.int xc), .val (.int xd), .val (.int (0 : Int32)), .val (.ref b1), .val (.ref b6), .val (.ref b11), .val (.int (1 : Int32))] [(.ref a_FAILED)])) rfl (hb hby at_164)
    refine own_st (T' := T19) (g' := (mkF m 167 #[.val (.int i), .val (.int xa), .val (.int xb), .val (.int xc), .val (.int xd), .val (.int (0 : Int32)), .val (.ref b1), .val (.ref b6), .val (.ref b11), .val (.int (1 : Int32))] [(.ref a_FAILED), (.ref a_FAILED)])) st19 ?_
    refine own_st (T' := T19) (g' := (mkF m 170 #[.val (.int i), .val (.int xa), .val (.int xb), .val (.int xc), .val (.int xd), .val (.int (0 : Int32)), .val (.ref b1), .val (.ref b6), .val (.ref b11), .val (.int (1 : Int32))] [])) (fun _ k => Jvm.RoadKit.acmp (g := (mkF m 167 #[.val (.int i), .val (.int xa), .val (.int xb), .val (.int xc), .val (.int xd), .val (.int (0 : Int32)), .val (.ref b1), .val (.ref b6), .val (.ref b11), .val (.int (1 : Int32))] [(.ref a_FAILED), (.ref a_FAILED)])) X19 hx rfl rfl rfl (pc0 := 167) (pc' := 170) (same := true) rfl (hb hby at_167) rfl (decide_eq_true rfl) (by decide) (by decide) k) ?_
    refine own_st (T' := T19) (g' := (mkF m 171 #[.val (.int i), .val (.int xa), .val (.int xb), .val (.int xc), .val (.int xd), .val (.int (0 : Int32)), .val (.ref b1), .val (.ref b6), .val (.ref b11), .val (.int (1 : Int32))] [(.int (1 : Int32))])) (fun _ k => XS.iconst X19.here hx rfl (hb hby at_170) k) ?_
    refine own_st (T' := T19) (g' := (mkF m 175 #[.val (.int i), .val (.int xa), .val (.int xb), .val (.int xc), .val (.int xd), .val (.int (0 : Int32)), .val (.ref b1), .val (.ref b6), .val (.ref b11), .val (.int (1 : Int32))] [(.int (1 : Int32))])) (fun _ k => XS.goto X19.here hx rfl (pc0 := 171) (pc' := 175) rfl (hb hby at_171) (by decide) (by decide) k) ?_
    exact own_retW X19 hx hlk hS (by rw [e19]; exact hk) hret rfl (Or.inl ⟨rfl, Or.inr (Or.inl rfl), _, rfl⟩) (hb hby at_175) (by decide) (by decide) ⟨rfl, Nf⟩
  ·
    rw [hE]
    refine own_st (T' := T0) (g' := (mkF m 8 #[.val (.int i), .val (.int xa), .val (.int xb), .val (.int xc), .val (.int xd), .val (.int (1 : Int32)), .unset, .unset, .unset, .unset] [])) (fun _ k => XS.istore X0.here hx rfl (hb hby at_6) rfl (l' := #[.val (.int i), .val (.int xa), .val (.int xb), .val (.int xc), .val (.int xd), .val (.int (1 : Int32)), .unset, .unset, .unset, .unset]) rfl k) ?_
    refine own_st (T' := T0) (g' := (mkF m 10 #[.val (.int i), .val (.int xa), .val (.int xb), .val (.int xc), .val (.int xd), .val (.int (1 : Int32)), .unset, .unset, .unset, .unset] [(.int (1 : Int32))])) (fun _ k => XS.iload X0.here hx rfl (hb hby at_8) rfl k) ?_
    obtain ⟨T20, h20, k20, X20, e20, E20, A20, Q20, st20⟩ := newPE X0 hx hZ (hw _ (List.mem_of_getElem? (i := 1) rfl)) e0 (g := (mkF m 10 #[.val (.int i), .val (.int xa), .val (.int xb), .val (.int xc), .val (.int xd), .val (.int (1 : Int32)), .unset, .unset, .unset, .unset] [(.int (1 : Int32))])) rfl (hb hby at_10) rfl (by decide) (cap := 1) (by decide) (by decide) (by decide) (by decide) (ad := "[B") rfl
    obtain ⟨b20, gb_b20⟩ : ∃ z, z = h0.size := ⟨_, rfl⟩
    rw [← gb_b20] at A20 Q20 st20
    have g_b20 : h0.size ≤ b20 := Nat.le_trans E0.1 (Nat.le_of_eq gb_b20.symm)
    have E0 := own_ext_tr E0 E20
    have hk := Nat.le_trans hk E20.1
    have V_b20 : Arh Z h20 b20 k20 .byte (1 : Int32) [] [] (.int (0 : Int32)) := Arv.arh (Arv.new A20 (by decide))
    have E_b20 := Q20
    refine own_st (T' := T20) (g' := (mkF m 12 #[.val (.int i), .val (.int xa), .val (.int xb), .val (.int xc), .val (.int xd), .val (.int (1 : Int32)), .unset, .unset, .unset, .unset] [(.ref b20)])) st20 ?_
    refine own_st (T' := T20) (g' := (mkF m 14 #[.val (.int i), .val (.int xa), .val (.int xb), .val (.int xc), .val (.int xd), .val (.int (1 : Int32)), .val (.ref b20), .unset, .unset, .unset] [])) (fun _ k => XS.astore X20.here hx rfl (hb hby at_12) rfl rfl (l' := #[.val (.int i), .val (.int xa), .val (.int xb), .val (.int xc), .val (.int xd), .val (.int (1 : Int32)), .val (.ref b20), .unset, .unset, .unset]) rfl k) ?_
    refine own_st (T' := T20) (g' := (mkF m 16 #[.val (.int i), .val (.int xa), .val (.int xb), .val (.int xc), .val (.int xd), .val (.int (1 : Int32)), .val (.ref b20), .unset, .unset, .unset] [(.ref b20)])) (fun _ k => XS.aload X20.here hx rfl (hb hby at_14) rfl rfl k) ?_
    refine own_st (T' := T20) (g' := (mkF m 17 #[.val (.int i), .val (.int xa), .val (.int xb), .val (.int xc), .val (.int xd), .val (.int (1 : Int32)), .val (.ref b20), .unset, .unset, .unset] [(.int (0 : Int32)), (.ref b20)])) (fun _ k => XS.iconst X20.here hx rfl (hb hby at_16) k) ?_
    refine own_st (T' := T20) (g' := (mkF m 18 #[.val (.int i), .val (.int xa), .val (.int xb), .val (.int xc), .val (.int xd), .val (.int (1 : Int32)), .val (.ref b20), .unset, .unset, .unset] [(.int xa), (.int (0 : Int32)), (.ref b20)])) (fun _ k => XS.iloadN X20.here hx rfl (hb hby at_17) rfl k) ?_
    obtain ⟨v21, T21, L21, X21, hQ21, st21⟩ := own_gS X20  hx hZ hown (hw _ (List.mem_of_getElem? (i := 2) rfl)) (hw _ (List.mem_of_getElem? (i := 3) rfl)) (hw _ (List.mem_of_getElem? (i := 4) rfl)) (hw _ (List.mem_of_getElem? (i := 5) rfl)) (by decide) e20 (own_set_in l Z a0 hw h20 b20 k20 (1 : Int32) (0 : Int32) xa [] h0.size g_b20 V_b20 (by decide) (by decide)) (by decide) (by decide) (by decide) (by decide) (Q := (fun v h L => v = none ∧ Fr h0.size L ∧ Keep h20 h [b20] ∧ Arh Z h b20 k20 .byte (1 : Int32) (((0 : Int32), (.int (xa.toInt8.toInt32))) :: []) [] (.int (0 : Int32)))) (W := 0) (g := (mkF m 18 #[.val (.int i), .val (.int xa), .val (.int xb), .val (.int xc), .val (.int xd), .val (.int (1 : Int32)), .val (.ref b20), .unset, .unset, .unset] [(.int xa), (.int (0 : Int32)), (.ref b20)])) (argsL := [(.ref b20), (.int (0 : Int32)), (.int xa)]) (rest := []) rfl (by rw [hml]; rfl) (lenOf own_pd_2 rfl) rfl (by show 2 * 0 + _ ≤ _; exact Nat.le_of_eq rfl) (hb hby at_18)
    obtain ⟨rfl, NL21, K21, VV21⟩ := hQ21
    have E_b20 := E_b20.keep K21
    have V_b20 := VV21
    have E0 := own_ext_keep E0 K21 (allS g_b20 all0)
    have Nf := Fr.app Nf NL21
    have hk := Nat.le_trans hk K21.1
    refine own_st (T' := T21) (g' := (mkF m 21 #[.val (.int i), .val (.int xa), .val (.int xb), .val (.int xc), .val (.int xd), .val (.int (1 : Int32)), .val (.ref b20), .unset, .unset, .unset] [])) st21 ?_
    refine own_st (T' := T21) (g' := (mkF m 23 #[.val (.int i), .val (.int xa), .val (.int xb), .val (.int xc), .val (.int xd), .val (.int (1 : Int32)), .val (.ref b20), .unset, .unset, .unset] [(.ref b20)])) (fun _ k => XS.aload X21.here hx rfl (hb hby at_21) rfl rfl k) ?_
    refine own_st (T' := T21) (g' := (mkF m 24 #[.val (.int i), .val (.int xa), .val (.int xb), .val (.int xc), .val (.int xd), .val (.int (1 : Int32)), .val (.ref b20), .unset, .unset, .unset] [(.int (1 : Int32)), (.ref b20)])) (fun _ k => XS.iconst X21.here hx rfl (hb hby at_23) k) ?_
    refine own_st (T' := T21) (g' := (mkF m 25 #[.val (.int i), .val (.int xa), .val (.int xb), .val (.int xc), .val (.int xd), .val (.int (1 : Int32)), .val (.ref b20), .unset, .unset, .unset] [(.int xb), (.int (1 : Int32)), (.ref b20)])) (fun _ k => XS.iloadN X21.here hx rfl (hb hby at_24) rfl k) ?_
    obtain ⟨v22, T22, L22, X22, hQ22, st22⟩ := own_gS X21  hx hZ hown (hw _ (List.mem_of_getElem? (i := 2) rfl)) (hw _ (List.mem_of_getElem? (i := 3) rfl)) (hw _ (List.mem_of_getElem? (i := 4) rfl)) (hw _ (List.mem_of_getElem? (i := 5) rfl)) (by decide) rfl (own_set_out l Z a0 hw T21.heap b20 k20 (1 : Int32) (1 : Int32) xb (((0 : Int32), (.int (xa.toInt8.toInt32))) :: []) h0.size g_b20 V_b20 (by decide) (by decide)) (by decide) (by decide) (by decide) (by decide) (Q := (fun v h L => v = none ∧ L = [] ∧ h = T21.heap)) (W := 0) (g := (mkF m 25 #[.val (.int i), .val (.int xa), .val (.int xb), .val (.int xc), .val (.int xd), .val (.int (1 : Int32)), .val (.ref b20), .unset, .unset, .unset] [(.int xb), (.int (1 : Int32)), (.ref b20)])) (argsL := [(.ref b20), (.int (1 : Int32)), (.int xb)]) (rest := []) rfl (by rw [hml]; rfl) (lenOf own_pd_2 rfl) rfl (by show 2 * 0 + _ ≤ _; exact Nat.le_of_eq rfl) (hb hby at_25)
    obtain ⟨rfl, rfl, hh22⟩ := hQ22
    rw [List.append_nil] at X22
    refine own_st (T' := T22) (g' := (mkF m 28 #[.val (.int i), .val (.int xa), .val (.int xb), .val (.int xc), .val (.int xd), .val (.int (1 : Int32)), .val (.ref b20), .unset, .unset, .unset] [])) st22 ?_
    refine own_st (T' := T22) (g' := (mkF m 30 #[.val (.int i), .val (.int xa), .val (.int xb), .val (.int xc), .val (.int xd), .val (.int (1 : Int32)), .val (.ref b20), .unset, .unset, .unset] [(.ref b20)])) (fun _ k => XS.aload X22.here hx rfl (hb hby at_28) rfl rfl k) ?_
    refine own_st (T' := T22) (g' := (mkF m 31 #[.val (.int i), .val (.int xa), .val (.int xb), .val (.int xc), .val (.int xd), .val (.int (1 : Int32)), .val (.ref b20), .unset, .unset, .unset] [(.int (2 : Int32)), (.ref b20)])) (fun _ k => XS.iconst X22.here hx rfl (hb hby at_30) k) ?_
    refine own_st (T' := T22) (g' := (mkF m 32 #[.val (.int i), .val (.int xa), .val (.int xb), .val (.int xc), .val (.int xd), .val (.int (1 : Int32)), .val (.ref b20), .unset, .unset, .unset] [(.int xc), (.int (2 : Int32)), (.ref b20)])) (fun _ k => XS.iloadN X22.here hx rfl (hb hby at_31) rfl k) ?_
    obtain ⟨v23, T23, L23, X23, hQ23, st23⟩ := own_gS X22  hx hZ hown (hw _ (List.mem_of_getElem? (i := 2) rfl)) (hw _ (List.mem_of_getElem? (i := 3) rfl)) (hw _ (List.mem_of_getElem? (i := 4) rfl)) (hw _ (List.mem_of_getElem? (i := 5) rfl)) (by decide) hh22 (own_set_out l Z a0 hw T21.heap b20 k20 (1 : Int32) (2 : Int32) xc (((0 : Int32), (.int (xa.toInt8.toInt32))) :: []) h0.size g_b20 V_b20 (by decide) (by decide)) (by decide) (by decide) (by decide) (by decide) (Q := (fun v h L => v = none ∧ L = [] ∧ h = T21.heap)) (W := 0) (g := (mkF m 32 #[.val (.int i), .val (.int xa), .val (.int xb), .val (.int xc), .val (.int xd), .val (.int (1 : Int32)), .val (.ref b20), .unset, .unset, .unset] [(.int xc), (.int (2 : Int32)), (.ref b20)])) (argsL := [(.ref b20), (.int (2 : Int32)), (.int xc)]) (rest := []) rfl (by rw [hml]; rfl) (lenOf own_pd_2 rfl) rfl (by show 2 * 0 + _ ≤ _; exact Nat.le_of_eq rfl) (hb hby at_32)
    obtain ⟨rfl, rfl, hh23⟩ := hQ23
    rw [List.append_nil] at X23
    refine own_st (T' := T23) (g' := (mkF m 35 #[.val (.int i), .val (.int xa), .val (.int xb), .val (.int xc), .val (.int xd), .val (.int (1 : Int32)), .val (.ref b20), .unset, .unset, .unset] [])) st23 ?_
    refine own_st (T' := T23) (g' := (mkF m 37 #[.val (.int i), .val (.int xa), .val (.int xb), .val (.int xc), .val (.int xd), .val (.int (1 : Int32)), .val (.ref b20), .unset, .unset, .unset] [(.ref b20)])) (fun _ k => XS.aload X23.here hx rfl (hb hby at_35) rfl rfl k) ?_
    refine own_st (T' := T23) (g' := (mkF m 38 #[.val (.int i), .val (.int xa), .val (.int xb), .val (.int xc), .val (.int xd), .val (.int (1 : Int32)), .val (.ref b20), .unset, .unset, .unset] [(.int (3 : Int32)), (.ref b20)])) (fun _ k => XS.iconst X23.here hx rfl (hb hby at_37) k) ?_
    refine own_st (T' := T23) (g' := (mkF m 40 #[.val (.int i), .val (.int xa), .val (.int xb), .val (.int xc), .val (.int xd), .val (.int (1 : Int32)), .val (.ref b20), .unset, .unset, .unset] [(.int xd), (.int (3 : Int32)), (.ref b20)])) (fun _ k => XS.iload X23.here hx rfl (hb hby at_38) rfl k) ?_
    obtain ⟨v24, T24, L24, X24, hQ24, st24⟩ := own_gS X23  hx hZ hown (hw _ (List.mem_of_getElem? (i := 2) rfl)) (hw _ (List.mem_of_getElem? (i := 3) rfl)) (hw _ (List.mem_of_getElem? (i := 4) rfl)) (hw _ (List.mem_of_getElem? (i := 5) rfl)) (by decide) hh23 (own_set_out l Z a0 hw T21.heap b20 k20 (1 : Int32) (3 : Int32) xd (((0 : Int32), (.int (xa.toInt8.toInt32))) :: []) h0.size g_b20 V_b20 (by decide) (by decide)) (by decide) (by decide) (by decide) (by decide) (Q := (fun v h L => v = none ∧ L = [] ∧ h = T21.heap)) (W := 0) (g := (mkF m 40 #[.val (.int i), .val (.int xa), .val (.int xb), .val (.int xc), .val (.int xd), .val (.int (1 : Int32)), .val (.ref b20), .unset, .unset, .unset] [(.int xd), (.int (3 : Int32)), (.ref b20)])) (argsL := [(.ref b20), (.int (3 : Int32)), (.int xd)]) (rest := []) rfl (by rw [hml]; rfl) (lenOf own_pd_2 rfl) rfl (by show 2 * 0 + _ ≤ _; exact Nat.le_of_eq rfl) (hb hby at_40)
    obtain ⟨rfl, rfl, hh24⟩ := hQ24
    rw [List.append_nil] at X24
    refine own_st (T' := T24) (g' := (mkF m 43 #[.val (.int i), .val (.int xa), .val (.int xb), .val (.int xc), .val (.int xd), .val (.int (1 : Int32)), .val (.ref b20), .unset, .unset, .unset] [])) st24 ?_
    refine own_st (T' := T24) (g' := (mkF m 45 #[.val (.int i), .val (.int xa), .val (.int xb), .val (.int xc), .val (.int xd), .val (.int (1 : Int32)), .val (.ref b20), .unset, .unset, .unset] [(.ref b20)])) (fun _ k => XS.aload X24.here hx rfl (hb hby at_43) rfl rfl k) ?_
    obtain ⟨v25, T25, L25, k25, X25, hQ25, hS, hk, hZ, hown, st25⟩ := own_gSW X24 hS hk hx hZ hown (hw _ (List.mem_of_getElem? (i := 6) rfl)) (hw _ (List.mem_of_getElem? (i := 7) rfl)) (hw _ (List.mem_of_getElem? (i := 8) rfl)) (hw _ (List.mem_of_getElem? (i := 9) rfl)) (by decide) hh24 (own_succ l Z a0 hw T21.heap b20 k20 (1 : Int32) (((0 : Int32), (.int (xa.toInt8.toInt32))) :: []) (by decide) V_b20 E_b20) (by decide) (by decide) (by decide) (by decide) (Q := (fun v h L => ∃ o d, v = some (.ref o) ∧ T21.heap.size ≤ o ∧ T21.heap.size ≤ d ∧ Fr T21.heap.size L ∧ Ext T21.heap h ∧ Exa Z h o "com/example/earnest_key/earnestkey/Outcome" ∧ Fld Z h o "com/example/earnest_key/earnestkey/Outcome" "bytes" "[B" (.ref d) ∧ Fld Z h o "com/example/earnest_key/earnestkey/Outcome" "failure" "Z" (.int (1 : Int32)) ∧ Arh Z h d k20 .byte (1 : Int32) (((0 : Int32), (.int (xa.toInt8.toInt32))) :: []) [] (.int (0 : Int32)) ∧ Exa Z h d "[B" ∧ o ≠ d)) (W := 0) (g := (mkF m 45 #[.val (.int i), .val (.int xa), .val (.int xb), .val (.int xc), .val (.int xd), .val (.int (1 : Int32)), .val (.ref b20), .unset, .unset, .unset] [(.ref b20)])) (argsL := [(.ref b20)]) (rest := []) rfl (by rw [hml]; rfl) (lenOf own_pd_3 rfl) rfl (by show 2 * 0 + _ ≤ _; exact Nat.le_of_eq rfl) (hb hby at_45)
    obtain ⟨b25, d25, rfl, gq25, gd25, NL25, EX25, EE25, FB25, FF25, VV25, ED25, nod25⟩ := hQ25
    have ne_b20_b25 : b20 ≠ b25 := Nat.ne_of_lt (Nat.lt_of_lt_of_le V_b20.lt gq25)
    have g_b25 : h0.size ≤ b25 := Nat.le_trans E0.1 gq25
    have ne_b20_d25 : b20 ≠ d25 := Nat.ne_of_lt (Nat.lt_of_lt_of_le V_b20.lt gd25)
    have g_d25 : h0.size ≤ d25 := Nat.le_trans E0.1 gd25
    have Nf := Fr.app Nf (own_fr_mono E0.1 NL25)
    have V_b20 := V_b20.ext EX25
    have E_b20 := E_b20.ext EX25
    have E0 := own_ext_tr E0 EX25
    have E_b25 := EE25
    have F_bytes_b25 := FB25
    have F_failure_b25 := FF25
    have V_d25 := VV25
    have E_d25 := ED25
    refine own_st (T' := T25) (g' := (mkF m 48 #[.val (.int i), .val (.int xa), .val (.int xb), .val (.int xc), .val (.int xd), .val (.int (1 : Int32)), .val (.ref b20), .unset, .unset, .unset] [(.ref b25)])) st25 ?_
    refine own_st (T' := T25) (g' := (mkF m 50 #[.val (.int i), .val (.int xa), .val (.int xb), .val (.int xc), .val (.int xd), .val (.int (1 : Int32)), .val (.ref b20), .val (.ref b25), .unset, .unset] [])) (fun _ k => XS.astore X25.here hx rfl (hb hby at_48) rfl rfl (l' := #[.val (.int i), .val (.int xa), .val (.int xb), .val (.int xc), .val (.int xd), .val (.int (1 : Int32)), .val (.ref b20), .val (.ref b25), .unset, .unset]) rfl k) ?_
    refine own_st (T' := T25) (g' := (mkF m 52 #[.val (.int i), .val (.int xa), .val (.int xb), .val (.int xc), .val (.int xd), .val (.int (1 : Int32)), .val (.ref b20), .val (.ref b25), .unset, .unset] [(.ref b20)])) (fun _ k => XS.aload X25.here hx rfl (hb hby at_50) rfl rfl k) ?_
    refine own_st (T' := T25) (g' := (mkF m 53 #[.val (.int i), .val (.int xa), .val (.int xb), .val (.int xc), .val (.int xd), .val (.int (1 : Int32)), .val (.ref b20), .val (.ref b25), .unset, .unset] [(.int (0 : Int32)), (.ref b20)])) (fun _ k => XS.iconst X25.here hx rfl (hb hby at_52) k) ?_
    obtain ⟨v26, T26, L26, X26, hQ26, st26⟩ := own_gS X25  hx hZ hown (hw _ (List.mem_of_getElem? (i := 42) rfl)) (hw _ (List.mem_of_getElem? (i := 43) rfl)) (hw _ (List.mem_of_getElem? (i := 4) rfl)) (hw _ (List.mem_of_getElem? (i := 44) rfl)) (by decide) rfl (own_bump_in l Z a0 hw T25.heap b20 k20 (1 : Int32) (0 : Int32) (0 : Int32) (((0 : Int32), (.int (xa.toInt8.toInt32))) :: []) h0.size g_b20 V_b20 (by decide) (by decide)) (by decide) (by decide) (by decide) (by decide) (Q := (fun v h L => v = none ∧ Fr h0.size L ∧ Keep T25.heap h [b20] ∧ ∃ hs', Arh Z h b20 k20 .byte (1 : Int32) hs' [] (.int (0 : Int32)))) (W := 0) (g := (mkF m 53 #[.val (.int i), .val (.int xa), .val (.int xb), .val (.int xc), .val (.int xd), .val (.int (1 : Int32)), .val (.ref b20), .val (.ref b25), .unset, .unset] [(.int (0 : Int32)), (.ref b20)])) (argsL := [(.ref b20), (.int (0 : Int32))]) (rest := []) rfl (by rw [hml]; rfl) (lenOf own_pd_4 rfl) rfl (by show 2 * 0 + _ ≤ _; exact Nat.le_of_eq rfl) (hb hby at_53)
    obtain ⟨rfl, NL26, K26, hs26, VV26⟩ := hQ26
    have E_b20 := E_b20.keep K26
    have E_b25 := E_b25.keep K26
    have F_bytes_b25 := F_bytes_b25.keep K26 (ninS (Ne.symm ne_b20_b25) nin0)
    have F_failure_b25 := F_failure_b25.keep K26 (ninS (Ne.symm ne_b20_b25) nin0)
    have V_d25 := V_d25.keep K26 (ninS (Ne.symm ne_b20_d25) nin0)
    have E_d25 := E_d25.keep K26
    have V_b20 := VV26
    have E0 := own_ext_keep E0 K26 (allS g_b20 all0)
    have Nf := Fr.app Nf NL26
    have hk := Nat.le_trans hk K26.1
    refine own_st (T' := T26) (g' := (mkF m 56 #[.val (.int i), .val (.int xa), .val (.int xb), .val (.int xc), .val (.int xd), .val (.int (1 : Int32)), .val (.ref b20), .val (.ref b25), .unset, .unset] [])) st26 ?_
    refine own_st (T' := T26) (g' := (mkF m 58 #[.val (.int i), .val (.int xa), .val (.int xb), .val (.int xc), .val (.int xd), .val (.int (1 : Int32)), .val (.ref b20), .val (.ref b25), .unset, .unset] [(.ref b20)])) (fun _ k => XS.aload X26.here hx rfl (hb hby at_56) rfl rfl k) ?_
    refine own_st (T' := T26) (g' := (mkF m 59 #[.val (.int i), .val (.int xa), .val (.int xb), .val (.int xc), .val (.int xd), .val (.int (1 : Int32)), .val (.ref b20), .val (.ref b25), .unset, .unset] [(.int (1 : Int32)), (.ref b20)])) (fun _ k => XS.iconst X26.here hx rfl (hb hby at_58) k) ?_
    obtain ⟨v27, T27, L27, X27, hQ27, st27⟩ := own_gS X26  hx hZ hown (hw _ (List.mem_of_getElem? (i := 42) rfl)) (hw _ (List.mem_of_getElem? (i := 43) rfl)) (hw _ (List.mem_of_getElem? (i := 4) rfl)) (hw _ (List.mem_of_getElem? (i := 44) rfl)) (by decide) rfl (own_bump_out l Z a0 hw T26.heap b20 k20 (1 : Int32) (1 : Int32) (0 : Int32) hs26 h0.size g_b20 V_b20 (by decide) (by decide)) (by decide) (by decide) (by decide) (by decide) (Q := (fun v h L => v = none ∧ L = [] ∧ h = T26.heap)) (W := 0) (g := (mkF m 59 #[.val (.int i), .val (.int xa), .val (.int xb), .val (.int xc), .val (.int xd), .val (.int (1 : Int32)), .val (.ref b20), .val (.ref b25), .unset, .unset] [(.int (1 : Int32)), (.ref b20)])) (argsL := [(.ref b20), (.int (1 : Int32))]) (rest := []) rfl (by rw [hml]; rfl) (lenOf own_pd_4 rfl) rfl (by show 2 * 0 + _ ≤ _; exact Nat.le_of_eq rfl) (hb hby at_59)
    obtain ⟨rfl, rfl, hh27⟩ := hQ27
    rw [List.append_nil] at X27
    refine own_st (T' := T27) (g' := (mkF m 62 #[.val (.int i), .val (.int xa), .val (.int xb), .val (.int xc), .val (.int xd), .val (.int (1 : Int32)), .val (.ref b20), .val (.ref b25), .unset, .unset] [])) st27 ?_
    refine own_st (T' := T27) (g' := (mkF m 64 #[.val (.int i), .val (.int xa), .val (.int xb), .val (.int xc), .val (.int xd), .val (.int (1 : Int32)), .val (.ref b20), .val (.ref b25), .unset, .unset] [(.ref b20)])) (fun _ k => XS.aload X27.here hx rfl (hb hby at_62) rfl rfl k) ?_
    refine own_st (T' := T27) (g' := (mkF m 65 #[.val (.int i), .val (.int xa), .val (.int xb), .val (.int xc), .val (.int xd), .val (.int (1 : Int32)), .val (.ref b20), .val (.ref b25), .unset, .unset] [(.int (2 : Int32)), (.ref b20)])) (fun _ k => XS.iconst X27.here hx rfl (hb hby at_64) k) ?_
    obtain ⟨v28, T28, L28, X28, hQ28, st28⟩ := own_gS X27  hx hZ hown (hw _ (List.mem_of_getElem? (i := 42) rfl)) (hw _ (List.mem_of_getElem? (i := 43) rfl)) (hw _ (List.mem_of_getElem? (i := 4) rfl)) (hw _ (List.mem_of_getElem? (i := 44) rfl)) (by decide) hh27 (own_bump_out l Z a0 hw T26.heap b20 k20 (1 : Int32) (2 : Int32) (0 : Int32) hs26 h0.size g_b20 V_b20 (by decide) (by decide)) (by decide) (by decide) (by decide) (by decide) (Q := (fun v h L => v = none ∧ L = [] ∧ h = T26.heap)) (W := 0) (g := (mkF m 65 #[.val (.int i), .val (.int xa), .val (.int xb), .val (.int xc), .val (.int xd), .val (.int (1 : Int32)), .val (.ref b20), .val (.ref b25), .unset, .unset] [(.int (2 : Int32)), (.ref b20)])) (argsL := [(.ref b20), (.int (2 : Int32))]) (rest := []) rfl (by rw [hml]; rfl) (lenOf own_pd_4 rfl) rfl (by show 2 * 0 + _ ≤ _; exact Nat.le_of_eq rfl) (hb hby at_65)
    obtain ⟨rfl, rfl, hh28⟩ := hQ28
    rw [List.append_nil] at X28
    refine own_st (T' := T28) (g' := (mkF m 68 #[.val (.int i), .val (.int xa), .val (.int xb), .val (.int xc), .val (.int xd), .val (.int (1 : Int32)), .val (.ref b20), .val (.ref b25), .unset, .unset] [])) st28 ?_
    refine own_st (T' := T28) (g' := (mkF m 70 #[.val (.int i), .val (.int xa), .val (.int xb), .val (.int xc), .val (.int xd), .val (.int (1 : Int32)), .val (.ref b20), .val (.ref b25), .unset, .unset] [(.ref b20)])) (fun _ k => XS.aload X28.here hx rfl (hb hby at_68) rfl rfl k) ?_
    refine own_st (T' := T28) (g' := (mkF m 71 #[.val (.int i), .val (.int xa), .val (.int xb), .val (.int xc), .val (.int xd), .val (.int (1 : Int32)), .val (.ref b20), .val (.ref b25), .unset, .unset] [(.int (3 : Int32)), (.ref b20)])) (fun _ k => XS.iconst X28.here hx rfl (hb hby at_70) k) ?_
    obtain ⟨v29, T29, L29, X29, hQ29, st29⟩ := own_gS X28  hx hZ hown (hw _ (List.mem_of_getElem? (i := 42) rfl)) (hw _ (List.mem_of_getElem? (i := 43) rfl)) (hw _ (List.mem_of_getElem? (i := 4) rfl)) (hw _ (List.mem_of_getElem? (i := 44) rfl)) (by decide) hh28 (own_bump_out l Z a0 hw T26.heap b20 k20 (1 : Int32) (3 : Int32) (0 : Int32) hs26 h0.size g_b20 V_b20 (by decide) (by decide)) (by decide) (by decide) (by decide) (by decide) (Q := (fun v h L => v = none ∧ L = [] ∧ h = T26.heap)) (W := 0) (g := (mkF m 71 #[.val (.int i), .val (.int xa), .val (.int xb), .val (.int xc), .val (.int xd), .val (.int (1 : Int32)), .val (.ref b20), .val (.ref b25), .unset, .unset] [(.int (3 : Int32)), (.ref b20)])) (argsL := [(.ref b20), (.int (3 : Int32))]) (rest := []) rfl (by rw [hml]; rfl) (lenOf own_pd_4 rfl) rfl (by show 2 * 0 + _ ≤ _; exact Nat.le_of_eq rfl) (hb hby at_71)
    obtain ⟨rfl, rfl, hh29⟩ := hQ29
    rw [List.append_nil] at X29
    refine own_st (T' := T29) (g' := (mkF m 74 #[.val (.int i), .val (.int xa), .val (.int xb), .val (.int xc), .val (.int xd), .val (.int (1 : Int32)), .val (.ref b20), .val (.ref b25), .unset, .unset] [])) st29 ?_
    refine own_st (T' := T29) (g' := (mkF m 76 #[.val (.int i), .val (.int xa), .val (.int xb), .val (.int xc), .val (.int xd), .val (.int (1 : Int32)), .val (.ref b20), .val (.ref b25), .unset, .unset] [(.ref b25)])) (fun _ k => XS.aload X29.here hx rfl (hb hby at_74) rfl rfl k) ?_
    obtain ⟨v30, T30, L30, X30, hQ30, st30⟩ := own_gV X29 hx hZ hown (hw _ (List.mem_of_getElem? (i := 45) rfl)) (hw _ (List.mem_of_getElem? (i := 46) rfl)) (notFace_of_selects (args := #[]) (mvT hZ (hw _ (List.mem_of_getElem? (i := 48) rfl)))) (hw _ (List.mem_of_getElem? (i := 48) rfl)) (hw _ (List.mem_of_getElem? (i := 47) rfl)) (hw _ (List.mem_of_getElem? (i := 8) rfl)) (hw _ (List.mem_of_getElem? (i := 49) rfl)) (by decide) hh29 E_b25 (own_byt l Z a0 hw T26.heap b25 d25 k20 (1 : Int32) (((0 : Int32), (.int (xa.toInt8.toInt32))) :: []) (by decide) F_bytes_b25 V_d25 E_d25) (by decide) (by decide) (by decide) (by decide) (Q := (fun v h L => ∃ b, v = some (.ref b) ∧ T26.heap.size ≤ b ∧ Fr T26.heap.size L ∧ Ext T26.heap h ∧ Arh Z h b k20 .byte (1 : Int32) (((0 : Int32), (.int (xa.toInt8.toInt32))) :: []) [] (.int (0 : Int32)) ∧ Exa Z h b "[B")) (W := 0) (g := (mkF m 76 #[.val (.int i), .val (.int xa), .val (.int xb), .val (.int xc), .val (.int xd), .val (.int (1 : Int32)), .val (.ref b20), .val (.ref b25), .unset, .unset] [(.ref b25)])) (argsL := []) (rest := []) rfl (by rw [hml]; rfl) (lenOf own_pd_5 rfl) rfl (by show 2 * 0 + _ ≤ _; exact Nat.le_of_eq rfl) (hb hby at_76)
    obtain ⟨b30, rfl, gq30, NL30, EX30, VV30, EE30⟩ := hQ30
    have ne_b20_b30 : b20 ≠ b30 := Nat.ne_of_lt (Nat.lt_of_lt_of_le V_b20.lt gq30)
    have ne_b25_b30 : b25 ≠ b30 := Nat.ne_of_lt (Nat.lt_of_lt_of_le E_b25.lt gq30)
    have ne_d25_b30 : d25 ≠ b30 := Nat.ne_of_lt (Nat.lt_of_lt_of_le V_d25.lt gq30)
    have g_b30 : h0.size ≤ b30 := Nat.le_trans E0.1 gq30
    have Nf := Fr.app Nf (own_fr_mono E0.1 NL30)
    have V_b20 := V_b20.ext EX30
    have E_b20 := E_b20.ext EX30
    have E_b25 := E_b25.ext EX30
    have F_bytes_b25 := F_bytes_b25.ext EX30
    have F_failure_b25 := F_failure_b25.ext EX30
    have V_d25 := V_d25.ext EX30
    have E_d25 := E_d25.ext EX30
    have E0 := own_ext_tr E0 EX30
    have hk := Nat.le_trans hk EX30.1
    have V_b30 := VV30
    have E_b30 := EE30
    refine own_st (T' := T30) (g' := (mkF m 79 #[.val (.int i), .val (.int xa), .val (.int xb), .val (.int xc), .val (.int xd), .val (.int (1 : Int32)), .val (.ref b20), .val (.ref b25), .unset, .unset] [(.ref b30)])) st30 ?_
    refine own_st (T' := T30) (g' := (mkF m 81 #[.val (.int i), .val (.int xa), .val (.int xb), .val (.int xc), .val (.int xd), .val (.int (1 : Int32)), .val (.ref b20), .val (.ref b25), .val (.ref b30), .unset] [])) (fun _ k => XS.astore X30.here hx rfl (hb hby at_79) rfl rfl (l' := #[.val (.int i), .val (.int xa), .val (.int xb), .val (.int xc), .val (.int xd), .val (.int (1 : Int32)), .val (.ref b20), .val (.ref b25), .val (.ref b30), .unset]) rfl k) ?_
    refine own_st (T' := T30) (g' := (mkF m 83 #[.val (.int i), .val (.int xa), .val (.int xb), .val (.int xc), .val (.int xd), .val (.int (1 : Int32)), .val (.ref b20), .val (.ref b25), .val (.ref b30), .unset] [(.ref b30)])) (fun _ k => XS.aload X30.here hx rfl (hb hby at_81) rfl rfl k) ?_
    refine own_st (T' := T30) (g' := (mkF m 85 #[.val (.int i), .val (.int xa), .val (.int xb), .val (.int xc), .val (.int xd), .val (.int (1 : Int32)), .val (.ref b20), .val (.ref b25), .val (.ref b30), .unset] [(.ref b20), (.ref b30)])) (fun _ k => XS.aload X30.here hx rfl (hb hby at_83) rfl rfl k) ?_
    refine own_st (T' := T30) (g' := (mkF m 90 #[.val (.int i), .val (.int xa), .val (.int xb), .val (.int xc), .val (.int xd), .val (.int (1 : Int32)), .val (.ref b20), .val (.ref b25), .val (.ref b30), .unset] [])) (fun _ k => Jvm.RoadKit.acmp (g := (mkF m 85 #[.val (.int i), .val (.int xa), .val (.int xb), .val (.int xc), .val (.int xd), .val (.int (1 : Int32)), .val (.ref b20), .val (.ref b25), .val (.ref b30), .unset] [(.ref b20), (.ref b30)])) X30 hx rfl rfl rfl (pc0 := 85) (pc' := 90) (same := false) rfl (hb hby at_85) rfl (decide_eq_false fun q => (Ne.symm ne_b20_b30) (Value.ref.inj q)) (by decide) (by decide) k) ?_
    refine own_st (T' := T30) (g' := (mkF m 92 #[.val (.int i), .val (.int xa), .val (.int xb), .val (.int xc), .val (.int xd), .val (.int (1 : Int32)), .val (.ref b20), .val (.ref b25), .val (.ref b30), .unset] [(.ref b30)])) (fun _ k => XS.aload X30.here hx rfl (hb hby at_90) rfl rfl k) ?_
    have V31 := V_b30
    obtain ⟨cl31, Ar31, qk31, Sz31, Nn31, Hh31, Gg31⟩ := V31
    refine own_st (T' := T30) (g' := (mkF m 93 #[.val (.int i), .val (.int xa), .val (.int xb), .val (.int xc), .val (.int xd), .val (.int (1 : Int32)), .val (.ref b20), .val (.ref b25), .val (.ref b30), .unset] [(.int cl31.slots.size.toInt32)])) (fun _ k => X30.arraylength hx (own_he rfl Ar31.1) (State.isArrayOf_alike hZ.alike Ar31.2.1) (g := (mkF m 92 #[.val (.int i), .val (.int xa), .val (.int xb), .val (.int xc), .val (.int xd), .val (.int (1 : Int32)), .val (.ref b20), .val (.ref b25), .val (.ref b30), .unset] [(.ref b30)])) rfl rfl (hb hby at_92) _ k) ?_
    rw [len_of Sz31 Nn31]
    refine own_st (T' := T30) (g' := (mkF m 95 #[.val (.int i), .val (.int xa), .val (.int xb), .val (.int xc), .val (.int xd), .val (.int (1 : Int32)), .val (.ref b20), .val (.ref b25), .val (.ref b30), .unset] [(.int (1 : Int32)), (.int (1 : Int32))])) (fun _ k => XS.iload X30.here hx rfl (hb hby at_93) rfl k) ?_
    refine own_st (T' := T30) (g' := (mkF m 98 #[.val (.int i), .val (.int xa), .val (.int xb), .val (.int xc), .val (.int xd), .val (.int (1 : Int32)), .val (.ref b20), .val (.ref b25), .val (.ref b30), .unset] [])) (fun _ k => XS.icmpNo X30.here hx rfl (hb hby at_95) rfl (by decide) k) ?_
    refine own_st (T' := T30) (g' := (mkF m 100 #[.val (.int i), .val (.int xa), .val (.int xb), .val (.int xc), .val (.int xd), .val (.int (1 : Int32)), .val (.ref b20), .val (.ref b25), .val (.ref b30), .unset] [(.ref b30)])) (fun _ k => XS.aload X30.here hx rfl (hb hby at_98) rfl rfl k) ?_
    refine own_st (T' := T30) (g' := (mkF m 101 #[.val (.int i), .val (.int xa), .val (.int xb), .val (.int xc), .val (.int xd), .val (.int (1 : Int32)), .val (.ref b20), .val (.ref b25), .val (.ref b30), .unset] [(.int (0 : Int32)), (.ref b30)])) (fun _ k => XS.iconst X30.here hx rfl (hb hby at_100) k) ?_
    refine own_st (T' := T30) (g' := (mkF m 102 #[.val (.int i), .val (.int xa), .val (.int xb), .val (.int xc), .val (.int xd), .val (.int (1 : Int32)), .val (.ref b20), .val (.ref b25), .val (.ref b30), .unset] [(.int xa), (.int (0 : Int32)), (.ref b30)])) (fun _ k => XS.iloadN X30.here hx rfl (hb hby at_101) rfl k) ?_
    obtain ⟨T32, X32, e32, st32⟩ := own_pure (w := (.int (1 : Int32))) rfl rfl (own_gS X30 hx hZ hown (hw _ (List.mem_of_getElem? (i := 50) rfl)) (hw _ (List.mem_of_getElem? (i := 51) rfl)) (hw _ (List.mem_of_getElem? (i := 4) rfl)) (hw _ (List.mem_of_getElem? (i := 52) rfl)) (by decide) rfl (own_at_in l Z a0 hw T30.heap b30 k20 (1 : Int32) (0 : Int32) xa (((0 : Int32), (.int (xa.toInt8.toInt32))) :: []) h0.size g_b30 V_b30 (by decide) (by decide) rfl) (by decide) (by decide) (by decide) (by decide) (Q := fun v h L => v = some (.int (1 : Int32)) ∧ L = [] ∧ h = T30.heap) (W := 0) (g := (mkF m 102 #[.val (.int i), .val (.int xa), .val (.int xb), .val (.int xc), .val (.int xd), .val (.int (1 : Int32)), .val (.ref b20), .val (.ref b25), .val (.ref b30), .unset] [(.int xa), (.int (0 : Int32)), (.ref b30)])) (argsL := [(.ref b30), (.int (0 : Int32)), (.int xa)]) (rest := []) rfl (by rw [hml]; rfl) (lenOf own_pd_6 rfl) rfl (by show 2 * 0 + _ ≤ _; exact Nat.le_of_eq rfl) (hb hby at_102))
    refine own_st (T' := T32) (g' := (mkF m 105 #[.val (.int i), .val (.int xa), .val (.int xb), .val (.int xc), .val (.int xd), .val (.int (1 : Int32)), .val (.ref b20), .val (.ref b25), .val (.ref b30), .unset] [(.int (1 : Int32))])) st32 ?_
    refine own_st (T' := T32) (g' := (mkF m 108 #[.val (.int i), .val (.int xa), .val (.int xb), .val (.int xc), .val (.int xd), .val (.int (1 : Int32)), .val (.ref b20), .val (.ref b25), .val (.ref b30), .unset] [])) (fun _ k => XS.ifNo X32.here hx rfl (hb hby at_105) rfl (by decide) k) ?_
    refine own_st (T' := T32) (g' := (mkF m 110 #[.val (.int i), .val (.int xa), .val (.int xb), .val (.int xc), .val (.int xd), .val (.int (1 : Int32)), .val (.ref b20), .val (.ref b25), .val (.ref b30), .unset] [(.ref b30)])) (fun _ k => XS.aload X32.here hx rfl (hb hby at_108) rfl rfl k) ?_
    refine own_st (T' := T32) (g' := (mkF m 111 #[.val (.int i), .val (.int xa), .val (.int xb), .val (.int xc), .val (.int xd), .val (.int (1 : Int32)), .val (.ref b20), .val (.ref b25), .val (.ref b30), .unset] [(.int (1 : Int32)), (.ref b30)])) (fun _ k => XS.iconst X32.here hx rfl (hb hby at_110) k) ?_
    refine own_st (T' := T32) (g' := (mkF m 112 #[.val (.int i), .val (.int xa), .val (.int xb), .val (.int xc), .val (.int xd), .val (.int (1 : Int32)), .val (.ref b20), .val (.ref b25), .val (.ref b30), .unset] [(.int xb), (.int (1 : Int32)), (.ref b30)])) (fun _ k => XS.iloadN X32.here hx rfl (hb hby at_111) rfl k) ?_
    obtain ⟨T33, X33, e33, st33⟩ := own_pure (w := (.int (1 : Int32))) rfl rfl (own_gS X32 hx hZ hown (hw _ (List.mem_of_getElem? (i := 50) rfl)) (hw _ (List.mem_of_getElem? (i := 51) rfl)) (hw _ (List.mem_of_getElem? (i := 4) rfl)) (hw _ (List.mem_of_getElem? (i := 52) rfl)) (by decide) e32 (own_at_out l Z a0 hw T30.heap b30 k20 (1 : Int32) (1 : Int32) xb (((0 : Int32), (.int (xa.toInt8.toInt32))) :: []) h0.size g_b30 V_b30 (by decide) (by decide)) (by decide) (by decide) (by decide) (by decide) (Q := fun v h L => v = some (.int (1 : Int32)) ∧ L = [] ∧ h = T30.heap) (W := 0) (g := (mkF m 112 #[.val (.int i), .val (.int xa), .val (.int xb), .val (.int xc), .val (.int xd), .val (.int (1 : Int32)), .val (.ref b20), .val (.ref b25), .val (.ref b30), .unset] [(.int xb), (.int (1 : Int32)), (.ref b30)])) (argsL := [(.ref b30), (.int (1 : Int32)), (.int xb)]) (rest := []) rfl (by rw [hml]; rfl) (lenOf own_pd_6 rfl) rfl (by show 2 * 0 + _ ≤ _; exact Nat.le_of_eq rfl) (hb hby at_112))
    refine own_st (T' := T33) (g' := (mkF m 115 #[.val (.int i), .val (.int xa), .val (.int xb), .val (.int xc), .val (.int xd), .val (.int (1 : Int32)), .val (.ref b20), .val (.ref b25), .val (.ref b30), .unset] [(.int (1 : Int32))])) st33 ?_
    refine own_st (T' := T33) (g' := (mkF m 118 #[.val (.int i), .val (.int xa), .val (.int xb), .val (.int xc), .val (.int xd), .val (.int (1 : Int32)), .val (.ref b20), .val (.ref b25), .val (.ref b30), .unset] [])) (fun _ k => XS.ifNo X33.here hx rfl (hb hby at_115) rfl (by decide) k) ?_
    refine own_st (T' := T33) (g' := (mkF m 120 #[.val (.int i), .val (.int xa), .val (.int xb), .val (.int xc), .val (.int xd), .val (.int (1 : Int32)), .val (.ref b20), .val (.ref b25), .val (.ref b30), .unset] [(.ref b30)])) (fun _ k => XS.aload X33.here hx rfl (hb hby at_118) rfl rfl k) ?_
    refine own_st (T' := T33) (g' := (mkF m 121 #[.val (.int i), .val (.int xa), .val (.int xb), .val (.int xc), .val (.int xd), .val (.int (1 : Int32)), .val (.ref b20), .val (.ref b25), .val (.ref b30), .unset] [(.int (2 : Int32)), (.ref b30)])) (fun _ k => XS.iconst X33.here hx rfl (hb hby at_120) k) ?_
    refine own_st (T' := T33) (g' := (mkF m 122 #[.val (.int i), .val (.int xa), .val (.int xb), .val (.int xc), .val (.int xd), .val (.int (1 : Int32)), .val (.ref b20), .val (.ref b25), .val (.ref b30), .unset] [(.int xc), (.int (2 : Int32)), (.ref b30)])) (fun _ k => XS.iloadN X33.here hx rfl (hb hby at_121) rfl k) ?_
    obtain ⟨T34, X34, e34, st34⟩ := own_pure (w := (.int (1 : Int32))) rfl rfl (own_gS X33 hx hZ hown (hw _ (List.mem_of_getElem? (i := 50) rfl)) (hw _ (List.mem_of_getElem? (i := 51) rfl)) (hw _ (List.mem_of_getElem? (i := 4) rfl)) (hw _ (List.mem_of_getElem? (i := 52) rfl)) (by decide) e33 (own_at_out l Z a0 hw T30.heap b30 k20 (1 : Int32) (2 : Int32) xc (((0 : Int32), (.int (xa.toInt8.toInt32))) :: []) h0.size g_b30 V_b30 (by decide) (by decide)) (by decide) (by decide) (by decide) (by decide) (Q := fun v h L => v = some (.int (1 : Int32)) ∧ L = [] ∧ h = T30.heap) (W := 0) (g := (mkF m 122 #[.val (.int i), .val (.int xa), .val (.int xb), .val (.int xc), .val (.int xd), .val (.int (1 : Int32)), .val (.ref b20), .val (.ref b25), .val (.ref b30), .unset] [(.int xc), (.int (2 : Int32)), (.ref b30)])) (argsL := [(.ref b30), (.int (2 : Int32)), (.int xc)]) (rest := []) rfl (by rw [hml]; rfl) (lenOf own_pd_6 rfl) rfl (by show 2 * 0 + _ ≤ _; exact Nat.le_of_eq rfl) (hb hby at_122))
    refine own_st (T' := T34) (g' := (mkF m 125 #[.val (.int i), .val (.int xa), .val (.int xb), .val (.int xc), .val (.int xd), .val (.int (1 : Int32)), .val (.ref b20), .val (.ref b25), .val (.ref b30), .unset] [(.int (1 : Int32))])) st34 ?_
    refine own_st (T' := T34) (g' := (mkF m 128 #[.val (.int i), .val (.int xa), .val (.int xb), .val (.int xc), .val (.int xd), .val (.int (1 : Int32)), .val (.ref b20), .val (.ref b25), .val (.ref b30), .unset] [])) (fun _ k => XS.ifNo X34.here hx rfl (hb hby at_125) rfl (by decide) k) ?_
    refine own_st (T' := T34) (g' := (mkF m 130 #[.val (.int i), .val (.int xa), .val (.int xb), .val (.int xc), .val (.int xd), .val (.int (1 : Int32)), .val (.ref b20), .val (.ref b25), .val (.ref b30), .unset] [(.ref b30)])) (fun _ k => XS.aload X34.here hx rfl (hb hby at_128) rfl rfl k) ?_
    refine own_st (T' := T34) (g' := (mkF m 131 #[.val (.int i), .val (.int xa), .val (.int xb), .val (.int xc), .val (.int xd), .val (.int (1 : Int32)), .val (.ref b20), .val (.ref b25), .val (.ref b30), .unset] [(.int (3 : Int32)), (.ref b30)])) (fun _ k => XS.iconst X34.here hx rfl (hb hby at_130) k) ?_
    refine own_st (T' := T34) (g' := (mkF m 133 #[.val (.int i), .val (.int xa), .val (.int xb), .val (.int xc), .val (.int xd), .val (.int (1 : Int32)), .val (.ref b20), .val (.ref b25), .val (.ref b30), .unset] [(.int xd), (.int (3 : Int32)), (.ref b30)])) (fun _ k => XS.iload X34.here hx rfl (hb hby at_131) rfl k) ?_
    obtain ⟨T35, X35, e35, st35⟩ := own_pure (w := (.int (1 : Int32))) rfl rfl (own_gS X34 hx hZ hown (hw _ (List.mem_of_getElem? (i := 50) rfl)) (hw _ (List.mem_of_getElem? (i := 51) rfl)) (hw _ (List.mem_of_getElem? (i := 4) rfl)) (hw _ (List.mem_of_getElem? (i := 52) rfl)) (by decide) e34 (own_at_out l Z a0 hw T30.heap b30 k20 (1 : Int32) (3 : Int32) xd (((0 : Int32), (.int (xa.toInt8.toInt32))) :: []) h0.size g_b30 V_b30 (by decide) (by decide)) (by decide) (by decide) (by decide) (by decide) (Q := fun v h L => v = some (.int (1 : Int32)) ∧ L = [] ∧ h = T30.heap) (W := 0) (g := (mkF m 133 #[.val (.int i), .val (.int xa), .val (.int xb), .val (.int xc), .val (.int xd), .val (.int (1 : Int32)), .val (.ref b20), .val (.ref b25), .val (.ref b30), .unset] [(.int xd), (.int (3 : Int32)), (.ref b30)])) (argsL := [(.ref b30), (.int (3 : Int32)), (.int xd)]) (rest := []) rfl (by rw [hml]; rfl) (lenOf own_pd_6 rfl) rfl (by show 2 * 0 + _ ≤ _; exact Nat.le_of_eq rfl) (hb hby at_133))
    refine own_st (T' := T35) (g' := (mkF m 136 #[.val (.int i), .val (.int xa), .val (.int xb), .val (.int xc), .val (.int xd), .val (.int (1 : Int32)), .val (.ref b20), .val (.ref b25), .val (.ref b30), .unset] [(.int (1 : Int32))])) st35 ?_
    refine own_st (T' := T35) (g' := (mkF m 139 #[.val (.int i), .val (.int xa), .val (.int xb), .val (.int xc), .val (.int xd), .val (.int (1 : Int32)), .val (.ref b20), .val (.ref b25), .val (.ref b30), .unset] [])) (fun _ k => XS.ifNo X35.here hx rfl (hb hby at_136) rfl (by decide) k) ?_
    refine own_st (T' := T35) (g' := (mkF m 140 #[.val (.int i), .val (.int xa), .val (.int xb), .val (.int xc), .val (.int xd), .val (.int (1 : Int32)), .val (.ref b20), .val (.ref b25), .val (.ref b30), .unset] [(.int (1 : Int32))])) (fun _ k => XS.iconst X35.here hx rfl (hb hby at_139) k) ?_
    refine own_st (T' := T35) (g' := (mkF m 144 #[.val (.int i), .val (.int xa), .val (.int xb), .val (.int xc), .val (.int xd), .val (.int (1 : Int32)), .val (.ref b20), .val (.ref b25), .val (.ref b30), .unset] [(.int (1 : Int32))])) (fun _ k => XS.goto X35.here hx rfl (pc0 := 140) (pc' := 144) rfl (hb hby at_140) (by decide) (by decide) k) ?_
    refine own_st (T' := T35) (g' := (mkF m 146 #[.val (.int i), .val (.int xa), .val (.int xb), .val (.int xc), .val (.int xd), .val (.int (1 : Int32)), .val (.ref b20), .val (.ref b25), .val (.ref b30), .val (.int (1 : Int32))] [])) (fun _ k => XS.istore X35.here hx rfl (hb hby at_144) rfl (l' := #[.val (.int i), .val (.int xa), .val (.int xb), .val (.int xc), .val (.int xd), .val (.int (1 : Int32)), .val (.ref b20), .val (.ref b25), .val (.ref b30), .val (.int (1 : Int32))]) rfl k) ?_
    refine own_st (T' := T35) (g' := (mkF m 148 #[.val (.int i), .val (.int xa), .val (.int xb), .val (.int xc), .val (.int xd), .val (.int (1 : Int32)), .val (.ref b20), .val (.ref b25), .val (.ref b30), .val (.int (1 : Int32))] [(.int (1 : Int32))])) (fun _ k => XS.iload X35.here hx rfl (hb hby at_146) rfl k) ?_
    refine own_st (T' := T35) (g' := (mkF m 151 #[.val (.int i), .val (.int xa), .val (.int xb), .val (.int xc), .val (.int xd), .val (.int (1 : Int32)), .val (.ref b20), .val (.ref b25), .val (.ref b30), .val (.int (1 : Int32))] [])) (fun _ k => XS.ifNo X35.here hx rfl (hb hby at_148) rfl (by decide) k) ?_
    refine own_st (T' := T35) (g' := (mkF m 153 #[.val (.int i), .val (.int xa), .val (.int xb), .val (.int xc), .val (.int xd), .val (.int (1 : Int32)), .val (.ref b20), .val (.ref b25), .val (.ref b30), .val (.int (1 : Int32))] [(.ref b25)])) (fun _ k => XS.aload X35.here hx rfl (hb hby at_151) rfl rfl k) ?_
    obtain ⟨T36, X36, e36, st36⟩ := own_pure (w := (.int (1 : Int32))) rfl rfl (own_gV X35 hx hZ hown (hw _ (List.mem_of_getElem? (i := 53) rfl)) (hw _ (List.mem_of_getElem? (i := 54) rfl)) (notFace_of_selects (args := #[]) (mvT hZ (hw _ (List.mem_of_getElem? (i := 56) rfl)))) (hw _ (List.mem_of_getElem? (i := 56) rfl)) (hw _ (List.mem_of_getElem? (i := 55) rfl)) (hw _ (List.mem_of_getElem? (i := 8) rfl)) (hw _ (List.mem_of_getElem? (i := 57) rfl)) (by decide) e35 E_b25 (own_isf l Z a0 hw T30.heap b25 F_failure_b25) (by decide) (by decide) (by decide) (by decide) (Q := fun v h L => v = some (.int (1 : Int32)) ∧ L = [] ∧ h = T30.heap) (W := 0) (g := (mkF m 153 #[.val (.int i), .val (.int xa), .val (.int xb), .val (.int xc), .val (.int xd), .val (.int (1 : Int32)), .val (.ref b20), .val (.ref b25), .val (.ref b30), .val (.int (1 : Int32))] [(.ref b25)])) (argsL := []) (rest := []) rfl (by rw [hml]; rfl) (lenOf own_pd_7 rfl) rfl (by show 2 * 0 + _ ≤ _; exact Nat.le_of_eq rfl) (hb hby at_153))
    refine own_st (T' := T36) (g' := (mkF m 156 #[.val (.int i), .val (.int xa), .val (.int xb), .val (.int xc), .val (.int xd), .val (.int (1 : Int32)), .val (.ref b20), .val (.ref b25), .val (.ref b30), .val (.int (1 : Int32))] [(.int (1 : Int32))])) st36 ?_
    refine own_st (T' := T36) (g' := (mkF m 159 #[.val (.int i), .val (.int xa), .val (.int xb), .val (.int xc), .val (.int xd), .val (.int (1 : Int32)), .val (.ref b20), .val (.ref b25), .val (.ref b30), .val (.int (1 : Int32))] [])) (fun _ k => XS.ifNo X36.here hx rfl (hb hby at_156) rfl (by decide) k) ?_
    refine own_st (T' := T36) (g' := (mkF m 161 #[.val (.int i), .val (.int xa), .val (.int xb), .val (.int xc), .val (.int xd), .val (.int (1 : Int32)), .val (.ref b20), .val (.ref b25), .val (.ref b30), .val (.int (1 : Int32))] [(.ref b25)])) (fun _ k => XS.aload X36.here hx rfl (hb hby at_159) rfl rfl k) ?_
    obtain ⟨T37, X37, e37, st37⟩ := own_pure (w := (.ref a_FAILED)) rfl rfl (own_gV X36 hx hZ hown (hw _ (List.mem_of_getElem? (i := 58) rfl)) (hw _ (List.mem_of_getElem? (i := 59) rfl)) (notFace_of_selects (args := #[]) (mvT hZ (hw _ (List.mem_of_getElem? (i := 61) rfl)))) (hw _ (List.mem_of_getElem? (i := 61) rfl)) (hw _ (List.mem_of_getElem? (i := 60) rfl)) (hw _ (List.mem_of_getElem? (i := 8) rfl)) (hw _ (List.mem_of_getElem? (i := 62) rfl)) (by decide) e36 E_b25 (own_stat l Z a0 hw T30.heap b25 a_FAILED F_failure_b25 (S_FAILED.ext E0)) (by decide) (by decide) (by decide) (by decide) (Q := fun v h L => v = some (.ref a_FAILED) ∧ L = [] ∧ h = T30.heap) (W := 0) (g := (mkF m 161 #[.val (.int i), .val (.int xa), .val (.int xb), .val (.int xc), .val (.int xd), .val (.int (1 : Int32)), .val (.ref b20), .val (.ref b25), .val (.ref b30), .val (.int (1 : Int32))] [(.ref b25)])) (argsL := []) (rest := []) rfl (by rw [hml]; rfl) (lenOf own_pd_8 rfl) rfl (by show 2 * 0 + _ ≤ _; exact Nat.le_of_eq rfl) (hb hby at_161))
    refine own_st (T' := T37) (g' := (mkF m 164 #[.val (.int i), .val (.int xa), .val (.int xb), .val (.int xc), .val (.int xd), .val (.int (1 : Int32)), .val (.ref b20), .val (.ref b25), .val (.ref b30), .val (.int (1 : Int32))] [(.ref a_FAILED)])) st37 ?_
    obtain ⟨T38, X38, e38, st38⟩ := getS2 X37 hx hZ hown (host := "") (Or.inl (hw _ (List.mem_of_getElem? (i := 66) rfl))) Via.refl e37 (S_FAILED.ext E0) (g := (mkF m 164 #[.val (.int i), .val (.int xa), .val (.int xb), .val (.int xc), .val (.int xd), .val (.int (1 : Int32)), .val (.ref b20), .val (.ref b25), .val (.ref b30), .val (.int (1 : Int32))] [(.ref a_FAILED)])) rfl (hb hby at_164)
    refine own_st (T' := T38) (g' := (mkF m 167 #[.val (.int i), .val (.int xa), .val (.int xb), .val (.int xc), .val (.int xd), .val (.int (1 : Int32)), .val (.ref b20), .val (.ref b25), .val (.ref b30), .val (.int (1 : Int32))] [(.ref a_FAILED), (.ref a_FAILED)])) st38 ?_
    refine own_st (T' := T38) (g' := (mkF m 170 #[.val (.int i), .val (.int xa), .val (.int xb), .val (.int xc), .val (.int xd), .val (.int (1 : Int32)), .val (.ref b20), .val (.ref b25), .val (.ref b30), .val (.int (1 : Int32))] [])) (fun _ k => Jvm.RoadKit.acmp (g := (mkF m 167 #[.val (.int i), .val (.int xa), .val (.int xb), .val (.int xc), .val (.int xd), .val (.int (1 : Int32)), .val (.ref b20), .val (.ref b25), .val (.ref b30), .val (.int (1 : Int32))] [(.ref a_FAILED), (.ref a_FAILED)])) X38 hx rfl rfl rfl (pc0 := 167) (pc' := 170) (same := true) rfl (hb hby at_167) rfl (decide_eq_true rfl) (by decide) (by decide) k) ?_
    refine own_st (T' := T38) (g' := (mkF m 171 #[.val (.int i), .val (.int xa), .val (.int xb), .val (.int xc), .val (.int xd), .val (.int (1 : Int32)), .val (.ref b20), .val (.ref b25), .val (.ref b30), .val (.int (1 : Int32))] [(.int (1 : Int32))])) (fun _ k => XS.iconst X38.here hx rfl (hb hby at_170) k) ?_
    refine own_st (T' := T38) (g' := (mkF m 175 #[.val (.int i), .val (.int xa), .val (.int xb), .val (.int xc), .val (.int xd), .val (.int (1 : Int32)), .val (.ref b20), .val (.ref b25), .val (.ref b30), .val (.int (1 : Int32))] [(.int (1 : Int32))])) (fun _ k => XS.goto X38.here hx rfl (pc0 := 171) (pc' := 175) rfl (hb hby at_171) (by decide) (by decide) k) ?_
    exact own_retW X38 hx hlk hS (by rw [e38]; exact hk) hret rfl (Or.inl ⟨rfl, Or.inr (Or.inl rfl), _, rfl⟩) (hb hby at_175) (by decide) (by decide) ⟨rfl, Nf⟩
  ·
    rw [hE]
    refine own_st (T' := T0) (g' := (mkF m 8 #[.val (.int i), .val (.int xa), .val (.int xb), .val (.int xc), .val (.int xd), .val (.int (2 : Int32)), .unset, .unset, .unset, .unset] [])) (fun _ k => XS.istore X0.here hx rfl (hb hby at_6) rfl (l' := #[.val (.int i), .val (.int xa), .val (.int xb), .val (.int xc), .val (.int xd), .val (.int (2 : Int32)), .unset, .unset, .unset, .unset]) rfl k) ?_
    refine own_st (T' := T0) (g' := (mkF m 10 #[.val (.int i), .val (.int xa), .val (.int xb), .val (.int xc), .val (.int xd), .val (.int (2 : Int32)), .unset, .unset, .unset, .unset] [(.int (2 : Int32))])) (fun _ k => XS.iload X0.here hx rfl (hb hby at_8) rfl k) ?_
    obtain ⟨T39, h39, k39, X39, e39, E39, A39, Q39, st39⟩ := newPE X0 hx hZ (hw _ (List.mem_of_getElem? (i := 1) rfl)) e0 (g := (mkF m 10 #[.val (.int i), .val (.int xa), .val (.int xb), .val (.int xc), .val (.int xd), .val (.int (2 : Int32)), .unset, .unset, .unset, .unset] [(.int (2 : Int32))])) rfl (hb hby at_10) rfl (by decide) (cap := 2) (by decide) (by decide) (by decide) (by decide) (ad := "[B") rfl
    obtain ⟨b39, gb_b39⟩ : ∃ z, z = h0.size := ⟨_, rfl⟩
    rw [← gb_b39] at A39 Q39 st39
    have g_b39 : h0.size ≤ b39 := Nat.le_trans E0.1 (Nat.le_of_eq gb_b39.symm)
    have E0 := own_ext_tr E0 E39
    have hk := Nat.le_trans hk E39.1
    have V_b39 : Arh Z h39 b39 k39 .byte (2 : Int32) [] [] (.int (0 : Int32)) := Arv.arh (Arv.new A39 (by decide))
    have E_b39 := Q39
    refine own_st (T' := T39) (g' := (mkF m 12 #[.val (.int i), .val (.int xa), .val (.int xb), .val (.int xc), .val (.int xd), .val (.int (2 : Int32)), .unset, .unset, .unset, .unset] [(.ref b39)])) st39 ?_
    refine own_st (T' := T39) (g' := (mkF m 14 #[.val (.int i), .val (.int xa), .val (.int xb), .val (.int xc), .val (.int xd), .val (.int (2 : Int32)), .val (.ref b39), .unset, .unset, .unset] [])) (fun _ k => XS.astore X39.here hx rfl (hb hby at_12) rfl rfl (l' := #[.val (.int i), .val (.int xa), .val (.int xb), .val (.int xc), .val (.int xd), .val (.int (2 : Int32)), .val (.ref b39), .unset, .unset, .unset]) rfl k) ?_
    refine own_st (T' := T39) (g' := (mkF m 16 #[.val (.int i), .val (.int xa), .val (.int xb), .val (.int xc), .val (.int xd), .val (.int (2 : Int32)), .val (.ref b39), .unset, .unset, .unset] [(.ref b39)])) (fun _ k => XS.aload X39.here hx rfl (hb hby at_14) rfl rfl k) ?_
    refine own_st (T' := T39) (g' := (mkF m 17 #[.val (.int i), .val (.int xa), .val (.int xb), .val (.int xc), .val (.int xd), .val (.int (2 : Int32)), .val (.ref b39), .unset, .unset, .unset] [(.int (0 : Int32)), (.ref b39)])) (fun _ k => XS.iconst X39.here hx rfl (hb hby at_16) k) ?_
    refine own_st (T' := T39) (g' := (mkF m 18 #[.val (.int i), .val (.int xa), .val (.int xb), .val (.int xc), .val (.int xd), .val (.int (2 : Int32)), .val (.ref b39), .unset, .unset, .unset] [(.int xa), (.int (0 : Int32)), (.ref b39)])) (fun _ k => XS.iloadN X39.here hx rfl (hb hby at_17) rfl k) ?_
    obtain ⟨v40, T40, L40, X40, hQ40, st40⟩ := own_gS X39  hx hZ hown (hw _ (List.mem_of_getElem? (i := 2) rfl)) (hw _ (List.mem_of_getElem? (i := 3) rfl)) (hw _ (List.mem_of_getElem? (i := 4) rfl)) (hw _ (List.mem_of_getElem? (i := 5) rfl)) (by decide) e39 (own_set_in l Z a0 hw h39 b39 k39 (2 : Int32) (0 : Int32) xa [] h0.size g_b39 V_b39 (by decide) (by decide)) (by decide) (by decide) (by decide) (by decide) (Q := (fun v h L => v = none ∧ Fr h0.size L ∧ Keep h39 h [b39] ∧ Arh Z h b39 k39 .byte (2 : Int32) (((0 : Int32), (.int (xa.toInt8.toInt32))) :: []) [] (.int (0 : Int32)))) (W := 0) (g := (mkF m 18 #[.val (.int i), .val (.int xa), .val (.int xb), .val (.int xc), .val (.int xd), .val (.int (2 : Int32)), .val (.ref b39), .unset, .unset, .unset] [(.int xa), (.int (0 : Int32)), (.ref b39)])) (argsL := [(.ref b39), (.int (0 : Int32)), (.int xa)]) (rest := []) rfl (by rw [hml]; rfl) (lenOf own_pd_2 rfl) rfl (by show 2 * 0 + _ ≤ _; exact Nat.le_of_eq rfl) (hb hby at_18)
    obtain ⟨rfl, NL40, K40, VV40⟩ := hQ40
    have E_b39 := E_b39.keep K40
    have V_b39 := VV40
    have E0 := own_ext_keep E0 K40 (allS g_b39 all0)
    have Nf := Fr.app Nf NL40
    have hk := Nat.le_trans hk K40.1
    refine own_st (T' := T40) (g' := (mkF m 21 #[.val (.int i), .val (.int xa), .val (.int xb), .val (.int xc), .val (.int xd), .val (.int (2 : Int32)), .val (.ref b39), .unset, .unset, .unset] [])) st40 ?_
    refine own_st (T' := T40) (g' := (mkF m 23 #[.val (.int i), .val (.int xa), .val (.int xb), .val (.int xc), .val (.int xd), .val (.int (2 : Int32)), .val (.ref b39), .unset, .unset, .unset] [(.ref b39)])) (fun _ k => XS.aload X40.here hx rfl (hb hby at_21) rfl rfl k) ?_
    refine own_st (T' := T40) (g' := (mkF m 24 #[.val (.int i), .val (.int xa), .val (.int xb), .val (.int xc), .val (.int xd), .val (.int (2 : Int32)), .val (.ref b39), .unset, .unset, .unset] [(.int (1 : Int32)), (.ref b39)])) (fun _ k => XS.iconst X40.here hx rfl (hb hby at_23) k) ?_
    refine own_st (T' := T40) (g' := (mkF m 25 #[.val (.int i), .val (.int xa), .val (.int xb), .val (.int xc), .val (.int xd), .val (.int (2 : Int32)), .val (.ref b39), .unset, .unset, .unset] [(.int xb), (.int (1 : Int32)), (.ref b39)])) (fun _ k => XS.iloadN X40.here hx rfl (hb hby at_24) rfl k) ?_
    obtain ⟨v41, T41, L41, X41, hQ41, st41⟩ := own_gS X40  hx hZ hown (hw _ (List.mem_of_getElem? (i := 2) rfl)) (hw _ (List.mem_of_getElem? (i := 3) rfl)) (hw _ (List.mem_of_getElem? (i := 4) rfl)) (hw _ (List.mem_of_getElem? (i := 5) rfl)) (by decide) rfl (own_set_in l Z a0 hw T40.heap b39 k39 (2 : Int32) (1 : Int32) xb (((0 : Int32), (.int (xa.toInt8.toInt32))) :: []) h0.size g_b39 V_b39 (by decide) (by decide)) (by decide) (by decide) (by decide) (by decide) (Q := (fun v h L => v = none ∧ Fr h0.size L ∧ Keep T40.heap h [b39] ∧ Arh Z h b39 k39 .byte (2 : Int32) (((1 : Int32), (.int (xb.toInt8.toInt32))) :: (((0 : Int32), (.int (xa.toInt8.toInt32))) :: [])) [] (.int (0 : Int32)))) (W := 0) (g := (mkF m 25 #[.val (.int i), .val (.int xa), .val (.int xb), .val (.int xc), .val (.int xd), .val (.int (2 : Int32)), .val (.ref b39), .unset, .unset, .unset] [(.int xb), (.int (1 : Int32)), (.ref b39)])) (argsL := [(.ref b39), (.int (1 : Int32)), (.int xb)]) (rest := []) rfl (by rw [hml]; rfl) (lenOf own_pd_2 rfl) rfl (by show 2 * 0 + _ ≤ _; exact Nat.le_of_eq rfl) (hb hby at_25)
    obtain ⟨rfl, NL41, K41, VV41⟩ := hQ41
    have E_b39 := E_b39.keep K41
    have V_b39 := VV41
    have E0 := own_ext_keep E0 K41 (allS g_b39 all0)
    have Nf := Fr.app Nf NL41
    have hk := Nat.le_trans hk K41.1
    refine own_st (T' := T41) (g' := (mkF m 28 #[.val (.int i), .val (.int xa), .val (.int xb), .val (.int xc), .val (.int xd), .val (.int (2 : Int32)), .val (.ref b39), .unset, .unset, .unset] [])) st41 ?_
    refine own_st (T' := T41) (g' := (mkF m 30 #[.val (.int i), .val (.int xa), .val (.int xb), .val (.int xc), .val (.int xd), .val (.int (2 : Int32)), .val (.ref b39), .unset, .unset, .unset] [(.ref b39)])) (fun _ k => XS.aload X41.here hx rfl (hb hby at_28) rfl rfl k) ?_
    refine own_st (T' := T41) (g' := (mkF m 31 #[.val (.int i), .val (.int xa), .val (.int xb), .val (.int xc), .val (.int xd), .val (.int (2 : Int32)), .val (.ref b39), .unset, .unset, .unset] [(.int (2 : Int32)), (.ref b39)])) (fun _ k => XS.iconst X41.here hx rfl (hb hby at_30) k) ?_
    refine own_st (T' := T41) (g' := (mkF m 32 #[.val (.int i), .val (.int xa), .val (.int xb), .val (.int xc), .val (.int xd), .val (.int (2 : Int32)), .val (.ref b39), .unset, .unset, .unset] [(.int xc), (.int (2 : Int32)), (.ref b39)])) (fun _ k => XS.iloadN X41.here hx rfl (hb hby at_31) rfl k) ?_
    obtain ⟨v42, T42, L42, X42, hQ42, st42⟩ := own_gS X41  hx hZ hown (hw _ (List.mem_of_getElem? (i := 2) rfl)) (hw _ (List.mem_of_getElem? (i := 3) rfl)) (hw _ (List.mem_of_getElem? (i := 4) rfl)) (hw _ (List.mem_of_getElem? (i := 5) rfl)) (by decide) rfl (own_set_out l Z a0 hw T41.heap b39 k39 (2 : Int32) (2 : Int32) xc (((1 : Int32), (.int (xb.toInt8.toInt32))) :: (((0 : Int32), (.int (xa.toInt8.toInt32))) :: [])) h0.size g_b39 V_b39 (by decide) (by decide)) (by decide) (by decide) (by decide) (by decide) (Q := (fun v h L => v = none ∧ L = [] ∧ h = T41.heap)) (W := 0) (g := (mkF m 32 #[.val (.int i), .val (.int xa), .val (.int xb), .val (.int xc), .val (.int xd), .val (.int (2 : Int32)), .val (.ref b39), .unset, .unset, .unset] [(.int xc), (.int (2 : Int32)), (.ref b39)])) (argsL := [(.ref b39), (.int (2 : Int32)), (.int xc)]) (rest := []) rfl (by rw [hml]; rfl) (lenOf own_pd_2 rfl) rfl (by show 2 * 0 + _ ≤ _; exact Nat.le_of_eq rfl) (hb hby at_32)
    obtain ⟨rfl, rfl, hh42⟩ := hQ42
    rw [List.append_nil] at X42
    refine own_st (T' := T42) (g' := (mkF m 35 #[.val (.int i), .val (.int xa), .val (.int xb), .val (.int xc), .val (.int xd), .val (.int (2 : Int32)), .val (.ref b39), .unset, .unset, .unset] [])) st42 ?_
    refine own_st (T' := T42) (g' := (mkF m 37 #[.val (.int i), .val (.int xa), .val (.int xb), .val (.int xc), .val (.int xd), .val (.int (2 : Int32)), .val (.ref b39), .unset, .unset, .unset] [(.ref b39)])) (fun _ k => XS.aload X42.here hx rfl (hb hby at_35) rfl rfl k) ?_
    refine own_st (T' := T42) (g' := (mkF m 38 #[.val (.int i), .val (.int xa), .val (.int xb), .val (.int xc), .val (.int xd), .val (.int (2 : Int32)), .val (.ref b39), .unset, .unset, .unset] [(.int (3 : Int32)), (.ref b39)])) (fun _ k => XS.iconst X42.here hx rfl (hb hby at_37) k) ?_
    refine own_st (T' := T42) (g' := (mkF m 40 #[.val (.int i), .val (.int xa), .val (.int xb), .val (.int xc), .val (.int xd), .val (.int (2 : Int32)), .val (.ref b39), .unset, .unset, .unset] [(.int xd), (.int (3 : Int32)), (.ref b39)])) (fun _ k => XS.iload X42.here hx rfl (hb hby at_38) rfl k) ?_
    obtain ⟨v43, T43, L43, X43, hQ43, st43⟩ := own_gS X42  hx hZ hown (hw _ (List.mem_of_getElem? (i := 2) rfl)) (hw _ (List.mem_of_getElem? (i := 3) rfl)) (hw _ (List.mem_of_getElem? (i := 4) rfl)) (hw _ (List.mem_of_getElem? (i := 5) rfl)) (by decide) hh42 (own_set_out l Z a0 hw T41.heap b39 k39 (2 : Int32) (3 : Int32) xd (((1 : Int32), (.int (xb.toInt8.toInt32))) :: (((0 : Int32), (.int (xa.toInt8.toInt32))) :: [])) h0.size g_b39 V_b39 (by decide) (by decide)) (by decide) (by decide) (by decide) (by decide) (Q := (fun v h L => v = none ∧ L = [] ∧ h = T41.heap)) (W := 0) (g := (mkF m 40 #[.val (.int i), .val (.int xa), .val (.int xb), .val (.int xc), .val (.int xd), .val (.int (2 : Int32)), .val (.ref b39), .unset, .unset, .unset] [(.int xd), (.int (3 : Int32)), (.ref b39)])) (argsL := [(.ref b39), (.int (3 : Int32)), (.int xd)]) (rest := []) rfl (by rw [hml]; rfl) (lenOf own_pd_2 rfl) rfl (by show 2 * 0 + _ ≤ _; exact Nat.le_of_eq rfl) (hb hby at_40)
    obtain ⟨rfl, rfl, hh43⟩ := hQ43
    rw [List.append_nil] at X43
    refine own_st (T' := T43) (g' := (mkF m 43 #[.val (.int i), .val (.int xa), .val (.int xb), .val (.int xc), .val (.int xd), .val (.int (2 : Int32)), .val (.ref b39), .unset, .unset, .unset] [])) st43 ?_
    refine own_st (T' := T43) (g' := (mkF m 45 #[.val (.int i), .val (.int xa), .val (.int xb), .val (.int xc), .val (.int xd), .val (.int (2 : Int32)), .val (.ref b39), .unset, .unset, .unset] [(.ref b39)])) (fun _ k => XS.aload X43.here hx rfl (hb hby at_43) rfl rfl k) ?_
    obtain ⟨v44, T44, L44, k44, X44, hQ44, hS, hk, hZ, hown, st44⟩ := own_gSW X43 hS hk hx hZ hown (hw _ (List.mem_of_getElem? (i := 6) rfl)) (hw _ (List.mem_of_getElem? (i := 7) rfl)) (hw _ (List.mem_of_getElem? (i := 8) rfl)) (hw _ (List.mem_of_getElem? (i := 9) rfl)) (by decide) hh43 (own_succ l Z a0 hw T41.heap b39 k39 (2 : Int32) (((1 : Int32), (.int (xb.toInt8.toInt32))) :: (((0 : Int32), (.int (xa.toInt8.toInt32))) :: [])) (by decide) V_b39 E_b39) (by decide) (by decide) (by decide) (by decide) (Q := (fun v h L => ∃ o d, v = some (.ref o) ∧ T41.heap.size ≤ o ∧ T41.heap.size ≤ d ∧ Fr T41.heap.size L ∧ Ext T41.heap h ∧ Exa Z h o "com/example/earnest_key/earnestkey/Outcome" ∧ Fld Z h o "com/example/earnest_key/earnestkey/Outcome" "bytes" "[B" (.ref d) ∧ Fld Z h o "com/example/earnest_key/earnestkey/Outcome" "failure" "Z" (.int (1 : Int32)) ∧ Arh Z h d k39 .byte (2 : Int32) (((1 : Int32), (.int (xb.toInt8.toInt32))) :: (((0 : Int32), (.int (xa.toInt8.toInt32))) :: [])) [] (.int (0 : Int32)) ∧ Exa Z h d "[B" ∧ o ≠ d)) (W := 0) (g := (mkF m 45 #[.val (.int i), .val (.int xa), .val (.int xb), .val (.int xc), .val (.int xd), .val (.int (2 : Int32)), .val (.ref b39), .unset, .unset, .unset] [(.ref b39)])) (argsL := [(.ref b39)]) (rest := []) rfl (by rw [hml]; rfl) (lenOf own_pd_3 rfl) rfl (by show 2 * 0 + _ ≤ _; exact Nat.le_of_eq rfl) (hb hby at_45)
    obtain ⟨b44, d44, rfl, gq44, gd44, NL44, EX44, EE44, FB44, FF44, VV44, ED44, nod44⟩ := hQ44
    have ne_b39_b44 : b39 ≠ b44 := Nat.ne_of_lt (Nat.lt_of_lt_of_le V_b39.lt gq44)
    have g_b44 : h0.size ≤ b44 := Nat.le_trans E0.1 gq44
    have ne_b39_d44 : b39 ≠ d44 := Nat.ne_of_lt (Nat.lt_of_lt_of_le V_b39.lt gd44)
    have g_d44 : h0.size ≤ d44 := Nat.le_trans E0.1 gd44
    have Nf := Fr.app Nf (own_fr_mono E0.1 NL44)
    have V_b39 := V_b39.ext EX44
    have E_b39 := E_b39.ext EX44
    have E0 := own_ext_tr E0 EX44
    have E_b44 := EE44
    have F_bytes_b44 := FB44
    have F_failure_b44 := FF44
    have V_d44 := VV44
    have E_d44 := ED44
    refine own_st (T' := T44) (g' := (mkF m 48 #[.val (.int i), .val (.int xa), .val (.int xb), .val (.int xc), .val (.int xd), .val (.int (2 : Int32)), .val (.ref b39), .unset, .unset, .unset] [(.ref b44)])) st44 ?_
    refine own_st (T' := T44) (g' := (mkF m 50 #[.val (.int i), .val (.int xa), .val (.int xb), .val (.int xc), .val (.int xd), .val (.int (2 : Int32)), .val (.ref b39), .val (.ref b44), .unset, .unset] [])) (fun _ k => XS.astore X44.here hx rfl (hb hby at_48) rfl rfl (l' := #[.val (.int i), .val (.int xa), .val (.int xb), .val (.int xc), .val (.int xd), .val (.int (2 : Int32)), .val (.ref b39), .val (.ref b44), .unset, .unset]) rfl k) ?_
    refine own_st (T' := T44) (g' := (mkF m 52 #[.val (.int i), .val (.int xa), .val (.int xb), .val (.int xc), .val (.int xd), .val (.int (2 : Int32)), .val (.ref b39), .val (.ref b44), .unset, .unset] [(.ref b39)])) (fun _ k => XS.aload X44.here hx rfl (hb hby at_50) rfl rfl k) ?_
    refine own_st (T' := T44) (g' := (mkF m 53 #[.val (.int i), .val (.int xa), .val (.int xb), .val (.int xc), .val (.int xd), .val (.int (2 : Int32)), .val (.ref b39), .val (.ref b44), .unset, .unset] [(.int (0 : Int32)), (.ref b39)])) (fun _ k => XS.iconst X44.here hx rfl (hb hby at_52) k) ?_
    obtain ⟨v45, T45, L45, X45, hQ45, st45⟩ := own_gS X44  hx hZ hown (hw _ (List.mem_of_getElem? (i := 42) rfl)) (hw _ (List.mem_of_getElem? (i := 43) rfl)) (hw _ (List.mem_of_getElem? (i := 4) rfl)) (hw _ (List.mem_of_getElem? (i := 44) rfl)) (by decide) rfl (own_bump_in l Z a0 hw T44.heap b39 k39 (2 : Int32) (0 : Int32) (0 : Int32) (((1 : Int32), (.int (xb.toInt8.toInt32))) :: (((0 : Int32), (.int (xa.toInt8.toInt32))) :: [])) h0.size g_b39 V_b39 (by decide) (by decide)) (by decide) (by decide) (by decide) (by decide) (Q := (fun v h L => v = none ∧ Fr h0.size L ∧ Keep T44.heap h [b39] ∧ ∃ hs', Arh Z h b39 k39 .byte (2 : Int32) hs' [] (.int (0 : Int32)))) (W := 0) (g := (mkF m 53 #[.val (.int i), .val (.int xa), .val (.int xb), .val (.int xc), .val (.int xd), .val (.int (2 : Int32)), .val (.ref b39), .val (.ref b44), .unset, .unset] [(.int (0 : Int32)), (.ref b39)])) (argsL := [(.ref b39), (.int (0 : Int32))]) (rest := []) rfl (by rw [hml]; rfl) (lenOf own_pd_4 rfl) rfl (by show 2 * 0 + _ ≤ _; exact Nat.le_of_eq rfl) (hb hby at_53)
    obtain ⟨rfl, NL45, K45, hs45, VV45⟩ := hQ45
    have E_b39 := E_b39.keep K45
    have E_b44 := E_b44.keep K45
    have F_bytes_b44 := F_bytes_b44.keep K45 (ninS (Ne.symm ne_b39_b44) nin0)
    have F_failure_b44 := F_failure_b44.keep K45 (ninS (Ne.symm ne_b39_b44) nin0)
    have V_d44 := V_d44.keep K45 (ninS (Ne.symm ne_b39_d44) nin0)
    have E_d44 := E_d44.keep K45
    have V_b39 := VV45
    have E0 := own_ext_keep E0 K45 (allS g_b39 all0)
    have Nf := Fr.app Nf NL45
    have hk := Nat.le_trans hk K45.1
    refine own_st (T' := T45) (g' := (mkF m 56 #[.val (.int i), .val (.int xa), .val (.int xb), .val (.int xc), .val (.int xd), .val (.int (2 : Int32)), .val (.ref b39), .val (.ref b44), .unset, .unset] [])) st45 ?_
    refine own_st (T' := T45) (g' := (mkF m 58 #[.val (.int i), .val (.int xa), .val (.int xb), .val (.int xc), .val (.int xd), .val (.int (2 : Int32)), .val (.ref b39), .val (.ref b44), .unset, .unset] [(.ref b39)])) (fun _ k => XS.aload X45.here hx rfl (hb hby at_56) rfl rfl k) ?_
    refine own_st (T' := T45) (g' := (mkF m 59 #[.val (.int i), .val (.int xa), .val (.int xb), .val (.int xc), .val (.int xd), .val (.int (2 : Int32)), .val (.ref b39), .val (.ref b44), .unset, .unset] [(.int (1 : Int32)), (.ref b39)])) (fun _ k => XS.iconst X45.here hx rfl (hb hby at_58) k) ?_
    obtain ⟨v46, T46, L46, X46, hQ46, st46⟩ := own_gS X45  hx hZ hown (hw _ (List.mem_of_getElem? (i := 42) rfl)) (hw _ (List.mem_of_getElem? (i := 43) rfl)) (hw _ (List.mem_of_getElem? (i := 4) rfl)) (hw _ (List.mem_of_getElem? (i := 44) rfl)) (by decide) rfl (own_bump_in l Z a0 hw T45.heap b39 k39 (2 : Int32) (1 : Int32) (0 : Int32) hs45 h0.size g_b39 V_b39 (by decide) (by decide)) (by decide) (by decide) (by decide) (by decide) (Q := (fun v h L => v = none ∧ Fr h0.size L ∧ Keep T45.heap h [b39] ∧ ∃ hs', Arh Z h b39 k39 .byte (2 : Int32) hs' [] (.int (0 : Int32)))) (W := 0) (g := (mkF m 59 #[.val (.int i), .val (.int xa), .val (.int xb), .val (.int xc), .val (.int xd), .val (.int (2 : Int32)), .val (.ref b39), .val (.ref b44), .unset, .unset] [(.int (1 : Int32)), (.ref b39)])) (argsL := [(.ref b39), (.int (1 : Int32))]) (rest := []) rfl (by rw [hml]; rfl) (lenOf own_pd_4 rfl) rfl (by show 2 * 0 + _ ≤ _; exact Nat.le_of_eq rfl) (hb hby at_59)
    obtain ⟨rfl, NL46, K46, hs46, VV46⟩ := hQ46
    have E_b39 := E_b39.keep K46
    have E_b44 := E_b44.keep K46
    have F_bytes_b44 := F_bytes_b44.keep K46 (ninS (Ne.symm ne_b39_b44) nin0)
    have F_failure_b44 := F_failure_b44.keep K46 (ninS (Ne.symm ne_b39_b44) nin0)
    have V_d44 := V_d44.keep K46 (ninS (Ne.symm ne_b39_d44) nin0)
    have E_d44 := E_d44.keep K46
    have V_b39 := VV46
    have E0 := own_ext_keep E0 K46 (allS g_b39 all0)
    have Nf := Fr.app Nf NL46
    have hk := Nat.le_trans hk K46.1
    refine own_st (T' := T46) (g' := (mkF m 62 #[.val (.int i), .val (.int xa), .val (.int xb), .val (.int xc), .val (.int xd), .val (.int (2 : Int32)), .val (.ref b39), .val (.ref b44), .unset, .unset] [])) st46 ?_
    refine own_st (T' := T46) (g' := (mkF m 64 #[.val (.int i), .val (.int xa), .val (.int xb), .val (.int xc), .val (.int xd), .val (.int (2 : Int32)), .val (.ref b39), .val (.ref b44), .unset, .unset] [(.ref b39)])) (fun _ k => XS.aload X46.here hx rfl (hb hby at_62) rfl rfl k) ?_
    refine own_st (T' := T46) (g' := (mkF m 65 #[.val (.int i), .val (.int xa), .val (.int xb), .val (.int xc), .val (.int xd), .val (.int (2 : Int32)), .val (.ref b39), .val (.ref b44), .unset, .unset] [(.int (2 : Int32)), (.ref b39)])) (fun _ k => XS.iconst X46.here hx rfl (hb hby at_64) k) ?_
    obtain ⟨v47, T47, L47, X47, hQ47, st47⟩ := own_gS X46  hx hZ hown (hw _ (List.mem_of_getElem? (i := 42) rfl)) (hw _ (List.mem_of_getElem? (i := 43) rfl)) (hw _ (List.mem_of_getElem? (i := 4) rfl)) (hw _ (List.mem_of_getElem? (i := 44) rfl)) (by decide) rfl (own_bump_out l Z a0 hw T46.heap b39 k39 (2 : Int32) (2 : Int32) (0 : Int32) hs46 h0.size g_b39 V_b39 (by decide) (by decide)) (by decide) (by decide) (by decide) (by decide) (Q := (fun v h L => v = none ∧ L = [] ∧ h = T46.heap)) (W := 0) (g := (mkF m 65 #[.val (.int i), .val (.int xa), .val (.int xb), .val (.int xc), .val (.int xd), .val (.int (2 : Int32)), .val (.ref b39), .val (.ref b44), .unset, .unset] [(.int (2 : Int32)), (.ref b39)])) (argsL := [(.ref b39), (.int (2 : Int32))]) (rest := []) rfl (by rw [hml]; rfl) (lenOf own_pd_4 rfl) rfl (by show 2 * 0 + _ ≤ _; exact Nat.le_of_eq rfl) (hb hby at_65)
    obtain ⟨rfl, rfl, hh47⟩ := hQ47
    rw [List.append_nil] at X47
    refine own_st (T' := T47) (g' := (mkF m 68 #[.val (.int i), .val (.int xa), .val (.int xb), .val (.int xc), .val (.int xd), .val (.int (2 : Int32)), .val (.ref b39), .val (.ref b44), .unset, .unset] [])) st47 ?_
    refine own_st (T' := T47) (g' := (mkF m 70 #[.val (.int i), .val (.int xa), .val (.int xb), .val (.int xc), .val (.int xd), .val (.int (2 : Int32)), .val (.ref b39), .val (.ref b44), .unset, .unset] [(.ref b39)])) (fun _ k => XS.aload X47.here hx rfl (hb hby at_68) rfl rfl k) ?_
    refine own_st (T' := T47) (g' := (mkF m 71 #[.val (.int i), .val (.int xa), .val (.int xb), .val (.int xc), .val (.int xd), .val (.int (2 : Int32)), .val (.ref b39), .val (.ref b44), .unset, .unset] [(.int (3 : Int32)), (.ref b39)])) (fun _ k => XS.iconst X47.here hx rfl (hb hby at_70) k) ?_
    obtain ⟨v48, T48, L48, X48, hQ48, st48⟩ := own_gS X47  hx hZ hown (hw _ (List.mem_of_getElem? (i := 42) rfl)) (hw _ (List.mem_of_getElem? (i := 43) rfl)) (hw _ (List.mem_of_getElem? (i := 4) rfl)) (hw _ (List.mem_of_getElem? (i := 44) rfl)) (by decide) hh47 (own_bump_out l Z a0 hw T46.heap b39 k39 (2 : Int32) (3 : Int32) (0 : Int32) hs46 h0.size g_b39 V_b39 (by decide) (by decide)) (by decide) (by decide) (by decide) (by decide) (Q := (fun v h L => v = none ∧ L = [] ∧ h = T46.heap)) (W := 0) (g := (mkF m 71 #[.val (.int i), .val (.int xa), .val (.int xb), .val (.int xc), .val (.int xd), .val (.int (2 : Int32)), .val (.ref b39), .val (.ref b44), .unset, .unset] [(.int (3 : Int32)), (.ref b39)])) (argsL := [(.ref b39), (.int (3 : Int32))]) (rest := []) rfl (by rw [hml]; rfl) (lenOf own_pd_4 rfl) rfl (by show 2 * 0 + _ ≤ _; exact Nat.le_of_eq rfl) (hb hby at_71)
    obtain ⟨rfl, rfl, hh48⟩ := hQ48
    rw [List.append_nil] at X48
    refine own_st (T' := T48) (g' := (mkF m 74 #[.val (.int i), .val (.int xa), .val (.int xb), .val (.int xc), .val (.int xd), .val (.int (2 : Int32)), .val (.ref b39), .val (.ref b44), .unset, .unset] [])) st48 ?_
    refine own_st (T' := T48) (g' := (mkF m 76 #[.val (.int i), .val (.int xa), .val (.int xb), .val (.int xc), .val (.int xd), .val (.int (2 : Int32)), .val (.ref b39), .val (.ref b44), .unset, .unset] [(.ref b44)])) (fun _ k => XS.aload X48.here hx rfl (hb hby at_74) rfl rfl k) ?_
    obtain ⟨v49, T49, L49, X49, hQ49, st49⟩ := own_gV X48 hx hZ hown (hw _ (List.mem_of_getElem? (i := 45) rfl)) (hw _ (List.mem_of_getElem? (i := 46) rfl)) (notFace_of_selects (args := #[]) (mvT hZ (hw _ (List.mem_of_getElem? (i := 48) rfl)))) (hw _ (List.mem_of_getElem? (i := 48) rfl)) (hw _ (List.mem_of_getElem? (i := 47) rfl)) (hw _ (List.mem_of_getElem? (i := 8) rfl)) (hw _ (List.mem_of_getElem? (i := 49) rfl)) (by decide) hh48 E_b44 (own_byt l Z a0 hw T46.heap b44 d44 k39 (2 : Int32) (((1 : Int32), (.int (xb.toInt8.toInt32))) :: (((0 : Int32), (.int (xa.toInt8.toInt32))) :: [])) (by decide) F_bytes_b44 V_d44 E_d44) (by decide) (by decide) (by decide) (by decide) (Q := (fun v h L => ∃ b, v = some (.ref b) ∧ T46.heap.size ≤ b ∧ Fr T46.heap.size L ∧ Ext T46.heap h ∧ Arh Z h b k39 .byte (2 : Int32) (((1 : Int32), (.int (xb.toInt8.toInt32))) :: (((0 : Int32), (.int (xa.toInt8.toInt32))) :: [])) [] (.int (0 : Int32)) ∧ Exa Z h b "[B")) (W := 0) (g := (mkF m 76 #[.val (.int i), .val (.int xa), .val (.int xb), .val (.int xc), .val (.int xd), .val (.int (2 : Int32)), .val (.ref b39), .val (.ref b44), .unset, .unset] [(.ref b44)])) (argsL := []) (rest := []) rfl (by rw [hml]; rfl) (lenOf own_pd_5 rfl) rfl (by show 2 * 0 + _ ≤ _; exact Nat.le_of_eq rfl) (hb hby at_76)
    obtain ⟨b49, rfl, gq49, NL49, EX49, VV49, EE49⟩ := hQ49
    have ne_b39_b49 : b39 ≠ b49 := Nat.ne_of_lt (Nat.lt_of_lt_of_le V_b39.lt gq49)
    have ne_b44_b49 : b44 ≠ b49 := Nat.ne_of_lt (Nat.lt_of_lt_of_le E_b44.lt gq49)
    have ne_d44_b49 : d44 ≠ b49 := Nat.ne_of_lt (Nat.lt_of_lt_of_le V_d44.lt gq49)
    have g_b49 : h0.size ≤ b49 := Nat.le_trans E0.1 gq49
    have Nf := Fr.app Nf (own_fr_mono E0.1 NL49)
    have V_b39 := V_b39.ext EX49
    have E_b39 := E_b39.ext EX49
    have E_b44 := E_b44.ext EX49
    have F_bytes_b44 := F_bytes_b44.ext EX49
    have F_failure_b44 := F_failure_b44.ext EX49
    have V_d44 := V_d44.ext EX49
    have E_d44 := E_d44.ext EX49
    have E0 := own_ext_tr E0 EX49
    have hk := Nat.le_trans hk EX49.1
    have V_b49 := VV49
    have E_b49 := EE49
    refine own_st (T' := T49) (g' := (mkF m 79 #[.val (.int i), .val (.int xa), .val (.int xb), .val (.int xc), .val (.int xd), .val (.int (2 : Int32)), .val (.ref b39), .val (.ref b44), .unset, .unset] [(.ref b49)])) st49 ?_
    refine own_st (T' := T49) (g' := (mkF m 81 #[.val (.int i), .val (.int xa), .val (.int xb), .val (.int xc), .val (.int xd), .val (.int (2 : Int32)), .val (.ref b39), .val (.ref b44), .val (.ref b49), .unset] [])) (fun _ k => XS.astore X49.here hx rfl (hb hby at_79) rfl rfl (l' := #[.val (.int i), .val (.int xa), .val (.int xb), .val (.int xc), .val (.int xd), .val (.int (2 : Int32)), .val (.ref b39), .val (.ref b44), .val (.ref b49), .unset]) rfl k) ?_
    refine own_st (T' := T49) (g' := (mkF m 83 #[.val (.int i), .val (.int xa), .val (.int xb), .val (.int xc), .val (.int xd), .val (.int (2 : Int32)), .val (.ref b39), .val (.ref b44), .val (.ref b49), .unset] [(.ref b49)])) (fun _ k => XS.aload X49.here hx rfl (hb hby at_81) rfl rfl k) ?_
    refine own_st (T' := T49) (g' := (mkF m 85 #[.val (.int i), .val (.int xa), .val (.int xb), .val (.int xc), .val (.int xd), .val (.int (2 : Int32)), .val (.ref b39), .val (.ref b44), .val (.ref b49), .unset] [(.ref b39), (.ref b49)])) (fun _ k => XS.aload X49.here hx rfl (hb hby at_83) rfl rfl k) ?_
    refine own_st (T' := T49) (g' := (mkF m 90 #[.val (.int i), .val (.int xa), .val (.int xb), .val (.int xc), .val (.int xd), .val (.int (2 : Int32)), .val (.ref b39), .val (.ref b44), .val (.ref b49), .unset] [])) (fun _ k => Jvm.RoadKit.acmp (g := (mkF m 85 #[.val (.int i), .val (.int xa), .val (.int xb), .val (.int xc), .val (.int xd), .val (.int (2 : Int32)), .val (.ref b39), .val (.ref b44), .val (.ref b49), .unset] [(.ref b39), (.ref b49)])) X49 hx rfl rfl rfl (pc0 := 85) (pc' := 90) (same := false) rfl (hb hby at_85) rfl (decide_eq_false fun q => (Ne.symm ne_b39_b49) (Value.ref.inj q)) (by decide) (by decide) k) ?_
    refine own_st (T' := T49) (g' := (mkF m 92 #[.val (.int i), .val (.int xa), .val (.int xb), .val (.int xc), .val (.int xd), .val (.int (2 : Int32)), .val (.ref b39), .val (.ref b44), .val (.ref b49), .unset] [(.ref b49)])) (fun _ k => XS.aload X49.here hx rfl (hb hby at_90) rfl rfl k) ?_
    have V50 := V_b49
    obtain ⟨cl50, Ar50, qk50, Sz50, Nn50, Hh50, Gg50⟩ := V50
    refine own_st (T' := T49) (g' := (mkF m 93 #[.val (.int i), .val (.int xa), .val (.int xb), .val (.int xc), .val (.int xd), .val (.int (2 : Int32)), .val (.ref b39), .val (.ref b44), .val (.ref b49), .unset] [(.int cl50.slots.size.toInt32)])) (fun _ k => X49.arraylength hx (own_he rfl Ar50.1) (State.isArrayOf_alike hZ.alike Ar50.2.1) (g := (mkF m 92 #[.val (.int i), .val (.int xa), .val (.int xb), .val (.int xc), .val (.int xd), .val (.int (2 : Int32)), .val (.ref b39), .val (.ref b44), .val (.ref b49), .unset] [(.ref b49)])) rfl rfl (hb hby at_92) _ k) ?_
    rw [len_of Sz50 Nn50]
    refine own_st (T' := T49) (g' := (mkF m 95 #[.val (.int i), .val (.int xa), .val (.int xb), .val (.int xc), .val (.int xd), .val (.int (2 : Int32)), .val (.ref b39), .val (.ref b44), .val (.ref b49), .unset] [(.int (2 : Int32)), (.int (2 : Int32))])) (fun _ k => XS.iload X49.here hx rfl (hb hby at_93) rfl k) ?_
    refine own_st (T' := T49) (g' := (mkF m 98 #[.val (.int i), .val (.int xa), .val (.int xb), .val (.int xc), .val (.int xd), .val (.int (2 : Int32)), .val (.ref b39), .val (.ref b44), .val (.ref b49), .unset] [])) (fun _ k => XS.icmpNo X49.here hx rfl (hb hby at_95) rfl (by decide) k) ?_
    refine own_st (T' := T49) (g' := (mkF m 100 #[.val (.int i), .val (.int xa), .val (.int xb), .val (.int xc), .val (.int xd), .val (.int (2 : Int32)), .val (.ref b39), .val (.ref b44), .val (.ref b49), .unset] [(.ref b49)])) (fun _ k => XS.aload X49.here hx rfl (hb hby at_98) rfl rfl k) ?_
    refine own_st (T' := T49) (g' := (mkF m 101 #[.val (.int i), .val (.int xa), .val (.int xb), .val (.int xc), .val (.int xd), .val (.int (2 : Int32)), .val (.ref b39), .val (.ref b44), .val (.ref b49), .unset] [(.int (0 : Int32)), (.ref b49)])) (fun _ k => XS.iconst X49.here hx rfl (hb hby at_100) k) ?_
    refine own_st (T' := T49) (g' := (mkF m 102 #[.val (.int i), .val (.int xa), .val (.int xb), .val (.int xc), .val (.int xd), .val (.int (2 : Int32)), .val (.ref b39), .val (.ref b44), .val (.ref b49), .unset] [(.int xa), (.int (0 : Int32)), (.ref b49)])) (fun _ k => XS.iloadN X49.here hx rfl (hb hby at_101) rfl k) ?_
    obtain ⟨T51, X51, e51, st51⟩ := own_pure (w := (.int (1 : Int32))) rfl rfl (own_gS X49 hx hZ hown (hw _ (List.mem_of_getElem? (i := 50) rfl)) (hw _ (List.mem_of_getElem? (i := 51) rfl)) (hw _ (List.mem_of_getElem? (i := 4) rfl)) (hw _ (List.mem_of_getElem? (i := 52) rfl)) (by decide) rfl (own_at_in l Z a0 hw T49.heap b49 k39 (2 : Int32) (0 : Int32) xa (((1 : Int32), (.int (xb.toInt8.toInt32))) :: (((0 : Int32), (.int (xa.toInt8.toInt32))) :: [])) h0.size g_b49 V_b49 (by decide) (by decide) rfl) (by decide) (by decide) (by decide) (by decide) (Q := fun v h L => v = some (.int (1 : Int32)) ∧ L = [] ∧ h = T49.heap) (W := 0) (g := (mkF m 102 #[.val (.int i), .val (.int xa), .val (.int xb), .val (.int xc), .val (.int xd), .val (.int (2 : Int32)), .val (.ref b39), .val (.ref b44), .val (.ref b49), .unset] [(.int xa), (.int (0 : Int32)), (.ref b49)])) (argsL := [(.ref b49), (.int (0 : Int32)), (.int xa)]) (rest := []) rfl (by rw [hml]; rfl) (lenOf own_pd_6 rfl) rfl (by show 2 * 0 + _ ≤ _; exact Nat.le_of_eq rfl) (hb hby at_102))
    refine own_st (T' := T51) (g' := (mkF m 105 #[.val (.int i), .val (.int xa), .val (.int xb), .val (.int xc), .val (.int xd), .val (.int (2 : Int32)), .val (.ref b39), .val (.ref b44), .val (.ref b49), .unset] [(.int (1 : Int32))])) st51 ?_
    refine own_st (T' := T51) (g' := (mkF m 108 #[.val (.int i), .val (.int xa), .val (.int xb), .val (.int xc), .val (.int xd), .val (.int (2 : Int32)), .val (.ref b39), .val (.ref b44), .val (.ref b49), .unset] [])) (fun _ k => XS.ifNo X51.here hx rfl (hb hby at_105) rfl (by decide) k) ?_
    refine own_st (T' := T51) (g' := (mkF m 110 #[.val (.int i), .val (.int xa), .val (.int xb), .val (.int xc), .val (.int xd), .val (.int (2 : Int32)), .val (.ref b39), .val (.ref b44), .val (.ref b49), .unset] [(.ref b49)])) (fun _ k => XS.aload X51.here hx rfl (hb hby at_108) rfl rfl k) ?_
    refine own_st (T' := T51) (g' := (mkF m 111 #[.val (.int i), .val (.int xa), .val (.int xb), .val (.int xc), .val (.int xd), .val (.int (2 : Int32)), .val (.ref b39), .val (.ref b44), .val (.ref b49), .unset] [(.int (1 : Int32)), (.ref b49)])) (fun _ k => XS.iconst X51.here hx rfl (hb hby at_110) k) ?_
    refine own_st (T' := T51) (g' := (mkF m 112 #[.val (.int i), .val (.int xa), .val (.int xb), .val (.int xc), .val (.int xd), .val (.int (2 : Int32)), .val (.ref b39), .val (.ref b44), .val (.ref b49), .unset] [(.int xb), (.int (1 : Int32)), (.ref b49)])) (fun _ k => XS.iloadN X51.here hx rfl (hb hby at_111) rfl k) ?_
    obtain ⟨T52, X52, e52, st52⟩ := own_pure (w := (.int (1 : Int32))) rfl rfl (own_gS X51 hx hZ hown (hw _ (List.mem_of_getElem? (i := 50) rfl)) (hw _ (List.mem_of_getElem? (i := 51) rfl)) (hw _ (List.mem_of_getElem? (i := 4) rfl)) (hw _ (List.mem_of_getElem? (i := 52) rfl)) (by decide) e51 (own_at_in l Z a0 hw T49.heap b49 k39 (2 : Int32) (1 : Int32) xb (((1 : Int32), (.int (xb.toInt8.toInt32))) :: (((0 : Int32), (.int (xa.toInt8.toInt32))) :: [])) h0.size g_b49 V_b49 (by decide) (by decide) rfl) (by decide) (by decide) (by decide) (by decide) (Q := fun v h L => v = some (.int (1 : Int32)) ∧ L = [] ∧ h = T49.heap) (W := 0) (g := (mkF m 112 #[.val (.int i), .val (.int xa), .val (.int xb), .val (.int xc), .val (.int xd), .val (.int (2 : Int32)), .val (.ref b39), .val (.ref b44), .val (.ref b49), .unset] [(.int xb), (.int (1 : Int32)), (.ref b49)])) (argsL := [(.ref b49), (.int (1 : Int32)), (.int xb)]) (rest := []) rfl (by rw [hml]; rfl) (lenOf own_pd_6 rfl) rfl (by show 2 * 0 + _ ≤ _; exact Nat.le_of_eq rfl) (hb hby at_112))
    refine own_st (T' := T52) (g' := (mkF m 115 #[.val (.int i), .val (.int xa), .val (.int xb), .val (.int xc), .val (.int xd), .val (.int (2 : Int32)), .val (.ref b39), .val (.ref b44), .val (.ref b49), .unset] [(.int (1 : Int32))])) st52 ?_
    refine own_st (T' := T52) (g' := (mkF m 118 #[.val (.int i), .val (.int xa), .val (.int xb), .val (.int xc), .val (.int xd), .val (.int (2 : Int32)), .val (.ref b39), .val (.ref b44), .val (.ref b49), .unset] [])) (fun _ k => XS.ifNo X52.here hx rfl (hb hby at_115) rfl (by decide) k) ?_
    refine own_st (T' := T52) (g' := (mkF m 120 #[.val (.int i), .val (.int xa), .val (.int xb), .val (.int xc), .val (.int xd), .val (.int (2 : Int32)), .val (.ref b39), .val (.ref b44), .val (.ref b49), .unset] [(.ref b49)])) (fun _ k => XS.aload X52.here hx rfl (hb hby at_118) rfl rfl k) ?_
    refine own_st (T' := T52) (g' := (mkF m 121 #[.val (.int i), .val (.int xa), .val (.int xb), .val (.int xc), .val (.int xd), .val (.int (2 : Int32)), .val (.ref b39), .val (.ref b44), .val (.ref b49), .unset] [(.int (2 : Int32)), (.ref b49)])) (fun _ k => XS.iconst X52.here hx rfl (hb hby at_120) k) ?_
    refine own_st (T' := T52) (g' := (mkF m 122 #[.val (.int i), .val (.int xa), .val (.int xb), .val (.int xc), .val (.int xd), .val (.int (2 : Int32)), .val (.ref b39), .val (.ref b44), .val (.ref b49), .unset] [(.int xc), (.int (2 : Int32)), (.ref b49)])) (fun _ k => XS.iloadN X52.here hx rfl (hb hby at_121) rfl k) ?_
    obtain ⟨T53, X53, e53, st53⟩ := own_pure (w := (.int (1 : Int32))) rfl rfl (own_gS X52 hx hZ hown (hw _ (List.mem_of_getElem? (i := 50) rfl)) (hw _ (List.mem_of_getElem? (i := 51) rfl)) (hw _ (List.mem_of_getElem? (i := 4) rfl)) (hw _ (List.mem_of_getElem? (i := 52) rfl)) (by decide) e52 (own_at_out l Z a0 hw T49.heap b49 k39 (2 : Int32) (2 : Int32) xc (((1 : Int32), (.int (xb.toInt8.toInt32))) :: (((0 : Int32), (.int (xa.toInt8.toInt32))) :: [])) h0.size g_b49 V_b49 (by decide) (by decide)) (by decide) (by decide) (by decide) (by decide) (Q := fun v h L => v = some (.int (1 : Int32)) ∧ L = [] ∧ h = T49.heap) (W := 0) (g := (mkF m 122 #[.val (.int i), .val (.int xa), .val (.int xb), .val (.int xc), .val (.int xd), .val (.int (2 : Int32)), .val (.ref b39), .val (.ref b44), .val (.ref b49), .unset] [(.int xc), (.int (2 : Int32)), (.ref b49)])) (argsL := [(.ref b49), (.int (2 : Int32)), (.int xc)]) (rest := []) rfl (by rw [hml]; rfl) (lenOf own_pd_6 rfl) rfl (by show 2 * 0 + _ ≤ _; exact Nat.le_of_eq rfl) (hb hby at_122))
    refine own_st (T' := T53) (g' := (mkF m 125 #[.val (.int i), .val (.int xa), .val (.int xb), .val (.int xc), .val (.int xd), .val (.int (2 : Int32)), .val (.ref b39), .val (.ref b44), .val (.ref b49), .unset] [(.int (1 : Int32))])) st53 ?_
    refine own_st (T' := T53) (g' := (mkF m 128 #[.val (.int i), .val (.int xa), .val (.int xb), .val (.int xc), .val (.int xd), .val (.int (2 : Int32)), .val (.ref b39), .val (.ref b44), .val (.ref b49), .unset] [])) (fun _ k => XS.ifNo X53.here hx rfl (hb hby at_125) rfl (by decide) k) ?_
    refine own_st (T' := T53) (g' := (mkF m 130 #[.val (.int i), .val (.int xa), .val (.int xb), .val (.int xc), .val (.int xd), .val (.int (2 : Int32)), .val (.ref b39), .val (.ref b44), .val (.ref b49), .unset] [(.ref b49)])) (fun _ k => XS.aload X53.here hx rfl (hb hby at_128) rfl rfl k) ?_
    refine own_st (T' := T53) (g' := (mkF m 131 #[.val (.int i), .val (.int xa), .val (.int xb), .val (.int xc), .val (.int xd), .val (.int (2 : Int32)), .val (.ref b39), .val (.ref b44), .val (.ref b49), .unset] [(.int (3 : Int32)), (.ref b49)])) (fun _ k => XS.iconst X53.here hx rfl (hb hby at_130) k) ?_
    refine own_st (T' := T53) (g' := (mkF m 133 #[.val (.int i), .val (.int xa), .val (.int xb), .val (.int xc), .val (.int xd), .val (.int (2 : Int32)), .val (.ref b39), .val (.ref b44), .val (.ref b49), .unset] [(.int xd), (.int (3 : Int32)), (.ref b49)])) (fun _ k => XS.iload X53.here hx rfl (hb hby at_131) rfl k) ?_
    obtain ⟨T54, X54, e54, st54⟩ := own_pure (w := (.int (1 : Int32))) rfl rfl (own_gS X53 hx hZ hown (hw _ (List.mem_of_getElem? (i := 50) rfl)) (hw _ (List.mem_of_getElem? (i := 51) rfl)) (hw _ (List.mem_of_getElem? (i := 4) rfl)) (hw _ (List.mem_of_getElem? (i := 52) rfl)) (by decide) e53 (own_at_out l Z a0 hw T49.heap b49 k39 (2 : Int32) (3 : Int32) xd (((1 : Int32), (.int (xb.toInt8.toInt32))) :: (((0 : Int32), (.int (xa.toInt8.toInt32))) :: [])) h0.size g_b49 V_b49 (by decide) (by decide)) (by decide) (by decide) (by decide) (by decide) (Q := fun v h L => v = some (.int (1 : Int32)) ∧ L = [] ∧ h = T49.heap) (W := 0) (g := (mkF m 133 #[.val (.int i), .val (.int xa), .val (.int xb), .val (.int xc), .val (.int xd), .val (.int (2 : Int32)), .val (.ref b39), .val (.ref b44), .val (.ref b49), .unset] [(.int xd), (.int (3 : Int32)), (.ref b49)])) (argsL := [(.ref b49), (.int (3 : Int32)), (.int xd)]) (rest := []) rfl (by rw [hml]; rfl) (lenOf own_pd_6 rfl) rfl (by show 2 * 0 + _ ≤ _; exact Nat.le_of_eq rfl) (hb hby at_133))
    refine own_st (T' := T54) (g' := (mkF m 136 #[.val (.int i), .val (.int xa), .val (.int xb), .val (.int xc), .val (.int xd), .val (.int (2 : Int32)), .val (.ref b39), .val (.ref b44), .val (.ref b49), .unset] [(.int (1 : Int32))])) st54 ?_
    refine own_st (T' := T54) (g' := (mkF m 139 #[.val (.int i), .val (.int xa), .val (.int xb), .val (.int xc), .val (.int xd), .val (.int (2 : Int32)), .val (.ref b39), .val (.ref b44), .val (.ref b49), .unset] [])) (fun _ k => XS.ifNo X54.here hx rfl (hb hby at_136) rfl (by decide) k) ?_
    refine own_st (T' := T54) (g' := (mkF m 140 #[.val (.int i), .val (.int xa), .val (.int xb), .val (.int xc), .val (.int xd), .val (.int (2 : Int32)), .val (.ref b39), .val (.ref b44), .val (.ref b49), .unset] [(.int (1 : Int32))])) (fun _ k => XS.iconst X54.here hx rfl (hb hby at_139) k) ?_
    refine own_st (T' := T54) (g' := (mkF m 144 #[.val (.int i), .val (.int xa), .val (.int xb), .val (.int xc), .val (.int xd), .val (.int (2 : Int32)), .val (.ref b39), .val (.ref b44), .val (.ref b49), .unset] [(.int (1 : Int32))])) (fun _ k => XS.goto X54.here hx rfl (pc0 := 140) (pc' := 144) rfl (hb hby at_140) (by decide) (by decide) k) ?_
    refine own_st (T' := T54) (g' := (mkF m 146 #[.val (.int i), .val (.int xa), .val (.int xb), .val (.int xc), .val (.int xd), .val (.int (2 : Int32)), .val (.ref b39), .val (.ref b44), .val (.ref b49), .val (.int (1 : Int32))] [])) (fun _ k => XS.istore X54.here hx rfl (hb hby at_144) rfl (l' := #[.val (.int i), .val (.int xa), .val (.int xb), .val (.int xc), .val (.int xd), .val (.int (2 : Int32)), .val (.ref b39), .val (.ref b44), .val (.ref b49), .val (.int (1 : Int32))]) rfl k) ?_
    refine own_st (T' := T54) (g' := (mkF m 148 #[.val (.int i), .val (.int xa), .val (.int xb), .val (.int xc), .val (.int xd), .val (.int (2 : Int32)), .val (.ref b39), .val (.ref b44), .val (.ref b49), .val (.int (1 : Int32))] [(.int (1 : Int32))])) (fun _ k => XS.iload X54.here hx rfl (hb hby at_146) rfl k) ?_
    refine own_st (T' := T54) (g' := (mkF m 151 #[.val (.int i), .val (.int xa), .val (.int xb), .val (.int xc), .val (.int xd), .val (.int (2 : Int32)), .val (.ref b39), .val (.ref b44), .val (.ref b49), .val (.int (1 : Int32))] [])) (fun _ k => XS.ifNo X54.here hx rfl (hb hby at_148) rfl (by decide) k) ?_
    refine own_st (T' := T54) (g' := (mkF m 153 #[.val (.int i), .val (.int xa), .val (.int xb), .val (.int xc), .val (.int xd), .val (.int (2 : Int32)), .val (.ref b39), .val (.ref b44), .val (.ref b49), .val (.int (1 : Int32))] [(.ref b44)])) (fun _ k => XS.aload X54.here hx rfl (hb hby at_151) rfl rfl k) ?_
    obtain ⟨T55, X55, e55, st55⟩ := own_pure (w := (.int (1 : Int32))) rfl rfl (own_gV X54 hx hZ hown (hw _ (List.mem_of_getElem? (i := 53) rfl)) (hw _ (List.mem_of_getElem? (i := 54) rfl)) (notFace_of_selects (args := #[]) (mvT hZ (hw _ (List.mem_of_getElem? (i := 56) rfl)))) (hw _ (List.mem_of_getElem? (i := 56) rfl)) (hw _ (List.mem_of_getElem? (i := 55) rfl)) (hw _ (List.mem_of_getElem? (i := 8) rfl)) (hw _ (List.mem_of_getElem? (i := 57) rfl)) (by decide) e54 E_b44 (own_isf l Z a0 hw T49.heap b44 F_failure_b44) (by decide) (by decide) (by decide) (by decide) (Q := fun v h L => v = some (.int (1 : Int32)) ∧ L = [] ∧ h = T49.heap) (W := 0) (g := (mkF m 153 #[.val (.int i), .val (.int xa), .val (.int xb), .val (.int xc), .val (.int xd), .val (.int (2 : Int32)), .val (.ref b39), .val (.ref b44), .val (.ref b49), .val (.int (1 : Int32))] [(.ref b44)])) (argsL := []) (rest := []) rfl (by rw [hml]; rfl) (lenOf own_pd_7 rfl) rfl (by show 2 * 0 + _ ≤ _; exact Nat.le_of_eq rfl) (hb hby at_153))
    refine own_st (T' := T55) (g' := (mkF m 156 #[.val (.int i), .val (.int xa), .val (.int xb), .val (.int xc), .val (.int xd), .val (.int (2 : Int32)), .val (.ref b39), .val (.ref b44), .val (.ref b49), .val (.int (1 : Int32))] [(.int (1 : Int32))])) st55 ?_
    refine own_st (T' := T55) (g' := (mkF m 159 #[.val (.int i), .val (.int xa), .val (.int xb), .val (.int xc), .val (.int xd), .val (.int (2 : Int32)), .val (.ref b39), .val (.ref b44), .val (.ref b49), .val (.int (1 : Int32))] [])) (fun _ k => XS.ifNo X55.here hx rfl (hb hby at_156) rfl (by decide) k) ?_
    refine own_st (T' := T55) (g' := (mkF m 161 #[.val (.int i), .val (.int xa), .val (.int xb), .val (.int xc), .val (.int xd), .val (.int (2 : Int32)), .val (.ref b39), .val (.ref b44), .val (.ref b49), .val (.int (1 : Int32))] [(.ref b44)])) (fun _ k => XS.aload X55.here hx rfl (hb hby at_159) rfl rfl k) ?_
    obtain ⟨T56, X56, e56, st56⟩ := own_pure (w := (.ref a_FAILED)) rfl rfl (own_gV X55 hx hZ hown (hw _ (List.mem_of_getElem? (i := 58) rfl)) (hw _ (List.mem_of_getElem? (i := 59) rfl)) (notFace_of_selects (args := #[]) (mvT hZ (hw _ (List.mem_of_getElem? (i := 61) rfl)))) (hw _ (List.mem_of_getElem? (i := 61) rfl)) (hw _ (List.mem_of_getElem? (i := 60) rfl)) (hw _ (List.mem_of_getElem? (i := 8) rfl)) (hw _ (List.mem_of_getElem? (i := 62) rfl)) (by decide) e55 E_b44 (own_stat l Z a0 hw T49.heap b44 a_FAILED F_failure_b44 (S_FAILED.ext E0)) (by decide) (by decide) (by decide) (by decide) (Q := fun v h L => v = some (.ref a_FAILED) ∧ L = [] ∧ h = T49.heap) (W := 0) (g := (mkF m 161 #[.val (.int i), .val (.int xa), .val (.int xb), .val (.int xc), .val (.int xd), .val (.int (2 : Int32)), .val (.ref b39), .val (.ref b44), .val (.ref b49), .val (.int (1 : Int32))] [(.ref b44)])) (argsL := []) (rest := []) rfl (by rw [hml]; rfl) (lenOf own_pd_8 rfl) rfl (by show 2 * 0 + _ ≤ _; exact Nat.le_of_eq rfl) (hb hby at_161))
    refine own_st (T' := T56) (g' := (mkF m 164 #[.val (.int i), .val (.int xa), .val (.int xb), .val (.int xc), .val (.int xd), .val (.int (2 : Int32)), .val (.ref b39), .val (.ref b44), .val (.ref b49), .val (.int (1 : Int32))] [(.ref a_FAILED)])) st56 ?_
    obtain ⟨T57, X57, e57, st57⟩ := getS2 X56 hx hZ hown (host := "") (Or.inl (hw _ (List.mem_of_getElem? (i := 66) rfl))) Via.refl e56 (S_FAILED.ext E0) (g := (mkF m 164 #[.val (.int i), .val (.int xa), .val (.int xb), .val (.int xc), .val (.int xd), .val (.int (2 : Int32)), .val (.ref b39), .val (.ref b44), .val (.ref b49), .val (.int (1 : Int32))] [(.ref a_FAILED)])) rfl (hb hby at_164)
    refine own_st (T' := T57) (g' := (mkF m 167 #[.val (.int i), .val (.int xa), .val (.int xb), .val (.int xc), .val (.int xd), .val (.int (2 : Int32)), .val (.ref b39), .val (.ref b44), .val (.ref b49), .val (.int (1 : Int32))] [(.ref a_FAILED), (.ref a_FAILED)])) st57 ?_
    refine own_st (T' := T57) (g' := (mkF m 170 #[.val (.int i), .val (.int xa), .val (.int xb), .val (.int xc), .val (.int xd), .val (.int (2 : Int32)), .val (.ref b39), .val (.ref b44), .val (.ref b49), .val (.int (1 : Int32))] [])) (fun _ k => Jvm.RoadKit.acmp (g := (mkF m 167 #[.val (.int i), .val (.int xa), .val (.int xb), .val (.int xc), .val (.int xd), .val (.int (2 : Int32)), .val (.ref b39), .val (.ref b44), .val (.ref b49), .val (.int (1 : Int32))] [(.ref a_FAILED), (.ref a_FAILED)])) X57 hx rfl rfl rfl (pc0 := 167) (pc' := 170) (same := true) rfl (hb hby at_167) rfl (decide_eq_true rfl) (by decide) (by decide) k) ?_
    refine own_st (T' := T57) (g' := (mkF m 171 #[.val (.int i), .val (.int xa), .val (.int xb), .val (.int xc), .val (.int xd), .val (.int (2 : Int32)), .val (.ref b39), .val (.ref b44), .val (.ref b49), .val (.int (1 : Int32))] [(.int (1 : Int32))])) (fun _ k => XS.iconst X57.here hx rfl (hb hby at_170) k) ?_
    refine own_st (T' := T57) (g' := (mkF m 175 #[.val (.int i), .val (.int xa), .val (.int xb), .val (.int xc), .val (.int xd), .val (.int (2 : Int32)), .val (.ref b39), .val (.ref b44), .val (.ref b49), .val (.int (1 : Int32))] [(.int (1 : Int32))])) (fun _ k => XS.goto X57.here hx rfl (pc0 := 171) (pc' := 175) rfl (hb hby at_171) (by decide) (by decide) k) ?_
    exact own_retW X57 hx hlk hS (by rw [e57]; exact hk) hret rfl (Or.inl ⟨rfl, Or.inr (Or.inl rfl), _, rfl⟩) (hb hby at_175) (by decide) (by decide) ⟨rfl, Nf⟩
  ·
    rw [hE]
    refine own_st (T' := T0) (g' := (mkF m 8 #[.val (.int i), .val (.int xa), .val (.int xb), .val (.int xc), .val (.int xd), .val (.int (3 : Int32)), .unset, .unset, .unset, .unset] [])) (fun _ k => XS.istore X0.here hx rfl (hb hby at_6) rfl (l' := #[.val (.int i), .val (.int xa), .val (.int xb), .val (.int xc), .val (.int xd), .val (.int (3 : Int32)), .unset, .unset, .unset, .unset]) rfl k) ?_
    refine own_st (T' := T0) (g' := (mkF m 10 #[.val (.int i), .val (.int xa), .val (.int xb), .val (.int xc), .val (.int xd), .val (.int (3 : Int32)), .unset, .unset, .unset, .unset] [(.int (3 : Int32))])) (fun _ k => XS.iload X0.here hx rfl (hb hby at_8) rfl k) ?_
    obtain ⟨T58, h58, k58, X58, e58, E58, A58, Q58, st58⟩ := newPE X0 hx hZ (hw _ (List.mem_of_getElem? (i := 1) rfl)) e0 (g := (mkF m 10 #[.val (.int i), .val (.int xa), .val (.int xb), .val (.int xc), .val (.int xd), .val (.int (3 : Int32)), .unset, .unset, .unset, .unset] [(.int (3 : Int32))])) rfl (hb hby at_10) rfl (by decide) (cap := 3) (by decide) (by decide) (by decide) (by decide) (ad := "[B") rfl
    obtain ⟨b58, gb_b58⟩ : ∃ z, z = h0.size := ⟨_, rfl⟩
    rw [← gb_b58] at A58 Q58 st58
    have g_b58 : h0.size ≤ b58 := Nat.le_trans E0.1 (Nat.le_of_eq gb_b58.symm)
    have E0 := own_ext_tr E0 E58
    have hk := Nat.le_trans hk E58.1
    have V_b58 : Arh Z h58 b58 k58 .byte (3 : Int32) [] [] (.int (0 : Int32)) := Arv.arh (Arv.new A58 (by decide))
    have E_b58 := Q58
    refine own_st (T' := T58) (g' := (mkF m 12 #[.val (.int i), .val (.int xa), .val (.int xb), .val (.int xc), .val (.int xd), .val (.int (3 : Int32)), .unset, .unset, .unset, .unset] [(.ref b58)])) st58 ?_
    refine own_st (T' := T58) (g' := (mkF m 14 #[.val (.int i), .val (.int xa), .val (.int xb), .val (.int xc), .val (.int xd), .val (.int (3 : Int32)), .val (.ref b58), .unset, .unset, .unset] [])) (fun _ k => XS.astore X58.here hx rfl (hb hby at_12) rfl rfl (l' := #[.val (.int i), .val (.int xa), .val (.int xb), .val (.int xc), .val (.int xd), .val (.int (3 : Int32)), .val (.ref b58), .unset, .unset, .unset]) rfl k) ?_
    refine own_st (T' := T58) (g' := (mkF m 16 #[.val (.int i), .val (.int xa), .val (.int xb), .val (.int xc), .val (.int xd), .val (.int (3 : Int32)), .val (.ref b58), .unset, .unset, .unset] [(.ref b58)])) (fun _ k => XS.aload X58.here hx rfl (hb hby at_14) rfl rfl k) ?_
    refine own_st (T' := T58) (g' := (mkF m 17 #[.val (.int i), .val (.int xa), .val (.int xb), .val (.int xc), .val (.int xd), .val (.int (3 : Int32)), .val (.ref b58), .unset, .unset, .unset] [(.int (0 : Int32)), (.ref b58)])) (fun _ k => XS.iconst X58.here hx rfl (hb hby at_16) k) ?_
    refine own_st (T' := T58) (g' := (mkF m 18 #[.val (.int i), .val (.int xa), .val (.int xb), .val (.int xc), .val (.int xd), .val (.int (3 : Int32)), .val (.ref b58), .unset, .unset, .unset] [(.int xa), (.int (0 : Int32)), (.ref b58)])) (fun _ k => XS.iloadN X58.here hx rfl (hb hby at_17) rfl k) ?_
    obtain ⟨v59, T59, L59, X59, hQ59, st59⟩ := own_gS X58  hx hZ hown (hw _ (List.mem_of_getElem? (i := 2) rfl)) (hw _ (List.mem_of_getElem? (i := 3) rfl)) (hw _ (List.mem_of_getElem? (i := 4) rfl)) (hw _ (List.mem_of_getElem? (i := 5) rfl)) (by decide) e58 (own_set_in l Z a0 hw h58 b58 k58 (3 : Int32) (0 : Int32) xa [] h0.size g_b58 V_b58 (by decide) (by decide)) (by decide) (by decide) (by decide) (by decide) (Q := (fun v h L => v = none ∧ Fr h0.size L ∧ Keep h58 h [b58] ∧ Arh Z h b58 k58 .byte (3 : Int32) (((0 : Int32), (.int (xa.toInt8.toInt32))) :: []) [] (.int (0 : Int32)))) (W := 0) (g := (mkF m 18 #[.val (.int i), .val (.int xa), .val (.int xb), .val (.int xc), .val (.int xd), .val (.int (3 : Int32)), .val (.ref b58), .unset, .unset, .unset] [(.int xa), (.int (0 : Int32)), (.ref b58)])) (argsL := [(.ref b58), (.int (0 : Int32)), (.int xa)]) (rest := []) rfl (by rw [hml]; rfl) (lenOf own_pd_2 rfl) rfl (by show 2 * 0 + _ ≤ _; exact Nat.le_of_eq rfl) (hb hby at_18)
    obtain ⟨rfl, NL59, K59, VV59⟩ := hQ59
    have E_b58 := E_b58.keep K59
    have V_b58 := VV59
    have E0 := own_ext_keep E0 K59 (allS g_b58 all0)
    have Nf := Fr.app Nf NL59
    have hk := Nat.le_trans hk K59.1
    refine own_st (T' := T59) (g' := (mkF m 21 #[.val (.int i), .val (.int xa), .val (.int xb), .val (.int xc), .val (.int xd), .val (.int (3 : Int32)), .val (.ref b58), .unset, .unset, .unset] [])) st59 ?_
    refine own_st (T' := T59) (g' := (mkF m 23 #[.val (.int i), .val (.int xa), .val (.int xb), .val (.int xc), .val (.int xd), .val (.int (3 : Int32)), .val (.ref b58), .unset, .unset, .unset] [(.ref b58)])) (fun _ k => XS.aload X59.here hx rfl (hb hby at_21) rfl rfl k) ?_
    refine own_st (T' := T59) (g' := (mkF m 24 #[.val (.int i), .val (.int xa), .val (.int xb), .val (.int xc), .val (.int xd), .val (.int (3 : Int32)), .val (.ref b58), .unset, .unset, .unset] [(.int (1 : Int32)), (.ref b58)])) (fun _ k => XS.iconst X59.here hx rfl (hb hby at_23) k) ?_
    refine own_st (T' := T59) (g' := (mkF m 25 #[.val (.int i), .val (.int xa), .val (.int xb), .val (.int xc), .val (.int xd), .val (.int (3 : Int32)), .val (.ref b58), .unset, .unset, .unset] [(.int xb), (.int (1 : Int32)), (.ref b58)])) (fun _ k => XS.iloadN X59.here hx rfl (hb hby at_24) rfl k) ?_
    obtain ⟨v60, T60, L60, X60, hQ60, st60⟩ := own_gS X59  hx hZ hown (hw _ (List.mem_of_getElem? (i := 2) rfl)) (hw _ (List.mem_of_getElem? (i := 3) rfl)) (hw _ (List.mem_of_getElem? (i := 4) rfl)) (hw _ (List.mem_of_getElem? (i := 5) rfl)) (by decide) rfl (own_set_in l Z a0 hw T59.heap b58 k58 (3 : Int32) (1 : Int32) xb (((0 : Int32), (.int (xa.toInt8.toInt32))) :: []) h0.size g_b58 V_b58 (by decide) (by decide)) (by decide) (by decide) (by decide) (by decide) (Q := (fun v h L => v = none ∧ Fr h0.size L ∧ Keep T59.heap h [b58] ∧ Arh Z h b58 k58 .byte (3 : Int32) (((1 : Int32), (.int (xb.toInt8.toInt32))) :: (((0 : Int32), (.int (xa.toInt8.toInt32))) :: [])) [] (.int (0 : Int32)))) (W := 0) (g := (mkF m 25 #[.val (.int i), .val (.int xa), .val (.int xb), .val (.int xc), .val (.int xd), .val (.int (3 : Int32)), .val (.ref b58), .unset, .unset, .unset] [(.int xb), (.int (1 : Int32)), (.ref b58)])) (argsL := [(.ref b58), (.int (1 : Int32)), (.int xb)]) (rest := []) rfl (by rw [hml]; rfl) (lenOf own_pd_2 rfl) rfl (by show 2 * 0 + _ ≤ _; exact Nat.le_of_eq rfl) (hb hby at_25)
    obtain ⟨rfl, NL60, K60, VV60⟩ := hQ60
    have E_b58 := E_b58.keep K60
    have V_b58 := VV60
    have E0 := own_ext_keep E0 K60 (allS g_b58 all0)
    have Nf := Fr.app Nf NL60
    have hk := Nat.le_trans hk K60.1
    refine own_st (T' := T60) (g' := (mkF m 28 #[.val (.int i), .val (.int xa), .val (.int xb), .val (.int xc), .val (.int xd), .val (.int (3 : Int32)), .val (.ref b58), .unset, .unset, .unset] [])) st60 ?_
    refine own_st (T' := T60) (g' := (mkF m 30 #[.val (.int i), .val (.int xa), .val (.int xb), .val (.int xc), .val (.int xd), .val (.int (3 : Int32)), .val (.ref b58), .unset, .unset, .unset] [(.ref b58)])) (fun _ k => XS.aload X60.here hx rfl (hb hby at_28) rfl rfl k) ?_
    refine own_st (T' := T60) (g' := (mkF m 31 #[.val (.int i), .val (.int xa), .val (.int xb), .val (.int xc), .val (.int xd), .val (.int (3 : Int32)), .val (.ref b58), .unset, .unset, .unset] [(.int (2 : Int32)), (.ref b58)])) (fun _ k => XS.iconst X60.here hx rfl (hb hby at_30) k) ?_
    refine own_st (T' := T60) (g' := (mkF m 32 #[.val (.int i), .val (.int xa), .val (.int xb), .val (.int xc), .val (.int xd), .val (.int (3 : Int32)), .val (.ref b58), .unset, .unset, .unset] [(.int xc), (.int (2 : Int32)), (.ref b58)])) (fun _ k => XS.iloadN X60.here hx rfl (hb hby at_31) rfl k) ?_
    obtain ⟨v61, T61, L61, X61, hQ61, st61⟩ := own_gS X60  hx hZ hown (hw _ (List.mem_of_getElem? (i := 2) rfl)) (hw _ (List.mem_of_getElem? (i := 3) rfl)) (hw _ (List.mem_of_getElem? (i := 4) rfl)) (hw _ (List.mem_of_getElem? (i := 5) rfl)) (by decide) rfl (own_set_in l Z a0 hw T60.heap b58 k58 (3 : Int32) (2 : Int32) xc (((1 : Int32), (.int (xb.toInt8.toInt32))) :: (((0 : Int32), (.int (xa.toInt8.toInt32))) :: [])) h0.size g_b58 V_b58 (by decide) (by decide)) (by decide) (by decide) (by decide) (by decide) (Q := (fun v h L => v = none ∧ Fr h0.size L ∧ Keep T60.heap h [b58] ∧ Arh Z h b58 k58 .byte (3 : Int32) (((2 : Int32), (.int (xc.toInt8.toInt32))) :: (((1 : Int32), (.int (xb.toInt8.toInt32))) :: (((0 : Int32), (.int (xa.toInt8.toInt32))) :: []))) [] (.int (0 : Int32)))) (W := 0) (g := (mkF m 32 #[.val (.int i), .val (.int xa), .val (.int xb), .val (.int xc), .val (.int xd), .val (.int (3 : Int32)), .val (.ref b58), .unset, .unset, .unset] [(.int xc), (.int (2 : Int32)), (.ref b58)])) (argsL := [(.ref b58), (.int (2 : Int32)), (.int xc)]) (rest := []) rfl (by rw [hml]; rfl) (lenOf own_pd_2 rfl) rfl (by show 2 * 0 + _ ≤ _; exact Nat.le_of_eq rfl) (hb hby at_32)
    obtain ⟨rfl, NL61, K61, VV61⟩ := hQ61
    have E_b58 := E_b58.keep K61
    have V_b58 := VV61
    have E0 := own_ext_keep E0 K61 (allS g_b58 all0)
    have Nf := Fr.app Nf NL61
    have hk := Nat.le_trans hk K61.1
    refine own_st (T' := T61) (g' := (mkF m 35 #[.val (.int i), .val (.int xa), .val (.int xb), .val (.int xc), .val (.int xd), .val (.int (3 : Int32)), .val (.ref b58), .unset, .unset, .unset] [])) st61 ?_
    refine own_st (T' := T61) (g' := (mkF m 37 #[.val (.int i), .val (.int xa), .val (.int xb), .val (.int xc), .val (.int xd), .val (.int (3 : Int32)), .val (.ref b58), .unset, .unset, .unset] [(.ref b58)])) (fun _ k => XS.aload X61.here hx rfl (hb hby at_35) rfl rfl k) ?_
    refine own_st (T' := T61) (g' := (mkF m 38 #[.val (.int i), .val (.int xa), .val (.int xb), .val (.int xc), .val (.int xd), .val (.int (3 : Int32)), .val (.ref b58), .unset, .unset, .unset] [(.int (3 : Int32)), (.ref b58)])) (fun _ k => XS.iconst X61.here hx rfl (hb hby at_37) k) ?_
    refine own_st (T' := T61) (g' := (mkF m 40 #[.val (.int i), .val (.int xa), .val (.int xb), .val (.int xc), .val (.int xd), .val (.int (3 : Int32)), .val (.ref b58), .unset, .unset, .unset] [(.int xd), (.int (3 : Int32)), (.ref b58)])) (fun _ k => XS.iload X61.here hx rfl (hb hby at_38) rfl k) ?_
    obtain ⟨v62, T62, L62, X62, hQ62, st62⟩ := own_gS X61  hx hZ hown (hw _ (List.mem_of_getElem? (i := 2) rfl)) (hw _ (List.mem_of_getElem? (i := 3) rfl)) (hw _ (List.mem_of_getElem? (i := 4) rfl)) (hw _ (List.mem_of_getElem? (i := 5) rfl)) (by decide) rfl (own_set_out l Z a0 hw T61.heap b58 k58 (3 : Int32) (3 : Int32) xd (((2 : Int32), (.int (xc.toInt8.toInt32))) :: (((1 : Int32), (.int (xb.toInt8.toInt32))) :: (((0 : Int32), (.int (xa.toInt8.toInt32))) :: []))) h0.size g_b58 V_b58 (by decide) (by decide)) (by decide) (by decide) (by decide) (by decide) (Q := (fun v h L => v = none ∧ L = [] ∧ h = T61.heap)) (W := 0) (g := (mkF m 40 #[.val (.int i), .val (.int xa), .val (.int xb), .val (.int xc), .val (.int xd), .val (.int (3 : Int32)), .val (.ref b58), .unset, .unset, .unset] [(.int xd), (.int (3 : Int32)), (.ref b58)])) (argsL := [(.ref b58), (.int (3 : Int32)), (.int xd)]) (rest := []) rfl (by rw [hml]; rfl) (lenOf own_pd_2 rfl) rfl (by show 2 * 0 + _ ≤ _; exact Nat.le_of_eq rfl) (hb hby at_40)
    obtain ⟨rfl, rfl, hh62⟩ := hQ62
    rw [List.append_nil] at X62
    refine own_st (T' := T62) (g' := (mkF m 43 #[.val (.int i), .val (.int xa), .val (.int xb), .val (.int xc), .val (.int xd), .val (.int (3 : Int32)), .val (.ref b58), .unset, .unset, .unset] [])) st62 ?_
    refine own_st (T' := T62) (g' := (mkF m 45 #[.val (.int i), .val (.int xa), .val (.int xb), .val (.int xc), .val (.int xd), .val (.int (3 : Int32)), .val (.ref b58), .unset, .unset, .unset] [(.ref b58)])) (fun _ k => XS.aload X62.here hx rfl (hb hby at_43) rfl rfl k) ?_
    obtain ⟨v63, T63, L63, k63, X63, hQ63, hS, hk, hZ, hown, st63⟩ := own_gSW X62 hS hk hx hZ hown (hw _ (List.mem_of_getElem? (i := 6) rfl)) (hw _ (List.mem_of_getElem? (i := 7) rfl)) (hw _ (List.mem_of_getElem? (i := 8) rfl)) (hw _ (List.mem_of_getElem? (i := 9) rfl)) (by decide) hh62 (own_succ l Z a0 hw T61.heap b58 k58 (3 : Int32) (((2 : Int32), (.int (xc.toInt8.toInt32))) :: (((1 : Int32), (.int (xb.toInt8.toInt32))) :: (((0 : Int32), (.int (xa.toInt8.toInt32))) :: []))) (by decide) V_b58 E_b58) (by decide) (by decide) (by decide) (by decide) (Q := (fun v h L => ∃ o d, v = some (.ref o) ∧ T61.heap.size ≤ o ∧ T61.heap.size ≤ d ∧ Fr T61.heap.size L ∧ Ext T61.heap h ∧ Exa Z h o "com/example/earnest_key/earnestkey/Outcome" ∧ Fld Z h o "com/example/earnest_key/earnestkey/Outcome" "bytes" "[B" (.ref d) ∧ Fld Z h o "com/example/earnest_key/earnestkey/Outcome" "failure" "Z" (.int (1 : Int32)) ∧ Arh Z h d k58 .byte (3 : Int32) (((2 : Int32), (.int (xc.toInt8.toInt32))) :: (((1 : Int32), (.int (xb.toInt8.toInt32))) :: (((0 : Int32), (.int (xa.toInt8.toInt32))) :: []))) [] (.int (0 : Int32)) ∧ Exa Z h d "[B" ∧ o ≠ d)) (W := 0) (g := (mkF m 45 #[.val (.int i), .val (.int xa), .val (.int xb), .val (.int xc), .val (.int xd), .val (.int (3 : Int32)), .val (.ref b58), .unset, .unset, .unset] [(.ref b58)])) (argsL := [(.ref b58)]) (rest := []) rfl (by rw [hml]; rfl) (lenOf own_pd_3 rfl) rfl (by show 2 * 0 + _ ≤ _; exact Nat.le_of_eq rfl) (hb hby at_45)
    obtain ⟨b63, d63, rfl, gq63, gd63, NL63, EX63, EE63, FB63, FF63, VV63, ED63, nod63⟩ := hQ63
    have ne_b58_b63 : b58 ≠ b63 := Nat.ne_of_lt (Nat.lt_of_lt_of_le V_b58.lt gq63)
    have g_b63 : h0.size ≤ b63 := Nat.le_trans E0.1 gq63
    have ne_b58_d63 : b58 ≠ d63 := Nat.ne_of_lt (Nat.lt_of_lt_of_le V_b58.lt gd63)
    have g_d63 : h0.size ≤ d63 := Nat.le_trans E0.1 gd63
    have Nf := Fr.app Nf (own_fr_mono E0.1 NL63)
    have V_b58 := V_b58.ext EX63
    have E_b58 := E_b58.ext EX63
    have E0 := own_ext_tr E0 EX63
    have E_b63 := EE63
    have F_bytes_b63 := FB63
    have F_failure_b63 := FF63
    have V_d63 := VV63
    have E_d63 := ED63
    refine own_st (T' := T63) (g' := (mkF m 48 #[.val (.int i), .val (.int xa), .val (.int xb), .val (.int xc), .val (.int xd), .val (.int (3 : Int32)), .val (.ref b58), .unset, .unset, .unset] [(.ref b63)])) st63 ?_
    refine own_st (T' := T63) (g' := (mkF m 50 #[.val (.int i), .val (.int xa), .val (.int xb), .val (.int xc), .val (.int xd), .val (.int (3 : Int32)), .val (.ref b58), .val (.ref b63), .unset, .unset] [])) (fun _ k => XS.astore X63.here hx rfl (hb hby at_48) rfl rfl (l' := #[.val (.int i), .val (.int xa), .val (.int xb), .val (.int xc), .val (.int xd), .val (.int (3 : Int32)), .val (.ref b58), .val (.ref b63), .unset, .unset]) rfl k) ?_
    refine own_st (T' := T63) (g' := (mkF m 52 #[.val (.int i), .val (.int xa), .val (.int xb), .val (.int xc), .val (.int xd), .val (.int (3 : Int32)), .val (.ref b58), .val (.ref b63), .unset, .unset] [(.ref b58)])) (fun _ k => XS.aload X63.here hx rfl (hb hby at_50) rfl rfl k) ?_
    refine own_st (T' := T63) (g' := (mkF m 53 #[.val (.int i), .val (.int xa), .val (.int xb), .val (.int xc), .val (.int xd), .val (.int (3 : Int32)), .val (.ref b58), .val (.ref b63), .unset, .unset] [(.int (0 : Int32)), (.ref b58)])) (fun _ k => XS.iconst X63.here hx rfl (hb hby at_52) k) ?_
    obtain ⟨v64, T64, L64, X64, hQ64, st64⟩ := own_gS X63  hx hZ hown (hw _ (List.mem_of_getElem? (i := 42) rfl)) (hw _ (List.mem_of_getElem? (i := 43) rfl)) (hw _ (List.mem_of_getElem? (i := 4) rfl)) (hw _ (List.mem_of_getElem? (i := 44) rfl)) (by decide) rfl (own_bump_in l Z a0 hw T63.heap b58 k58 (3 : Int32) (0 : Int32) (0 : Int32) (((2 : Int32), (.int (xc.toInt8.toInt32))) :: (((1 : Int32), (.int (xb.toInt8.toInt32))) :: (((0 : Int32), (.int (xa.toInt8.toInt32))) :: []))) h0.size g_b58 V_b58 (by decide) (by decide)) (by decide) (by decide) (by decide) (by decide) (Q := (fun v h L => v = none ∧ Fr h0.size L ∧ Keep T63.heap h [b58] ∧ ∃ hs', Arh Z h b58 k58 .byte (3 : Int32) hs' [] (.int (0 : Int32)))) (W := 0) (g := (mkF m 53 #[.val (.int i), .val (.int xa), .val (.int xb), .val (.int xc), .val (.int xd), .val (.int (3 : Int32)), .val (.ref b58), .val (.ref b63), .unset, .unset] [(.int (0 : Int32)), (.ref b58)])) (argsL := [(.ref b58), (.int (0 : Int32))]) (rest := []) rfl (by rw [hml]; rfl) (lenOf own_pd_4 rfl) rfl (by show 2 * 0 + _ ≤ _; exact Nat.le_of_eq rfl) (hb hby at_53)
    obtain ⟨rfl, NL64, K64, hs64, VV64⟩ := hQ64
    have E_b58 := E_b58.keep K64
    have E_b63 := E_b63.keep K64
    have F_bytes_b63 := F_bytes_b63.keep K64 (ninS (Ne.symm ne_b58_b63) nin0)
    have F_failure_b63 := F_failure_b63.keep K64 (ninS (Ne.symm ne_b58_b63) nin0)
    have V_d63 := V_d63.keep K64 (ninS (Ne.symm ne_b58_d63) nin0)
    have E_d63 := E_d63.keep K64
    have V_b58 := VV64
    have E0 := own_ext_keep E0 K64 (allS g_b58 all0)
    have Nf := Fr.app Nf NL64
    have hk := Nat.le_trans hk K64.1
    refine own_st (T' := T64) (g' := (mkF m 56 #[.val (.int i), .val (.int xa), .val (.int xb), .val (.int xc), .val (.int xd), .val (.int (3 : Int32)), .val (.ref b58), .val (.ref b63), .unset, .unset] [])) st64 ?_
    refine own_st (T' := T64) (g' := (mkF m 58 #[.val (.int i), .val (.int xa), .val (.int xb), .val (.int xc), .val (.int xd), .val (.int (3 : Int32)), .val (.ref b58), .val (.ref b63), .unset, .unset] [(.ref b58)])) (fun _ k => XS.aload X64.here hx rfl (hb hby at_56) rfl rfl k) ?_
    refine own_st (T' := T64) (g' := (mkF m 59 #[.val (.int i), .val (.int xa), .val (.int xb), .val (.int xc), .val (.int xd), .val (.int (3 : Int32)), .val (.ref b58), .val (.ref b63), .unset, .unset] [(.int (1 : Int32)), (.ref b58)])) (fun _ k => XS.iconst X64.here hx rfl (hb hby at_58) k) ?_
    obtain ⟨v65, T65, L65, X65, hQ65, st65⟩ := own_gS X64  hx hZ hown (hw _ (List.mem_of_getElem? (i := 42) rfl)) (hw _ (List.mem_of_getElem? (i := 43) rfl)) (hw _ (List.mem_of_getElem? (i := 4) rfl)) (hw _ (List.mem_of_getElem? (i := 44) rfl)) (by decide) rfl (own_bump_in l Z a0 hw T64.heap b58 k58 (3 : Int32) (1 : Int32) (0 : Int32) hs64 h0.size g_b58 V_b58 (by decide) (by decide)) (by decide) (by decide) (by decide) (by decide) (Q := (fun v h L => v = none ∧ Fr h0.size L ∧ Keep T64.heap h [b58] ∧ ∃ hs', Arh Z h b58 k58 .byte (3 : Int32) hs' [] (.int (0 : Int32)))) (W := 0) (g := (mkF m 59 #[.val (.int i), .val (.int xa), .val (.int xb), .val (.int xc), .val (.int xd), .val (.int (3 : Int32)), .val (.ref b58), .val (.ref b63), .unset, .unset] [(.int (1 : Int32)), (.ref b58)])) (argsL := [(.ref b58), (.int (1 : Int32))]) (rest := []) rfl (by rw [hml]; rfl) (lenOf own_pd_4 rfl) rfl (by show 2 * 0 + _ ≤ _; exact Nat.le_of_eq rfl) (hb hby at_59)
    obtain ⟨rfl, NL65, K65, hs65, VV65⟩ := hQ65
    have E_b58 := E_b58.keep K65
    have E_b63 := E_b63.keep K65
    have F_bytes_b63 := F_bytes_b63.keep K65 (ninS (Ne.symm ne_b58_b63) nin0)
    have F_failure_b63 := F_failure_b63.keep K65 (ninS (Ne.symm ne_b58_b63) nin0)
    have V_d63 := V_d63.keep K65 (ninS (Ne.symm ne_b58_d63) nin0)
    have E_d63 := E_d63.keep K65
    have V_b58 := VV65
    have E0 := own_ext_keep E0 K65 (allS g_b58 all0)
    have Nf := Fr.app Nf NL65
    have hk := Nat.le_trans hk K65.1
    refine own_st (T' := T65) (g' := (mkF m 62 #[.val (.int i), .val (.int xa), .val (.int xb), .val (.int xc), .val (.int xd), .val (.int (3 : Int32)), .val (.ref b58), .val (.ref b63), .unset, .unset] [])) st65 ?_
    refine own_st (T' := T65) (g' := (mkF m 64 #[.val (.int i), .val (.int xa), .val (.int xb), .val (.int xc), .val (.int xd), .val (.int (3 : Int32)), .val (.ref b58), .val (.ref b63), .unset, .unset] [(.ref b58)])) (fun _ k => XS.aload X65.here hx rfl (hb hby at_62) rfl rfl k) ?_
    refine own_st (T' := T65) (g' := (mkF m 65 #[.val (.int i), .val (.int xa), .val (.int xb), .val (.int xc), .val (.int xd), .val (.int (3 : Int32)), .val (.ref b58), .val (.ref b63), .unset, .unset] [(.int (2 : Int32)), (.ref b58)])) (fun _ k => XS.iconst X65.here hx rfl (hb hby at_64) k) ?_
    obtain ⟨v66, T66, L66, X66, hQ66, st66⟩ := own_gS X65  hx hZ hown (hw _ (List.mem_of_getElem? (i := 42) rfl)) (hw _ (List.mem_of_getElem? (i := 43) rfl)) (hw _ (List.mem_of_getElem? (i := 4) rfl)) (hw _ (List.mem_of_getElem? (i := 44) rfl)) (by decide) rfl (own_bump_in l Z a0 hw T65.heap b58 k58 (3 : Int32) (2 : Int32) (0 : Int32) hs65 h0.size g_b58 V_b58 (by decide) (by decide)) (by decide) (by decide) (by decide) (by decide) (Q := (fun v h L => v = none ∧ Fr h0.size L ∧ Keep T65.heap h [b58] ∧ ∃ hs', Arh Z h b58 k58 .byte (3 : Int32) hs' [] (.int (0 : Int32)))) (W := 0) (g := (mkF m 65 #[.val (.int i), .val (.int xa), .val (.int xb), .val (.int xc), .val (.int xd), .val (.int (3 : Int32)), .val (.ref b58), .val (.ref b63), .unset, .unset] [(.int (2 : Int32)), (.ref b58)])) (argsL := [(.ref b58), (.int (2 : Int32))]) (rest := []) rfl (by rw [hml]; rfl) (lenOf own_pd_4 rfl) rfl (by show 2 * 0 + _ ≤ _; exact Nat.le_of_eq rfl) (hb hby at_65)
    obtain ⟨rfl, NL66, K66, hs66, VV66⟩ := hQ66
    have E_b58 := E_b58.keep K66
    have E_b63 := E_b63.keep K66
    have F_bytes_b63 := F_bytes_b63.keep K66 (ninS (Ne.symm ne_b58_b63) nin0)
    have F_failure_b63 := F_failure_b63.keep K66 (ninS (Ne.symm ne_b58_b63) nin0)
    have V_d63 := V_d63.keep K66 (ninS (Ne.symm ne_b58_d63) nin0)
    have E_d63 := E_d63.keep K66
    have V_b58 := VV66
    have E0 := own_ext_keep E0 K66 (allS g_b58 all0)
    have Nf := Fr.app Nf NL66
    have hk := Nat.le_trans hk K66.1
    refine own_st (T' := T66) (g' := (mkF m 68 #[.val (.int i), .val (.int xa), .val (.int xb), .val (.int xc), .val (.int xd), .val (.int (3 : Int32)), .val (.ref b58), .val (.ref b63), .unset, .unset] [])) st66 ?_
    refine own_st (T' := T66) (g' := (mkF m 70 #[.val (.int i), .val (.int xa), .val (.int xb), .val (.int xc), .val (.int xd), .val (.int (3 : Int32)), .val (.ref b58), .val (.ref b63), .unset, .unset] [(.ref b58)])) (fun _ k => XS.aload X66.here hx rfl (hb hby at_68) rfl rfl k) ?_
    refine own_st (T' := T66) (g' := (mkF m 71 #[.val (.int i), .val (.int xa), .val (.int xb), .val (.int xc), .val (.int xd), .val (.int (3 : Int32)), .val (.ref b58), .val (.ref b63), .unset, .unset] [(.int (3 : Int32)), (.ref b58)])) (fun _ k => XS.iconst X66.here hx rfl (hb hby at_70) k) ?_
    obtain ⟨v67, T67, L67, X67, hQ67, st67⟩ := own_gS X66  hx hZ hown (hw _ (List.mem_of_getElem? (i := 42) rfl)) (hw _ (List.mem_of_getElem? (i := 43) rfl)) (hw _ (List.mem_of_getElem? (i := 4) rfl)) (hw _ (List.mem_of_getElem? (i := 44) rfl)) (by decide) rfl (own_bump_out l Z a0 hw T66.heap b58 k58 (3 : Int32) (3 : Int32) (0 : Int32) hs66 h0.size g_b58 V_b58 (by decide) (by decide)) (by decide) (by decide) (by decide) (by decide) (Q := (fun v h L => v = none ∧ L = [] ∧ h = T66.heap)) (W := 0) (g := (mkF m 71 #[.val (.int i), .val (.int xa), .val (.int xb), .val (.int xc), .val (.int xd), .val (.int (3 : Int32)), .val (.ref b58), .val (.ref b63), .unset, .unset] [(.int (3 : Int32)), (.ref b58)])) (argsL := [(.ref b58), (.int (3 : Int32))]) (rest := []) rfl (by rw [hml]; rfl) (lenOf own_pd_4 rfl) rfl (by show 2 * 0 + _ ≤ _; exact Nat.le_of_eq rfl) (hb hby at_71)
    obtain ⟨rfl, rfl, hh67⟩ := hQ67
    rw [List.append_nil] at X67
    refine own_st (T' := T67) (g' := (mkF m 74 #[.val (.int i), .val (.int xa), .val (.int xb), .val (.int xc), .val (.int xd), .val (.int (3 : Int32)), .val (.ref b58), .val (.ref b63), .unset, .unset] [])) st67 ?_
    refine own_st (T' := T67) (g' := (mkF m 76 #[.val (.int i), .val (.int xa), .val (.int xb), .val (.int xc), .val (.int xd), .val (.int (3 : Int32)), .val (.ref b58), .val (.ref b63), .unset, .unset] [(.ref b63)])) (fun _ k => XS.aload X67.here hx rfl (hb hby at_74) rfl rfl k) ?_
    obtain ⟨v68, T68, L68, X68, hQ68, st68⟩ := own_gV X67 hx hZ hown (hw _ (List.mem_of_getElem? (i := 45) rfl)) (hw _ (List.mem_of_getElem? (i := 46) rfl)) (notFace_of_selects (args := #[]) (mvT hZ (hw _ (List.mem_of_getElem? (i := 48) rfl)))) (hw _ (List.mem_of_getElem? (i := 48) rfl)) (hw _ (List.mem_of_getElem? (i := 47) rfl)) (hw _ (List.mem_of_getElem? (i := 8) rfl)) (hw _ (List.mem_of_getElem? (i := 49) rfl)) (by decide) hh67 E_b63 (own_byt l Z a0 hw T66.heap b63 d63 k58 (3 : Int32) (((2 : Int32), (.int (xc.toInt8.toInt32))) :: (((1 : Int32), (.int (xb.toInt8.toInt32))) :: (((0 : Int32), (.int (xa.toInt8.toInt32))) :: []))) (by decide) F_bytes_b63 V_d63 E_d63) (by decide) (by decide) (by decide) (by decide) (Q := (fun v h L => ∃ b, v = some (.ref b) ∧ T66.heap.size ≤ b ∧ Fr T66.heap.size L ∧ Ext T66.heap h ∧ Arh Z h b k58 .byte (3 : Int32) (((2 : Int32), (.int (xc.toInt8.toInt32))) :: (((1 : Int32), (.int (xb.toInt8.toInt32))) :: (((0 : Int32), (.int (xa.toInt8.toInt32))) :: []))) [] (.int (0 : Int32)) ∧ Exa Z h b "[B")) (W := 0) (g := (mkF m 76 #[.val (.int i), .val (.int xa), .val (.int xb), .val (.int xc), .val (.int xd), .val (.int (3 : Int32)), .val (.ref b58), .val (.ref b63), .unset, .unset] [(.ref b63)])) (argsL := []) (rest := []) rfl (by rw [hml]; rfl) (lenOf own_pd_5 rfl) rfl (by show 2 * 0 + _ ≤ _; exact Nat.le_of_eq rfl) (hb hby at_76)
    obtain ⟨b68, rfl, gq68, NL68, EX68, VV68, EE68⟩ := hQ68
    have ne_b58_b68 : b58 ≠ b68 := Nat.ne_of_lt (Nat.lt_of_lt_of_le V_b58.lt gq68)
    have ne_b63_b68 : b63 ≠ b68 := Nat.ne_of_lt (Nat.lt_of_lt_of_le E_b63.lt gq68)
    have ne_d63_b68 : d63 ≠ b68 := Nat.ne_of_lt (Nat.lt_of_lt_of_le V_d63.lt gq68)
    have g_b68 : h0.size ≤ b68 := Nat.le_trans E0.1 gq68
    have Nf := Fr.app Nf (own_fr_mono E0.1 NL68)
    have V_b58 := V_b58.ext EX68
    have E_b58 := E_b58.ext EX68
    have E_b63 := E_b63.ext EX68
    have F_bytes_b63 := F_bytes_b63.ext EX68
    have F_failure_b63 := F_failure_b63.ext EX68
    have V_d63 := V_d63.ext EX68
    have E_d63 := E_d63.ext EX68
    have E0 := own_ext_tr E0 EX68
    have hk := Nat.le_trans hk EX68.1
    have V_b68 := VV68
    have E_b68 := EE68
    refine own_st (T' := T68) (g' := (mkF m 79 #[.val (.int i), .val (.int xa), .val (.int xb), .val (.int xc), .val (.int xd), .val (.int (3 : Int32)), .val (.ref b58), .val (.ref b63), .unset, .unset] [(.ref b68)])) st68 ?_
    refine own_st (T' := T68) (g' := (mkF m 81 #[.val (.int i), .val (.int xa), .val (.int xb), .val (.int xc), .val (.int xd), .val (.int (3 : Int32)), .val (.ref b58), .val (.ref b63), .val (.ref b68), .unset] [])) (fun _ k => XS.astore X68.here hx rfl (hb hby at_79) rfl rfl (l' := #[.val (.int i), .val (.int xa), .val (.int xb), .val (.int xc), .val (.int xd), .val (.int (3 : Int32)), .val (.ref b58), .val (.ref b63), .val (.ref b68), .unset]) rfl k) ?_
    refine own_st (T' := T68) (g' := (mkF m 83 #[.val (.int i), .val (.int xa), .val (.int xb), .val (.int xc), .val (.int xd), .val (.int (3 : Int32)), .val (.ref b58), .val (.ref b63), .val (.ref b68), .unset] [(.ref b68)])) (fun _ k => XS.aload X68.here hx rfl (hb hby at_81) rfl rfl k) ?_
    refine own_st (T' := T68) (g' := (mkF m 85 #[.val (.int i), .val (.int xa), .val (.int xb), .val (.int xc), .val (.int xd), .val (.int (3 : Int32)), .val (.ref b58), .val (.ref b63), .val (.ref b68), .unset] [(.ref b58), (.ref b68)])) (fun _ k => XS.aload X68.here hx rfl (hb hby at_83) rfl rfl k) ?_
    refine own_st (T' := T68) (g' := (mkF m 90 #[.val (.int i), .val (.int xa), .val (.int xb), .val (.int xc), .val (.int xd), .val (.int (3 : Int32)), .val (.ref b58), .val (.ref b63), .val (.ref b68), .unset] [])) (fun _ k => Jvm.RoadKit.acmp (g := (mkF m 85 #[.val (.int i), .val (.int xa), .val (.int xb), .val (.int xc), .val (.int xd), .val (.int (3 : Int32)), .val (.ref b58), .val (.ref b63), .val (.ref b68), .unset] [(.ref b58), (.ref b68)])) X68 hx rfl rfl rfl (pc0 := 85) (pc' := 90) (same := false) rfl (hb hby at_85) rfl (decide_eq_false fun q => (Ne.symm ne_b58_b68) (Value.ref.inj q)) (by decide) (by decide) k) ?_
    refine own_st (T' := T68) (g' := (mkF m 92 #[.val (.int i), .val (.int xa), .val (.int xb), .val (.int xc), .val (.int xd), .val (.int (3 : Int32)), .val (.ref b58), .val (.ref b63), .val (.ref b68), .unset] [(.ref b68)])) (fun _ k => XS.aload X68.here hx rfl (hb hby at_90) rfl rfl k) ?_
    have V69 := V_b68
    obtain ⟨cl69, Ar69, qk69, Sz69, Nn69, Hh69, Gg69⟩ := V69
    refine own_st (T' := T68) (g' := (mkF m 93 #[.val (.int i), .val (.int xa), .val (.int xb), .val (.int xc), .val (.int xd), .val (.int (3 : Int32)), .val (.ref b58), .val (.ref b63), .val (.ref b68), .unset] [(.int cl69.slots.size.toInt32)])) (fun _ k => X68.arraylength hx (own_he rfl Ar69.1) (State.isArrayOf_alike hZ.alike Ar69.2.1) (g := (mkF m 92 #[.val (.int i), .val (.int xa), .val (.int xb), .val (.int xc), .val (.int xd), .val (.int (3 : Int32)), .val (.ref b58), .val (.ref b63), .val (.ref b68), .unset] [(.ref b68)])) rfl rfl (hb hby at_92) _ k) ?_
    rw [len_of Sz69 Nn69]
    refine own_st (T' := T68) (g' := (mkF m 95 #[.val (.int i), .val (.int xa), .val (.int xb), .val (.int xc), .val (.int xd), .val (.int (3 : Int32)), .val (.ref b58), .val (.ref b63), .val (.ref b68), .unset] [(.int (3 : Int32)), (.int (3 : Int32))])) (fun _ k => XS.iload X68.here hx rfl (hb hby at_93) rfl k) ?_
    refine own_st (T' := T68) (g' := (mkF m 98 #[.val (.int i), .val (.int xa), .val (.int xb), .val (.int xc), .val (.int xd), .val (.int (3 : Int32)), .val (.ref b58), .val (.ref b63), .val (.ref b68), .unset] [])) (fun _ k => XS.icmpNo X68.here hx rfl (hb hby at_95) rfl (by decide) k) ?_
    refine own_st (T' := T68) (g' := (mkF m 100 #[.val (.int i), .val (.int xa), .val (.int xb), .val (.int xc), .val (.int xd), .val (.int (3 : Int32)), .val (.ref b58), .val (.ref b63), .val (.ref b68), .unset] [(.ref b68)])) (fun _ k => XS.aload X68.here hx rfl (hb hby at_98) rfl rfl k) ?_
    refine own_st (T' := T68) (g' := (mkF m 101 #[.val (.int i), .val (.int xa), .val (.int xb), .val (.int xc), .val (.int xd), .val (.int (3 : Int32)), .val (.ref b58), .val (.ref b63), .val (.ref b68), .unset] [(.int (0 : Int32)), (.ref b68)])) (fun _ k => XS.iconst X68.here hx rfl (hb hby at_100) k) ?_
    refine own_st (T' := T68) (g' := (mkF m 102 #[.val (.int i), .val (.int xa), .val (.int xb), .val (.int xc), .val (.int xd), .val (.int (3 : Int32)), .val (.ref b58), .val (.ref b63), .val (.ref b68), .unset] [(.int xa), (.int (0 : Int32)), (.ref b68)])) (fun _ k => XS.iloadN X68.here hx rfl (hb hby at_101) rfl k) ?_
    obtain ⟨T70, X70, e70, st70⟩ := own_pure (w := (.int (1 : Int32))) rfl rfl (own_gS X68 hx hZ hown (hw _ (List.mem_of_getElem? (i := 50) rfl)) (hw _ (List.mem_of_getElem? (i := 51) rfl)) (hw _ (List.mem_of_getElem? (i := 4) rfl)) (hw _ (List.mem_of_getElem? (i := 52) rfl)) (by decide) rfl (own_at_in l Z a0 hw T68.heap b68 k58 (3 : Int32) (0 : Int32) xa (((2 : Int32), (.int (xc.toInt8.toInt32))) :: (((1 : Int32), (.int (xb.toInt8.toInt32))) :: (((0 : Int32), (.int (xa.toInt8.toInt32))) :: []))) h0.size g_b68 V_b68 (by decide) (by decide) rfl) (by decide) (by decide) (by decide) (by decide) (Q := fun v h L => v = some (.int (1 : Int32)) ∧ L = [] ∧ h = T68.heap) (W := 0) (g := (mkF m 102 #[.val (.int i), .val (.int xa), .val (.int xb), .val (.int xc), .val (.int xd), .val (.int (3 : Int32)), .val (.ref b58), .val (.ref b63), .val (.ref b68), .unset] [(.int xa), (.int (0 : Int32)), (.ref b68)])) (argsL := [(.ref b68), (.int (0 : Int32)), (.int xa)]) (rest := []) rfl (by rw [hml]; rfl) (lenOf own_pd_6 rfl) rfl (by show 2 * 0 + _ ≤ _; exact Nat.le_of_eq rfl) (hb hby at_102))
    refine own_st (T' := T70) (g' := (mkF m 105 #[.val (.int i), .val (.int xa), .val (.int xb), .val (.int xc), .val (.int xd), .val (.int (3 : Int32)), .val (.ref b58), .val (.ref b63), .val (.ref b68), .unset] [(.int (1 : Int32))])) st70 ?_
    refine own_st (T' := T70) (g' := (mkF m 108 #[.val (.int i), .val (.int xa), .val (.int xb), .val (.int xc), .val (.int xd), .val (.int (3 : Int32)), .val (.ref b58), .val (.ref b63), .val (.ref b68), .unset] [])) (fun _ k => XS.ifNo X70.here hx rfl (hb hby at_105) rfl (by decide) k) ?_
    refine own_st (T' := T70) (g' := (mkF m 110 #[.val (.int i), .val (.int xa), .val (.int xb), .val (.int xc), .val (.int xd), .val (.int (3 : Int32)), .val (.ref b58), .val (.ref b63), .val (.ref b68), .unset] [(.ref b68)])) (fun _ k => XS.aload X70.here hx rfl (hb hby at_108) rfl rfl k) ?_
    refine own_st (T' := T70) (g' := (mkF m 111 #[.val (.int i), .val (.int xa), .val (.int xb), .val (.int xc), .val (.int xd), .val (.int (3 : Int32)), .val (.ref b58), .val (.ref b63), .val (.ref b68), .unset] [(.int (1 : Int32)), (.ref b68)])) (fun _ k => XS.iconst X70.here hx rfl (hb hby at_110) k) ?_
    refine own_st (T' := T70) (g' := (mkF m 112 #[.val (.int i), .val (.int xa), .val (.int xb), .val (.int xc), .val (.int xd), .val (.int (3 : Int32)), .val (.ref b58), .val (.ref b63), .val (.ref b68), .unset] [(.int xb), (.int (1 : Int32)), (.ref b68)])) (fun _ k => XS.iloadN X70.here hx rfl (hb hby at_111) rfl k) ?_
    obtain ⟨T71, X71, e71, st71⟩ := own_pure (w := (.int (1 : Int32))) rfl rfl (own_gS X70 hx hZ hown (hw _ (List.mem_of_getElem? (i := 50) rfl)) (hw _ (List.mem_of_getElem? (i := 51) rfl)) (hw _ (List.mem_of_getElem? (i := 4) rfl)) (hw _ (List.mem_of_getElem? (i := 52) rfl)) (by decide) e70 (own_at_in l Z a0 hw T68.heap b68 k58 (3 : Int32) (1 : Int32) xb (((2 : Int32), (.int (xc.toInt8.toInt32))) :: (((1 : Int32), (.int (xb.toInt8.toInt32))) :: (((0 : Int32), (.int (xa.toInt8.toInt32))) :: []))) h0.size g_b68 V_b68 (by decide) (by decide) rfl) (by decide) (by decide) (by decide) (by decide) (Q := fun v h L => v = some (.int (1 : Int32)) ∧ L = [] ∧ h = T68.heap) (W := 0) (g := (mkF m 112 #[.val (.int i), .val (.int xa), .val (.int xb), .val (.int xc), .val (.int xd), .val (.int (3 : Int32)), .val (.ref b58), .val (.ref b63), .val (.ref b68), .unset] [(.int xb), (.int (1 : Int32)), (.ref b68)])) (argsL := [(.ref b68), (.int (1 : Int32)), (.int xb)]) (rest := []) rfl (by rw [hml]; rfl) (lenOf own_pd_6 rfl) rfl (by show 2 * 0 + _ ≤ _; exact Nat.le_of_eq rfl) (hb hby at_112))
    refine own_st (T' := T71) (g' := (mkF m 115 #[.val (.int i), .val (.int xa), .val (.int xb), .val (.int xc), .val (.int xd), .val (.int (3 : Int32)), .val (.ref b58), .val (.ref b63), .val (.ref b68), .unset] [(.int (1 : Int32))])) st71 ?_
    refine own_st (T' := T71) (g' := (mkF m 118 #[.val (.int i), .val (.int xa), .val (.int xb), .val (.int xc), .val (.int xd), .val (.int (3 : Int32)), .val (.ref b58), .val (.ref b63), .val (.ref b68), .unset] [])) (fun _ k => XS.ifNo X71.here hx rfl (hb hby at_115) rfl (by decide) k) ?_
    refine own_st (T' := T71) (g' := (mkF m 120 #[.val (.int i), .val (.int xa), .val (.int xb), .val (.int xc), .val (.int xd), .val (.int (3 : Int32)), .val (.ref b58), .val (.ref b63), .val (.ref b68), .unset] [(.ref b68)])) (fun _ k => XS.aload X71.here hx rfl (hb hby at_118) rfl rfl k) ?_
    refine own_st (T' := T71) (g' := (mkF m 121 #[.val (.int i), .val (.int xa), .val (.int xb), .val (.int xc), .val (.int xd), .val (.int (3 : Int32)), .val (.ref b58), .val (.ref b63), .val (.ref b68), .unset] [(.int (2 : Int32)), (.ref b68)])) (fun _ k => XS.iconst X71.here hx rfl (hb hby at_120) k) ?_
    refine own_st (T' := T71) (g' := (mkF m 122 #[.val (.int i), .val (.int xa), .val (.int xb), .val (.int xc), .val (.int xd), .val (.int (3 : Int32)), .val (.ref b58), .val (.ref b63), .val (.ref b68), .unset] [(.int xc), (.int (2 : Int32)), (.ref b68)])) (fun _ k => XS.iloadN X71.here hx rfl (hb hby at_121) rfl k) ?_
    obtain ⟨T72, X72, e72, st72⟩ := own_pure (w := (.int (1 : Int32))) rfl rfl (own_gS X71 hx hZ hown (hw _ (List.mem_of_getElem? (i := 50) rfl)) (hw _ (List.mem_of_getElem? (i := 51) rfl)) (hw _ (List.mem_of_getElem? (i := 4) rfl)) (hw _ (List.mem_of_getElem? (i := 52) rfl)) (by decide) e71 (own_at_in l Z a0 hw T68.heap b68 k58 (3 : Int32) (2 : Int32) xc (((2 : Int32), (.int (xc.toInt8.toInt32))) :: (((1 : Int32), (.int (xb.toInt8.toInt32))) :: (((0 : Int32), (.int (xa.toInt8.toInt32))) :: []))) h0.size g_b68 V_b68 (by decide) (by decide) rfl) (by decide) (by decide) (by decide) (by decide) (Q := fun v h L => v = some (.int (1 : Int32)) ∧ L = [] ∧ h = T68.heap) (W := 0) (g := (mkF m 122 #[.val (.int i), .val (.int xa), .val (.int xb), .val (.int xc), .val (.int xd), .val (.int (3 : Int32)), .val (.ref b58), .val (.ref b63), .val (.ref b68), .unset] [(.int xc), (.int (2 : Int32)), (.ref b68)])) (argsL := [(.ref b68), (.int (2 : Int32)), (.int xc)]) (rest := []) rfl (by rw [hml]; rfl) (lenOf own_pd_6 rfl) rfl (by show 2 * 0 + _ ≤ _; exact Nat.le_of_eq rfl) (hb hby at_122))
    refine own_st (T' := T72) (g' := (mkF m 125 #[.val (.int i), .val (.int xa), .val (.int xb), .val (.int xc), .val (.int xd), .val (.int (3 : Int32)), .val (.ref b58), .val (.ref b63), .val (.ref b68), .unset] [(.int (1 : Int32))])) st72 ?_
    refine own_st (T' := T72) (g' := (mkF m 128 #[.val (.int i), .val (.int xa), .val (.int xb), .val (.int xc), .val (.int xd), .val (.int (3 : Int32)), .val (.ref b58), .val (.ref b63), .val (.ref b68), .unset] [])) (fun _ k => XS.ifNo X72.here hx rfl (hb hby at_125) rfl (by decide) k) ?_
    refine own_st (T' := T72) (g' := (mkF m 130 #[.val (.int i), .val (.int xa), .val (.int xb), .val (.int xc), .val (.int xd), .val (.int (3 : Int32)), .val (.ref b58), .val (.ref b63), .val (.ref b68), .unset] [(.ref b68)])) (fun _ k => XS.aload X72.here hx rfl (hb hby at_128) rfl rfl k) ?_
    refine own_st (T' := T72) (g' := (mkF m 131 #[.val (.int i), .val (.int xa), .val (.int xb), .val (.int xc), .val (.int xd), .val (.int (3 : Int32)), .val (.ref b58), .val (.ref b63), .val (.ref b68), .unset] [(.int (3 : Int32)), (.ref b68)])) (fun _ k => XS.iconst X72.here hx rfl (hb hby at_130) k) ?_
    refine own_st (T' := T72) (g' := (mkF m 133 #[.val (.int i), .val (.int xa), .val (.int xb), .val (.int xc), .val (.int xd), .val (.int (3 : Int32)), .val (.ref b58), .val (.ref b63), .val (.ref b68), .unset] [(.int xd), (.int (3 : Int32)), (.ref b68)])) (fun _ k => XS.iload X72.here hx rfl (hb hby at_131) rfl k) ?_
    obtain ⟨T73, X73, e73, st73⟩ := own_pure (w := (.int (1 : Int32))) rfl rfl (own_gS X72 hx hZ hown (hw _ (List.mem_of_getElem? (i := 50) rfl)) (hw _ (List.mem_of_getElem? (i := 51) rfl)) (hw _ (List.mem_of_getElem? (i := 4) rfl)) (hw _ (List.mem_of_getElem? (i := 52) rfl)) (by decide) e72 (own_at_out l Z a0 hw T68.heap b68 k58 (3 : Int32) (3 : Int32) xd (((2 : Int32), (.int (xc.toInt8.toInt32))) :: (((1 : Int32), (.int (xb.toInt8.toInt32))) :: (((0 : Int32), (.int (xa.toInt8.toInt32))) :: []))) h0.size g_b68 V_b68 (by decide) (by decide)) (by decide) (by decide) (by decide) (by decide) (Q := fun v h L => v = some (.int (1 : Int32)) ∧ L = [] ∧ h = T68.heap) (W := 0) (g := (mkF m 133 #[.val (.int i), .val (.int xa), .val (.int xb), .val (.int xc), .val (.int xd), .val (.int (3 : Int32)), .val (.ref b58), .val (.ref b63), .val (.ref b68), .unset] [(.int xd), (.int (3 : Int32)), (.ref b68)])) (argsL := [(.ref b68), (.int (3 : Int32)), (.int xd)]) (rest := []) rfl (by rw [hml]; rfl) (lenOf own_pd_6 rfl) rfl (by show 2 * 0 + _ ≤ _; exact Nat.le_of_eq rfl) (hb hby at_133))
    refine own_st (T' := T73) (g' := (mkF m 136 #[.val (.int i), .val (.int xa), .val (.int xb), .val (.int xc), .val (.int xd), .val (.int (3 : Int32)), .val (.ref b58), .val (.ref b63), .val (.ref b68), .unset] [(.int (1 : Int32))])) st73 ?_
    refine own_st (T' := T73) (g' := (mkF m 139 #[.val (.int i), .val (.int xa), .val (.int xb), .val (.int xc), .val (.int xd), .val (.int (3 : Int32)), .val (.ref b58), .val (.ref b63), .val (.ref b68), .unset] [])) (fun _ k => XS.ifNo X73.here hx rfl (hb hby at_136) rfl (by decide) k) ?_
    refine own_st (T' := T73) (g' := (mkF m 140 #[.val (.int i), .val (.int xa), .val (.int xb), .val (.int xc), .val (.int xd), .val (.int (3 : Int32)), .val (.ref b58), .val (.ref b63), .val (.ref b68), .unset] [(.int (1 : Int32))])) (fun _ k => XS.iconst X73.here hx rfl (hb hby at_139) k) ?_
    refine own_st (T' := T73) (g' := (mkF m 144 #[.val (.int i), .val (.int xa), .val (.int xb), .val (.int xc), .val (.int xd), .val (.int (3 : Int32)), .val (.ref b58), .val (.ref b63), .val (.ref b68), .unset] [(.int (1 : Int32))])) (fun _ k => XS.goto X73.here hx rfl (pc0 := 140) (pc' := 144) rfl (hb hby at_140) (by decide) (by decide) k) ?_
    refine own_st (T' := T73) (g' := (mkF m 146 #[.val (.int i), .val (.int xa), .val (.int xb), .val (.int xc), .val (.int xd), .val (.int (3 : Int32)), .val (.ref b58), .val (.ref b63), .val (.ref b68), .val (.int (1 : Int32))] [])) (fun _ k => XS.istore X73.here hx rfl (hb hby at_144) rfl (l' := #[.val (.int i), .val (.int xa), .val (.int xb), .val (.int xc), .val (.int xd), .val (.int (3 : Int32)), .val (.ref b58), .val (.ref b63), .val (.ref b68), .val (.int (1 : Int32))]) rfl k) ?_
    refine own_st (T' := T73) (g' := (mkF m 148 #[.val (.int i), .val (.int xa), .val (.int xb), .val (.int xc), .val (.int xd), .val (.int (3 : Int32)), .val (.ref b58), .val (.ref b63), .val (.ref b68), .val (.int (1 : Int32))] [(.int (1 : Int32))])) (fun _ k => XS.iload X73.here hx rfl (hb hby at_146) rfl k) ?_
    refine own_st (T' := T73) (g' := (mkF m 151 #[.val (.int i), .val (.int xa), .val (.int xb), .val (.int xc), .val (.int xd), .val (.int (3 : Int32)), .val (.ref b58), .val (.ref b63), .val (.ref b68), .val (.int (1 : Int32))] [])) (fun _ k => XS.ifNo X73.here hx rfl (hb hby at_148) rfl (by decide) k) ?_
    refine own_st (T' := T73) (g' := (mkF m 153 #[.val (.int i), .val (.int xa), .val (.int xb), .val (.int xc), .val (.int xd), .val (.int (3 : Int32)), .val (.ref b58), .val (.ref b63), .val (.ref b68), .val (.int (1 : Int32))] [(.ref b63)])) (fun _ k => XS.aload X73.here hx rfl (hb hby at_151) rfl rfl k) ?_
    obtain ⟨T74, X74, e74, st74⟩ := own_pure (w := (.int (1 : Int32))) rfl rfl (own_gV X73 hx hZ hown (hw _ (List.mem_of_getElem? (i := 53) rfl)) (hw _ (List.mem_of_getElem? (i := 54) rfl)) (notFace_of_selects (args := #[]) (mvT hZ (hw _ (List.mem_of_getElem? (i := 56) rfl)))) (hw _ (List.mem_of_getElem? (i := 56) rfl)) (hw _ (List.mem_of_getElem? (i := 55) rfl)) (hw _ (List.mem_of_getElem? (i := 8) rfl)) (hw _ (List.mem_of_getElem? (i := 57) rfl)) (by decide) e73 E_b63 (own_isf l Z a0 hw T68.heap b63 F_failure_b63) (by decide) (by decide) (by decide) (by decide) (Q := fun v h L => v = some (.int (1 : Int32)) ∧ L = [] ∧ h = T68.heap) (W := 0) (g := (mkF m 153 #[.val (.int i), .val (.int xa), .val (.int xb), .val (.int xc), .val (.int xd), .val (.int (3 : Int32)), .val (.ref b58), .val (.ref b63), .val (.ref b68), .val (.int (1 : Int32))] [(.ref b63)])) (argsL := []) (rest := []) rfl (by rw [hml]; rfl) (lenOf own_pd_7 rfl) rfl (by show 2 * 0 + _ ≤ _; exact Nat.le_of_eq rfl) (hb hby at_153))
    refine own_st (T' := T74) (g' := (mkF m 156 #[.val (.int i), .val (.int xa), .val (.int xb), .val (.int xc), .val (.int xd), .val (.int (3 : Int32)), .val (.ref b58), .val (.ref b63), .val (.ref b68), .val (.int (1 : Int32))] [(.int (1 : Int32))])) st74 ?_
    refine own_st (T' := T74) (g' := (mkF m 159 #[.val (.int i), .val (.int xa), .val (.int xb), .val (.int xc), .val (.int xd), .val (.int (3 : Int32)), .val (.ref b58), .val (.ref b63), .val (.ref b68), .val (.int (1 : Int32))] [])) (fun _ k => XS.ifNo X74.here hx rfl (hb hby at_156) rfl (by decide) k) ?_
    refine own_st (T' := T74) (g' := (mkF m 161 #[.val (.int i), .val (.int xa), .val (.int xb), .val (.int xc), .val (.int xd), .val (.int (3 : Int32)), .val (.ref b58), .val (.ref b63), .val (.ref b68), .val (.int (1 : Int32))] [(.ref b63)])) (fun _ k => XS.aload X74.here hx rfl (hb hby at_159) rfl rfl k) ?_
    obtain ⟨T75, X75, e75, st75⟩ := own_pure (w := (.ref a_FAILED)) rfl rfl (own_gV X74 hx hZ hown (hw _ (List.mem_of_getElem? (i := 58) rfl)) (hw _ (List.mem_of_getElem? (i := 59) rfl)) (notFace_of_selects (args := #[]) (mvT hZ (hw _ (List.mem_of_getElem? (i := 61) rfl)))) (hw _ (List.mem_of_getElem? (i := 61) rfl)) (hw _ (List.mem_of_getElem? (i := 60) rfl)) (hw _ (List.mem_of_getElem? (i := 8) rfl)) (hw _ (List.mem_of_getElem? (i := 62) rfl)) (by decide) e74 E_b63 (own_stat l Z a0 hw T68.heap b63 a_FAILED F_failure_b63 (S_FAILED.ext E0)) (by decide) (by decide) (by decide) (by decide) (Q := fun v h L => v = some (.ref a_FAILED) ∧ L = [] ∧ h = T68.heap) (W := 0) (g := (mkF m 161 #[.val (.int i), .val (.int xa), .val (.int xb), .val (.int xc), .val (.int xd), .val (.int (3 : Int32)), .val (.ref b58), .val (.ref b63), .val (.ref b68), .val (.int (1 : Int32))] [(.ref b63)])) (argsL := []) (rest := []) rfl (by rw [hml]; rfl) (lenOf own_pd_8 rfl) rfl (by show 2 * 0 + _ ≤ _; exact Nat.le_of_eq rfl) (hb hby at_161))
    refine own_st (T' := T75) (g' := (mkF m 164 #[.val (.int i), .val (.int xa), .val (.int xb), .val (.int xc), .val (.int xd), .val (.int (3 : Int32)), .val (.ref b58), .val (.ref b63), .val (.ref b68), .val (.int (1 : Int32))] [(.ref a_FAILED)])) st75 ?_
    obtain ⟨T76, X76, e76, st76⟩ := getS2 X75 hx hZ hown (host := "") (Or.inl (hw _ (List.mem_of_getElem? (i := 66) rfl))) Via.refl e75 (S_FAILED.ext E0) (g := (mkF m 164 #[.val (.int i), .val (.int xa), .val (.int xb), .val (.int xc), .val (.int xd), .val (.int (3 : Int32)), .val (.ref b58), .val (.ref b63), .val (.ref b68), .val (.int (1 : Int32))] [(.ref a_FAILED)])) rfl (hb hby at_164)
    refine own_st (T' := T76) (g' := (mkF m 167 #[.val (.int i), .val (.int xa), .val (.int xb), .val (.int xc), .val (.int xd), .val (.int (3 : Int32)), .val (.ref b58), .val (.ref b63), .val (.ref b68), .val (.int (1 : Int32))] [(.ref a_FAILED), (.ref a_FAILED)])) st76 ?_
    refine own_st (T' := T76) (g' := (mkF m 170 #[.val (.int i), .val (.int xa), .val (.int xb), .val (.int xc), .val (.int xd), .val (.int (3 : Int32)), .val (.ref b58), .val (.ref b63), .val (.ref b68), .val (.int (1 : Int32))] [])) (fun _ k => Jvm.RoadKit.acmp (g := (mkF m 167 #[.val (.int i), .val (.int xa), .val (.int xb), .val (.int xc), .val (.int xd), .val (.int (3 : Int32)), .val (.ref b58), .val (.ref b63), .val (.ref b68), .val (.int (1 : Int32))] [(.ref a_FAILED), (.ref a_FAILED)])) X76 hx rfl rfl rfl (pc0 := 167) (pc' := 170) (same := true) rfl (hb hby at_167) rfl (decide_eq_true rfl) (by decide) (by decide) k) ?_
    refine own_st (T' := T76) (g' := (mkF m 171 #[.val (.int i), .val (.int xa), .val (.int xb), .val (.int xc), .val (.int xd), .val (.int (3 : Int32)), .val (.ref b58), .val (.ref b63), .val (.ref b68), .val (.int (1 : Int32))] [(.int (1 : Int32))])) (fun _ k => XS.iconst X76.here hx rfl (hb hby at_170) k) ?_
    refine own_st (T' := T76) (g' := (mkF m 175 #[.val (.int i), .val (.int xa), .val (.int xb), .val (.int xc), .val (.int xd), .val (.int (3 : Int32)), .val (.ref b58), .val (.ref b63), .val (.ref b68), .val (.int (1 : Int32))] [(.int (1 : Int32))])) (fun _ k => XS.goto X76.here hx rfl (pc0 := 171) (pc' := 175) rfl (hb hby at_171) (by decide) (by decide) k) ?_
    exact own_retW X76 hx hlk hS (by rw [e76]; exact hk) hret rfl (Or.inl ⟨rfl, Or.inr (Or.inl rfl), _, rfl⟩) (hb hby at_175) (by decide) (by decide) ⟨rfl, Nf⟩
  ·
    rw [hE]
    refine own_st (T' := T0) (g' := (mkF m 8 #[.val (.int i), .val (.int xa), .val (.int xb), .val (.int xc), .val (.int xd), .val (.int (4 : Int32)), .unset, .unset, .unset, .unset] [])) (fun _ k => XS.istore X0.here hx rfl (hb hby at_6) rfl (l' := #[.val (.int i), .val (.int xa), .val (.int xb), .val (.int xc), .val (.int xd), .val (.int (4 : Int32)), .unset, .unset, .unset, .unset]) rfl k) ?_
    refine own_st (T' := T0) (g' := (mkF m 10 #[.val (.int i), .val (.int xa), .val (.int xb), .val (.int xc), .val (.int xd), .val (.int (4 : Int32)), .unset, .unset, .unset, .unset] [(.int (4 : Int32))])) (fun _ k => XS.iload X0.here hx rfl (hb hby at_8) rfl k) ?_
    obtain ⟨T77, h77, k77, X77, e77, E77, A77, Q77, st77⟩ := newPE X0 hx hZ (hw _ (List.mem_of_getElem? (i := 1) rfl)) e0 (g := (mkF m 10 #[.val (.int i), .val (.int xa), .val (.int xb), .val (.int xc), .val (.int xd), .val (.int (4 : Int32)), .unset, .unset, .unset, .unset] [(.int (4 : Int32))])) rfl (hb hby at_10) rfl (by decide) (cap := 4) (by decide) (by decide) (by decide) (by decide) (ad := "[B") rfl
    obtain ⟨b77, gb_b77⟩ : ∃ z, z = h0.size := ⟨_, rfl⟩
    rw [← gb_b77] at A77 Q77 st77
    have g_b77 : h0.size ≤ b77 := Nat.le_trans E0.1 (Nat.le_of_eq gb_b77.symm)
    have E0 := own_ext_tr E0 E77
    have hk := Nat.le_trans hk E77.1
    have V_b77 : Arh Z h77 b77 k77 .byte (4 : Int32) [] [] (.int (0 : Int32)) := Arv.arh (Arv.new A77 (by decide))
    have E_b77 := Q77
    refine own_st (T' := T77) (g' := (mkF m 12 #[.val (.int i), .val (.int xa), .val (.int xb), .val (.int xc), .val (.int xd), .val (.int (4 : Int32)), .unset, .unset, .unset, .unset] [(.ref b77)])) st77 ?_
    refine own_st (T' := T77) (g' := (mkF m 14 #[.val (.int i), .val (.int xa), .val (.int xb), .val (.int xc), .val (.int xd), .val (.int (4 : Int32)), .val (.ref b77), .unset, .unset, .unset] [])) (fun _ k => XS.astore X77.here hx rfl (hb hby at_12) rfl rfl (l' := #[.val (.int i), .val (.int xa), .val (.int xb), .val (.int xc), .val (.int xd), .val (.int (4 : Int32)), .val (.ref b77), .unset, .unset, .unset]) rfl k) ?_
    refine own_st (T' := T77) (g' := (mkF m 16 #[.val (.int i), .val (.int xa), .val (.int xb), .val (.int xc), .val (.int xd), .val (.int (4 : Int32)), .val (.ref b77), .unset, .unset, .unset] [(.ref b77)])) (fun _ k => XS.aload X77.here hx rfl (hb hby at_14) rfl rfl k) ?_
    refine own_st (T' := T77) (g' := (mkF m 17 #[.val (.int i), .val (.int xa), .val (.int xb), .val (.int xc), .val (.int xd), .val (.int (4 : Int32)), .val (.ref b77), .unset, .unset, .unset] [(.int (0 : Int32)), (.ref b77)])) (fun _ k => XS.iconst X77.here hx rfl (hb hby at_16) k) ?_
    refine own_st (T' := T77) (g' := (mkF m 18 #[.val (.int i), .val (.int xa), .val (.int xb), .val (.int xc), .val (.int xd), .val (.int (4 : Int32)), .val (.ref b77), .unset, .unset, .unset] [(.int xa), (.int (0 : Int32)), (.ref b77)])) (fun _ k => XS.iloadN X77.here hx rfl (hb hby at_17) rfl k) ?_
    obtain ⟨v78, T78, L78, X78, hQ78, st78⟩ := own_gS X77  hx hZ hown (hw _ (List.mem_of_getElem? (i := 2) rfl)) (hw _ (List.mem_of_getElem? (i := 3) rfl)) (hw _ (List.mem_of_getElem? (i := 4) rfl)) (hw _ (List.mem_of_getElem? (i := 5) rfl)) (by decide) e77 (own_set_in l Z a0 hw h77 b77 k77 (4 : Int32) (0 : Int32) xa [] h0.size g_b77 V_b77 (by decide) (by decide)) (by decide) (by decide) (by decide) (by decide) (Q := (fun v h L => v = none ∧ Fr h0.size L ∧ Keep h77 h [b77] ∧ Arh Z h b77 k77 .byte (4 : Int32) (((0 : Int32), (.int (xa.toInt8.toInt32))) :: []) [] (.int (0 : Int32)))) (W := 0) (g := (mkF m 18 #[.val (.int i), .val (.int xa), .val (.int xb), .val (.int xc), .val (.int xd), .val (.int (4 : Int32)), .val (.ref b77), .unset, .unset, .unset] [(.int xa), (.int (0 : Int32)), (.ref b77)])) (argsL := [(.ref b77), (.int (0 : Int32)), (.int xa)]) (rest := []) rfl (by rw [hml]; rfl) (lenOf own_pd_2 rfl) rfl (by show 2 * 0 + _ ≤ _; exact Nat.le_of_eq rfl) (hb hby at_18)
    obtain ⟨rfl, NL78, K78, VV78⟩ := hQ78
    have E_b77 := E_b77.keep K78
    have V_b77 := VV78
    have E0 := own_ext_keep E0 K78 (allS g_b77 all0)
    have Nf := Fr.app Nf NL78
    have hk := Nat.le_trans hk K78.1
    refine own_st (T' := T78) (g' := (mkF m 21 #[.val (.int i), .val (.int xa), .val (.int xb), .val (.int xc), .val (.int xd), .val (.int (4 : Int32)), .val (.ref b77), .unset, .unset, .unset] [])) st78 ?_
    refine own_st (T' := T78) (g' := (mkF m 23 #[.val (.int i), .val (.int xa), .val (.int xb), .val (.int xc), .val (.int xd), .val (.int (4 : Int32)), .val (.ref b77), .unset, .unset, .unset] [(.ref b77)])) (fun _ k => XS.aload X78.here hx rfl (hb hby at_21) rfl rfl k) ?_
    refine own_st (T' := T78) (g' := (mkF m 24 #[.val (.int i), .val (.int xa), .val (.int xb), .val (.int xc), .val (.int xd), .val (.int (4 : Int32)), .val (.ref b77), .unset, .unset, .unset] [(.int (1 : Int32)), (.ref b77)])) (fun _ k => XS.iconst X78.here hx rfl (hb hby at_23) k) ?_
    refine own_st (T' := T78) (g' := (mkF m 25 #[.val (.int i), .val (.int xa), .val (.int xb), .val (.int xc), .val (.int xd), .val (.int (4 : Int32)), .val (.ref b77), .unset, .unset, .unset] [(.int xb), (.int (1 : Int32)), (.ref b77)])) (fun _ k => XS.iloadN X78.here hx rfl (hb hby at_24) rfl k) ?_
    obtain ⟨v79, T79, L79, X79, hQ79, st79⟩ := own_gS X78  hx hZ hown (hw _ (List.mem_of_getElem? (i := 2) rfl)) (hw _ (List.mem_of_getElem? (i := 3) rfl)) (hw _ (List.mem_of_getElem? (i := 4) rfl)) (hw _ (List.mem_of_getElem? (i := 5) rfl)) (by decide) rfl (own_set_in l Z a0 hw T78.heap b77 k77 (4 : Int32) (1 : Int32) xb (((0 : Int32), (.int (xa.toInt8.toInt32))) :: []) h0.size g_b77 V_b77 (by decide) (by decide)) (by decide) (by decide) (by decide) (by decide) (Q := (fun v h L => v = none ∧ Fr h0.size L ∧ Keep T78.heap h [b77] ∧ Arh Z h b77 k77 .byte (4 : Int32) (((1 : Int32), (.int (xb.toInt8.toInt32))) :: (((0 : Int32), (.int (xa.toInt8.toInt32))) :: [])) [] (.int (0 : Int32)))) (W := 0) (g := (mkF m 25 #[.val (.int i), .val (.int xa), .val (.int xb), .val (.int xc), .val (.int xd), .val (.int (4 : Int32)), .val (.ref b77), .unset, .unset, .unset] [(.int xb), (.int (1 : Int32)), (.ref b77)])) (argsL := [(.ref b77), (.int (1 : Int32)), (.int xb)]) (rest := []) rfl (by rw [hml]; rfl) (lenOf own_pd_2 rfl) rfl (by show 2 * 0 + _ ≤ _; exact Nat.le_of_eq rfl) (hb hby at_25)
    obtain ⟨rfl, NL79, K79, VV79⟩ := hQ79
    have E_b77 := E_b77.keep K79
    have V_b77 := VV79
    have E0 := own_ext_keep E0 K79 (allS g_b77 all0)
    have Nf := Fr.app Nf NL79
    have hk := Nat.le_trans hk K79.1
    refine own_st (T' := T79) (g' := (mkF m 28 #[.val (.int i), .val (.int xa), .val (.int xb), .val (.int xc), .val (.int xd), .val (.int (4 : Int32)), .val (.ref b77), .unset, .unset, .unset] [])) st79 ?_
    refine own_st (T' := T79) (g' := (mkF m 30 #[.val (.int i), .val (.int xa), .val (.int xb), .val (.int xc), .val (.int xd), .val (.int (4 : Int32)), .val (.ref b77), .unset, .unset, .unset] [(.ref b77)])) (fun _ k => XS.aload X79.here hx rfl (hb hby at_28) rfl rfl k) ?_
    refine own_st (T' := T79) (g' := (mkF m 31 #[.val (.int i), .val (.int xa), .val (.int xb), .val (.int xc), .val (.int xd), .val (.int (4 : Int32)), .val (.ref b77), .unset, .unset, .unset] [(.int (2 : Int32)), (.ref b77)])) (fun _ k => XS.iconst X79.here hx rfl (hb hby at_30) k) ?_
    refine own_st (T' := T79) (g' := (mkF m 32 #[.val (.int i), .val (.int xa), .val (.int xb), .val (.int xc), .val (.int xd), .val (.int (4 : Int32)), .val (.ref b77), .unset, .unset, .unset] [(.int xc), (.int (2 : Int32)), (.ref b77)])) (fun _ k => XS.iloadN X79.here hx rfl (hb hby at_31) rfl k) ?_
    obtain ⟨v80, T80, L80, X80, hQ80, st80⟩ := own_gS X79  hx hZ hown (hw _ (List.mem_of_getElem? (i := 2) rfl)) (hw _ (List.mem_of_getElem? (i := 3) rfl)) (hw _ (List.mem_of_getElem? (i := 4) rfl)) (hw _ (List.mem_of_getElem? (i := 5) rfl)) (by decide) rfl (own_set_in l Z a0 hw T79.heap b77 k77 (4 : Int32) (2 : Int32) xc (((1 : Int32), (.int (xb.toInt8.toInt32))) :: (((0 : Int32), (.int (xa.toInt8.toInt32))) :: [])) h0.size g_b77 V_b77 (by decide) (by decide)) (by decide) (by decide) (by decide) (by decide) (Q := (fun v h L => v = none ∧ Fr h0.size L ∧ Keep T79.heap h [b77] ∧ Arh Z h b77 k77 .byte (4 : Int32) (((2 : Int32), (.int (xc.toInt8.toInt32))) :: (((1 : Int32), (.int (xb.toInt8.toInt32))) :: (((0 : Int32), (.int (xa.toInt8.toInt32))) :: []))) [] (.int (0 : Int32)))) (W := 0) (g := (mkF m 32 #[.val (.int i), .val (.int xa), .val (.int xb), .val (.int xc), .val (.int xd), .val (.int (4 : Int32)), .val (.ref b77), .unset, .unset, .unset] [(.int xc), (.int (2 : Int32)), (.ref b77)])) (argsL := [(.ref b77), (.int (2 : Int32)), (.int xc)]) (rest := []) rfl (by rw [hml]; rfl) (lenOf own_pd_2 rfl) rfl (by show 2 * 0 + _ ≤ _; exact Nat.le_of_eq rfl) (hb hby at_32)
    obtain ⟨rfl, NL80, K80, VV80⟩ := hQ80
    have E_b77 := E_b77.keep K80
    have V_b77 := VV80
    have E0 := own_ext_keep E0 K80 (allS g_b77 all0)
    have Nf := Fr.app Nf NL80
    have hk := Nat.le_trans hk K80.1
    refine own_st (T' := T80) (g' := (mkF m 35 #[.val (.int i), .val (.int xa), .val (.int xb), .val (.int xc), .val (.int xd), .val (.int (4 : Int32)), .val (.ref b77), .unset, .unset, .unset] [])) st80 ?_
    refine own_st (T' := T80) (g' := (mkF m 37 #[.val (.int i), .val (.int xa), .val (.int xb), .val (.int xc), .val (.int xd), .val (.int (4 : Int32)), .val (.ref b77), .unset, .unset, .unset] [(.ref b77)])) (fun _ k => XS.aload X80.here hx rfl (hb hby at_35) rfl rfl k) ?_
    refine own_st (T' := T80) (g' := (mkF m 38 #[.val (.int i), .val (.int xa), .val (.int xb), .val (.int xc), .val (.int xd), .val (.int (4 : Int32)), .val (.ref b77), .unset, .unset, .unset] [(.int (3 : Int32)), (.ref b77)])) (fun _ k => XS.iconst X80.here hx rfl (hb hby at_37) k) ?_
    refine own_st (T' := T80) (g' := (mkF m 40 #[.val (.int i), .val (.int xa), .val (.int xb), .val (.int xc), .val (.int xd), .val (.int (4 : Int32)), .val (.ref b77), .unset, .unset, .unset] [(.int xd), (.int (3 : Int32)), (.ref b77)])) (fun _ k => XS.iload X80.here hx rfl (hb hby at_38) rfl k) ?_
    obtain ⟨v81, T81, L81, X81, hQ81, st81⟩ := own_gS X80  hx hZ hown (hw _ (List.mem_of_getElem? (i := 2) rfl)) (hw _ (List.mem_of_getElem? (i := 3) rfl)) (hw _ (List.mem_of_getElem? (i := 4) rfl)) (hw _ (List.mem_of_getElem? (i := 5) rfl)) (by decide) rfl (own_set_in l Z a0 hw T80.heap b77 k77 (4 : Int32) (3 : Int32) xd (((2 : Int32), (.int (xc.toInt8.toInt32))) :: (((1 : Int32), (.int (xb.toInt8.toInt32))) :: (((0 : Int32), (.int (xa.toInt8.toInt32))) :: []))) h0.size g_b77 V_b77 (by decide) (by decide)) (by decide) (by decide) (by decide) (by decide) (Q := (fun v h L => v = none ∧ Fr h0.size L ∧ Keep T80.heap h [b77] ∧ Arh Z h b77 k77 .byte (4 : Int32) (((3 : Int32), (.int (xd.toInt8.toInt32))) :: (((2 : Int32), (.int (xc.toInt8.toInt32))) :: (((1 : Int32), (.int (xb.toInt8.toInt32))) :: (((0 : Int32), (.int (xa.toInt8.toInt32))) :: [])))) [] (.int (0 : Int32)))) (W := 0) (g := (mkF m 40 #[.val (.int i), .val (.int xa), .val (.int xb), .val (.int xc), .val (.int xd), .val (.int (4 : Int32)), .val (.ref b77), .unset, .unset, .unset] [(.int xd), (.int (3 : Int32)), (.ref b77)])) (argsL := [(.ref b77), (.int (3 : Int32)), (.int xd)]) (rest := []) rfl (by rw [hml]; rfl) (lenOf own_pd_2 rfl) rfl (by show 2 * 0 + _ ≤ _; exact Nat.le_of_eq rfl) (hb hby at_40)
    obtain ⟨rfl, NL81, K81, VV81⟩ := hQ81
    have E_b77 := E_b77.keep K81
    have V_b77 := VV81
    have E0 := own_ext_keep E0 K81 (allS g_b77 all0)
    have Nf := Fr.app Nf NL81
    have hk := Nat.le_trans hk K81.1
    refine own_st (T' := T81) (g' := (mkF m 43 #[.val (.int i), .val (.int xa), .val (.int xb), .val (.int xc), .val (.int xd), .val (.int (4 : Int32)), .val (.ref b77), .unset, .unset, .unset] [])) st81 ?_
    refine own_st (T' := T81) (g' := (mkF m 45 #[.val (.int i), .val (.int xa), .val (.int xb), .val (.int xc), .val (.int xd), .val (.int (4 : Int32)), .val (.ref b77), .unset, .unset, .unset] [(.ref b77)])) (fun _ k => XS.aload X81.here hx rfl (hb hby at_43) rfl rfl k) ?_
    obtain ⟨v82, T82, L82, k82, X82, hQ82, hS, hk, hZ, hown, st82⟩ := own_gSW X81 hS hk hx hZ hown (hw _ (List.mem_of_getElem? (i := 6) rfl)) (hw _ (List.mem_of_getElem? (i := 7) rfl)) (hw _ (List.mem_of_getElem? (i := 8) rfl)) (hw _ (List.mem_of_getElem? (i := 9) rfl)) (by decide) rfl (own_succ l Z a0 hw T81.heap b77 k77 (4 : Int32) (((3 : Int32), (.int (xd.toInt8.toInt32))) :: (((2 : Int32), (.int (xc.toInt8.toInt32))) :: (((1 : Int32), (.int (xb.toInt8.toInt32))) :: (((0 : Int32), (.int (xa.toInt8.toInt32))) :: [])))) (by decide) V_b77 E_b77) (by decide) (by decide) (by decide) (by decide) (Q := (fun v h L => ∃ o d, v = some (.ref o) ∧ T81.heap.size ≤ o ∧ T81.heap.size ≤ d ∧ Fr T81.heap.size L ∧ Ext T81.heap h ∧ Exa Z h o "com/example/earnest_key/earnestkey/Outcome" ∧ Fld Z h o "com/example/earnest_key/earnestkey/Outcome" "bytes" "[B" (.ref d) ∧ Fld Z h o "com/example/earnest_key/earnestkey/Outcome" "failure" "Z" (.int (1 : Int32)) ∧ Arh Z h d k77 .byte (4 : Int32) (((3 : Int32), (.int (xd.toInt8.toInt32))) :: (((2 : Int32), (.int (xc.toInt8.toInt32))) :: (((1 : Int32), (.int (xb.toInt8.toInt32))) :: (((0 : Int32), (.int (xa.toInt8.toInt32))) :: [])))) [] (.int (0 : Int32)) ∧ Exa Z h d "[B" ∧ o ≠ d)) (W := 0) (g := (mkF m 45 #[.val (.int i), .val (.int xa), .val (.int xb), .val (.int xc), .val (.int xd), .val (.int (4 : Int32)), .val (.ref b77), .unset, .unset, .unset] [(.ref b77)])) (argsL := [(.ref b77)]) (rest := []) rfl (by rw [hml]; rfl) (lenOf own_pd_3 rfl) rfl (by show 2 * 0 + _ ≤ _; exact Nat.le_of_eq rfl) (hb hby at_45)
    obtain ⟨b82, d82, rfl, gq82, gd82, NL82, EX82, EE82, FB82, FF82, VV82, ED82, nod82⟩ := hQ82
    have ne_b77_b82 : b77 ≠ b82 := Nat.ne_of_lt (Nat.lt_of_lt_of_le V_b77.lt gq82)
    have g_b82 : h0.size ≤ b82 := Nat.le_trans E0.1 gq82
    have ne_b77_d82 : b77 ≠ d82 := Nat.ne_of_lt (Nat.lt_of_lt_of_le V_b77.lt gd82)
    have g_d82 : h0.size ≤ d82 := Nat.le_trans E0.1 gd82
    have Nf := Fr.app Nf (own_fr_mono E0.1 NL82)
    have V_b77 := V_b77.ext EX82
    have E_b77 := E_b77.ext EX82
    have E0 := own_ext_tr E0 EX82
    have E_b82 := EE82
    have F_bytes_b82 := FB82
    have F_failure_b82 := FF82
    have V_d82 := VV82
    have E_d82 := ED82
    refine own_st (T' := T82) (g' := (mkF m 48 #[.val (.int i), .val (.int xa), .val (.int xb), .val (.int xc), .val (.int xd), .val (.int (4 : Int32)), .val (.ref b77), .unset, .unset, .unset] [(.ref b82)])) st82 ?_
    refine own_st (T' := T82) (g' := (mkF m 50 #[.val (.int i), .val (.int xa), .val (.int xb), .val (.int xc), .val (.int xd), .val (.int (4 : Int32)), .val (.ref b77), .val (.ref b82), .unset, .unset] [])) (fun _ k => XS.astore X82.here hx rfl (hb hby at_48) rfl rfl (l' := #[.val (.int i), .val (.int xa), .val (.int xb), .val (.int xc), .val (.int xd), .val (.int (4 : Int32)), .val (.ref b77), .val (.ref b82), .unset, .unset]) rfl k) ?_
    refine own_st (T' := T82) (g' := (mkF m 52 #[.val (.int i), .val (.int xa), .val (.int xb), .val (.int xc), .val (.int xd), .val (.int (4 : Int32)), .val (.ref b77), .val (.ref b82), .unset, .unset] [(.ref b77)])) (fun _ k => XS.aload X82.here hx rfl (hb hby at_50) rfl rfl k) ?_
    refine own_st (T' := T82) (g' := (mkF m 53 #[.val (.int i), .val (.int xa), .val (.int xb), .val (.int xc), .val (.int xd), .val (.int (4 : Int32)), .val (.ref b77), .val (.ref b82), .unset, .unset] [(.int (0 : Int32)), (.ref b77)])) (fun _ k => XS.iconst X82.here hx rfl (hb hby at_52) k) ?_
    obtain ⟨v83, T83, L83, X83, hQ83, st83⟩ := own_gS X82  hx hZ hown (hw _ (List.mem_of_getElem? (i := 42) rfl)) (hw _ (List.mem_of_getElem? (i := 43) rfl)) (hw _ (List.mem_of_getElem? (i := 4) rfl)) (hw _ (List.mem_of_getElem? (i := 44) rfl)) (by decide) rfl (own_bump_in l Z a0 hw T82.heap b77 k77 (4 : Int32) (0 : Int32) (0 : Int32) (((3 : Int32), (.int (xd.toInt8.toInt32))) :: (((2 : Int32), (.int (xc.toInt8.toInt32))) :: (((1 : Int32), (.int (xb.toInt8.toInt32))) :: (((0 : Int32), (.int (xa.toInt8.toInt32))) :: [])))) h0.size g_b77 V_b77 (by decide) (by decide)) (by decide) (by decide) (by decide) (by decide) (Q := (fun v h L => v = none ∧ Fr h0.size L ∧ Keep T82.heap h [b77] ∧ ∃ hs', Arh Z h b77 k77 .byte (4 : Int32) hs' [] (.int (0 : Int32)))) (W := 0) (g := (mkF m 53 #[.val (.int i), .val (.int xa), .val (.int xb), .val (.int xc), .val (.int xd), .val (.int (4 : Int32)), .val (.ref b77), .val (.ref b82), .unset, .unset] [(.int (0 : Int32)), (.ref b77)])) (argsL := [(.ref b77), (.int (0 : Int32))]) (rest := []) rfl (by rw [hml]; rfl) (lenOf own_pd_4 rfl) rfl (by show 2 * 0 + _ ≤ _; exact Nat.le_of_eq rfl) (hb hby at_53)
    obtain ⟨rfl, NL83, K83, hs83, VV83⟩ := hQ83
    have E_b77 := E_b77.keep K83
    have E_b82 := E_b82.keep K83
    have F_bytes_b82 := F_bytes_b82.keep K83 (ninS (Ne.symm ne_b77_b82) nin0)
    have F_failure_b82 := F_failure_b82.keep K83 (ninS (Ne.symm ne_b77_b82) nin0)
    have V_d82 := V_d82.keep K83 (ninS (Ne.symm ne_b77_d82) nin0)
    have E_d82 := E_d82.keep K83
    have V_b77 := VV83
    have E0 := own_ext_keep E0 K83 (allS g_b77 all0)
    have Nf := Fr.app Nf NL83
    have hk := Nat.le_trans hk K83.1
    refine own_st (T' := T83) (g' := (mkF m 56 #[.val (.int i), .val (.int xa), .val (.int xb), .val (.int xc), .val (.int xd), .val (.int (4 : Int32)), .val (.ref b77), .val (.ref b82), .unset, .unset] [])) st83 ?_
    refine own_st (T' := T83) (g' := (mkF m 58 #[.val (.int i), .val (.int xa), .val (.int xb), .val (.int xc), .val (.int xd), .val (.int (4 : Int32)), .val (.ref b77), .val (.ref b82), .unset, .unset] [(.ref b77)])) (fun _ k => XS.aload X83.here hx rfl (hb hby at_56) rfl rfl k) ?_
    refine own_st (T' := T83) (g' := (mkF m 59 #[.val (.int i), .val (.int xa), .val (.int xb), .val (.int xc), .val (.int xd), .val (.int (4 : Int32)), .val (.ref b77), .val (.ref b82), .unset, .unset] [(.int (1 : Int32)), (.ref b77)])) (fun _ k => XS.iconst X83.here hx rfl (hb hby at_58) k) ?_
    obtain ⟨v84, T84, L84, X84, hQ84, st84⟩ := own_gS X83  hx hZ hown (hw _ (List.mem_of_getElem? (i := 42) rfl)) (hw _ (List.mem_of_getElem? (i := 43) rfl)) (hw _ (List.mem_of_getElem? (i := 4) rfl)) (hw _ (List.mem_of_getElem? (i := 44) rfl)) (by decide) rfl (own_bump_in l Z a0 hw T83.heap b77 k77 (4 : Int32) (1 : Int32) (0 : Int32) hs83 h0.size g_b77 V_b77 (by decide) (by decide)) (by decide) (by decide) (by decide) (by decide) (Q := (fun v h L => v = none ∧ Fr h0.size L ∧ Keep T83.heap h [b77] ∧ ∃ hs', Arh Z h b77 k77 .byte (4 : Int32) hs' [] (.int (0 : Int32)))) (W := 0) (g := (mkF m 59 #[.val (.int i), .val (.int xa), .val (.int xb), .val (.int xc), .val (.int xd), .val (.int (4 : Int32)), .val (.ref b77), .val (.ref b82), .unset, .unset] [(.int (1 : Int32)), (.ref b77)])) (argsL := [(.ref b77), (.int (1 : Int32))]) (rest := []) rfl (by rw [hml]; rfl) (lenOf own_pd_4 rfl) rfl (by show 2 * 0 + _ ≤ _; exact Nat.le_of_eq rfl) (hb hby at_59)
    obtain ⟨rfl, NL84, K84, hs84, VV84⟩ := hQ84
    have E_b77 := E_b77.keep K84
    have E_b82 := E_b82.keep K84
    have F_bytes_b82 := F_bytes_b82.keep K84 (ninS (Ne.symm ne_b77_b82) nin0)
    have F_failure_b82 := F_failure_b82.keep K84 (ninS (Ne.symm ne_b77_b82) nin0)
    have V_d82 := V_d82.keep K84 (ninS (Ne.symm ne_b77_d82) nin0)
    have E_d82 := E_d82.keep K84
    have V_b77 := VV84
    have E0 := own_ext_keep E0 K84 (allS g_b77 all0)
    have Nf := Fr.app Nf NL84
    have hk := Nat.le_trans hk K84.1
    refine own_st (T' := T84) (g' := (mkF m 62 #[.val (.int i), .val (.int xa), .val (.int xb), .val (.int xc), .val (.int xd), .val (.int (4 : Int32)), .val (.ref b77), .val (.ref b82), .unset, .unset] [])) st84 ?_
    refine own_st (T' := T84) (g' := (mkF m 64 #[.val (.int i), .val (.int xa), .val (.int xb), .val (.int xc), .val (.int xd), .val (.int (4 : Int32)), .val (.ref b77), .val (.ref b82), .unset, .unset] [(.ref b77)])) (fun _ k => XS.aload X84.here hx rfl (hb hby at_62) rfl rfl k) ?_
    refine own_st (T' := T84) (g' := (mkF m 65 #[.val (.int i), .val (.int xa), .val (.int xb), .val (.int xc), .val (.int xd), .val (.int (4 : Int32)), .val (.ref b77), .val (.ref b82), .unset, .unset] [(.int (2 : Int32)), (.ref b77)])) (fun _ k => XS.iconst X84.here hx rfl (hb hby at_64) k) ?_
    obtain ⟨v85, T85, L85, X85, hQ85, st85⟩ := own_gS X84  hx hZ hown (hw _ (List.mem_of_getElem? (i := 42) rfl)) (hw _ (List.mem_of_getElem? (i := 43) rfl)) (hw _ (List.mem_of_getElem? (i := 4) rfl)) (hw _ (List.mem_of_getElem? (i := 44) rfl)) (by decide) rfl (own_bump_in l Z a0 hw T84.heap b77 k77 (4 : Int32) (2 : Int32) (0 : Int32) hs84 h0.size g_b77 V_b77 (by decide) (by decide)) (by decide) (by decide) (by decide) (by decide) (Q := (fun v h L => v = none ∧ Fr h0.size L ∧ Keep T84.heap h [b77] ∧ ∃ hs', Arh Z h b77 k77 .byte (4 : Int32) hs' [] (.int (0 : Int32)))) (W := 0) (g := (mkF m 65 #[.val (.int i), .val (.int xa), .val (.int xb), .val (.int xc), .val (.int xd), .val (.int (4 : Int32)), .val (.ref b77), .val (.ref b82), .unset, .unset] [(.int (2 : Int32)), (.ref b77)])) (argsL := [(.ref b77), (.int (2 : Int32))]) (rest := []) rfl (by rw [hml]; rfl) (lenOf own_pd_4 rfl) rfl (by show 2 * 0 + _ ≤ _; exact Nat.le_of_eq rfl) (hb hby at_65)
    obtain ⟨rfl, NL85, K85, hs85, VV85⟩ := hQ85
    have E_b77 := E_b77.keep K85
    have E_b82 := E_b82.keep K85
    have F_bytes_b82 := F_bytes_b82.keep K85 (ninS (Ne.symm ne_b77_b82) nin0)
    have F_failure_b82 := F_failure_b82.keep K85 (ninS (Ne.symm ne_b77_b82) nin0)
    have V_d82 := V_d82.keep K85 (ninS (Ne.symm ne_b77_d82) nin0)
    have E_d82 := E_d82.keep K85
    have V_b77 := VV85
    have E0 := own_ext_keep E0 K85 (allS g_b77 all0)
    have Nf := Fr.app Nf NL85
    have hk := Nat.le_trans hk K85.1
    refine own_st (T' := T85) (g' := (mkF m 68 #[.val (.int i), .val (.int xa), .val (.int xb), .val (.int xc), .val (.int xd), .val (.int (4 : Int32)), .val (.ref b77), .val (.ref b82), .unset, .unset] [])) st85 ?_
    refine own_st (T' := T85) (g' := (mkF m 70 #[.val (.int i), .val (.int xa), .val (.int xb), .val (.int xc), .val (.int xd), .val (.int (4 : Int32)), .val (.ref b77), .val (.ref b82), .unset, .unset] [(.ref b77)])) (fun _ k => XS.aload X85.here hx rfl (hb hby at_68) rfl rfl k) ?_
    refine own_st (T' := T85) (g' := (mkF m 71 #[.val (.int i), .val (.int xa), .val (.int xb), .val (.int xc), .val (.int xd), .val (.int (4 : Int32)), .val (.ref b77), .val (.ref b82), .unset, .unset] [(.int (3 : Int32)), (.ref b77)])) (fun _ k => XS.iconst X85.here hx rfl (hb hby at_70) k) ?_
    obtain ⟨v86, T86, L86, X86, hQ86, st86⟩ := own_gS X85  hx hZ hown (hw _ (List.mem_of_getElem? (i := 42) rfl)) (hw _ (List.mem_of_getElem? (i := 43) rfl)) (hw _ (List.mem_of_getElem? (i := 4) rfl)) (hw _ (List.mem_of_getElem? (i := 44) rfl)) (by decide) rfl (own_bump_in l Z a0 hw T85.heap b77 k77 (4 : Int32) (3 : Int32) (0 : Int32) hs85 h0.size g_b77 V_b77 (by decide) (by decide)) (by decide) (by decide) (by decide) (by decide) (Q := (fun v h L => v = none ∧ Fr h0.size L ∧ Keep T85.heap h [b77] ∧ ∃ hs', Arh Z h b77 k77 .byte (4 : Int32) hs' [] (.int (0 : Int32)))) (W := 0) (g := (mkF m 71 #[.val (.int i), .val (.int xa), .val (.int xb), .val (.int xc), .val (.int xd), .val (.int (4 : Int32)), .val (.ref b77), .val (.ref b82), .unset, .unset] [(.int (3 : Int32)), (.ref b77)])) (argsL := [(.ref b77), (.int (3 : Int32))]) (rest := []) rfl (by rw [hml]; rfl) (lenOf own_pd_4 rfl) rfl (by show 2 * 0 + _ ≤ _; exact Nat.le_of_eq rfl) (hb hby at_71)
    obtain ⟨rfl, NL86, K86, hs86, VV86⟩ := hQ86
    have E_b77 := E_b77.keep K86
    have E_b82 := E_b82.keep K86
    have F_bytes_b82 := F_bytes_b82.keep K86 (ninS (Ne.symm ne_b77_b82) nin0)
    have F_failure_b82 := F_failure_b82.keep K86 (ninS (Ne.symm ne_b77_b82) nin0)
    have V_d82 := V_d82.keep K86 (ninS (Ne.symm ne_b77_d82) nin0)
    have E_d82 := E_d82.keep K86
    have V_b77 := VV86
    have E0 := own_ext_keep E0 K86 (allS g_b77 all0)
    have Nf := Fr.app Nf NL86
    have hk := Nat.le_trans hk K86.1
    refine own_st (T' := T86) (g' := (mkF m 74 #[.val (.int i), .val (.int xa), .val (.int xb), .val (.int xc), .val (.int xd), .val (.int (4 : Int32)), .val (.ref b77), .val (.ref b82), .unset, .unset] [])) st86 ?_
    refine own_st (T' := T86) (g' := (mkF m 76 #[.val (.int i), .val (.int xa), .val (.int xb), .val (.int xc), .val (.int xd), .val (.int (4 : Int32)), .val (.ref b77), .val (.ref b82), .unset, .unset] [(.ref b82)])) (fun _ k => XS.aload X86.here hx rfl (hb hby at_74) rfl rfl k) ?_
    obtain ⟨v87, T87, L87, X87, hQ87, st87⟩ := own_gV X86 hx hZ hown (hw _ (List.mem_of_getElem? (i := 45) rfl)) (hw _ (List.mem_of_getElem? (i := 46) rfl)) (notFace_of_selects (args := #[]) (mvT hZ (hw _ (List.mem_of_getElem? (i := 48) rfl)))) (hw _ (List.mem_of_getElem? (i := 48) rfl)) (hw _ (List.mem_of_getElem? (i := 47) rfl)) (hw _ (List.mem_of_getElem? (i := 8) rfl)) (hw _ (List.mem_of_getElem? (i := 49) rfl)) (by decide) rfl E_b82 (own_byt l Z a0 hw T86.heap b82 d82 k77 (4 : Int32) (((3 : Int32), (.int (xd.toInt8.toInt32))) :: (((2 : Int32), (.int (xc.toInt8.toInt32))) :: (((1 : Int32), (.int (xb.toInt8.toInt32))) :: (((0 : Int32), (.int (xa.toInt8.toInt32))) :: [])))) (by decide) F_bytes_b82 V_d82 E_d82) (by decide) (by decide) (by decide) (by decide) (Q := (fun v h L => ∃ b, v = some (.ref b) ∧ T86.heap.size ≤ b ∧ Fr T86.heap.size L ∧ Ext T86.heap h ∧ Arh Z h b k77 .byte (4 : Int32) (((3 : Int32), (.int (xd.toInt8.toInt32))) :: (((2 : Int32), (.int (xc.toInt8.toInt32))) :: (((1 : Int32), (.int (xb.toInt8.toInt32))) :: (((0 : Int32), (.int (xa.toInt8.toInt32))) :: [])))) [] (.int (0 : Int32)) ∧ Exa Z h b "[B")) (W := 0) (g := (mkF m 76 #[.val (.int i), .val (.int xa), .val (.int xb), .val (.int xc), .val (.int xd), .val (.int (4 : Int32)), .val (.ref b77), .val (.ref b82), .unset, .unset] [(.ref b82)])) (argsL := []) (rest := []) rfl (by rw [hml]; rfl) (lenOf own_pd_5 rfl) rfl (by show 2 * 0 + _ ≤ _; exact Nat.le_of_eq rfl) (hb hby at_76)
    obtain ⟨b87, rfl, gq87, NL87, EX87, VV87, EE87⟩ := hQ87
    have ne_b77_b87 : b77 ≠ b87 := Nat.ne_of_lt (Nat.lt_of_lt_of_le V_b77.lt gq87)
    have ne_b82_b87 : b82 ≠ b87 := Nat.ne_of_lt (Nat.lt_of_lt_of_le E_b82.lt gq87)
    have ne_d82_b87 : d82 ≠ b87 := Nat.ne_of_lt (Nat.lt_of_lt_of_le V_d82.lt gq87)
    have g_b87 : h0.size ≤ b87 := Nat.le_trans E0.1 gq87
    have Nf := Fr.app Nf (own_fr_mono E0.1 NL87)
    have V_b77 := V_b77.ext EX87
    have E_b77 := E_b77.ext EX87
    have E_b82 := E_b82.ext EX87
    have F_bytes_b82 := F_bytes_b82.ext EX87
    have F_failure_b82 := F_failure_b82.ext EX87
    have V_d82 := V_d82.ext EX87
    have E_d82 := E_d82.ext EX87
    have E0 := own_ext_tr E0 EX87
    have hk := Nat.le_trans hk EX87.1
    have V_b87 := VV87
    have E_b87 := EE87
    refine own_st (T' := T87) (g' := (mkF m 79 #[.val (.int i), .val (.int xa), .val (.int xb), .val (.int xc), .val (.int xd), .val (.int (4 : Int32)), .val (.ref b77), .val (.ref b82), .unset, .unset] [(.ref b87)])) st87 ?_
    refine own_st (T' := T87) (g' := (mkF m 81 #[.val (.int i), .val (.int xa), .val (.int xb), .val (.int xc), .val (.int xd), .val (.int (4 : Int32)), .val (.ref b77), .val (.ref b82), .val (.ref b87), .unset] [])) (fun _ k => XS.astore X87.here hx rfl (hb hby at_79) rfl rfl (l' := #[.val (.int i), .val (.int xa), .val (.int xb), .val (.int xc), .val (.int xd), .val (.int (4 : Int32)), .val (.ref b77), .val (.ref b82), .val (.ref b87), .unset]) rfl k) ?_
    refine own_st (T' := T87) (g' := (mkF m 83 #[.val (.int i), .val (.int xa), .val (.int xb), .val (.int xc), .val (.int xd), .val (.int (4 : Int32)), .val (.ref b77), .val (.ref b82), .val (.ref b87), .unset] [(.ref b87)])) (fun _ k => XS.aload X87.here hx rfl (hb hby at_81) rfl rfl k) ?_
    refine own_st (T' := T87) (g' := (mkF m 85 #[.val (.int i), .val (.int xa), .val (.int xb), .val (.int xc), .val (.int xd), .val (.int (4 : Int32)), .val (.ref b77), .val (.ref b82), .val (.ref b87), .unset] [(.ref b77), (.ref b87)])) (fun _ k => XS.aload X87.here hx rfl (hb hby at_83) rfl rfl k) ?_
    refine own_st (T' := T87) (g' := (mkF m 90 #[.val (.int i), .val (.int xa), .val (.int xb), .val (.int xc), .val (.int xd), .val (.int (4 : Int32)), .val (.ref b77), .val (.ref b82), .val (.ref b87), .unset] [])) (fun _ k => Jvm.RoadKit.acmp (g := (mkF m 85 #[.val (.int i), .val (.int xa), .val (.int xb), .val (.int xc), .val (.int xd), .val (.int (4 : Int32)), .val (.ref b77), .val (.ref b82), .val (.ref b87), .unset] [(.ref b77), (.ref b87)])) X87 hx rfl rfl rfl (pc0 := 85) (pc' := 90) (same := false) rfl (hb hby at_85) rfl (decide_eq_false fun q => (Ne.symm ne_b77_b87) (Value.ref.inj q)) (by decide) (by decide) k) ?_
    refine own_st (T' := T87) (g' := (mkF m 92 #[.val (.int i), .val (.int xa), .val (.int xb), .val (.int xc), .val (.int xd), .val (.int (4 : Int32)), .val (.ref b77), .val (.ref b82), .val (.ref b87), .unset] [(.ref b87)])) (fun _ k => XS.aload X87.here hx rfl (hb hby at_90) rfl rfl k) ?_
    have V88 := V_b87
    obtain ⟨cl88, Ar88, qk88, Sz88, Nn88, Hh88, Gg88⟩ := V88
    refine own_st (T' := T87) (g' := (mkF m 93 #[.val (.int i), .val (.int xa), .val (.int xb), .val (.int xc), .val (.int xd), .val (.int (4 : Int32)), .val (.ref b77), .val (.ref b82), .val (.ref b87), .unset] [(.int cl88.slots.size.toInt32)])) (fun _ k => X87.arraylength hx (own_he rfl Ar88.1) (State.isArrayOf_alike hZ.alike Ar88.2.1) (g := (mkF m 92 #[.val (.int i), .val (.int xa), .val (.int xb), .val (.int xc), .val (.int xd), .val (.int (4 : Int32)), .val (.ref b77), .val (.ref b82), .val (.ref b87), .unset] [(.ref b87)])) rfl rfl (hb hby at_92) _ k) ?_
    rw [len_of Sz88 Nn88]
    refine own_st (T' := T87) (g' := (mkF m 95 #[.val (.int i), .val (.int xa), .val (.int xb), .val (.int xc), .val (.int xd), .val (.int (4 : Int32)), .val (.ref b77), .val (.ref b82), .val (.ref b87), .unset] [(.int (4 : Int32)), (.int (4 : Int32))])) (fun _ k => XS.iload X87.here hx rfl (hb hby at_93) rfl k) ?_
    refine own_st (T' := T87) (g' := (mkF m 98 #[.val (.int i), .val (.int xa), .val (.int xb), .val (.int xc), .val (.int xd), .val (.int (4 : Int32)), .val (.ref b77), .val (.ref b82), .val (.ref b87), .unset] [])) (fun _ k => XS.icmpNo X87.here hx rfl (hb hby at_95) rfl (by decide) k) ?_
    refine own_st (T' := T87) (g' := (mkF m 100 #[.val (.int i), .val (.int xa), .val (.int xb), .val (.int xc), .val (.int xd), .val (.int (4 : Int32)), .val (.ref b77), .val (.ref b82), .val (.ref b87), .unset] [(.ref b87)])) (fun _ k => XS.aload X87.here hx rfl (hb hby at_98) rfl rfl k) ?_
    refine own_st (T' := T87) (g' := (mkF m 101 #[.val (.int i), .val (.int xa), .val (.int xb), .val (.int xc), .val (.int xd), .val (.int (4 : Int32)), .val (.ref b77), .val (.ref b82), .val (.ref b87), .unset] [(.int (0 : Int32)), (.ref b87)])) (fun _ k => XS.iconst X87.here hx rfl (hb hby at_100) k) ?_
    refine own_st (T' := T87) (g' := (mkF m 102 #[.val (.int i), .val (.int xa), .val (.int xb), .val (.int xc), .val (.int xd), .val (.int (4 : Int32)), .val (.ref b77), .val (.ref b82), .val (.ref b87), .unset] [(.int xa), (.int (0 : Int32)), (.ref b87)])) (fun _ k => XS.iloadN X87.here hx rfl (hb hby at_101) rfl k) ?_
    obtain ⟨T89, X89, e89, st89⟩ := own_pure (w := (.int (1 : Int32))) rfl rfl (own_gS X87 hx hZ hown (hw _ (List.mem_of_getElem? (i := 50) rfl)) (hw _ (List.mem_of_getElem? (i := 51) rfl)) (hw _ (List.mem_of_getElem? (i := 4) rfl)) (hw _ (List.mem_of_getElem? (i := 52) rfl)) (by decide) rfl (own_at_in l Z a0 hw T87.heap b87 k77 (4 : Int32) (0 : Int32) xa (((3 : Int32), (.int (xd.toInt8.toInt32))) :: (((2 : Int32), (.int (xc.toInt8.toInt32))) :: (((1 : Int32), (.int (xb.toInt8.toInt32))) :: (((0 : Int32), (.int (xa.toInt8.toInt32))) :: [])))) h0.size g_b87 V_b87 (by decide) (by decide) rfl) (by decide) (by decide) (by decide) (by decide) (Q := fun v h L => v = some (.int (1 : Int32)) ∧ L = [] ∧ h = T87.heap) (W := 0) (g := (mkF m 102 #[.val (.int i), .val (.int xa), .val (.int xb), .val (.int xc), .val (.int xd), .val (.int (4 : Int32)), .val (.ref b77), .val (.ref b82), .val (.ref b87), .unset] [(.int xa), (.int (0 : Int32)), (.ref b87)])) (argsL := [(.ref b87), (.int (0 : Int32)), (.int xa)]) (rest := []) rfl (by rw [hml]; rfl) (lenOf own_pd_6 rfl) rfl (by show 2 * 0 + _ ≤ _; exact Nat.le_of_eq rfl) (hb hby at_102))
    refine own_st (T' := T89) (g' := (mkF m 105 #[.val (.int i), .val (.int xa), .val (.int xb), .val (.int xc), .val (.int xd), .val (.int (4 : Int32)), .val (.ref b77), .val (.ref b82), .val (.ref b87), .unset] [(.int (1 : Int32))])) st89 ?_
    refine own_st (T' := T89) (g' := (mkF m 108 #[.val (.int i), .val (.int xa), .val (.int xb), .val (.int xc), .val (.int xd), .val (.int (4 : Int32)), .val (.ref b77), .val (.ref b82), .val (.ref b87), .unset] [])) (fun _ k => XS.ifNo X89.here hx rfl (hb hby at_105) rfl (by decide) k) ?_
    refine own_st (T' := T89) (g' := (mkF m 110 #[.val (.int i), .val (.int xa), .val (.int xb), .val (.int xc), .val (.int xd), .val (.int (4 : Int32)), .val (.ref b77), .val (.ref b82), .val (.ref b87), .unset] [(.ref b87)])) (fun _ k => XS.aload X89.here hx rfl (hb hby at_108) rfl rfl k) ?_
    refine own_st (T' := T89) (g' := (mkF m 111 #[.val (.int i), .val (.int xa), .val (.int xb), .val (.int xc), .val (.int xd), .val (.int (4 : Int32)), .val (.ref b77), .val (.ref b82), .val (.ref b87), .unset] [(.int (1 : Int32)), (.ref b87)])) (fun _ k => XS.iconst X89.here hx rfl (hb hby at_110) k) ?_
    refine own_st (T' := T89) (g' := (mkF m 112 #[.val (.int i), .val (.int xa), .val (.int xb), .val (.int xc), .val (.int xd), .val (.int (4 : Int32)), .val (.ref b77), .val (.ref b82), .val (.ref b87), .unset] [(.int xb), (.int (1 : Int32)), (.ref b87)])) (fun _ k => XS.iloadN X89.here hx rfl (hb hby at_111) rfl k) ?_
    obtain ⟨T90, X90, e90, st90⟩ := own_pure (w := (.int (1 : Int32))) rfl rfl (own_gS X89 hx hZ hown (hw _ (List.mem_of_getElem? (i := 50) rfl)) (hw _ (List.mem_of_getElem? (i := 51) rfl)) (hw _ (List.mem_of_getElem? (i := 4) rfl)) (hw _ (List.mem_of_getElem? (i := 52) rfl)) (by decide) e89 (own_at_in l Z a0 hw T87.heap b87 k77 (4 : Int32) (1 : Int32) xb (((3 : Int32), (.int (xd.toInt8.toInt32))) :: (((2 : Int32), (.int (xc.toInt8.toInt32))) :: (((1 : Int32), (.int (xb.toInt8.toInt32))) :: (((0 : Int32), (.int (xa.toInt8.toInt32))) :: [])))) h0.size g_b87 V_b87 (by decide) (by decide) rfl) (by decide) (by decide) (by decide) (by decide) (Q := fun v h L => v = some (.int (1 : Int32)) ∧ L = [] ∧ h = T87.heap) (W := 0) (g := (mkF m 112 #[.val (.int i), .val (.int xa), .val (.int xb), .val (.int xc), .val (.int xd), .val (.int (4 : Int32)), .val (.ref b77), .val (.ref b82), .val (.ref b87), .unset] [(.int xb), (.int (1 : Int32)), (.ref b87)])) (argsL := [(.ref b87), (.int (1 : Int32)), (.int xb)]) (rest := []) rfl (by rw [hml]; rfl) (lenOf own_pd_6 rfl) rfl (by show 2 * 0 + _ ≤ _; exact Nat.le_of_eq rfl) (hb hby at_112))
    refine own_st (T' := T90) (g' := (mkF m 115 #[.val (.int i), .val (.int xa), .val (.int xb), .val (.int xc), .val (.int xd), .val (.int (4 : Int32)), .val (.ref b77), .val (.ref b82), .val (.ref b87), .unset] [(.int (1 : Int32))])) st90 ?_
    refine own_st (T' := T90) (g' := (mkF m 118 #[.val (.int i), .val (.int xa), .val (.int xb), .val (.int xc), .val (.int xd), .val (.int (4 : Int32)), .val (.ref b77), .val (.ref b82), .val (.ref b87), .unset] [])) (fun _ k => XS.ifNo X90.here hx rfl (hb hby at_115) rfl (by decide) k) ?_
    refine own_st (T' := T90) (g' := (mkF m 120 #[.val (.int i), .val (.int xa), .val (.int xb), .val (.int xc), .val (.int xd), .val (.int (4 : Int32)), .val (.ref b77), .val (.ref b82), .val (.ref b87), .unset] [(.ref b87)])) (fun _ k => XS.aload X90.here hx rfl (hb hby at_118) rfl rfl k) ?_
    refine own_st (T' := T90) (g' := (mkF m 121 #[.val (.int i), .val (.int xa), .val (.int xb), .val (.int xc), .val (.int xd), .val (.int (4 : Int32)), .val (.ref b77), .val (.ref b82), .val (.ref b87), .unset] [(.int (2 : Int32)), (.ref b87)])) (fun _ k => XS.iconst X90.here hx rfl (hb hby at_120) k) ?_
    refine own_st (T' := T90) (g' := (mkF m 122 #[.val (.int i), .val (.int xa), .val (.int xb), .val (.int xc), .val (.int xd), .val (.int (4 : Int32)), .val (.ref b77), .val (.ref b82), .val (.ref b87), .unset] [(.int xc), (.int (2 : Int32)), (.ref b87)])) (fun _ k => XS.iloadN X90.here hx rfl (hb hby at_121) rfl k) ?_
    obtain ⟨T91, X91, e91, st91⟩ := own_pure (w := (.int (1 : Int32))) rfl rfl (own_gS X90 hx hZ hown (hw _ (List.mem_of_getElem? (i := 50) rfl)) (hw _ (List.mem_of_getElem? (i := 51) rfl)) (hw _ (List.mem_of_getElem? (i := 4) rfl)) (hw _ (List.mem_of_getElem? (i := 52) rfl)) (by decide) e90 (own_at_in l Z a0 hw T87.heap b87 k77 (4 : Int32) (2 : Int32) xc (((3 : Int32), (.int (xd.toInt8.toInt32))) :: (((2 : Int32), (.int (xc.toInt8.toInt32))) :: (((1 : Int32), (.int (xb.toInt8.toInt32))) :: (((0 : Int32), (.int (xa.toInt8.toInt32))) :: [])))) h0.size g_b87 V_b87 (by decide) (by decide) rfl) (by decide) (by decide) (by decide) (by decide) (Q := fun v h L => v = some (.int (1 : Int32)) ∧ L = [] ∧ h = T87.heap) (W := 0) (g := (mkF m 122 #[.val (.int i), .val (.int xa), .val (.int xb), .val (.int xc), .val (.int xd), .val (.int (4 : Int32)), .val (.ref b77), .val (.ref b82), .val (.ref b87), .unset] [(.int xc), (.int (2 : Int32)), (.ref b87)])) (argsL := [(.ref b87), (.int (2 : Int32)), (.int xc)]) (rest := []) rfl (by rw [hml]; rfl) (lenOf own_pd_6 rfl) rfl (by show 2 * 0 + _ ≤ _; exact Nat.le_of_eq rfl) (hb hby at_122))
    refine own_st (T' := T91) (g' := (mkF m 125 #[.val (.int i), .val (.int xa), .val (.int xb), .val (.int xc), .val (.int xd), .val (.int (4 : Int32)), .val (.ref b77), .val (.ref b82), .val (.ref b87), .unset] [(.int (1 : Int32))])) st91 ?_
    refine own_st (T' := T91) (g' := (mkF m 128 #[.val (.int i), .val (.int xa), .val (.int xb), .val (.int xc), .val (.int xd), .val (.int (4 : Int32)), .val (.ref b77), .val (.ref b82), .val (.ref b87), .unset] [])) (fun _ k => XS.ifNo X91.here hx rfl (hb hby at_125) rfl (by decide) k) ?_
    refine own_st (T' := T91) (g' := (mkF m 130 #[.val (.int i), .val (.int xa), .val (.int xb), .val (.int xc), .val (.int xd), .val (.int (4 : Int32)), .val (.ref b77), .val (.ref b82), .val (.ref b87), .unset] [(.ref b87)])) (fun _ k => XS.aload X91.here hx rfl (hb hby at_128) rfl rfl k) ?_
    refine own_st (T' := T91) (g' := (mkF m 131 #[.val (.int i), .val (.int xa), .val (.int xb), .val (.int xc), .val (.int xd), .val (.int (4 : Int32)), .val (.ref b77), .val (.ref b82), .val (.ref b87), .unset] [(.int (3 : Int32)), (.ref b87)])) (fun _ k => XS.iconst X91.here hx rfl (hb hby at_130) k) ?_
    refine own_st (T' := T91) (g' := (mkF m 133 #[.val (.int i), .val (.int xa), .val (.int xb), .val (.int xc), .val (.int xd), .val (.int (4 : Int32)), .val (.ref b77), .val (.ref b82), .val (.ref b87), .unset] [(.int xd), (.int (3 : Int32)), (.ref b87)])) (fun _ k => XS.iload X91.here hx rfl (hb hby at_131) rfl k) ?_
    obtain ⟨T92, X92, e92, st92⟩ := own_pure (w := (.int (1 : Int32))) rfl rfl (own_gS X91 hx hZ hown (hw _ (List.mem_of_getElem? (i := 50) rfl)) (hw _ (List.mem_of_getElem? (i := 51) rfl)) (hw _ (List.mem_of_getElem? (i := 4) rfl)) (hw _ (List.mem_of_getElem? (i := 52) rfl)) (by decide) e91 (own_at_in l Z a0 hw T87.heap b87 k77 (4 : Int32) (3 : Int32) xd (((3 : Int32), (.int (xd.toInt8.toInt32))) :: (((2 : Int32), (.int (xc.toInt8.toInt32))) :: (((1 : Int32), (.int (xb.toInt8.toInt32))) :: (((0 : Int32), (.int (xa.toInt8.toInt32))) :: [])))) h0.size g_b87 V_b87 (by decide) (by decide) rfl) (by decide) (by decide) (by decide) (by decide) (Q := fun v h L => v = some (.int (1 : Int32)) ∧ L = [] ∧ h = T87.heap) (W := 0) (g := (mkF m 133 #[.val (.int i), .val (.int xa), .val (.int xb), .val (.int xc), .val (.int xd), .val (.int (4 : Int32)), .val (.ref b77), .val (.ref b82), .val (.ref b87), .unset] [(.int xd), (.int (3 : Int32)), (.ref b87)])) (argsL := [(.ref b87), (.int (3 : Int32)), (.int xd)]) (rest := []) rfl (by rw [hml]; rfl) (lenOf own_pd_6 rfl) rfl (by show 2 * 0 + _ ≤ _; exact Nat.le_of_eq rfl) (hb hby at_133))
    refine own_st (T' := T92) (g' := (mkF m 136 #[.val (.int i), .val (.int xa), .val (.int xb), .val (.int xc), .val (.int xd), .val (.int (4 : Int32)), .val (.ref b77), .val (.ref b82), .val (.ref b87), .unset] [(.int (1 : Int32))])) st92 ?_
    refine own_st (T' := T92) (g' := (mkF m 139 #[.val (.int i), .val (.int xa), .val (.int xb), .val (.int xc), .val (.int xd), .val (.int (4 : Int32)), .val (.ref b77), .val (.ref b82), .val (.ref b87), .unset] [])) (fun _ k => XS.ifNo X92.here hx rfl (hb hby at_136) rfl (by decide) k) ?_
    refine own_st (T' := T92) (g' := (mkF m 140 #[.val (.int i), .val (.int xa), .val (.int xb), .val (.int xc), .val (.int xd), .val (.int (4 : Int32)), .val (.ref b77), .val (.ref b82), .val (.ref b87), .unset] [(.int (1 : Int32))])) (fun _ k => XS.iconst X92.here hx rfl (hb hby at_139) k) ?_
    refine own_st (T' := T92) (g' := (mkF m 144 #[.val (.int i), .val (.int xa), .val (.int xb), .val (.int xc), .val (.int xd), .val (.int (4 : Int32)), .val (.ref b77), .val (.ref b82), .val (.ref b87), .unset] [(.int (1 : Int32))])) (fun _ k => XS.goto X92.here hx rfl (pc0 := 140) (pc' := 144) rfl (hb hby at_140) (by decide) (by decide) k) ?_
    refine own_st (T' := T92) (g' := (mkF m 146 #[.val (.int i), .val (.int xa), .val (.int xb), .val (.int xc), .val (.int xd), .val (.int (4 : Int32)), .val (.ref b77), .val (.ref b82), .val (.ref b87), .val (.int (1 : Int32))] [])) (fun _ k => XS.istore X92.here hx rfl (hb hby at_144) rfl (l' := #[.val (.int i), .val (.int xa), .val (.int xb), .val (.int xc), .val (.int xd), .val (.int (4 : Int32)), .val (.ref b77), .val (.ref b82), .val (.ref b87), .val (.int (1 : Int32))]) rfl k) ?_
    refine own_st (T' := T92) (g' := (mkF m 148 #[.val (.int i), .val (.int xa), .val (.int xb), .val (.int xc), .val (.int xd), .val (.int (4 : Int32)), .val (.ref b77), .val (.ref b82), .val (.ref b87), .val (.int (1 : Int32))] [(.int (1 : Int32))])) (fun _ k => XS.iload X92.here hx rfl (hb hby at_146) rfl k) ?_
    refine own_st (T' := T92) (g' := (mkF m 151 #[.val (.int i), .val (.int xa), .val (.int xb), .val (.int xc), .val (.int xd), .val (.int (4 : Int32)), .val (.ref b77), .val (.ref b82), .val (.ref b87), .val (.int (1 : Int32))] [])) (fun _ k => XS.ifNo X92.here hx rfl (hb hby at_148) rfl (by decide) k) ?_
    refine own_st (T' := T92) (g' := (mkF m 153 #[.val (.int i), .val (.int xa), .val (.int xb), .val (.int xc), .val (.int xd), .val (.int (4 : Int32)), .val (.ref b77), .val (.ref b82), .val (.ref b87), .val (.int (1 : Int32))] [(.ref b82)])) (fun _ k => XS.aload X92.here hx rfl (hb hby at_151) rfl rfl k) ?_
    obtain ⟨T93, X93, e93, st93⟩ := own_pure (w := (.int (1 : Int32))) rfl rfl (own_gV X92 hx hZ hown (hw _ (List.mem_of_getElem? (i := 53) rfl)) (hw _ (List.mem_of_getElem? (i := 54) rfl)) (notFace_of_selects (args := #[]) (mvT hZ (hw _ (List.mem_of_getElem? (i := 56) rfl)))) (hw _ (List.mem_of_getElem? (i := 56) rfl)) (hw _ (List.mem_of_getElem? (i := 55) rfl)) (hw _ (List.mem_of_getElem? (i := 8) rfl)) (hw _ (List.mem_of_getElem? (i := 57) rfl)) (by decide) e92 E_b82 (own_isf l Z a0 hw T87.heap b82 F_failure_b82) (by decide) (by decide) (by decide) (by decide) (Q := fun v h L => v = some (.int (1 : Int32)) ∧ L = [] ∧ h = T87.heap) (W := 0) (g := (mkF m 153 #[.val (.int i), .val (.int xa), .val (.int xb), .val (.int xc), .val (.int xd), .val (.int (4 : Int32)), .val (.ref b77), .val (.ref b82), .val (.ref b87), .val (.int (1 : Int32))] [(.ref b82)])) (argsL := []) (rest := []) rfl (by rw [hml]; rfl) (lenOf own_pd_7 rfl) rfl (by show 2 * 0 + _ ≤ _; exact Nat.le_of_eq rfl) (hb hby at_153))
    refine own_st (T' := T93) (g' := (mkF m 156 #[.val (.int i), .val (.int xa), .val (.int xb), .val (.int xc), .val (.int xd), .val (.int (4 : Int32)), .val (.ref b77), .val (.ref b82), .val (.ref b87), .val (.int (1 : Int32))] [(.int (1 : Int32))])) st93 ?_
    refine own_st (T' := T93) (g' := (mkF m 159 #[.val (.int i), .val (.int xa), .val (.int xb), .val (.int xc), .val (.int xd), .val (.int (4 : Int32)), .val (.ref b77), .val (.ref b82), .val (.ref b87), .val (.int (1 : Int32))] [])) (fun _ k => XS.ifNo X93.here hx rfl (hb hby at_156) rfl (by decide) k) ?_
    refine own_st (T' := T93) (g' := (mkF m 161 #[.val (.int i), .val (.int xa), .val (.int xb), .val (.int xc), .val (.int xd), .val (.int (4 : Int32)), .val (.ref b77), .val (.ref b82), .val (.ref b87), .val (.int (1 : Int32))] [(.ref b82)])) (fun _ k => XS.aload X93.here hx rfl (hb hby at_159) rfl rfl k) ?_
    obtain ⟨T94, X94, e94, st94⟩ := own_pure (w := (.ref a_FAILED)) rfl rfl (own_gV X93 hx hZ hown (hw _ (List.mem_of_getElem? (i := 58) rfl)) (hw _ (List.mem_of_getElem? (i := 59) rfl)) (notFace_of_selects (args := #[]) (mvT hZ (hw _ (List.mem_of_getElem? (i := 61) rfl)))) (hw _ (List.mem_of_getElem? (i := 61) rfl)) (hw _ (List.mem_of_getElem? (i := 60) rfl)) (hw _ (List.mem_of_getElem? (i := 8) rfl)) (hw _ (List.mem_of_getElem? (i := 62) rfl)) (by decide) e93 E_b82 (own_stat l Z a0 hw T87.heap b82 a_FAILED F_failure_b82 (S_FAILED.ext E0)) (by decide) (by decide) (by decide) (by decide) (Q := fun v h L => v = some (.ref a_FAILED) ∧ L = [] ∧ h = T87.heap) (W := 0) (g := (mkF m 161 #[.val (.int i), .val (.int xa), .val (.int xb), .val (.int xc), .val (.int xd), .val (.int (4 : Int32)), .val (.ref b77), .val (.ref b82), .val (.ref b87), .val (.int (1 : Int32))] [(.ref b82)])) (argsL := []) (rest := []) rfl (by rw [hml]; rfl) (lenOf own_pd_8 rfl) rfl (by show 2 * 0 + _ ≤ _; exact Nat.le_of_eq rfl) (hb hby at_161))
    refine own_st (T' := T94) (g' := (mkF m 164 #[.val (.int i), .val (.int xa), .val (.int xb), .val (.int xc), .val (.int xd), .val (.int (4 : Int32)), .val (.ref b77), .val (.ref b82), .val (.ref b87), .val (.int (1 : Int32))] [(.ref a_FAILED)])) st94 ?_
    obtain ⟨T95, X95, e95, st95⟩ := getS2 X94 hx hZ hown (host := "") (Or.inl (hw _ (List.mem_of_getElem? (i := 66) rfl))) Via.refl e94 (S_FAILED.ext E0) (g := (mkF m 164 #[.val (.int i), .val (.int xa), .val (.int xb), .val (.int xc), .val (.int xd), .val (.int (4 : Int32)), .val (.ref b77), .val (.ref b82), .val (.ref b87), .val (.int (1 : Int32))] [(.ref a_FAILED)])) rfl (hb hby at_164)
    refine own_st (T' := T95) (g' := (mkF m 167 #[.val (.int i), .val (.int xa), .val (.int xb), .val (.int xc), .val (.int xd), .val (.int (4 : Int32)), .val (.ref b77), .val (.ref b82), .val (.ref b87), .val (.int (1 : Int32))] [(.ref a_FAILED), (.ref a_FAILED)])) st95 ?_
    refine own_st (T' := T95) (g' := (mkF m 170 #[.val (.int i), .val (.int xa), .val (.int xb), .val (.int xc), .val (.int xd), .val (.int (4 : Int32)), .val (.ref b77), .val (.ref b82), .val (.ref b87), .val (.int (1 : Int32))] [])) (fun _ k => Jvm.RoadKit.acmp (g := (mkF m 167 #[.val (.int i), .val (.int xa), .val (.int xb), .val (.int xc), .val (.int xd), .val (.int (4 : Int32)), .val (.ref b77), .val (.ref b82), .val (.ref b87), .val (.int (1 : Int32))] [(.ref a_FAILED), (.ref a_FAILED)])) X95 hx rfl rfl rfl (pc0 := 167) (pc' := 170) (same := true) rfl (hb hby at_167) rfl (decide_eq_true rfl) (by decide) (by decide) k) ?_
    refine own_st (T' := T95) (g' := (mkF m 171 #[.val (.int i), .val (.int xa), .val (.int xb), .val (.int xc), .val (.int xd), .val (.int (4 : Int32)), .val (.ref b77), .val (.ref b82), .val (.ref b87), .val (.int (1 : Int32))] [(.int (1 : Int32))])) (fun _ k => XS.iconst X95.here hx rfl (hb hby at_170) k) ?_
    refine own_st (T' := T95) (g' := (mkF m 175 #[.val (.int i), .val (.int xa), .val (.int xb), .val (.int xc), .val (.int xd), .val (.int (4 : Int32)), .val (.ref b77), .val (.ref b82), .val (.ref b87), .val (.int (1 : Int32))] [(.int (1 : Int32))])) (fun _ k => XS.goto X95.here hx rfl (pc0 := 171) (pc' := 175) rfl (hb hby at_171) (by decide) (by decide) k) ?_
    exact own_retW X95 hx hlk hS (by rw [e95]; exact hk) hret rfl (Or.inl ⟨rfl, Or.inr (Or.inl rfl), _, rfl⟩) (hb hby at_175) (by decide) (by decide) ⟨rfl, Nf⟩
/-! ### from the case's words to the owed theorems -/
theorem own_comes (H : ∀ (l : Launch) (s : State) (args : Array Value), Fit s → (∀ d ∈ tables_1, d.before args s = true) → given_1.value args s none s [] = some true → narrow_1.value args s none s [] = some true → own_MetW l s s.heap tables_1 room_1 x code maxLocals ret args (fun v h L => v = some (.int 1) ∧ Fr s.heap.size L))
    {Post : Tables → Env → Array Value → State → Outcome → State → Prop} (hpost : ∀ tb e args s v u, (limb_1_1.after args s (.returned v) u = true ∧ limb_1_2.after args s (.returned v) u = true) → ReturnedEndW s (.returned v) u (Jvm.fieldLocs frame_1_writes args s ++ Jvm.arrayLocs frame_1_arrays args s ++ Jvm.staticLocs frame_1_statics s) 24 1152 → Post tb e args s (.returned v) u) :
    ArmFor flags0 classFile x code maxLocals ret World_1 tables_1 room_1 Calls_1 rest_1 Pre_1 Post := by
  intro l hfl _ _ p e ha hc hk s m args below hf hA hF happ hP
  obtain ⟨hcalls, hrest, hpre⟩ := hP
  obtain ⟨-, -, -, hnamed, -, -, -, hat⟩ := (Spec.applies_iff hf).mp happ
  obtain ⟨hg, hn⟩ := and_e (Cond.before_iff.mp (show (Jvm.Cond.and given_1 narrow_1).before args s = true from hpre))
  have hw := fun d (hd : d ∈ tables_1) => atoms_spec (ws := Jvm.Cond.code x code maxLocals ret :: tables_1) hat d (List.mem_cons_of_mem _ hd)
  have hfit : Fit s := fun {y c} hc i hi => by
    obtain ⟨ha, rfl⟩ := Array.getElem?_eq_some_iff.mp hc
    have q := List.all_eq_true.mp ((Array.all_eq_true_iff_forall_mem.mp hF) _ (Array.getElem_mem ha)) i (List.mem_range.mpr hi)
    simpa [Array.getElem?_eq_getElem hi] using q
  obtain ⟨n, o, h1, h2, h3, _, L, rfl, ⟨rfl, N⟩, hq⟩ := H l s args hfit hw hg hn p e ha hc hk s m args below hf ((Spec.applies_iff_loose hf).mp happ).1 ⟨rfl, State.Warmed39.refl s, rfl⟩ trivial
  exact ⟨n, _, h1, h2, h3, hpost _ _ _ _ _ _ ⟨Cond.after_iff.mpr rfl, Cond.after_iff.mpr (eq_i res_at (Term.int_eval (1)) rfl)⟩ ⟨hq.1, hq.2.1, hq.2.2.1, (hq.2.2.2.sift fun y hy => Or.inr (N y hy)).mono (by decide) (by decide)⟩⟩
set_option maxRecDepth 65536 in
theorem own_law (l : Launch) (s : State) (args : Array Value) (hfit : Fit s) (hw : ∀ d ∈ tables_1, d.before args s = true) (hg : given_1.value args s none s [] = some true) (hn : narrow_1.value args s none s [] = some true) :
    own_MetW l s s.heap tables_1 room_1 x code maxLocals ret args (fun v h L => v = some (.int 1) ∧ Fr s.heap.size L) := by
  obtain ⟨i, xa, xb, xc, xd, rfl⟩ := own_args5 hg
  obtain ⟨a_FAILED, V_FAILED, E_FAILED, S_FAILED⟩ := own_sx hn (hw _ (List.mem_of_getElem? (i := 64) rfl)) (hw _ (List.mem_of_getElem? (i := 65) rfl))
  exact (own_lawP l s _ hw s.heap a_FAILED S_FAILED E_FAILED i xa xb xc xd)
theorem main_1_1 : Claimed_1_1 := own_comes own_law fun _ _ _ _ _ _ h hF => ⟨h.1, hF⟩
theorem main_1_2 : Claimed_1_2 := own_comes own_law fun _ _ _ _ _ _ h hF => ⟨h.2, hF⟩
end Jvm.Pilot.@@N@@
namespace Jvm.Pilot.@@N@@
open Jvm Jvm.ClassFile Sem Op Lib Jvm.Free Jvm.Stand Jvm.Pilot.@@N@@.Jvm.D
/-! MADE BY PROGRAM (witnessworld.py) out of the Statement's table words and the real class files: 17 classes; the members and pool entries that the words name. The judged class is class 1, her method 1. -/
namespace start1
open Jvm.ClassFile
def u (s : String) : CpInfo := .utf8 (stringToUtf16 s)
/-- a pool by its gaps: so many unusable entries, then the entry; so many at the end -/
def gap : Nat → List CpInfo → List CpInfo
  | 0, r => r
  | n + 1, r => .unusable :: gap n r
def poolList (es : List (Nat × CpInfo)) (last : Nat) : List CpInfo := es.foldr (fun e r => gap e.1 (e.2 :: r)) (gap last [])
def pool (es : List (Nat × CpInfo)) (last : Nat) : Array CpInfo := ⟨poolList es last⟩
def fileOf (pool : Array CpInfo) (this : Nat) (attrs : Array Attribute := #[]) (ms : Array MethodInfo := #[]) (fl : Nat := 33) (sup : Nat := 0) (ifs : Array Nat := #[]) (fds : Array FieldInfo := #[]) : ClassFile where
  minorVersion := 0
  majorVersion := 65
  constantPool := pool
  accessFlags := fl
  thisClass := this
  superClass := sup
  interfaces := ifs
  fields := fds
  methods := ms
  attributes := attrs
def plain (name : String) (sup : Option ClassId) : Class where
  name := name
  kind := .ordinary
  loader := none
  accessFlags := 33
  super := sup
  interfaces := #[]
  cf := none
  fields := #[]
  methods := #[]
  instanceTypes := #[]
  staticTypes := #[]
  resolved := #[]
  callSites := []
  init := .initialized
  statics := none
  mirror := none

def pool0 : Array CpInfo := pool [(5, u "<init>"), (0, u "()V"), (1, .class_ 10), (1, u "java/lang/Object"), (85, u "clone"), (0, u "()Ljava/lang/Object;")] 26

def k0c0 : Code := { maxStack := 0, maxLocals := 1, code := object_method_1_code, exceptionTable := #[], attributes := #[] }
def k0m0 : Method := { name := "<init>", desc := "()V", sig := { parameters := [], returnType := none }, accessFlags := 1, code := some k0c0 }
def k0m1 : Method := { name := "clone", desc := "()Ljava/lang/Object;", sig := { parameters := [], returnType := some (.object "java/lang/Object") }, accessFlags := 260, code := none }
/-- java/lang/Object -/
def k0 : Class := { plain "java/lang/Object" none with
  accessFlags := 33
  interfaces := #[]
  cf := some (fileOf pool0 8 #[] #[{ accessFlags := 1, nameIndex := 5, descriptorIndex := 6, attributes := #[] }, { accessFlags := 260, nameIndex := 96, descriptorIndex := 97, attributes := #[] }] 33 0 #[] #[])
  fields := #[]
  methods := #[k0m0, k0m1]
  instanceTypes := #[]
  staticTypes := #[]
  resolved := Array.replicate 124 none
  statics := none }

def pool1 : Array CpInfo := pool [(2, .class_ 4), (1, u "java/lang/Object"), (0, u "<init>"), (0, u "()V"), (0, .integer 2147483647), (0, .methodref 9 10), (0, .class_ 11), (0, .nameAndType 12 13), (0, u "com/example/earnest_key/earnestkey/OutcomeFailurePinLaw"), (0, u "set"), (0, u "([BII)V"), (0, .methodref 15 16), (0, .class_ 17), (0, .nameAndType 18 19), (0, u "com/example/earnest_key/earnestkey/Outcome"), (0, u "failure"), (0, u "([B)Lcom/example/earnest_key/earnestkey/Outcome;"), (0, .methodref 9 21), (0, .nameAndType 22 23), (0, u "bump"), (0, u "([BI)V"), (0, .methodref 15 25), (0, .nameAndType 26 27), (0, u "bytes"), (0, u "()[B"), (0, .methodref 9 29), (0, .nameAndType 30 31), (0, u "at"), (0, u "([BII)Z"), (0, .methodref 15 33), (0, .nameAndType 34 35), (0, u "isFailure"), (0, u "()Z"), (0, .methodref 15 37), (0, .nameAndType 38 39), (0, u "state"), (0, u "()Lcom/example/earnest_key/earnestkey/RecordState;"), (0, .fieldref 41 42), (0, .class_ 43), (0, .nameAndType 44 45), (0, u "com/example/earnest_key/earnestkey/RecordState"), (0, u "FAILED"), (0, u "Lcom/example/earnest_key/earnestkey/RecordState;"), (2, u "law"), (0, u "(IIIII)Z")] 5

def k1m0 : Method := { name := "<init>", desc := "()V", sig := { parameters := [], returnType := none }, accessFlags := 1, code := none }
def k1c1 : Code := { maxStack := 3, maxLocals := 10, code := code, exceptionTable := #[], attributes := #[] }
def k1m1 : Method := { name := "law", desc := "(IIIII)Z", sig := { parameters := [.int, .int, .int, .int, .int], returnType := some .boolean }, accessFlags := 9, code := some k1c1 }
def k1c2 : Code := { maxStack := 3, maxLocals := 3, code := method_3_code, exceptionTable := #[], attributes := #[] }
def k1m2 : Method := { name := "set", desc := "([BII)V", sig := { parameters := [(.array .byte), .int, .int], returnType := none }, accessFlags := 10, code := some k1c2 }
def k1c3 : Code := { maxStack := 4, maxLocals := 2, code := method_4_code, exceptionTable := #[], attributes := #[] }
def k1m3 : Method := { name := "bump", desc := "([BI)V", sig := { parameters := [(.array .byte), .int], returnType := none }, accessFlags := 10, code := some k1c3 }
def k1c4 : Code := { maxStack := 2, maxLocals := 3, code := method_5_code, exceptionTable := #[], attributes := #[] }
def k1m4 : Method := { name := "at", desc := "([BII)Z", sig := { parameters := [(.array .byte), .int, .int], returnType := some .boolean }, accessFlags := 10, code := some k1c4 }
/-- com/example/earnest_key/earnestkey/OutcomeFailurePinLaw -/
def k1 : Class := { plain "com/example/earnest_key/earnestkey/OutcomeFailurePinLaw" (some 0) with
  accessFlags := 49
  interfaces := #[]
  cf := some (fileOf pool1 9 #[] #[{ accessFlags := 1, nameIndex := 5, descriptorIndex := 6, attributes := #[] }, { accessFlags := 9, nameIndex := 48, descriptorIndex := 49, attributes := #[] }, { accessFlags := 10, nameIndex := 12, descriptorIndex := 13, attributes := #[] }, { accessFlags := 10, nameIndex := 22, descriptorIndex := 23, attributes := #[] }, { accessFlags := 10, nameIndex := 30, descriptorIndex := 31, attributes := #[] }] 49 2 #[] #[])
  fields := #[]
  methods := #[k1m0, k1m1, k1m2, k1m3, k1m4]
  instanceTypes := #[]
  staticTypes := #[]
  resolved := Array.replicate 55 none
  statics := none }

def pool2 : Array CpInfo := pool [(1, .methodref 2 3), (0, .class_ 4), (0, .nameAndType 5 6), (0, u "java/lang/Object"), (0, u "<init>"), (0, u "()V"), (0, .fieldref 8 9), (0, .class_ 10), (0, .nameAndType 11 12), (0, u "com/example/earnest_key/earnestkey/Outcome"), (0, u "bytes"), (0, u "[B"), (0, .fieldref 8 14), (0, .nameAndType 15 16), (0, u "failure"), (0, u "Z"), (0, .string 11), (0, .methodref 19 20), (0, .class_ 21), (0, .nameAndType 22 23), (0, u "java/util/Objects"), (0, u "requireNonNull"), (0, u "(Ljava/lang/Object;Ljava/lang/String;)Ljava/lang/Object;"), (0, .class_ 12), (0, .methodref 24 26), (0, .nameAndType 27 28), (0, u "clone"), (0, u "()Ljava/lang/Object;"), (0, .methodref 8 30), (0, .nameAndType 5 31), (0, u "([BZ)V"), (5, u "()[B"), (2, u "state"), (0, u "()Lcom/example/earnest_key/earnestkey/RecordState;"), (0, .fieldref 43 44), (0, .class_ 45), (0, .nameAndType 46 47), (0, u "com/example/earnest_key/earnestkey/RecordState"), (0, u "FAILED"), (0, u "Lcom/example/earnest_key/earnestkey/RecordState;"), (17, u "([B)Lcom/example/earnest_key/earnestkey/Outcome;"), (3, u "isFailure"), (0, u "()Z")] 19

def k2c0 : Code := { maxStack := 2, maxLocals := 3, code := prog_11_method_1_code, exceptionTable := #[], attributes := #[] }
def k2m0 : Method := { name := "<init>", desc := "([BZ)V", sig := { parameters := [(.array .byte), .boolean], returnType := none }, accessFlags := 2, code := some k2c0 }
def k2c1 : Code := { maxStack := 4, maxLocals := 1, code := prog_11_method_3_code, exceptionTable := #[], attributes := #[] }
def k2m1 : Method := { name := "failure", desc := "([B)Lcom/example/earnest_key/earnestkey/Outcome;", sig := { parameters := [(.array .byte)], returnType := some (.object "com/example/earnest_key/earnestkey/Outcome") }, accessFlags := 9, code := some k2c1 }
def k2c2 : Code := { maxStack := 1, maxLocals := 1, code := prog_11_method_5_code, exceptionTable := #[], attributes := #[] }
def k2m2 : Method := { name := "bytes", desc := "()[B", sig := { parameters := [], returnType := some (.array .byte) }, accessFlags := 1, code := some k2c2 }
def k2c3 : Code := { maxStack := 1, maxLocals := 1, code := prog_11_method_6_code, exceptionTable := #[], attributes := #[] }
def k2m3 : Method := { name := "isFailure", desc := "()Z", sig := { parameters := [], returnType := some .boolean }, accessFlags := 1, code := some k2c3 }
def k2c4 : Code := { maxStack := 1, maxLocals := 1, code := prog_11_method_7_code, exceptionTable := #[], attributes := #[] }
def k2m4 : Method := { name := "state", desc := "()Lcom/example/earnest_key/earnestkey/RecordState;", sig := { parameters := [], returnType := some (.object "com/example/earnest_key/earnestkey/RecordState") }, accessFlags := 1, code := some k2c4 }
/-- com/example/earnest_key/earnestkey/Outcome -/
def k2 : Class := { plain "com/example/earnest_key/earnestkey/Outcome" (some 0) with
  accessFlags := 33
  interfaces := #[]
  cf := some (fileOf pool2 8 #[] #[{ accessFlags := 2, nameIndex := 5, descriptorIndex := 31, attributes := #[] }, { accessFlags := 9, nameIndex := 15, descriptorIndex := 65, attributes := #[] }, { accessFlags := 1, nameIndex := 11, descriptorIndex := 37, attributes := #[] }, { accessFlags := 1, nameIndex := 69, descriptorIndex := 70, attributes := #[] }, { accessFlags := 1, nameIndex := 40, descriptorIndex := 41, attributes := #[] }] 33 2 #[] #[{ accessFlags := 18, nameIndex := 11, descriptorIndex := 12, attributes := #[] }, { accessFlags := 18, nameIndex := 15, descriptorIndex := 16, attributes := #[] }])
  fields := #[{ name := "bytes", type := (.array .byte), accessFlags := 18, slot := 0, constantValue := 0 }, { name := "failure", type := .boolean, accessFlags := 18, slot := 1, constantValue := 0 }]
  methods := #[k2m0, k2m1, k2m2, k2m3, k2m4]
  instanceTypes := #[(.array .byte), .boolean]
  staticTypes := #[]
  resolved := Array.replicate 90 none
  statics := none }

def pool3 : Array CpInfo := pool [(1, .class_ 2), (0, u "java/io/Serializable"), (0, .class_ 4), (0, u "java/lang/Object")] 2

/-- java/io/Serializable -/
def k3 : Class := { plain "java/io/Serializable" (some 0) with
  accessFlags := 1537
  interfaces := #[]
  cf := some (fileOf pool3 1 #[] #[] 1537 3 #[] #[])
  fields := #[]
  methods := #[]
  instanceTypes := #[]
  staticTypes := #[]
  resolved := Array.replicate 7 none
  statics := none }

def pool4 : Array CpInfo := pool [(1, .class_ 2), (0, u "java/lang/Comparable"), (0, .class_ 4), (0, u "java/lang/Object")] 7

/-- java/lang/Comparable -/
def k4 : Class := { plain "java/lang/Comparable" (some 0) with
  accessFlags := 1537
  interfaces := #[]
  cf := some (fileOf pool4 1 #[] #[] 1537 3 #[] #[])
  fields := #[]
  methods := #[]
  instanceTypes := #[]
  staticTypes := #[]
  resolved := Array.replicate 12 none
  statics := none }

def pool5 : Array CpInfo := pool [(2, .class_ 4), (1, u "java/lang/CharSequence"), (42, .class_ 48), (0, u "java/lang/CharSequence$1CodePointIterator"), (10, .class_ 60), (0, u "java/lang/CharSequence$1CharIterator"), (5, .class_ 67), (0, u "java/lang/Object")] 63

/-- java/lang/CharSequence -/
def k5 : Class := { plain "java/lang/CharSequence" (some 0) with
  accessFlags := 1537
  interfaces := #[]
  cf := some (fileOf pool5 2 #[.nestMembers #[47, 59]] #[] 1537 66 #[] #[])
  fields := #[]
  methods := #[]
  instanceTypes := #[]
  staticTypes := #[]
  resolved := Array.replicate 131 none
  statics := none }

def pool6 : Array CpInfo := pool [(1, .class_ 2), (0, u "java/lang/constant/Constable"), (0, .class_ 4), (0, u "java/lang/Object")] 6

/-- java/lang/constant/Constable -/
def k6 : Class := { plain "java/lang/constant/Constable" (some 0) with
  accessFlags := 1537
  interfaces := #[]
  cf := some (fileOf pool6 1 #[] #[] 1537 3 #[] #[])
  fields := #[]
  methods := #[]
  instanceTypes := #[]
  staticTypes := #[]
  resolved := Array.replicate 11 none
  statics := none }

def pool7 : Array CpInfo := pool [(1, .class_ 2), (0, u "java/lang/constant/ConstantDesc"), (0, .class_ 4), (0, u "java/lang/Object")] 32

/-- java/lang/constant/ConstantDesc -/
def k7 : Class := { plain "java/lang/constant/ConstantDesc" (some 0) with
  accessFlags := 1537
  interfaces := #[]
  cf := some (fileOf pool7 1 #[] #[] 1537 3 #[] #[])
  fields := #[]
  methods := #[]
  instanceTypes := #[]
  staticTypes := #[]
  resolved := Array.replicate 37 none
  statics := none }

def pool8 : Array CpInfo := pool [(2, .class_ 4), (1, u "java/lang/Object"), (0, u "<init>"), (0, u "()V"), (3, .class_ 12), (1, u "java/lang/String"), (0, u "value"), (0, u "[B"), (2, u "coder"), (0, u "B"), (2, u "hash"), (0, u "I"), (2, u "hashIsZero"), (0, u "Z"), (13, u "COMPACT_STRINGS"), (534, .class_ 576), (0, u "java/lang/CharSequence"), (22, u "CASE_INSENSITIVE_ORDER"), (0, u "Ljava/util/Comparator;"), (500, u "serialPersistentFields"), (0, u "[Ljava/io/ObjectStreamField;"), (0, .class_ 1104), (0, u "java/lang/String$CaseInsensitiveComparator"), (1, .class_ 1107), (0, u "java/io/Serializable"), (0, .class_ 1109), (0, u "java/lang/Comparable"), (0, .class_ 1111), (0, u "java/lang/constant/Constable"), (0, .class_ 1113), (0, u "java/lang/constant/ConstantDesc"), (2, u "serialVersionUID"), (0, u "J"), (3, u "REPL"), (0, u "C"), (2, u "LATIN1"), (1, u "UTF16")] 323

def k8m0 : Method := { name := "<init>", desc := "()V", sig := { parameters := [], returnType := none }, accessFlags := 1, code := none }
/-- java/lang/String -/
def k8 : Class := { plain "java/lang/String" (some 0) with
  accessFlags := 49
  interfaces := #[3, 4, 5, 6, 7]
  cf := some (fileOf pool8 10 #[.nestMembers #[1103]] #[{ accessFlags := 1, nameIndex := 5, descriptorIndex := 6, attributes := #[] }] 49 2 #[1106, 1108, 575, 1110, 1112] #[{ accessFlags := 18, nameIndex := 13, descriptorIndex := 14, attributes := #[] }, { accessFlags := 18, nameIndex := 17, descriptorIndex := 18, attributes := #[] }, { accessFlags := 2, nameIndex := 21, descriptorIndex := 22, attributes := #[] }, { accessFlags := 2, nameIndex := 25, descriptorIndex := 26, attributes := #[] }, { accessFlags := 26, nameIndex := 1116, descriptorIndex := 1117, attributes := #[] }, { accessFlags := 24, nameIndex := 40, descriptorIndex := 26, attributes := #[] }, { accessFlags := 26, nameIndex := 1101, descriptorIndex := 1102, attributes := #[] }, { accessFlags := 26, nameIndex := 1121, descriptorIndex := 1122, attributes := #[] }, { accessFlags := 25, nameIndex := 599, descriptorIndex := 600, attributes := #[] }, { accessFlags := 24, nameIndex := 1125, descriptorIndex := 18, attributes := #[] }, { accessFlags := 24, nameIndex := 1127, descriptorIndex := 18, attributes := #[] }])
  fields := #[{ name := "value", type := (.array .byte), accessFlags := 18, slot := 0, constantValue := 0 }, { name := "coder", type := .byte, accessFlags := 18, slot := 1, constantValue := 0 }, { name := "hash", type := .int, accessFlags := 2, slot := 2, constantValue := 0 }, { name := "hashIsZero", type := .boolean, accessFlags := 2, slot := 3, constantValue := 0 }, { name := "serialVersionUID", type := .long, accessFlags := 26, slot := 0, constantValue := 0 }, { name := "COMPACT_STRINGS", type := .boolean, accessFlags := 24, slot := 1, constantValue := 0 }, { name := "serialPersistentFields", type := (.array (.object "java/io/ObjectStreamField")), accessFlags := 26, slot := 2, constantValue := 0 }, { name := "REPL", type := .char, accessFlags := 26, slot := 3, constantValue := 0 }, { name := "CASE_INSENSITIVE_ORDER", type := (.object "java/util/Comparator"), accessFlags := 25, slot := 4, constantValue := 0 }, { name := "LATIN1", type := .byte, accessFlags := 24, slot := 5, constantValue := 0 }, { name := "UTF16", type := .byte, accessFlags := 24, slot := 6, constantValue := 0 }]
  methods := #[k8m0]
  instanceTypes := #[(.array .byte), .byte, .int, .boolean]
  staticTypes := #[.long, .boolean, (.array (.object "java/io/ObjectStreamField")), .char, (.object "java/util/Comparator"), .byte, .byte]
  resolved := Array.replicate 1451 none
  statics := none }

def pool9 : Array CpInfo := pool [(2, .class_ 4), (1, u "java/lang/Object"), (0, u "<init>"), (0, u "()V"), (35, .class_ 44), (1, u "java/util/Objects"), (0, u "requireNonNull"), (48, u "(Ljava/lang/Object;Ljava/lang/String;)Ljava/lang/Object;")] 89

def k9m0 : Method := { name := "<init>", desc := "()V", sig := { parameters := [], returnType := none }, accessFlags := 2, code := none }
def k9c1 : Code := { maxStack := 3, maxLocals := 2, code := jdk_31_method_11_code, exceptionTable := #[], attributes := #[] }
def k9m1 : Method := { name := "requireNonNull", desc := "(Ljava/lang/Object;Ljava/lang/String;)Ljava/lang/Object;", sig := { parameters := [(.object "java/lang/Object"), (.object "java/lang/String")], returnType := some (.object "java/lang/Object") }, accessFlags := 9, code := some k9c1 }
/-- java/util/Objects -/
def k9 : Class := { plain "java/util/Objects" (some 0) with
  accessFlags := 49
  interfaces := #[]
  cf := some (fileOf pool9 42 #[] #[{ accessFlags := 2, nameIndex := 5, descriptorIndex := 6, attributes := #[] }, { accessFlags := 9, nameIndex := 45, descriptorIndex := 94, attributes := #[] }] 49 2 #[] #[])
  fields := #[]
  methods := #[k9m0, k9m1]
  instanceTypes := #[]
  staticTypes := #[]
  resolved := Array.replicate 184 none
  statics := none }

def pool10 : Array CpInfo := pool [(1, .class_ 2), (0, u "java/lang/Cloneable"), (0, .class_ 4), (0, u "java/lang/Object")] 2

/-- java/lang/Cloneable -/
def k10 : Class := { plain "java/lang/Cloneable" (some 0) with
  accessFlags := 1537
  interfaces := #[]
  cf := some (fileOf pool10 1 #[] #[] 1537 3 #[] #[])
  fields := #[]
  methods := #[]
  instanceTypes := #[]
  staticTypes := #[]
  resolved := Array.replicate 7 none
  statics := none }

def pool11 : Array CpInfo := pool [(2, .class_ 4), (1, u "java/lang/Enum"), (0, u "name"), (0, u "Ljava/lang/String;"), (2, u "ordinal"), (0, u "I"), (1, .class_ 14), (1, u "java/lang/Object"), (4, u "hash"), (86, .class_ 108), (1, u "java/lang/Enum$EnumDesc"), (2, .class_ 112), (0, u "java/lang/constant/Constable"), (0, .class_ 114), (0, u "java/lang/Comparable"), (0, .class_ 116), (0, u "java/io/Serializable")] 87

/-- java/lang/Enum -/
def k11 : Class := { plain "java/lang/Enum" (some 0) with
  accessFlags := 1057
  interfaces := #[6, 4, 3]
  cf := some (fileOf pool11 2 #[.nestMembers #[106]] #[] 1057 12 #[111, 113, 115] #[{ accessFlags := 18, nameIndex := 5, descriptorIndex := 6, attributes := #[] }, { accessFlags := 18, nameIndex := 9, descriptorIndex := 10, attributes := #[] }, { accessFlags := 2, nameIndex := 19, descriptorIndex := 10, attributes := #[] }])
  fields := #[{ name := "name", type := (.object "java/lang/String"), accessFlags := 18, slot := 0, constantValue := 0 }, { name := "ordinal", type := .int, accessFlags := 18, slot := 1, constantValue := 0 }, { name := "hash", type := .int, accessFlags := 2, slot := 2, constantValue := 0 }]
  methods := #[]
  instanceTypes := #[(.object "java/lang/String"), .int, .int]
  staticTypes := #[]
  resolved := Array.replicate 204 none
  statics := none }

def pool12 : Array CpInfo := pool [(1, .class_ 2), (0, u "com/example/earnest_key/earnestkey/RecordState"), (2, u "PROCESSING"), (0, u "Lcom/example/earnest_key/earnestkey/RecordState;"), (2, u "SUCCEEDED"), (2, u "FAILED"), (2, u "$VALUES"), (0, u "[Lcom/example/earnest_key/earnestkey/RecordState;"), (6, .class_ 25), (1, u "java/lang/Enum")] 25

/-- com/example/earnest_key/earnestkey/RecordState -/
def k12 : Class := { plain "com/example/earnest_key/earnestkey/RecordState" (some 11) with
  accessFlags := 16433
  interfaces := #[]
  cf := some (fileOf pool12 1 #[] #[] 16433 23 #[] #[{ accessFlags := 16409, nameIndex := 5, descriptorIndex := 6, attributes := #[] }, { accessFlags := 16409, nameIndex := 9, descriptorIndex := 6, attributes := #[] }, { accessFlags := 16409, nameIndex := 12, descriptorIndex := 6, attributes := #[] }, { accessFlags := 4122, nameIndex := 15, descriptorIndex := 16, attributes := #[] }])
  fields := #[{ name := "PROCESSING", type := (.object "com/example/earnest_key/earnestkey/RecordState"), accessFlags := 16409, slot := 0, constantValue := 0 }, { name := "SUCCEEDED", type := (.object "com/example/earnest_key/earnestkey/RecordState"), accessFlags := 16409, slot := 1, constantValue := 0 }, { name := "FAILED", type := (.object "com/example/earnest_key/earnestkey/RecordState"), accessFlags := 16409, slot := 2, constantValue := 0 }, { name := "$VALUES", type := (.array (.object "com/example/earnest_key/earnestkey/RecordState")), accessFlags := 4122, slot := 3, constantValue := 0 }]
  methods := #[]
  instanceTypes := #[(.object "java/lang/String"), .int, .int]
  staticTypes := #[(.object "com/example/earnest_key/earnestkey/RecordState"), (.object "com/example/earnest_key/earnestkey/RecordState"), (.object "com/example/earnest_key/earnestkey/RecordState"), (.array (.object "com/example/earnest_key/earnestkey/RecordState"))]
  resolved := Array.replicate 51 none
  statics := some 0 }

/-- the primitive byte -/
def k13 : Class := { plain "byte" none with kind := .primitive 'B', accessFlags := 0x411 }
/-- [B -/
def k14 : Class := { plain "[B" (some 0) with kind := .array 13 .byte, interfaces := #[10, 3], accessFlags := 1041 }

/-- the primitive int -/
def k15 : Class := { plain "int" none with kind := .primitive 'I', accessFlags := 0x411 }
/-- [I -/
def k16 : Class := { plain "[I" (some 0) with kind := .array 15 .int, interfaces := #[10, 3], accessFlags := 1041 }

def heap : Heap := #[{ cls := 12, slots := #[.null, .null, .ref 1, .null], vm := .statics 12 },
  { cls := 12, slots := #[.null, .int 0, .int 0], vm := .none }]
def classes : Array Class := #[k0, k1, k2, k3, k4, k5, k6, k7, k8, k9, k10, k11, k12, k13, k14, k15, k16]
def interned : List (Array UInt16 × Addr) := []
def slotsUsed : Nat := 7
def theMethod : MethodId := ⟨1, 1⟩
def args0 : Array Value := #[.int 5, .int 6, .int 7, .int 8, .int 9]
def aboutOver (below : List Frame) : State where
  vm := { classes := classes, interned := interned.toArray }
  heap := heap
  slotsUsed := slotsUsed
  threads := #[{ frames := .invoking theMethod args0 :: below }]
def below0 : List Frame := [.native { method := ⟨0, 0⟩, args := #[] }]
def about1 : State := aboutOver below0
def p0 : Program := .bare "" "" ""
def e0 : Env := launch0.env 0 0 0
theorem w_frames : about1.frames = Frame.invoking theMethod args0 :: below0 := rfl
set_option maxRecDepth 65536 in
theorem w_args : argsFit about1.vm theMethod args0 = true := by decide +kernel
set_option maxRecDepth 65536 in
theorem w_heap : heapFits about1 = true := by decide +kernel
set_option maxRecDepth 65536 in
theorem w_runnable : about1.curStatus? = some .runnable := by decide +kernel
set_option maxRecDepth 65536 in
theorem w_alone : about1.alone = true := by decide +kernel
set_option maxRecDepth 65536 in
theorem w_named : about1.methodNamed? x = some theMethod := by decide +kernel
set_option maxRecDepth 65536 in
theorem w_hears : about1.hears theMethod below0 = true := by decide +kernel
set_option maxRecDepth 65536 in
theorem w_ripe : about1.ripe theMethod args0 below0 = true := by decide +kernel
theorem w_running : about1.status = .running := rfl
set_option maxRecDepth 65536 in
theorem w_room : about1.hasRoom e0.platform room_1 = true :=
  launch0.hasRoom_least _ room_1 (by decide +kernel) (by decide +kernel) (by decide +kernel) (by decide +kernel) (by decide +kernel) (by decide +kernel)
theorem allAtoms_all (ts : List Jvm.Cond) (a : Array Jvm.Value) (st : Jvm.State) : (allAtoms ts).before a st = ts.all (fun c => c.before a st) := by
  induction ts with
  | nil => rfl
  | cons c t ih =>
    show (Jvm.Cond.and c (allAtoms t)).before a st = _
    rw [Jvm.Cond.before_and, ih, List.all_cons]
def words1 : List Jvm.Cond := Jvm.Cond.code x code maxLocals ret :: tables_1
/-- a 'code' word, met by the world's own term for the bytes: nothing is compared byte by byte -/
theorem code_word {y : MethodName} {bytes : ByteArray} {mx : Nat} {rt : Option FieldType} {a : Array Value} {s : State} {m : MethodId} {meth : Method} {c : Code} (h1 : s.methodNamed? y = some m) (h2 : s.vm.method? m = some meth) (h3 : meth.code = some c) (h4 : c.code = bytes)
    (h5 : (c.maxLocals == mx && c.exceptionTable.isEmpty && decide (c.maxStack ≤ mostOperands) && decide (meth.sig.returnType = rt) && !meth.locks && decide (parseMethodDescriptor y.desc = some meth.sig)) = true) : (Jvm.Cond.code y bytes mx rt).before a s = true := by
  simp only [Bool.and_eq_true, beq_iff_eq, Bool.not_eq_true', decide_eq_true_eq] at h5
  obtain ⟨⟨⟨⟨⟨g1, g2⟩, g3⟩, g4⟩, g5⟩, g6⟩ := h5
  simp [Cond.before, Cond.holds, Cond.value, h1, h2, h3, h4, g1, g2, g3, g4, g5, g6]
def isCode : Jvm.Cond → Bool
  | .code _ _ _ _ => true
  | _ => false
theorem all_split {L : List Jvm.Cond} {P : Jvm.Cond → Bool} (h1 : L.all (fun c => isCode c || P c) = true) (h2 : ∀ c ∈ L.filter isCode, P c = true) : L.all P = true := by
  refine List.all_eq_true.mpr fun c hc => ?_
  have h := List.all_eq_true.mp h1 c hc
  rcases Bool.eq_false_or_eq_true (isCode c) with hi | hi
  · exact h2 c (List.mem_filter.mpr ⟨hc, hi⟩)
  · simpa [hi] using h
set_option maxRecDepth 65536 in
theorem w_c0 : (Jvm.Cond.code x code maxLocals ret).before args0 about1 = true := code_word (m := ⟨1, 1⟩) (meth := k1m1) (c := k1c1) (by decide +kernel) rfl rfl rfl (by decide +kernel)
set_option maxRecDepth 65536 in
theorem w_c1 : (Jvm.Cond.code ({ cls := "com/example/earnest_key/earnestkey/OutcomeFailurePinLaw", name := "set", desc := "([BII)V" } : Jvm.MethodName) method_3_code (3 : Nat) (Option.none : Option Jvm.ClassFile.FieldType)).before args0 about1 = true := code_word (m := ⟨1, 2⟩) (meth := k1m2) (c := k1c2) (by decide +kernel) rfl rfl rfl (by decide +kernel)
set_option maxRecDepth 65536 in
theorem w_c2 : (Jvm.Cond.code ({ cls := "com/example/earnest_key/earnestkey/Outcome", name := "failure", desc := "([B)Lcom/example/earnest_key/earnestkey/Outcome;" } : Jvm.MethodName) prog_11_method_3_code (1 : Nat) (Option.some (Jvm.ClassFile.FieldType.object "com/example/earnest_key/earnestkey/Outcome"))).before args0 about1 = true := code_word (m := ⟨2, 1⟩) (meth := k2m1) (c := k2c1) (by decide +kernel) rfl rfl rfl (by decide +kernel)
set_option maxRecDepth 65536 in
theorem w_c3 : (Jvm.Cond.code ({ cls := "java/util/Objects", name := "requireNonNull", desc := "(Ljava/lang/Object;Ljava/lang/String;)Ljava/lang/Object;" } : Jvm.MethodName) jdk_31_method_11_code (2 : Nat) (Option.some (Jvm.ClassFile.FieldType.object "java/lang/Object"))).before args0 about1 = true := code_word (m := ⟨9, 1⟩) (meth := k9m1) (c := k9c1) (by decide +kernel) rfl rfl rfl (by decide +kernel)
set_option maxRecDepth 65536 in
theorem w_c4 : (Jvm.Cond.code ({ cls := "com/example/earnest_key/earnestkey/Outcome", name := "<init>", desc := "([BZ)V" } : Jvm.MethodName) prog_11_method_1_code (3 : Nat) (Option.none : Option Jvm.ClassFile.FieldType)).before args0 about1 = true := code_word (m := ⟨2, 0⟩) (meth := k2m0) (c := k2c0) (by decide +kernel) rfl rfl rfl (by decide +kernel)
set_option maxRecDepth 65536 in
theorem w_c5 : (Jvm.Cond.code ({ cls := "java/lang/Object", name := "<init>", desc := "()V" } : Jvm.MethodName) object_method_1_code (1 : Nat) (Option.none : Option Jvm.ClassFile.FieldType)).before args0 about1 = true := code_word (m := ⟨0, 0⟩) (meth := k0m0) (c := k0c0) (by decide +kernel) rfl rfl rfl (by decide +kernel)
set_option maxRecDepth 65536 in
theorem w_c6 : (Jvm.Cond.code ({ cls := "com/example/earnest_key/earnestkey/OutcomeFailurePinLaw", name := "bump", desc := "([BI)V" } : Jvm.MethodName) method_4_code (2 : Nat) (Option.none : Option Jvm.ClassFile.FieldType)).before args0 about1 = true := code_word (m := ⟨1, 3⟩) (meth := k1m3) (c := k1c3) (by decide +kernel) rfl rfl rfl (by decide +kernel)
set_option maxRecDepth 65536 in
theorem w_c7 : (Jvm.Cond.code ({ cls := "com/example/earnest_key/earnestkey/Outcome", name := "bytes", desc := "()[B" } : Jvm.MethodName) prog_11_method_5_code (1 : Nat) (Option.some (Jvm.ClassFile.FieldType.array Jvm.ClassFile.FieldType.byte))).before args0 about1 = true := code_word (m := ⟨2, 2⟩) (meth := k2m2) (c := k2c2) (by decide +kernel) rfl rfl rfl (by decide +kernel)
set_option maxRecDepth 65536 in
theorem w_c8 : (Jvm.Cond.code ({ cls := "com/example/earnest_key/earnestkey/OutcomeFailurePinLaw", name := "at", desc := "([BII)Z" } : Jvm.MethodName) method_5_code (3 : Nat) (Option.some Jvm.ClassFile.FieldType.boolean)).before args0 about1 = true := code_word (m := ⟨1, 4⟩) (meth := k1m4) (c := k1c4) (by decide +kernel) rfl rfl rfl (by decide +kernel)
set_option maxRecDepth 65536 in
theorem w_c9 : (Jvm.Cond.code ({ cls := "com/example/earnest_key/earnestkey/Outcome", name := "isFailure", desc := "()Z" } : Jvm.MethodName) prog_11_method_6_code (1 : Nat) (Option.some Jvm.ClassFile.FieldType.boolean)).before args0 about1 = true := code_word (m := ⟨2, 3⟩) (meth := k2m3) (c := k2c3) (by decide +kernel) rfl rfl rfl (by decide +kernel)
set_option maxRecDepth 65536 in
theorem w_c10 : (Jvm.Cond.code ({ cls := "com/example/earnest_key/earnestkey/Outcome", name := "state", desc := "()Lcom/example/earnest_key/earnestkey/RecordState;" } : Jvm.MethodName) prog_11_method_7_code (1 : Nat) (Option.some (Jvm.ClassFile.FieldType.object "com/example/earnest_key/earnestkey/RecordState"))).before args0 about1 = true := code_word (m := ⟨2, 4⟩) (meth := k2m4) (c := k2c4) (by decide +kernel) rfl rfl rfl (by decide +kernel)
def codes1 : List Jvm.Cond := [Jvm.Cond.code x code maxLocals ret, Jvm.Cond.code ({ cls := "com/example/earnest_key/earnestkey/OutcomeFailurePinLaw", name := "set", desc := "([BII)V" } : Jvm.MethodName) method_3_code (3 : Nat) (Option.none : Option Jvm.ClassFile.FieldType), Jvm.Cond.code ({ cls := "com/example/earnest_key/earnestkey/Outcome", name := "failure", desc := "([B)Lcom/example/earnest_key/earnestkey/Outcome;" } : Jvm.MethodName) prog_11_method_3_code (1 : Nat) (Option.some (Jvm.ClassFile.FieldType.object "com/example/earnest_key/earnestkey/Outcome")), Jvm.Cond.code ({ cls := "java/util/Objects", name := "requireNonNull", desc := "(Ljava/lang/Object;Ljava/lang/String;)Ljava/lang/Object;" } : Jvm.MethodName) jdk_31_method_11_code (2 : Nat) (Option.some (Jvm.ClassFile.FieldType.object "java/lang/Object")), Jvm.Cond.code ({ cls := "com/example/earnest_key/earnestkey/Outcome", name := "<init>", desc := "([BZ)V" } : Jvm.MethodName) prog_11_method_1_code (3 : Nat) (Option.none : Option Jvm.ClassFile.FieldType), Jvm.Cond.code ({ cls := "java/lang/Object", name := "<init>", desc := "()V" } : Jvm.MethodName) object_method_1_code (1 : Nat) (Option.none : Option Jvm.ClassFile.FieldType), Jvm.Cond.code ({ cls := "com/example/earnest_key/earnestkey/OutcomeFailurePinLaw", name := "bump", desc := "([BI)V" } : Jvm.MethodName) method_4_code (2 : Nat) (Option.none : Option Jvm.ClassFile.FieldType), Jvm.Cond.code ({ cls := "com/example/earnest_key/earnestkey/Outcome", name := "bytes", desc := "()[B" } : Jvm.MethodName) prog_11_method_5_code (1 : Nat) (Option.some (Jvm.ClassFile.FieldType.array Jvm.ClassFile.FieldType.byte)), Jvm.Cond.code ({ cls := "com/example/earnest_key/earnestkey/OutcomeFailurePinLaw", name := "at", desc := "([BII)Z" } : Jvm.MethodName) method_5_code (3 : Nat) (Option.some Jvm.ClassFile.FieldType.boolean), Jvm.Cond.code ({ cls := "com/example/earnest_key/earnestkey/Outcome", name := "isFailure", desc := "()Z" } : Jvm.MethodName) prog_11_method_6_code (1 : Nat) (Option.some Jvm.ClassFile.FieldType.boolean), Jvm.Cond.code ({ cls := "com/example/earnest_key/earnestkey/Outcome", name := "state", desc := "()Lcom/example/earnest_key/earnestkey/RecordState;" } : Jvm.MethodName) prog_11_method_7_code (1 : Nat) (Option.some (Jvm.ClassFile.FieldType.object "com/example/earnest_key/earnestkey/RecordState"))]
set_option maxRecDepth 65536 in
theorem codes_eq : words1.filter isCode = codes1 := rfl
theorem w_codes : ∀ c ∈ words1.filter isCode, c.before args0 about1 = true := by
  rw [codes_eq]
  intro c hc
  simp only [codes1, List.mem_cons, List.not_mem_nil, or_false] at hc
  rcases hc with rfl | rfl | rfl | rfl | rfl | rfl | rfl | rfl | rfl | rfl | rfl
  · exact w_c0
  · exact w_c1
  · exact w_c2
  · exact w_c3
  · exact w_c4
  · exact w_c5
  · exact w_c6
  · exact w_c7
  · exact w_c8
  · exact w_c9
  · exact w_c10
set_option maxRecDepth 65536 in
theorem w_t1 : (words1.take 24).all (fun c => isCode c || c.before args0 about1) = true := by decide +kernel
set_option maxRecDepth 65536 in
theorem w_t2 : ((words1.drop 24).take 24).all (fun c => isCode c || c.before args0 about1) = true := by decide +kernel
set_option maxRecDepth 65536 in
theorem w_t3 : ((words1.drop 24).drop 24).all (fun c => isCode c || c.before args0 about1) = true := by decide +kernel
theorem w_tables : (allAtoms (Jvm.Cond.code x code maxLocals ret :: tables_1)).before args0 about1 = true := by
  rw [allAtoms_all]
  show words1.all (fun c => c.before args0 about1) = true
  refine all_split ?_ w_codes
  rw [← List.take_append_drop 24 words1, List.all_append, w_t1, ← List.take_append_drop 24 (words1.drop 24), List.all_append, w_t2, w_t3]
  rfl
set_option maxRecDepth 65536 in
theorem w_case : (Jvm.Cond.and given_1 narrow_1).before args0 about1 = true := by decide +kernel
theorem w_applies : (headSpec (Jvm.Cond.code x code maxLocals ret :: tables_1) room_1).applies x e0.platform about1 = true :=
  (Spec.applies_iff w_frames).mpr ⟨w_running, w_runnable, w_alone, w_named, w_hears, w_ripe, w_room, w_tables⟩
theorem atStart : AtStart classFile x code maxLocals ret World_1 tables_1 room_1 Calls_1 rest_1 Pre_1 launch0 p0 e0 about1 theMethod args0 below0 :=
  ⟨lists_1, trivial, launch0.admits_env _ _ _, launch0.least_env, fairChoices_fair.cas, fairChoices_fair.clock, w_frames, w_args, w_heap, w_applies, trivial, trivial, w_case⟩
end start1
theorem witness_1 : WitnessClaimed_1 := ⟨start1.p0, start1.e0, start1.about1, start1.theMethod, start1.args0, start1.below0, start1.atStart⟩
end Jvm.Pilot.@@N@@
