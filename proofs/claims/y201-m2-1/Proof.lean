import JvmDerived
import JvmDerived.Pilot.@@N@@Statement
import JvmDerived.Pilot.@@N@@Code
set_option linter.unusedVariables false
set_option linter.unusedSimpArgs false
namespace Jvm.Pilot.@@N@@
open Jvm Jvm.ClassFile Sem Op Lib Jvm.Free Jvm.Stand Jvm.LawKit Jvm.RoadKit Bundle Jvm.Pilot.@@N@@.Jvm.D
/-! ### how a walk is told: 'own_Go' says that from here the body comes to its end, and what holds there -/
section OwnKit
variable {p : Program} {l : Launch} {e : Env} {R : Room} {s : State} {m : MethodId} {args : Array Value} {below : List Frame} {meth : Method} {c : Code} {T T' : State} {locs : List Loc} {cells slots kc ks : Nat} {F : Option Value → State → Prop} {Q : Option Value → Heap → List Loc → Prop} {g g' : JFrame} {Z : State} {a0 : Array Value} {h0 : Heap}
def own_Go (p : Program) (e : Env) (below : List Frame) (F : Option Value → State → Prop) (T : State) (g : JFrame) : Prop :=
  ∃ U v, Steps p.tables e below (T.setTop g) U ∧ U.status = .running ∧ Ended U below (.returned v) ∧ F v U
def own_N (s : State) (kc ks : Nat) (Q : Option Value → Heap → List Loc → Prop) : Option Value → State → Prop := fun v U => ∃ L, Q v U.heap L ∧ FrameEnd s (.returned v) U L kc ks
def own_W (s : State) (kc ks : Nat) (Q : Option Value → Heap → List Loc → Prop) : Option Value → State → Prop := fun v U => ∃ L, Q v U.heap L ∧ ReturnedEndW s (.returned v) U L kc ks
theorem own_st (h : ∀ t, Steps p.tables e below (T'.setTop g') t → Steps p.tables e below (T.setTop g) t) (G : own_Go p e below F T' g') : own_Go p e below F T g := by
  obtain ⟨U, v, h1, r⟩ := G
  exact ⟨U, v, h _ h1, r⟩
theorem own_ret (X : Stand p l e R s m args below meth c T locs cells slots) (hx : p.tables.exec = Jvm.exec) (hlk : meth.locks = false) {pc : Nat} {Ls : Array Slot} {w : Value} {t : FieldType} {i : Instr} {rest : List Value} (hret : meth.sig.returnType = some t) (hn : narrow t w = w)
    (hi : (i = .ireturn ∧ (t = .int ∨ t = .boolean ∨ t = .byte ∨ t = .char ∨ t = .short) ∧ ∃ z, w = .int z) ∨ (i = .lreturn ∧ t = .long ∧ ∃ z, w = .long z) ∨ (i = .dreturn ∧ t = .double ∧ ∃ z, w = .double z) ∨ (i = .freturn ∧ t = .float ∧ ∃ z, w = .float z) ∨ (i = .areturn ∧ t.isReference = true ∧ w.isRef = true))
    (hd : decode c.code pc = .ok (i, 1)) (hc : cells ≤ kc) (hs : slots ≤ ks) (q : Q (some w) T.heap locs) : own_Go p e below (own_N s kc ks Q) T (mkF m pc Ls (w :: rest)) := by
  obtain ⟨fs, hr, hrun, hended, hW, hsame⟩ := X.leave (v := some w) (fun h => by rw [hret] at h; cases h) hlk
  exact ⟨_, _, retOut X hx hret hn hi hd hr, hrun, hended, _, q, ⟨_, rfl⟩, hW, hsame.mono hc hs⟩
theorem own_retV (X : Stand p l e R s m args below meth c T locs cells slots) (hx : p.tables.exec = Jvm.exec) (hlk : meth.locks = false) {pc : Nat} {Ls : Array Slot} (hret : meth.sig.returnType = none) (hd : decode c.code pc = .ok (.return_, 1)) (hc : cells ≤ kc) (hs : slots ≤ ks) (q : Q none T.heap locs) : own_Go p e below (own_N s kc ks Q) T (mkF m pc Ls []) := by
  obtain ⟨fs, hr, hrun, hended, hW, hsame⟩ := X.leave (v := none) (fun _ => rfl) hlk
  exact ⟨_, _, X.returnOut hx hret hd hr, hrun, hended, _, q, ⟨_, rfl⟩, hW, hsame.mono hc hs⟩
theorem own_he {h h' : Heap} {a : Addr} {c : Cell} (e : h' = h) (q : h[a]? = some c) : h'[a]? = some c := by rw [e]; exact q
theorem own_cat1 {w : Value} (h : w.isRef = true) : w.category = 1 := by
  rcases ref_cases h with rfl | ⟨a, rfl⟩ <;> rfl
/-- what a body does, begun at the heap h0 with these arguments -/
def own_Met (l : Launch) (Z : State) (h0 : Heap) (ws : List Jvm.Cond) (rm : Room) (y : MethodName) (bytes : ByteArray) (maxL : Nat) (ret : Option FieldType) (as' : Array Value) (Q : Option Value → Heap → List Loc → Prop) : Prop :=
  MetFree l y (head1 (Jvm.Cond.code y bytes maxL ret :: ws) rm) (fun a U => a = as' ∧ Z.Warmed39 U.vm ∧ U.heap = h0) (fun _ _ _ _ _ => True) (fun _ U o U' => ∃ v L, o = .returned v ∧ Q v U'.heap L ∧ FrameEnd U o U' L rm.cells rm.slots)
/-- it returns w and writes nothing -/
def own_Pure (l : Launch) (Z : State) (h0 : Heap) (ws : List Jvm.Cond) (rm : Room) (y : MethodName) (bytes : ByteArray) (maxL : Nat) (ret : Option FieldType) (as' : Array Value) (w : Option Value) : Prop :=
  own_Met l Z h0 ws rm y bytes maxL ret as' (fun v h L => v = w ∧ L = [] ∧ h = h0)
theorem own_body {ws : List Jvm.Cond} {rm : Room} {y : MethodName} {bytes : ByteArray} {maxL : Nat} {ret : Option FieldType} {as' : Array Value} (hpl : plainFor y = true)
    (H : ∀ (p : Program) (e : Env) (s : State) (m : MethodId) (below : List Frame) (meth : Method) (c : Code) (T : State), Stand p l e rm s m as' below meth c T [] 0 0 → p.tables.exec = Jvm.exec → c.code = bytes → c.maxLocals = maxL → s.vm.findClass y.cls = some m.cls → Z.Warmed39 s.vm → T.heap = h0 → meth.sig.returnType = ret → meth.locks = false → meth.name = y.name → s.methodNamed? y = some m →
      own_Go p e below (own_N s rm.cells rm.slots Q) T (entryFrame m as' maxL)) : own_Met l Z h0 ws rm y bytes maxL ret as' Q := by
  refine MetFree.of_bodySF hpl hisR ?_
  intro p e s m args below meth c s₁ Bd hml0 hP hK
  obtain ⟨rfl, hZ, hh⟩ := hP
  obtain ⟨U, v, h1, h2, h3, L, h4, h5⟩ := H p e s m below meth c s₁ (Stand.of_body Bd) Bd.exec Bd.bytes hml0 (findClass_of_methodNamed Bd.named) hZ (by rw [← hh, Bd.state]; rfl) Bd.returns Bd.notSynchronized (name_of_methodNamed Bd.named Bd.method).1 Bd.named
  exact ⟨U, _, h1, h2, h3, v, L, rfl, h4, h5⟩
theorem own_gS {rm : Room} {y : MethodName} {bytes : ByteArray} {maxL W index : Nat} {ret : Option FieldType} {own : String} {argsL rest : List Value} (X : Stand p l e R s m args below meth c T locs cells slots) (hx : p.tables.exec = Jvm.exec) (hZ : Z.Warmed39 s.vm) (hown : s.vm.findClass own = some m.cls)
    (w1 : (Jvm.Cond.methodLink own index y).before a0 Z = true) (w2 : (Jvm.Cond.static y).before a0 Z = true) (w3 : (Jvm.Cond.initialized y.cls).before a0 Z = true) (w4 : (Jvm.Cond.code y bytes maxL ret).before a0 Z = true) (hy : y.cls ≠ "java/lang/invoke/MethodHandle" ∧ y.cls ≠ "java/lang/invoke/VarHandle") (eT : T.heap = h0)
    (hM : own_Met l Z h0 [] rm y bytes maxL ret argsL.toArray Q) (hf : rm.frames + 1 ≤ R.frames) (hl : W + (maxL + 11) + rm.locals ≤ R.locals) (hc1 : cells + rm.cells ≤ R.cells) (hs1 : slots + rm.slots ≤ R.slots)
    (hg : g.method = m) (hsize : g.locals.size = c.maxLocals) (hlen : ∀ sig, parseMethodDescriptor y.desc = some sig → argsL.length = sig.parameters.length) (hstack : g.stack = argsL.reverse ++ rest) (hW : 2 * g.monitorRoom + (rest.map fun v => v.category).sum ≤ W) (hdg : decode c.code g.pc = .ok (.invokestatic index, 3)) :
    ∃ (v : Option Value) (T' : State) (L : List Loc), Stand p l e R s m args below meth c T' (locs ++ L) (cells + rm.cells) (slots + rm.slots) ∧ Q v T'.heap L ∧ ∀ target, Steps p.tables e below (T'.setTop { g with pc := g.pc + 3, stack := v.toList ++ rest }) target → Steps p.tables e below (T.setTop g) target := by
  obtain ⟨v, _, ⟨T1, L1, k1, n1⟩, -, X1, ⟨Lc, hq, l1, y1, z1⟩, st⟩ := Jvm.LawKit.callS X hx (y := y) hown (mvT hZ w1) (mvT hZ w2) (mvT hZ w3) (mvT hZ w4) hy (backOf (W := W) (Q := Q) hM hZ w4 w3 hf hl) (g := g) hg hsize (argsL := argsL) (rest := rest) hlen hstack hW hdg (fun _ _ => ⟨rfl, eT, hc1, hs1⟩)
  dsimp only [Pt.U, Pt.locs, Pt.cells, Pt.slots] at X1 l1 y1 z1 st hq
  subst l1 y1 z1
  exact ⟨v, T1, Lc, X1, hq, st⟩
theorem own_gV {rm : Room} {y z : MethodName} {bytes : ByteArray} {maxL W index : Nat} {ret : Option FieldType} {own C : String} {argsL rest : List Value} {b : Addr} (X : Stand p l e R s m args below meth c T locs cells slots) (hx : p.tables.exec = Jvm.exec) (hZ : Z.Warmed39 s.vm) (hown : s.vm.findClass own = some m.cls)
    (w1 : (Jvm.Cond.methodLink own index y).before a0 Z = true) (w2 : (Jvm.Cond.declares y).before a0 Z = true) (hnf : NotFace s y) (w5 : (Jvm.Cond.selects C y z).before a0 Z = true) (w6 : (Jvm.Cond.instanceMethod z).before a0 Z = true) (w3 : (Jvm.Cond.initialized z.cls).before a0 Z = true) (w4 : (Jvm.Cond.code z bytes maxL ret).before a0 Z = true) (hy : y.cls ≠ "java/lang/invoke/MethodHandle" ∧ y.cls ≠ "java/lang/invoke/VarHandle") (eT : T.heap = h0) (E : Exa Z h0 b C)
    (hM : own_Met l Z h0 [] rm z bytes maxL ret (.ref b :: argsL).toArray Q) (hf : rm.frames + 1 ≤ R.frames) (hl : W + (maxL + 11) + rm.locals ≤ R.locals) (hc1 : cells + rm.cells ≤ R.cells) (hs1 : slots + rm.slots ≤ R.slots)
    (hg : g.method = m) (hsize : g.locals.size = c.maxLocals) (hlen : ∀ sig, parseMethodDescriptor y.desc = some sig → argsL.length = sig.parameters.length) (hstack : g.stack = argsL.reverse ++ .ref b :: rest) (hW : 2 * g.monitorRoom + (rest.map fun v => v.category).sum ≤ W) (hdg : decode c.code g.pc = .ok (.invokevirtual index, 3)) :
    ∃ (v : Option Value) (T' : State) (L : List Loc), Stand p l e R s m args below meth c T' (locs ++ L) (cells + rm.cells) (slots + rm.slots) ∧ Q v T'.heap L ∧ ∀ target, Steps p.tables e below (T'.setTop { g with pc := g.pc + 3, stack := v.toList ++ rest }) target → Steps p.tables e below (T.setTop g) target := by
  obtain ⟨cq, kq, qa, qb, qc⟩ := isOf hZ eT E
  obtain ⟨v, _, ⟨T1, L1, k1, n1⟩, -, X1, ⟨Lc, hq, l1, y1, z1⟩, st⟩ := X.virtualBack hx (y := y) (z := z) hown (mvT hZ w1) (mvT hZ w2) hnf (mvT hZ w5) (mvT hZ w6) hy (backOf (W := W) (Q := Q) hM hZ w4 w3 hf hl) qa qc (g := g) hg hsize (Steps.refl _) (argsL := argsL) (rest := rest) hlen hstack hW hdg (fun _ _ => ⟨rfl, eT, hc1, hs1⟩)
  dsimp only [Pt.U, Pt.locs, Pt.cells, Pt.slots] at X1 l1 y1 z1 st hq
  subst l1 y1 z1
  exact ⟨v, T1, Lc, X1, hq, fun _ k => st.trans k⟩
theorem own_gVU {rm : Room} {y z : MethodName} {owner : String} {bytes : ByteArray} {maxL W index : Nat} {ret : Option FieldType} {own C : String} {argsL rest : List Value} {b : Addr} (X : Stand p l e R s m args below meth c T locs cells slots) (hx : p.tables.exec = Jvm.exec) (hZ : Z.Warmed39 s.vm) (hown : s.vm.findClass own = some m.cls)
    (w1 : (Jvm.Cond.methodLink own index y).before a0 Z = true) (wsm : (Jvm.Cond.sameMethod y.cls owner y.name y.desc).before a0 Z = true) (w2 : (Jvm.Cond.declares ⟨owner, y.name, y.desc⟩).before a0 Z = true) (ho : owner ≠ "java/lang/invoke/MethodHandle" ∧ owner ≠ "java/lang/invoke/VarHandle") (w5 : (Jvm.Cond.selects C y z).before a0 Z = true) (w6 : (Jvm.Cond.instanceMethod z).before a0 Z = true) (w3 : (Jvm.Cond.initialized z.cls).before a0 Z = true) (w4 : (Jvm.Cond.code z bytes maxL ret).before a0 Z = true) (eT : T.heap = h0) (E : Exa Z h0 b C)
    (hM : own_Met l Z h0 [] rm z bytes maxL ret (.ref b :: argsL).toArray Q) (hf : rm.frames + 1 ≤ R.frames) (hl : W + (maxL + 11) + rm.locals ≤ R.locals) (hc1 : cells + rm.cells ≤ R.cells) (hs1 : slots + rm.slots ≤ R.slots)
    (hg : g.method = m) (hsize : g.locals.size = c.maxLocals) (hlen : ∀ sig, parseMethodDescriptor y.desc = some sig → argsL.length = sig.parameters.length) (hstack : g.stack = argsL.reverse ++ .ref b :: rest) (hW : 2 * g.monitorRoom + (rest.map fun v => v.category).sum ≤ W) (hdg : decode c.code g.pc = .ok (.invokevirtual index, 3)) :
    ∃ (v : Option Value) (T' : State) (L : List Loc), Stand p l e R s m args below meth c T' (locs ++ L) (cells + rm.cells) (slots + rm.slots) ∧ Q v T'.heap L ∧ ∀ target, Steps p.tables e below (T'.setTop { g with pc := g.pc + 3, stack := v.toList ++ rest }) target → Steps p.tables e below (T.setTop g) target := by
  obtain ⟨cq, kq, qa, qb, qc⟩ := isOf hZ eT E
  obtain ⟨v, _, ⟨T1, L1, k1, n1⟩, -, X1, ⟨Lc, hq, l1, y1, z1⟩, st⟩ := X.virtualBackUp hx (x := y) (y := z) (owner := owner) hown (mvT hZ w1) (mvT hZ wsm) (mvT hZ w2) ho (mvT hZ w5) (mvT hZ w6) (backOf (W := W) (Q := Q) hM hZ w4 w3 hf hl) qa qc (g := g) hg hsize (Steps.refl _) (argsL := argsL) (rest := rest) hlen hstack hW hdg (fun _ _ => ⟨rfl, eT, hc1, hs1⟩)
  dsimp only [Pt.U, Pt.locs, Pt.cells, Pt.slots] at X1 l1 y1 z1 st hq
  subst l1 y1 z1
  exact ⟨v, T1, Lc, X1, hq, fun _ k => st.trans k⟩
/-- behind a call that writes nothing -/
theorem own_pure {w : Value} {rm : Room} {rest : List Value} (hc0 : rm.cells = 0) (hs0 : rm.slots = 0)
    (H : ∃ (v : Option Value) (T' : State) (L : List Loc), Stand p l e R s m args below meth c T' (locs ++ L) (cells + rm.cells) (slots + rm.slots) ∧ (v = some w ∧ L = [] ∧ T'.heap = h0) ∧ ∀ target, Steps p.tables e below (T'.setTop { g with pc := g.pc + 3, stack := v.toList ++ rest }) target → Steps p.tables e below (T.setTop g) target) :
    ∃ T', Stand p l e R s m args below meth c T' locs cells slots ∧ T'.heap = h0 ∧ ∀ target, Steps p.tables e below (T'.setTop { g with pc := g.pc + 3, stack := w :: rest }) target → Steps p.tables e below (T.setTop g) target := by
  obtain ⟨_, T', _, X', ⟨rfl, rfl, hh⟩, st⟩ := H
  rw [hc0, hs0, List.append_nil] at X'
  exact ⟨T', X', hh, st⟩
/-- what the case says of statics and fields, as facts of the start -/
theorem own_sx {C n d K : String} (h : (Jvm.Cond.exactly (Term.static C n d) K).value args s none s [] = some true) (wi : (Jvm.Cond.initialized C).before args s = true) (wl : (Jvm.Cond.laysStatic C n d).before args s = true) :
    ∃ a, (Term.static C n d).eval args s none [] s = some (.ref a) ∧ Exa s s.heap a K ∧ Sta s s.heap C n d (.ref a) := by
  obtain ⟨a, ev⟩ := exa_v h
  exact ⟨a, ev, Exa.start ev h, Sta.start ev (Or.inr ⟨wi, wl⟩)⟩
theorem own_fi {t : Term} {a : Addr} {C n d : String} {k : Int32} (ev : t.eval args s none [] s = some (.ref a)) (h : (Jvm.Cond.eq (Term.field t C n d) (Term.int k)).value args s none s [] = some true) : Fld s s.heap a C n d (.int k) := by
  have q := eqv_i (Term.int_eval k) h
  rw [fld_at ev] at q
  exact Fld.start q
theorem own_fn {t : Term} {a : Addr} {C n d : String} (ev : t.eval args s none [] s = some (.ref a)) (h : (Jvm.Cond.eq (Term.field t C n d) Term.null).value args s none s [] = some true) : Fld s s.heap a C n d .null := by
  have q := null_v h
  rw [fld_at ev] at q
  exact Fld.start q
theorem own_fx {t : Term} {a : Addr} {C n d K : String} (ev : t.eval args s none [] s = some (.ref a)) (h : (Jvm.Cond.exactly (Term.field t C n d) K).value args s none s [] = some true) : ∃ b, Fld s s.heap a C n d (.ref b) ∧ Exa s s.heap b K := by
  obtain ⟨b, q⟩ := exa_v h
  have E := Exa.start q h
  rw [fld_at ev] at q
  exact ⟨b, Fld.start q, E⟩
theorem own_eqr {t u : Term} {b : Addr} (eu : u.eval args s none [] s = some (.ref b)) (h : (Jvm.Cond.eq t u).value args s none s [] = some true) : t.eval args s none [] s = some (.ref b) := by
  obtain ⟨x, y, h1, h2, -⟩ := cmp_v (Or.inl h)
  rw [eu] at h2
  cases h2
  simp only [Cond.value, h1, eu] at h
  cases x <;> simp_all
theorem own_fs {t u : Term} {a b : Addr} {C n d : String} (ev : t.eval args s none [] s = some (.ref a)) (eu : u.eval args s none [] s = some (.ref b)) (h : (Jvm.Cond.eq (Term.field t C n d) u).value args s none s [] = some true) : Fld s s.heap a C n d (.ref b) := by
  have q := own_eqr eu h
  rw [fld_at ev] at q
  exact Fld.start q
theorem own_ax {C n d : String} {ty : FieldType} (h : (Jvm.Cond.arrayOf (Term.static C n d) ty).value args s none s [] = some true) (wi : (Jvm.Cond.initialized C).before args s = true) (wl : (Jvm.Cond.laysStatic C n d).before args s = true) :
    ∃ b cl, (Term.static C n d).eval args s none [] s = some (.ref b) ∧ Arr s s.heap b cl ty ∧ Sta s s.heap C n d (.ref b) := by
  obtain ⟨b, ev⟩ := arr_v h
  obtain ⟨cl, A⟩ := Arr.start ev h
  exact ⟨b, cl, ev, A, Sta.start ev (Or.inr ⟨wi, wl⟩)⟩
theorem own_len {t : Term} {b : Addr} {cl : Cell} {ty : FieldType} {k : Int32} (ev : t.eval args s none [] s = some (.ref b)) (A : Arr s s.heap b cl ty) (h : (Jvm.Cond.eq (Term.length t) (Term.int k)).value args s none s [] = some true) : cl.slots.size = k.toNatClampNeg := by
  have q := eqv_i (Term.int_eval k) h
  have ha : s.arrayAt? b = some cl := A.fin (Vm.Alike.refl _)
  by_cases hl : cl.slots.size < 2 ^ 31
  · rw [len_f ev ha hl] at q
    have e : cl.slots.size.toInt32 = k := Value.int.inj (Option.some.inj q)
    have e1 := len_toInt hl
    rw [← e]
    simp only [Int32.toNatClampNeg, e1]
    rfl
  · simp [Term.eval, ev, ha, hl] at q
theorem own_elr {t u : Term} {b x : Addr} {cl : Cell} {ty : FieldType} {k : Int32} (ev : t.eval args s none [] s = some (.ref b)) (A : Arr s s.heap b cl ty) (eu : u.eval args s none [] s = some (.ref x)) (h : (Jvm.Cond.eq (Term.elem t (Term.int k)) u).value args s none s [] = some true) : cl.slots[k.toNatClampNeg]? = some (.ref x) :=
  (elem_in (own_eqr eu h) ev (Term.int_eval k) A.1).2
theorem own_eln {t : Term} {b : Addr} {cl : Cell} {ty : FieldType} {k : Int32} (ev : t.eval args s none [] s = some (.ref b)) (A : Arr s s.heap b cl ty) (h : (Jvm.Cond.eq (Term.elem t (Term.int k)) Term.null).value args s none s [] = some true) : cl.slots[k.toNatClampNeg]? = some .null :=
  (elem_in (null_v h) ev (Term.int_eval k) A.1).2
theorem own_eli {t : Term} {b : Addr} {cl : Cell} {ty : FieldType} {k v : Int32} (ev : t.eval args s none [] s = some (.ref b)) (A : Arr s s.heap b cl ty) (h : (Jvm.Cond.eq (Term.elem t (Term.int k)) (Term.int v)).value args s none s [] = some true) : cl.slots[k.toNatClampNeg]? = some (.int v) :=
  (elem_in (eqv_i (Term.int_eval v) h) ev (Term.int_eval k) A.1).2
theorem own_args1 {k : Nat} (h : (Jvm.Cond.and (Jvm.Cond.count 1) (Jvm.Cond.isInt (Term.arg 0))).value args s none s [] = some true) : ∃ a : Int32, args = #[.int a] := by
  obtain ⟨h1, h2⟩ := and_e h
  have hs : args.size = 1 := by simpa [Cond.value] using h1
  obtain ⟨L⟩ := args
  match L, hs with
  | [w0], _ =>
    obtain ⟨i, e0⟩ := is_v h2
    obtain rfl : w0 = (.int i) := Option.some.inj e0
    exact ⟨i, rfl⟩
theorem own_args2 {k : Nat} (h : (Jvm.Cond.and (Jvm.Cond.count 2) (Jvm.Cond.and (Jvm.Cond.isInt (Term.arg 0)) (Jvm.Cond.isInt (Term.arg 1)))).value args s none s [] = some true) : ∃ a b : Int32, args = #[.int a, .int b] := by
  obtain ⟨h1, h2⟩ := and_e h
  obtain ⟨h2, h3⟩ := and_e h2
  have hs : args.size = 2 := by simpa [Cond.value] using h1
  obtain ⟨L⟩ := args
  match L, hs with
  | [w0, w1], _ =>
    obtain ⟨i, e0⟩ := is_v h2
    obtain ⟨j, e1⟩ := is_v h3
    obtain rfl : w0 = (.int i) := Option.some.inj e0
    obtain rfl : w1 = (.int j) := Option.some.inj e1
    exact ⟨i, j, rfl⟩
theorem own_weaken {ws : List Jvm.Cond} {rm : Room} {y : MethodName} {bytes : ByteArray} {maxL : Nat} {ret : Option FieldType} {as' : Array Value} {w : Value} {n0 : Nat} (M : own_Pure l Z h0 ws rm y bytes maxL ret as' (some w)) : own_Met l Z h0 ws rm y bytes maxL ret as' (fun v h L => v = some w ∧ Fr n0 L) := by
  intro p e ha hc hk s m args below hf happ hP hK
  obtain ⟨n, o, h1, h2, h3, v, L, h4, ⟨h5, h6, h7⟩, h8⟩ := M p e ha hc hk s m args below hf happ hP hK
  exact ⟨n, o, h1, h2, h3, v, L, h4, ⟨h5, by rw [h6]; exact Fr.nil n0⟩, h8⟩
end OwnKit
section OwnWide
variable {p : Program} {l : Launch} {e : Env} {R : Room} {s : State} {m : MethodId} {args : Array Value} {below : List Frame} {meth : Method} {c : Code} {T T' : State} {locs : List Loc} {cells slots kc ks k0 : Nat} {F : Option Value → State → Prop} {Q : Option Value → Heap → List Loc → Prop} {g g' : JFrame} {Z : State} {a0 : Array Value} {h0 : Heap} {vm0 : Vm}
theorem own_retW (X : Stand p l e R (s.setVm vm0) m args below meth c T locs cells slots) (hx : p.tables.exec = Jvm.exec) (hlk : meth.locks = false) (hS : s.Since vm0 k0) (hk : k0 ≤ T.heap.size) {pc : Nat} {Ls : Array Slot} {w : Value} {t : FieldType} {i : Instr} {rest : List Value} (hret : meth.sig.returnType = some t) (hn : narrow t w = w)
    (hi : (i = .ireturn ∧ (t = .int ∨ t = .boolean ∨ t = .byte ∨ t = .char ∨ t = .short) ∧ ∃ z, w = .int z) ∨ (i = .lreturn ∧ t = .long ∧ ∃ z, w = .long z) ∨ (i = .dreturn ∧ t = .double ∧ ∃ z, w = .double z) ∨ (i = .freturn ∧ t = .float ∧ ∃ z, w = .float z) ∨ (i = .areturn ∧ t.isReference = true ∧ w.isRef = true))
    (hd : decode c.code pc = .ok (i, 1)) (hc : cells ≤ kc) (hs : slots ≤ ks) (q : Q (some w) T.heap locs) : own_Go p e below (own_W s kc ks Q) T (mkF m pc Ls (w :: rest)) := by
  obtain ⟨fs, hr, hrun, hended, h1, h2, h3, h4⟩ := X.leaveW hS hk (v := some w) (fun h => by rw [hret] at h; cases h) hlk
  exact ⟨_, _, retOut X hx hret hn hi hd hr, hrun, hended, _, q, h1, h2, h3, h4.mono hc hs⟩
theorem own_retVW (X : Stand p l e R (s.setVm vm0) m args below meth c T locs cells slots) (hx : p.tables.exec = Jvm.exec) (hlk : meth.locks = false) (hS : s.Since vm0 k0) (hk : k0 ≤ T.heap.size) {pc : Nat} {Ls : Array Slot} (hret : meth.sig.returnType = none) (hd : decode c.code pc = .ok (.return_, 1)) (hc : cells ≤ kc) (hs : slots ≤ ks) (q : Q none T.heap locs) : own_Go p e below (own_W s kc ks Q) T (mkF m pc Ls []) := by
  obtain ⟨fs, hr, hrun, hended, h1, h2, h3, h4⟩ := X.leaveW hS hk (v := none) (fun _ => rfl) hlk
  exact ⟨_, _, X.returnOut hx hret hd hr, hrun, hended, _, q, h1, h2, h3, h4.mono hc hs⟩
def own_MetW (l : Launch) (Z : State) (h0 : Heap) (ws : List Jvm.Cond) (rm : Room) (y : MethodName) (bytes : ByteArray) (maxL : Nat) (ret : Option FieldType) (as' : Array Value) (Q : Option Value → Heap → List Loc → Prop) : Prop :=
  MetFree l y (head1 (Jvm.Cond.code y bytes maxL ret :: ws) rm) (fun a U => a = as' ∧ Z.Warmed39 U.vm ∧ U.heap = h0) (fun _ _ _ _ _ => True) (fun _ U o U' => ∃ v L, o = .returned v ∧ Q v U'.heap L ∧ ReturnedEndW U o U' L rm.cells rm.slots)
theorem own_bodyW {ws : List Jvm.Cond} {rm : Room} {y : MethodName} {bytes : ByteArray} {maxL : Nat} {ret : Option FieldType} {as' : Array Value} (hpl : plainFor y = true)
    (H : ∀ (p : Program) (e : Env) (s : State) (m : MethodId) (below : List Frame) (meth : Method) (c : Code) (T : State) (vm0 : Vm) (k0 : Nat), Stand p l e rm (s.setVm vm0) m as' below meth c T [] 0 0 → s.Since vm0 k0 → k0 ≤ h0.size → p.tables.exec = Jvm.exec → c.code = bytes → c.maxLocals = maxL → (s.setVm vm0).vm.findClass y.cls = some m.cls → Z.Warmed39 (s.setVm vm0).vm → T.heap = h0 → meth.sig.returnType = ret → meth.locks = false → meth.name = y.name → s.methodNamed? y = some m →
      own_Go p e below (own_W s rm.cells rm.slots Q) T (entryFrame m as' maxL)) : own_MetW l Z h0 ws rm y bytes maxL ret as' Q := by
  refine MetFree.of_bodySF hpl hisR ?_
  intro p e s m args below meth c s₁ Bd hml0 hP hK
  obtain ⟨rfl, hZ, hh⟩ := hP
  obtain ⟨U, v, h1, h2, h3, L, h4, h5⟩ := H p e s m below meth c s₁ s.vm 0 (Stand.of_body Bd) ((State.WarmedH.refl s).since 0) (Nat.zero_le _) Bd.exec Bd.bytes hml0 (findClass_of_methodNamed Bd.named) hZ (by rw [← hh, Bd.state]; rfl) Bd.returns Bd.notSynchronized (name_of_methodNamed Bd.named Bd.method).1 Bd.named
  exact ⟨U, _, h1, h2, h3, v, L, rfl, h4, h5⟩
theorem own_gSW {rm : Room} {y : MethodName} {bytes : ByteArray} {maxL W index : Nat} {ret : Option FieldType} {own : String} {argsL rest : List Value} (X : Stand p l e R (s.setVm vm0) m args below meth c T locs cells slots) (hS : s.Since vm0 k0) (hk : k0 ≤ h0.size) (hx : p.tables.exec = Jvm.exec) (hZ : Z.Warmed39 (s.setVm vm0).vm) (hown : (s.setVm vm0).vm.findClass own = some m.cls)
    (w1 : (Jvm.Cond.methodLink own index y).before a0 Z = true) (w2 : (Jvm.Cond.static y).before a0 Z = true) (w3 : (Jvm.Cond.initialized y.cls).before a0 Z = true) (w4 : (Jvm.Cond.code y bytes maxL ret).before a0 Z = true) (hy : y.cls ≠ "java/lang/invoke/MethodHandle" ∧ y.cls ≠ "java/lang/invoke/VarHandle") (eT : T.heap = h0)
    (hM : own_MetW l Z h0 [] rm y bytes maxL ret argsL.toArray Q) (hf : rm.frames + 1 ≤ R.frames) (hl : W + (maxL + 11) + rm.locals ≤ R.locals) (hc1 : cells + rm.cells ≤ R.cells) (hs1 : slots + rm.slots ≤ R.slots)
    (hg : g.method = m) (hsize : g.locals.size = c.maxLocals) (hlen : ∀ sig, parseMethodDescriptor y.desc = some sig → argsL.length = sig.parameters.length) (hstack : g.stack = argsL.reverse ++ rest) (hW : 2 * g.monitorRoom + (rest.map fun v => v.category).sum ≤ W) (hdg : decode c.code g.pc = .ok (.invokestatic index, 3)) :
    ∃ (v : Option Value) (T' : State) (L : List Loc) (k1 : Nat), Stand p l e R (s.setVm T'.vm) m args below meth c T' (locs ++ L) (cells + rm.cells) (slots + rm.slots) ∧ Q v T'.heap L ∧ s.Since T'.vm k1 ∧ k1 ≤ T'.heap.size ∧ Z.Warmed39 (s.setVm T'.vm).vm ∧ (s.setVm T'.vm).vm.findClass own = some m.cls ∧
      ∀ target, Steps p.tables e below (T'.setTop { g with pc := g.pc + 3, stack := v.toList ++ rest }) target → Steps p.tables e below (T.setTop g) target := by
  obtain ⟨v, _, ⟨T1, L1, n1, n2⟩, -, X1, hS1, hgr, ⟨Lc, hq, l1, y1, z1⟩, st⟩ := callSS X hx (y := y) hown (mvT hZ w1) (mvT hZ w2) (mvT hZ w3) (mvT hZ w4) hy (backOfS (W := W) (Q := Q) hM hZ w4 w3 hf hl) (g := g) hg hsize (argsL := argsL) (rest := rest) hlen hstack hW hdg (fun _ _ => ⟨rfl, eT, hc1, hs1⟩)
  dsimp only [Pt.U, Pt.locs, Pt.cells, Pt.slots] at X1 l1 y1 z1 st hq hS1 hgr
  subst l1 y1 z1
  exact ⟨v, T1, Lc, T1.heap.size, X1, hq, hS.trans hS1 (Nat.le_trans hk (by rw [← eT]; exact hgr)), Nat.le_refl _, State.Warmed39.trans (t := s.setVm vm0) hZ hS1.1, by rw [show (s.setVm T1.vm).vm = T1.vm from rfl, hS1.1.alike.findClass]; exact hown, fun _ k => st.trans k⟩
theorem own_gI {rm : Room} {y : MethodName} {bytes : ByteArray} {maxL W index : Nat} {own : String} {argsL rest : List Value} {b : Addr} (X : Stand p l e R s m args below meth c T locs cells slots) (hx : p.tables.exec = Jvm.exec) (hZ : Z.Warmed39 s.vm) (hy1 : y.name = "<init>") (hown : s.vm.findClass own = some m.cls)
    (w1 : (Jvm.Cond.methodLink own index y).before a0 Z = true) (w2 : (Jvm.Cond.instanceMethod y).before a0 Z = true) (w3 : (Jvm.Cond.initialized y.cls).before a0 Z = true) (w4 : (Jvm.Cond.code y bytes maxL none).before a0 Z = true) (hy : y.cls ≠ "java/lang/invoke/MethodHandle" ∧ y.cls ≠ "java/lang/invoke/VarHandle") (eT : T.heap = h0)
    (hM : own_Met l Z h0 [] rm y bytes maxL none (.ref b :: argsL).toArray Q) (hf : rm.frames + 1 ≤ R.frames) (hl : W + (maxL + 11) + rm.locals ≤ R.locals) (hc1 : cells + rm.cells ≤ R.cells) (hs1 : slots + rm.slots ≤ R.slots)
    (hg : g.method = m) (hsize : g.locals.size = c.maxLocals) (hlen : ∀ sig, parseMethodDescriptor y.desc = some sig → argsL.length = sig.parameters.length) (hstack : g.stack = argsL.reverse ++ .ref b :: rest) (hW : 2 * g.monitorRoom + (rest.map fun v => v.category).sum ≤ W) (hdg : decode c.code g.pc = .ok (.invokespecial index, 3)) :
    ∃ (v : Option Value) (T' : State) (L : List Loc), Stand p l e R s m args below meth c T' (locs ++ L) (cells + rm.cells) (slots + rm.slots) ∧ Q v T'.heap L ∧ ∀ target, Steps p.tables e below (T'.setTop { g with pc := g.pc + 3, stack := v.toList ++ rest }) target → Steps p.tables e below (T.setTop g) target := by
  obtain ⟨v, _, ⟨T1, L1, k1, n1⟩, -, X1, ⟨Lc, hq, l1, y1, z1⟩, st⟩ := X.specialBack hx (y := y) hy1 hown (mvT hZ w1) (mvT hZ w2) (mvT hZ w4) hy (backOf (W := W) (Q := Q) hM hZ w4 w3 hf hl) (g := g) hg hsize (Steps.refl _) (a := b) (argsL := argsL) (rest := rest) hlen hstack hW hdg (fun _ _ => ⟨rfl, eT, hc1, hs1⟩)
  dsimp only [Pt.U, Pt.locs, Pt.cells, Pt.slots] at X1 l1 y1 z1 st hq
  subst l1 y1 z1
  exact ⟨v, T1, Lc, X1, hq, fun _ k => st.trans k⟩
theorem own_gIW {rm : Room} {y : MethodName} {bytes : ByteArray} {maxL W index : Nat} {own : String} {argsL rest : List Value} {b : Addr} (X : Stand p l e R (s.setVm vm0) m args below meth c T locs cells slots) (hS : s.Since vm0 k0) (hk : k0 ≤ h0.size) (hx : p.tables.exec = Jvm.exec) (hZ : Z.Warmed39 (s.setVm vm0).vm) (hy1 : y.name = "<init>") (hown : (s.setVm vm0).vm.findClass own = some m.cls)
    (w1 : (Jvm.Cond.methodLink own index y).before a0 Z = true) (w2 : (Jvm.Cond.instanceMethod y).before a0 Z = true) (w3 : (Jvm.Cond.initialized y.cls).before a0 Z = true) (w4 : (Jvm.Cond.code y bytes maxL none).before a0 Z = true) (hy : y.cls ≠ "java/lang/invoke/MethodHandle" ∧ y.cls ≠ "java/lang/invoke/VarHandle") (eT : T.heap = h0)
    (hM : own_MetW l Z h0 [] rm y bytes maxL none (.ref b :: argsL).toArray Q) (hf : rm.frames + 1 ≤ R.frames) (hl : W + (maxL + 11) + rm.locals ≤ R.locals) (hc1 : cells + rm.cells ≤ R.cells) (hs1 : slots + rm.slots ≤ R.slots)
    (hg : g.method = m) (hsize : g.locals.size = c.maxLocals) (hlen : ∀ sig, parseMethodDescriptor y.desc = some sig → argsL.length = sig.parameters.length) (hstack : g.stack = argsL.reverse ++ .ref b :: rest) (hW : 2 * g.monitorRoom + (rest.map fun v => v.category).sum ≤ W) (hdg : decode c.code g.pc = .ok (.invokespecial index, 3)) :
    ∃ (v : Option Value) (T' : State) (L : List Loc) (k1 : Nat), Stand p l e R (s.setVm T'.vm) m args below meth c T' (locs ++ L) (cells + rm.cells) (slots + rm.slots) ∧ Q v T'.heap L ∧ s.Since T'.vm k1 ∧ k1 ≤ T'.heap.size ∧ Z.Warmed39 (s.setVm T'.vm).vm ∧ (s.setVm T'.vm).vm.findClass own = some m.cls ∧
      ∀ target, Steps p.tables e below (T'.setTop { g with pc := g.pc + 3, stack := v.toList ++ rest }) target → Steps p.tables e below (T.setTop g) target := by
  obtain ⟨v, _, ⟨T1, L1, n1, n2⟩, -, X1, hS1, hgr, ⟨Lc, hq, l1, y1, z1⟩, st⟩ := X.specialBackS hx (y := y) hy1 hown (mvT hZ w1) (mvT hZ w2) (mvT hZ w4) hy (backOfS (W := W) (Q := Q) hM hZ w4 w3 hf hl) (g := g) hg hsize (Steps.refl _) (a := b) (argsL := argsL) (rest := rest) hlen hstack hW hdg (fun _ _ => ⟨rfl, eT, hc1, hs1⟩)
  dsimp only [Pt.U, Pt.locs, Pt.cells, Pt.slots] at X1 l1 y1 z1 st hq hS1 hgr
  subst l1 y1 z1
  exact ⟨v, T1, Lc, T1.heap.size, X1, hq, hS.trans hS1 (Nat.le_trans hk (by rw [← eT]; exact hgr)), Nat.le_refl _, State.Warmed39.trans (t := s.setVm vm0) hZ hS1.1, by rw [show (s.setVm T1.vm).vm = T1.vm from rfl, hS1.1.alike.findClass]; exact hown, fun _ k => st.trans k⟩
theorem own_ext_wr {h h' h1 : Heap} {a : Addr} {sl : Nat} {v : Value} (E : Ext h h1) (W : Wr h1 h' a sl v) (q : h.size ≤ a) : Ext h h' := by
  obtain ⟨cell, c1, -, -, rfl⟩ := W
  refine ⟨by simpa using E.1, fun x c hx => ?_⟩
  have hlt : x < h.size := (Array.getElem?_eq_some_iff.mp hx).1
  have hne : a ≠ x := Nat.ne_of_gt (Nat.lt_of_lt_of_le hlt q)
  rw [Array.getElem?_setIfInBounds_ne hne]
  exact E.2 _ _ hx
theorem own_ext_keep {h h' h1 : Heap} {ws : List Addr} (E : Ext h h1) (K : Keep h1 h' ws) (q : ∀ x ∈ ws, h.size ≤ x) : Ext h h' :=
  ⟨Nat.le_trans E.1 K.1, fun x c hx => K.2.1 x c (E.2 _ _ hx) fun z => absurd (Array.getElem?_eq_some_iff.mp hx).1 (Nat.not_lt.mpr (q x z))⟩
theorem own_ext_tr {h h1 h2 : Heap} (E : Ext h h1) (E' : Ext h1 h2) : Ext h h2 := ⟨Nat.le_trans E.1 E'.1, fun x c hx => E'.2 _ _ (E.2 _ _ hx)⟩
theorem own_ext_rf (h : Heap) : Ext h h := ⟨Nat.le_refl _, fun _ _ q => q⟩
theorem own_fr_mono {n0 k : Nat} {L : List Loc} (h : n0 ≤ k) (N : Fr k L) : Fr n0 L := fun y hy => Nat.le_trans h (N y hy)
theorem own_i8 (x : Int32) : x.toInt8.toInt32.toInt8.toInt32 = x.toInt8.toInt32 := by simp
end OwnWide

theorem own_pn_0 : plainName "java/util/Objects" = true := by first | (simp [plainName, overriddenIn]; done) | decide +kernel
theorem own_pn_1 : plainName "com/example/earnest_key/earnestkey/Outcome" = true := by first | (simp [plainName, overriddenIn]; done) | decide +kernel
theorem own_pn_2 : plainName "com/example/earnest_key/earnestkey/OutcomeSuccessPinLaw" = true := by first | (simp [plainName, overriddenIn]; done) | decide +kernel
theorem own_pd_0 : parseMethodDescriptor "(Ljava/lang/Object;Ljava/lang/String;)Ljava/lang/Object;" = some ⟨[(.object "java/lang/Object"), (.object "java/lang/String")], some (.object "java/lang/Object")⟩ := by decide +kernel
theorem own_pd_1 : parseMethodDescriptor "([BZ)V" = some ⟨[(.array .byte), .boolean], none⟩ := by decide +kernel
theorem own_pd_2 : parseMethodDescriptor "(IBBB)[B" = some ⟨[.int, .byte, .byte, .byte], some (.array .byte)⟩ := by decide +kernel
theorem own_pd_3 : parseMethodDescriptor "([B)Lcom/example/earnest_key/earnestkey/Outcome;" = some ⟨[(.array .byte)], some (.object "com/example/earnest_key/earnestkey/Outcome")⟩ := by decide +kernel
theorem own_pd_4 : parseMethodDescriptor "()[B" = some ⟨[], some (.array .byte)⟩ := by decide +kernel
theorem own_pd_5 : parseMethodDescriptor "()Z" = some ⟨[], some .boolean⟩ := by decide +kernel
theorem own_pd_6 : parseMethodDescriptor "()Lcom/example/earnest_key/earnestkey/RecordState;" = some ⟨[], some (.object "com/example/earnest_key/earnestkey/RecordState")⟩ := by decide +kernel
theorem own_d_jdk_31_method_11_code_0 : decode jdk_31_method_11_code 0 = .ok (.aload_n 0, 1) := by decide +kernel
theorem own_d_jdk_31_method_11_code_1 : decode jdk_31_method_11_code 1 = .ok (.ifnonnull 12, 3) := by decide +kernel
theorem own_d_jdk_31_method_11_code_13 : decode jdk_31_method_11_code 13 = .ok (.aload_n 0, 1) := by decide +kernel
theorem own_d_jdk_31_method_11_code_14 : decode jdk_31_method_11_code 14 = .ok (.areturn, 1) := by decide +kernel
theorem own_d_prog_11_method_1_code_0 : decode prog_11_method_1_code 0 = .ok (.aload_n 0, 1) := by decide +kernel
theorem own_d_prog_11_method_1_code_1 : decode prog_11_method_1_code 1 = .ok (.invokespecial 1, 3) := by decide +kernel
theorem own_d_prog_11_method_1_code_4 : decode prog_11_method_1_code 4 = .ok (.aload_n 0, 1) := by decide +kernel
theorem own_d_prog_11_method_1_code_5 : decode prog_11_method_1_code 5 = .ok (.aload_n 1, 1) := by decide +kernel
theorem own_d_prog_11_method_1_code_6 : decode prog_11_method_1_code 6 = .ok (.putfield 7, 3) := by decide +kernel
theorem own_d_prog_11_method_1_code_9 : decode prog_11_method_1_code 9 = .ok (.aload_n 0, 1) := by decide +kernel
theorem own_d_prog_11_method_1_code_10 : decode prog_11_method_1_code 10 = .ok (.iload_n 2, 1) := by decide +kernel
theorem own_d_prog_11_method_1_code_11 : decode prog_11_method_1_code 11 = .ok (.putfield 13, 3) := by decide +kernel
theorem own_d_prog_11_method_1_code_14 : decode prog_11_method_1_code 14 = .ok (.return_, 1) := by decide +kernel
theorem own_d_prog_11_method_2_code_0 : decode prog_11_method_2_code 0 = .ok (.new 8, 3) := by decide +kernel
theorem own_d_prog_11_method_2_code_3 : decode prog_11_method_2_code 3 = .ok (.dup, 1) := by decide +kernel
theorem own_d_prog_11_method_2_code_4 : decode prog_11_method_2_code 4 = .ok (.aload_n 0, 1) := by decide +kernel
theorem own_d_prog_11_method_2_code_5 : decode prog_11_method_2_code 5 = .ok (.ldc 17, 2) := by decide +kernel
theorem own_d_prog_11_method_2_code_7 : decode prog_11_method_2_code 7 = .ok (.invokestatic 18, 3) := by decide +kernel
theorem own_d_prog_11_method_2_code_10 : decode prog_11_method_2_code 10 = .ok (.checkcast 24, 3) := by decide +kernel
theorem own_d_prog_11_method_2_code_13 : decode prog_11_method_2_code 13 = .ok (.invokevirtual 25, 3) := by decide +kernel
theorem own_d_prog_11_method_2_code_16 : decode prog_11_method_2_code 16 = .ok (.checkcast 24, 3) := by decide +kernel
theorem own_d_prog_11_method_2_code_19 : decode prog_11_method_2_code 19 = .ok (.iconst 0, 1) := by decide +kernel
theorem own_d_prog_11_method_2_code_20 : decode prog_11_method_2_code 20 = .ok (.invokespecial 29, 3) := by decide +kernel
theorem own_d_prog_11_method_2_code_23 : decode prog_11_method_2_code 23 = .ok (.areturn, 1) := by decide +kernel
theorem own_d_prog_11_method_5_code_0 : decode prog_11_method_5_code 0 = .ok (.aload_n 0, 1) := by decide +kernel
theorem own_d_prog_11_method_5_code_1 : decode prog_11_method_5_code 1 = .ok (.getfield 7, 3) := by decide +kernel
theorem own_d_prog_11_method_5_code_4 : decode prog_11_method_5_code 4 = .ok (.invokevirtual 25, 3) := by decide +kernel
theorem own_d_prog_11_method_5_code_7 : decode prog_11_method_5_code 7 = .ok (.checkcast 24, 3) := by decide +kernel
theorem own_d_prog_11_method_5_code_10 : decode prog_11_method_5_code 10 = .ok (.areturn, 1) := by decide +kernel
theorem own_d_prog_11_method_6_code_0 : decode prog_11_method_6_code 0 = .ok (.aload_n 0, 1) := by decide +kernel
theorem own_d_prog_11_method_6_code_1 : decode prog_11_method_6_code 1 = .ok (.getfield 13, 3) := by decide +kernel
theorem own_d_prog_11_method_6_code_4 : decode prog_11_method_6_code 4 = .ok (.ireturn, 1) := by decide +kernel
theorem own_d_prog_11_method_7_code_0 : decode prog_11_method_7_code 0 = .ok (.aload_n 0, 1) := by decide +kernel
theorem own_d_prog_11_method_7_code_1 : decode prog_11_method_7_code 1 = .ok (.getfield 13, 3) := by decide +kernel
theorem own_d_prog_11_method_7_code_4 : decode prog_11_method_7_code 4 = .ok (.ifCond .eq 9, 3) := by decide +kernel
theorem own_d_prog_11_method_7_code_13 : decode prog_11_method_7_code 13 = .ok (.getstatic 48, 3) := by decide +kernel
theorem own_d_prog_11_method_7_code_16 : decode prog_11_method_7_code 16 = .ok (.areturn, 1) := by decide +kernel
theorem own_d_method_2_code_0 : decode method_2_code 0 = .ok (.iload_n 0, 1) := by decide +kernel
theorem own_d_method_2_code_1 : decode method_2_code 1 = .ok (.ifCond .ne 7, 3) := by decide +kernel
theorem own_d_method_2_code_4 : decode method_2_code 4 = .ok (.iconst 0, 1) := by decide +kernel
theorem own_d_method_2_code_5 : decode method_2_code 5 = .ok (.newarray .byte, 2) := by decide +kernel
theorem own_d_method_2_code_7 : decode method_2_code 7 = .ok (.areturn, 1) := by decide +kernel
theorem own_d_method_2_code_8 : decode method_2_code 8 = .ok (.iload_n 0, 1) := by decide +kernel
theorem own_d_method_2_code_9 : decode method_2_code 9 = .ok (.iconst 1, 1) := by decide +kernel
theorem own_d_method_2_code_10 : decode method_2_code 10 = .ok (.if_icmp .ne 11, 3) := by decide +kernel
theorem own_d_method_2_code_13 : decode method_2_code 13 = .ok (.iconst 1, 1) := by decide +kernel
theorem own_d_method_2_code_14 : decode method_2_code 14 = .ok (.newarray .byte, 2) := by decide +kernel
theorem own_d_method_2_code_16 : decode method_2_code 16 = .ok (.dup, 1) := by decide +kernel
theorem own_d_method_2_code_17 : decode method_2_code 17 = .ok (.iconst 0, 1) := by decide +kernel
theorem own_d_method_2_code_18 : decode method_2_code 18 = .ok (.iload_n 1, 1) := by decide +kernel
theorem own_d_method_2_code_19 : decode method_2_code 19 = .ok (.bastore, 1) := by decide +kernel
theorem own_d_method_2_code_20 : decode method_2_code 20 = .ok (.areturn, 1) := by decide +kernel
theorem own_d_method_2_code_21 : decode method_2_code 21 = .ok (.iload_n 0, 1) := by decide +kernel
theorem own_d_method_2_code_22 : decode method_2_code 22 = .ok (.iconst 2, 1) := by decide +kernel
theorem own_d_method_2_code_23 : decode method_2_code 23 = .ok (.if_icmp .ne 15, 3) := by decide +kernel
theorem own_d_method_2_code_26 : decode method_2_code 26 = .ok (.iconst 2, 1) := by decide +kernel
theorem own_d_method_2_code_27 : decode method_2_code 27 = .ok (.newarray .byte, 2) := by decide +kernel
theorem own_d_method_2_code_29 : decode method_2_code 29 = .ok (.dup, 1) := by decide +kernel
theorem own_d_method_2_code_30 : decode method_2_code 30 = .ok (.iconst 0, 1) := by decide +kernel
theorem own_d_method_2_code_31 : decode method_2_code 31 = .ok (.iload_n 1, 1) := by decide +kernel
theorem own_d_method_2_code_32 : decode method_2_code 32 = .ok (.bastore, 1) := by decide +kernel
theorem own_d_method_2_code_33 : decode method_2_code 33 = .ok (.dup, 1) := by decide +kernel
theorem own_d_method_2_code_34 : decode method_2_code 34 = .ok (.iconst 1, 1) := by decide +kernel
theorem own_d_method_2_code_35 : decode method_2_code 35 = .ok (.iload_n 2, 1) := by decide +kernel
theorem own_d_method_2_code_36 : decode method_2_code 36 = .ok (.bastore, 1) := by decide +kernel
theorem own_d_method_2_code_37 : decode method_2_code 37 = .ok (.areturn, 1) := by decide +kernel
theorem own_d_method_2_code_38 : decode method_2_code 38 = .ok (.iconst 3, 1) := by decide +kernel
theorem own_d_method_2_code_39 : decode method_2_code 39 = .ok (.newarray .byte, 2) := by decide +kernel
theorem own_d_method_2_code_41 : decode method_2_code 41 = .ok (.dup, 1) := by decide +kernel
theorem own_d_method_2_code_42 : decode method_2_code 42 = .ok (.iconst 0, 1) := by decide +kernel
theorem own_d_method_2_code_43 : decode method_2_code 43 = .ok (.iload_n 1, 1) := by decide +kernel
theorem own_d_method_2_code_44 : decode method_2_code 44 = .ok (.bastore, 1) := by decide +kernel
theorem own_d_method_2_code_45 : decode method_2_code 45 = .ok (.dup, 1) := by decide +kernel
theorem own_d_method_2_code_46 : decode method_2_code 46 = .ok (.iconst 1, 1) := by decide +kernel
theorem own_d_method_2_code_47 : decode method_2_code 47 = .ok (.iload_n 2, 1) := by decide +kernel
theorem own_d_method_2_code_48 : decode method_2_code 48 = .ok (.bastore, 1) := by decide +kernel
theorem own_d_method_2_code_49 : decode method_2_code 49 = .ok (.dup, 1) := by decide +kernel
theorem own_d_method_2_code_50 : decode method_2_code 50 = .ok (.iconst 2, 1) := by decide +kernel
theorem own_d_method_2_code_51 : decode method_2_code 51 = .ok (.iload_n 3, 1) := by decide +kernel
theorem own_d_method_2_code_52 : decode method_2_code 52 = .ok (.bastore, 1) := by decide +kernel
theorem own_d_method_2_code_53 : decode method_2_code 53 = .ok (.areturn, 1) := by decide +kernel
theorem own_wS {Z : State} {a0 : Array Value} (hw : ∀ d ∈ tables_1, d.before a0 Z = true) : ∀ a ∈ Bundle.stringAtoms, a.before a0 Z = true := by
  intro a ha
  simp only [Bundle.stringAtoms, List.mem_cons, List.not_mem_nil, or_false] at ha
  rcases ha with rfl | rfl | rfl | rfl | rfl | rfl | rfl
  · exact hw _ (List.mem_of_getElem? (i := 12) rfl)
  · exact hw _ (List.mem_of_getElem? (i := 13) rfl)
  · exact hw _ (List.mem_of_getElem? (i := 4) rfl)
  · exact hw _ (List.mem_of_getElem? (i := 14) rfl)
  · exact hw _ (List.mem_of_getElem? (i := 15) rfl)
  · exact hw _ (List.mem_of_getElem? (i := 16) rfl)
  · exact hw _ (List.mem_of_getElem? (i := 17) rfl)
theorem own_and3 (x : Int32) : (x &&& (3 : Int32)) = (0 : Int32) ∨ (x &&& (3 : Int32)) = (1 : Int32) ∨ (x &&& (3 : Int32)) = (2 : Int32) ∨ (x &&& (3 : Int32)) = (3 : Int32) := by
  have e1 : (x &&& (3 : Int32)).toInt = x.toInt % (2 ^ 2 : Nat) := c_mask x _ 2 (by decide) (by decide)
  have h : (x &&& (3 : Int32)).toInt = 0 ∨ (x &&& (3 : Int32)).toInt = 1 ∨ (x &&& (3 : Int32)).toInt = 2 ∨ (x &&& (3 : Int32)).toInt = 3 := by omega
  rcases h with h | h | h | h
  · exact Or.inl (Int32.toInt_inj.mp h)
  · exact Or.inr (Or.inl (Int32.toInt_inj.mp h))
  · exact Or.inr (Or.inr (Or.inl (Int32.toInt_inj.mp h)))
  · exact Or.inr (Or.inr (Or.inr (Int32.toInt_inj.mp h)))
set_option maxRecDepth 65536 in
set_option maxHeartbeats 40000000 in
theorem own_rnn (l : Launch) (Z : State) (a0 : Array Value) (hw : ∀ d ∈ tables_1, d.before a0 Z = true) (h0 : Heap) (y0 y1 : Addr) :
    own_Pure l Z h0 [] ({ frames := 0, cells := 0, slots := 0, locals := 0 } : Room) (⟨"java/util/Objects", "requireNonNull", "(Ljava/lang/Object;Ljava/lang/String;)Ljava/lang/Object;"⟩ : MethodName) jdk_31_method_11_code 2 (some (.object "java/lang/Object")) #[(.ref y0), (.ref y1)] (some (.ref y0)) := by
  refine own_body (plainFor_of_name own_pn_0) ?_
  intro p e s m below meth c T0 X0 hx hby hml hown hZ e0 hret hlk hnm hnamed
  replace hown : s.vm.findClass "java/util/Objects" = some m.cls := hown
  replace hml : c.maxLocals = 2 := hml
  have ef : entryFrame m #[(.ref y0), (.ref y1)] 2 = mkF m 0 #[.val (.ref y0), .val (.ref y1)] [] := by first | (simp [entryFrame, mkF, argsToLocals, Value.category]; done) | rfl
  rw [ef]
  refine own_st (T' := T0) (g' := (mkF m 1 #[.val (.ref y0), .val (.ref y1)] [(.ref y0)])) (fun _ k => XS.aloadN X0.here hx rfl (hb hby own_d_jdk_31_method_11_code_0) rfl rfl k) ?_
  refine own_st (T' := T0) (g' := (mkF m 13 #[.val (.ref y0), .val (.ref y1)] [])) (fun _ k => XS.ifnonnullYes X0.here hx rfl (pc0 := 1) (pc' := 13) rfl (hb hby own_d_jdk_31_method_11_code_1) rfl (by decide) (by decide) k) ?_
  refine own_st (T' := T0) (g' := (mkF m 14 #[.val (.ref y0), .val (.ref y1)] [(.ref y0)])) (fun _ k => XS.aloadN X0.here hx rfl (hb hby own_d_jdk_31_method_11_code_13) rfl rfl k) ?_
  exact own_ret X0 hx hlk hret rfl (Or.inr (Or.inr (Or.inr (Or.inr ⟨rfl, rfl, rfl⟩)))) (hb hby own_d_jdk_31_method_11_code_14) (by decide) (by decide) ⟨rfl, rfl, e0⟩
set_option maxRecDepth 65536 in
set_option maxHeartbeats 40000000 in
theorem own_init (l : Launch) (Z : State) (a0 : Array Value) (hw : ∀ d ∈ tables_1, d.before a0 Z = true) (h0 : Heap)  (o d : Addr) (n0 : Nat) (g_o : n0 ≤ o) (E_o : Exa Z h0 o "com/example/earnest_key/earnestkey/Outcome") (F_bytes_o : Fld Z h0 o "com/example/earnest_key/earnestkey/Outcome" "bytes" "[B" .null) (F_failure_o : Fld Z h0 o "com/example/earnest_key/earnestkey/Outcome" "failure" "Z" (.int (0 : Int32))) :
    own_Met l Z h0 [] ({ frames := 1, cells := 0, slots := 0, locals := 12 } : Room) (⟨"com/example/earnest_key/earnestkey/Outcome", "<init>", "([BZ)V"⟩ : MethodName) prog_11_method_1_code 3 none #[(.ref o), (.ref d), (.int (0 : Int32))] (fun v h L => v = none ∧ Fr n0 L ∧ Keep h0 h [o] ∧ Exa Z h o "com/example/earnest_key/earnestkey/Outcome" ∧ Fld Z h o "com/example/earnest_key/earnestkey/Outcome" "bytes" "[B" (.ref d) ∧ Fld Z h o "com/example/earnest_key/earnestkey/Outcome" "failure" "Z" (.int (0 : Int32))) := by
  refine own_body (plainFor_of_name own_pn_1) ?_
  intro p e s m below meth c T0 X0 hx hby hml hown hZ e0 hret hlk hnm hnamed
  replace hown : s.vm.findClass "com/example/earnest_key/earnestkey/Outcome" = some m.cls := hown
  replace hml : c.maxLocals = 3 := hml
  have ef : entryFrame m #[(.ref o), (.ref d), (.int (0 : Int32))] 3 = mkF m 0 #[.val (.ref o), .val (.ref d), .val (.int (0 : Int32))] [] := by first | (simp [entryFrame, mkF, argsToLocals, Value.category]; done) | rfl
  rw [ef]
  have K0 := Keep.refl h0 [o]
  have Nf := Fr.nil n0
  refine own_st (T' := T0) (g' := (mkF m 1 #[.val (.ref o), .val (.ref d), .val (.int (0 : Int32))] [(.ref o)])) (fun _ k => XS.aloadN X0.here hx rfl (hb hby own_d_prog_11_method_1_code_0) rfl rfl k) ?_
  obtain ⟨T1, X1, e1, st1⟩ := initO X0 hx hZ hown (hw _ (List.mem_of_getElem? (i := 34) rfl)) (hw _ (List.mem_of_getElem? (i := 35) rfl)) (hw _ (List.mem_of_getElem? (i := 36) rfl)) e0 (g := (mkF m 1 #[.val (.ref o), .val (.ref d), .val (.int (0 : Int32))] [(.ref o)])) rfl (by rw [hml]; rfl) rfl (hb hby own_d_prog_11_method_1_code_1) (by decide) (W := 0) (by show 2 * 0 + _ ≤ _; exact Nat.le_of_eq rfl) (by decide)
  refine own_st (T' := T1) (g' := (mkF m 4 #[.val (.ref o), .val (.ref d), .val (.int (0 : Int32))] [])) st1 ?_
  refine own_st (T' := T1) (g' := (mkF m 5 #[.val (.ref o), .val (.ref d), .val (.int (0 : Int32))] [(.ref o)])) (fun _ k => XS.aloadN X1.here hx rfl (hb hby own_d_prog_11_method_1_code_4) rfl rfl k) ?_
  refine own_st (T' := T1) (g' := (mkF m 6 #[.val (.ref o), .val (.ref d), .val (.int (0 : Int32))] [(.ref d), (.ref o)])) (fun _ k => XS.aloadN X1.here hx rfl (hb hby own_d_prog_11_method_1_code_5) rfl rfl k) ?_
  obtain ⟨T2, h2, X2, e2, W2, st2⟩ := putF X1 hx hZ hown (host := "") (Or.inl (hw _ (List.mem_of_getElem? (i := 37) rfl))) Via.refl e1 F_bytes_o E_o (Or.inr ⟨(hw _ (List.mem_of_getElem? (i := 38) rfl)), rfl, hnm⟩) (hw _ (List.mem_of_getElem? (i := 10) rfl)) (ty := (.array .byte)) (by decide) rfl rfl (g := (mkF m 6 #[.val (.ref o), .val (.ref d), .val (.int (0 : Int32))] [(.ref d), (.ref o)])) rfl rfl (hb hby own_d_prog_11_method_1_code_6)
  have E_o := E_o.wr W2
  have K0 := K0.wr W2 (Or.inl (List.mem_of_getElem? (i := 0) rfl))
  have F_bytes_o := F_bytes_o.same W2
  have F_failure_o := F_failure_o.other W2 (Or.inr (slot_ne (Or.inr (hw _ (List.mem_of_getElem? (i := 40) rfl))) (Or.inr (hw _ (List.mem_of_getElem? (i := 38) rfl))) (by decide) (t := .boolean) (t' := (.array .byte)) (by decide) (by decide)))
  have Nf := Fr.snoc X2 Nf g_o
  refine own_st (T' := T2) (g' := (mkF m 9 #[.val (.ref o), .val (.ref d), .val (.int (0 : Int32))] [])) st2 ?_
  refine own_st (T' := T2) (g' := (mkF m 10 #[.val (.ref o), .val (.ref d), .val (.int (0 : Int32))] [(.ref o)])) (fun _ k => XS.aloadN X2.here hx rfl (hb hby own_d_prog_11_method_1_code_9) rfl rfl k) ?_
  refine own_st (T' := T2) (g' := (mkF m 11 #[.val (.ref o), .val (.ref d), .val (.int (0 : Int32))] [(.int (0 : Int32)), (.ref o)])) (fun _ k => XS.iloadN X2.here hx rfl (hb hby own_d_prog_11_method_1_code_10) rfl k) ?_
  obtain ⟨T3, h3, X3, e3, W3, st3⟩ := putF X2 hx hZ hown (host := "") (Or.inl (hw _ (List.mem_of_getElem? (i := 39) rfl))) Via.refl e2 F_failure_o E_o (Or.inr ⟨(hw _ (List.mem_of_getElem? (i := 40) rfl)), rfl, hnm⟩) (hw _ (List.mem_of_getElem? (i := 10) rfl)) (ty := .boolean) (by decide) rfl rfl (g := (mkF m 11 #[.val (.ref o), .val (.ref d), .val (.int (0 : Int32))] [(.int (0 : Int32)), (.ref o)])) rfl rfl (hb hby own_d_prog_11_method_1_code_11)
  have E_o := E_o.wr W3
  have K0 := K0.wr W3 (Or.inl (List.mem_of_getElem? (i := 0) rfl))
  have F_bytes_o := F_bytes_o.other W3 (Or.inr (slot_ne (Or.inr (hw _ (List.mem_of_getElem? (i := 38) rfl))) (Or.inr (hw _ (List.mem_of_getElem? (i := 40) rfl))) (by decide) (t := (.array .byte)) (t' := .boolean) (by decide) (by decide)))
  have F_failure_o := F_failure_o.same W3
  have Nf := Fr.snoc X3 Nf g_o
  refine own_st (T' := T3) (g' := (mkF m 14 #[.val (.ref o), .val (.ref d), .val (.int (0 : Int32))] [])) st3 ?_
  exact own_retV X3 hx hlk hret (hb hby own_d_prog_11_method_1_code_14) (by decide) (by decide) (by rw [e3]; exact ⟨rfl, Nf, K0, E_o, F_bytes_o, F_failure_o⟩)
set_option maxRecDepth 65536 in
set_option maxHeartbeats 40000000 in
theorem own_succ (l : Launch) (Z : State) (a0 : Array Value) (hw : ∀ d ∈ tables_1, d.before a0 Z = true) (h0 : Heap)  (c0 : Addr) (kc : ClassId) (N : Int32) (hs : List (Int32 × Value)) (hN : N.toNatClampNeg ≤ 3) (V_c0 : Arh Z h0 c0 kc .byte N hs [] (.int (0 : Int32))) (E_c0 : Exa Z h0 c0 "[B") :
    own_MetW l Z h0 [] ({ frames := 2, cells := 4, slots := 29, locals := 27 } : Room) (⟨"com/example/earnest_key/earnestkey/Outcome", "success", "([B)Lcom/example/earnest_key/earnestkey/Outcome;"⟩ : MethodName) prog_11_method_2_code 1 (some (.object "com/example/earnest_key/earnestkey/Outcome")) #[(.ref c0)] (fun v h L => ∃ o d, v = some (.ref o) ∧ h0.size ≤ o ∧ h0.size ≤ d ∧ Fr h0.size L ∧ Ext h0 h ∧ Exa Z h o "com/example/earnest_key/earnestkey/Outcome" ∧ Fld Z h o "com/example/earnest_key/earnestkey/Outcome" "bytes" "[B" (.ref d) ∧ Fld Z h o "com/example/earnest_key/earnestkey/Outcome" "failure" "Z" (.int (0 : Int32)) ∧ Arh Z h d kc .byte N hs [] (.int (0 : Int32)) ∧ Exa Z h d "[B" ∧ o ≠ d) := by
  refine own_bodyW (plainFor_of_name own_pn_1) ?_
  intro p e s m below meth c T0 vm0 k0 X0 hS hk hx hby hml hown hZ e0 hret hlk hnm hnamed
  replace hown : (s.setVm vm0).vm.findClass "com/example/earnest_key/earnestkey/Outcome" = some m.cls := hown
  replace hml : c.maxLocals = 1 := hml
  have ef : entryFrame m #[(.ref c0)] 1 = mkF m 0 #[.val (.ref c0)] [] := by first | (simp [entryFrame, mkF, argsToLocals, Value.category]; done) | rfl
  rw [ef]
  have E0 := own_ext_rf h0
  have Nf := Fr.nil h0.size
  obtain ⟨T1, h1, X1, e1, E1, A1, D1, -, st1⟩ := newO X0 hx hZ hown (hw _ (List.mem_of_getElem? (i := 9) rfl)) (hw _ (List.mem_of_getElem? (i := 10) rfl)) (hw _ (List.mem_of_getElem? (i := 7) rfl)) e0 (g := (mkF m 0 #[.val (.ref c0)] [])) rfl (hb hby own_d_prog_11_method_2_code_0) (by decide) (by decide)
  obtain ⟨b1, gb_b1⟩ : ∃ z, z = h0.size := ⟨_, rfl⟩
  rw [← gb_b1] at A1 D1 st1
  have ne_c0_b1 : c0 ≠ b1 := Nat.ne_of_lt (Nat.lt_of_lt_of_le V_c0.lt (Nat.le_of_eq gb_b1.symm))
  have g_b1 : h0.size ≤ b1 := Nat.le_trans E0.1 (Nat.le_of_eq gb_b1.symm)
  have V_c0 := V_c0.ext E1
  have E_c0 := E_c0.ext E1
  have E0 := own_ext_tr E0 E1
  have hk := Nat.le_trans hk E1.1
  have E_b1 := A1
  have F_bytes_b1 : Fld Z h1 b1 "com/example/earnest_key/earnestkey/Outcome" "bytes" "[B" .null := D1 (Or.inr (hw _ (List.mem_of_getElem? (i := 38) rfl))) (ty := (.array .byte)) (by decide)
  have F_failure_b1 : Fld Z h1 b1 "com/example/earnest_key/earnestkey/Outcome" "failure" "Z" (.int (0 : Int32)) := D1 (Or.inr (hw _ (List.mem_of_getElem? (i := 40) rfl))) (ty := .boolean) (by decide)
  refine own_st (T' := T1) (g' := (mkF m 3 #[.val (.ref c0)] [(.ref b1)])) st1 ?_
  refine own_st (T' := T1) (g' := (mkF m 4 #[.val (.ref c0)] [(.ref b1), (.ref b1)])) (fun _ k => XS.dup X1.here hx rfl (hb hby own_d_prog_11_method_2_code_3) rfl rfl k) ?_
  refine own_st (T' := T1) (g' := (mkF m 5 #[.val (.ref c0)] [(.ref c0), (.ref b1), (.ref b1)])) (fun _ k => XS.aloadN X1.here hx rfl (hb hby own_d_prog_11_method_2_code_4) rfl rfl k) ?_
  obtain ⟨a2, T2, h2, k2, X2, e2, E2, hS, hk, hZ, hown, st2⟩ := ldcS X1 hx hZ hown (hw _ (List.mem_of_getElem? (i := 11) rfl)) (own_wS hw) e1 hS hk (g := (mkF m 5 #[.val (.ref c0)] [(.ref c0), (.ref b1), (.ref b1)])) rfl (hb hby own_d_prog_11_method_2_code_5) (n := 20) (by decide) (by decide) (by decide) (by decide)
  have V_c0 := V_c0.ext E2
  have E_c0 := E_c0.ext E2
  have E_b1 := E_b1.ext E2
  have F_bytes_b1 := F_bytes_b1.ext E2
  have F_failure_b1 := F_failure_b1.ext E2
  have E0 := own_ext_tr E0 E2
  refine own_st (T' := T2) (g' := (mkF m 7 #[.val (.ref c0)] [(.ref a2), (.ref c0), (.ref b1), (.ref b1)])) st2 ?_
  obtain ⟨T3, X3, e3, st3⟩ := own_pure (w := (.ref c0)) rfl rfl (own_gS X2 hx hZ hown (hw _ (List.mem_of_getElem? (i := 18) rfl)) (hw _ (List.mem_of_getElem? (i := 19) rfl)) (hw _ (List.mem_of_getElem? (i := 20) rfl)) (hw _ (List.mem_of_getElem? (i := 21) rfl)) (by decide) e2 (own_rnn l Z a0 hw h2 c0 a2) (by decide) (by decide) (by decide) (by decide) (Q := fun v h L => v = some (.ref c0) ∧ L = [] ∧ h = h2) (W := 2) (g := (mkF m 7 #[.val (.ref c0)] [(.ref a2), (.ref c0), (.ref b1), (.ref b1)])) (argsL := [(.ref c0), (.ref a2)]) (rest := [(.ref b1), (.ref b1)]) rfl (by rw [hml]; rfl) (lenOf own_pd_0 rfl) rfl (by show 2 * 0 + _ ≤ _; exact Nat.le_of_eq rfl) (hb hby own_d_prog_11_method_2_code_7))
  refine own_st (T' := T3) (g' := (mkF m 10 #[.val (.ref c0)] [(.ref c0), (.ref b1), (.ref b1)])) st3 ?_
  obtain ⟨T4, X4, e4, st4⟩ := castY X3 hx hZ hown (hw _ (List.mem_of_getElem? (i := 22) rfl)) e3 (Ins.self E_c0) (g := (mkF m 10 #[.val (.ref c0)] [(.ref c0), (.ref b1), (.ref b1)])) rfl rfl (hb hby own_d_prog_11_method_2_code_10)
  refine own_st (T' := T4) (g' := (mkF m 13 #[.val (.ref c0)] [(.ref c0), (.ref b1), (.ref b1)])) st4 ?_
  obtain ⟨T5, h5, X5, e5, E5, V5, Q5, st5⟩ := cloneH X4 hx hZ hown (hw _ (List.mem_of_getElem? (i := 24) rfl)) (hw _ (List.mem_of_getElem? (i := 25) rfl)) (hw _ (List.mem_of_getElem? (i := 29) rfl)) (hw _ (List.mem_of_getElem? (i := 27) rfl)) (hw _ (List.mem_of_getElem? (i := 28) rfl)) (hw _ (List.mem_of_getElem? (i := 30) rfl)) e4 V_c0 E_c0 (g := (mkF m 13 #[.val (.ref c0)] [(.ref c0), (.ref b1), (.ref b1)])) rfl (by rw [hml]; rfl) rfl (hb hby own_d_prog_11_method_2_code_13) (by decide) (W := 2) (cap := 3) (by show 2 * 0 + _ ≤ _; exact Nat.le_of_eq rfl) (by decide) hN (by decide) (by decide)
  obtain ⟨b5, gb_b5⟩ : ∃ z, z = h2.size := ⟨_, rfl⟩
  rw [← gb_b5] at V5 Q5 st5
  have ne_c0_b5 : c0 ≠ b5 := Nat.ne_of_lt (Nat.lt_of_lt_of_le V_c0.lt (Nat.le_of_eq gb_b5.symm))
  have ne_b1_b5 : b1 ≠ b5 := Nat.ne_of_lt (Nat.lt_of_lt_of_le E_b1.lt (Nat.le_of_eq gb_b5.symm))
  have g_b5 : h0.size ≤ b5 := Nat.le_trans E0.1 (Nat.le_of_eq gb_b5.symm)
  have V_c0 := V_c0.ext E5
  have E_c0 := E_c0.ext E5
  have E_b1 := E_b1.ext E5
  have F_bytes_b1 := F_bytes_b1.ext E5
  have F_failure_b1 := F_failure_b1.ext E5
  have E0 := own_ext_tr E0 E5
  have hk := Nat.le_trans hk E5.1
  have V_b5 := V5
  have E_b5 := Q5
  refine own_st (T' := T5) (g' := (mkF m 16 #[.val (.ref c0)] [(.ref b5), (.ref b1), (.ref b1)])) st5 ?_
  obtain ⟨T6, X6, e6, st6⟩ := castY X5 hx hZ hown (hw _ (List.mem_of_getElem? (i := 22) rfl)) e5 (Ins.self E_b5) (g := (mkF m 16 #[.val (.ref c0)] [(.ref b5), (.ref b1), (.ref b1)])) rfl rfl (hb hby own_d_prog_11_method_2_code_16)
  refine own_st (T' := T6) (g' := (mkF m 19 #[.val (.ref c0)] [(.ref b5), (.ref b1), (.ref b1)])) st6 ?_
  refine own_st (T' := T6) (g' := (mkF m 20 #[.val (.ref c0)] [(.int (0 : Int32)), (.ref b5), (.ref b1), (.ref b1)])) (fun _ k => XS.iconst X6.here hx rfl (hb hby own_d_prog_11_method_2_code_19) k) ?_
  obtain ⟨v7, T7, L7, X7, hQ7, st7⟩ := own_gI X6 hx hZ rfl hown (hw _ (List.mem_of_getElem? (i := 31) rfl)) (hw _ (List.mem_of_getElem? (i := 32) rfl)) (hw _ (List.mem_of_getElem? (i := 7) rfl)) (hw _ (List.mem_of_getElem? (i := 33) rfl)) (by decide) e6 (own_init l Z a0 hw h5 b1 b5 h0.size g_b1 E_b1 F_bytes_b1 F_failure_b1) (by decide) (by decide) (by decide) (by decide) (Q := (fun v h L => v = none ∧ Fr h0.size L ∧ Keep h5 h [b1] ∧ Exa Z h b1 "com/example/earnest_key/earnestkey/Outcome" ∧ Fld Z h b1 "com/example/earnest_key/earnestkey/Outcome" "bytes" "[B" (.ref b5) ∧ Fld Z h b1 "com/example/earnest_key/earnestkey/Outcome" "failure" "Z" (.int (0 : Int32)))) (W := 1) (g := (mkF m 20 #[.val (.ref c0)] [(.int (0 : Int32)), (.ref b5), (.ref b1), (.ref b1)])) (argsL := [(.ref b5), (.int (0 : Int32))]) (rest := [(.ref b1)]) rfl (by rw [hml]; rfl) (lenOf own_pd_1 rfl) rfl (by show 2 * 0 + _ ≤ _; exact Nat.le_of_eq rfl) (hb hby own_d_prog_11_method_2_code_20)
  obtain ⟨rfl, NL7, K7, EE7, FB7, FF7⟩ := hQ7
  have V_c0 := V_c0.keep K7 (ninS ne_c0_b1 nin0)
  have E_c0 := E_c0.keep K7
  have V_b5 := V_b5.keep K7 (ninS (Ne.symm ne_b1_b5) nin0)
  have E_b5 := E_b5.keep K7
  have E_b1 := EE7
  have F_bytes_b1 := FB7
  have F_failure_b1 := FF7
  have E0 := own_ext_keep E0 K7 (allS g_b1 all0)
  have Nf := Fr.app Nf NL7
  have hk := Nat.le_trans hk K7.1
  refine own_st (T' := T7) (g' := (mkF m 23 #[.val (.ref c0)] [(.ref b1)])) st7 ?_
  exact own_retW X7 hx hlk hS hk hret rfl (Or.inr (Or.inr (Or.inr (Or.inr ⟨rfl, rfl, rfl⟩)))) (hb hby own_d_prog_11_method_2_code_23) (by decide) (by decide) ⟨b1, b5, rfl, g_b1, g_b5, Nf, E0, E_b1, F_bytes_b1, F_failure_b1, V_b5, E_b5, ne_b1_b5⟩
set_option maxRecDepth 65536 in
set_option maxHeartbeats 40000000 in
theorem own_byt (l : Launch) (Z : State) (a0 : Array Value) (hw : ∀ d ∈ tables_1, d.before a0 Z = true) (h0 : Heap)  (o d : Addr) (kc : ClassId) (N : Int32) (hs : List (Int32 × Value)) (hN : N.toNatClampNeg ≤ 3) (F_bytes_o : Fld Z h0 o "com/example/earnest_key/earnestkey/Outcome" "bytes" "[B" (.ref d)) (V_d : Arh Z h0 d kc .byte N hs [] (.int (0 : Int32))) (E_d : Exa Z h0 d "[B") :
    own_Met l Z h0 [] ({ frames := 1, cells := 1, slots := 3, locals := 14 } : Room) (⟨"com/example/earnest_key/earnestkey/Outcome", "bytes", "()[B"⟩ : MethodName) prog_11_method_5_code 1 (some (.array .byte)) #[(.ref o)] (fun v h L => ∃ b, v = some (.ref b) ∧ h0.size ≤ b ∧ Fr h0.size L ∧ Ext h0 h ∧ Arh Z h b kc .byte N hs [] (.int (0 : Int32)) ∧ Exa Z h b "[B") := by
  refine own_body (plainFor_of_name own_pn_1) ?_
  intro p e s m below meth c T0 X0 hx hby hml hown hZ e0 hret hlk hnm hnamed
  replace hown : s.vm.findClass "com/example/earnest_key/earnestkey/Outcome" = some m.cls := hown
  replace hml : c.maxLocals = 1 := hml
  have ef : entryFrame m #[(.ref o)] 1 = mkF m 0 #[.val (.ref o)] [] := by first | (simp [entryFrame, mkF, argsToLocals, Value.category]; done) | rfl
  rw [ef]
  have E0 := own_ext_rf h0
  have Nf := Fr.nil h0.size
  refine own_st (T' := T0) (g' := (mkF m 1 #[.val (.ref o)] [(.ref o)])) (fun _ k => XS.aloadN X0.here hx rfl (hb hby own_d_prog_11_method_5_code_0) rfl rfl k) ?_
  obtain ⟨T1, X1, e1, st1⟩ := getF X0 hx hZ hown (host := "") (Or.inl (hw _ (List.mem_of_getElem? (i := 37) rfl))) Via.refl e0 F_bytes_o (g := (mkF m 1 #[.val (.ref o)] [(.ref o)])) rfl rfl (hb hby own_d_prog_11_method_5_code_1)
  refine own_st (T' := T1) (g' := (mkF m 4 #[.val (.ref o)] [(.ref d)])) st1 ?_
  obtain ⟨T2, h2, X2, e2, E2, V2, Q2, st2⟩ := cloneH X1 hx hZ hown (hw _ (List.mem_of_getElem? (i := 24) rfl)) (hw _ (List.mem_of_getElem? (i := 25) rfl)) (hw _ (List.mem_of_getElem? (i := 29) rfl)) (hw _ (List.mem_of_getElem? (i := 27) rfl)) (hw _ (List.mem_of_getElem? (i := 28) rfl)) (hw _ (List.mem_of_getElem? (i := 30) rfl)) e1 V_d E_d (g := (mkF m 4 #[.val (.ref o)] [(.ref d)])) rfl (by rw [hml]; rfl) rfl (hb hby own_d_prog_11_method_5_code_4) (by decide) (W := 0) (cap := 3) (by show 2 * 0 + _ ≤ _; exact Nat.le_of_eq rfl) (by decide) hN (by decide) (by decide)
  obtain ⟨b2, gb_b2⟩ : ∃ z, z = h0.size := ⟨_, rfl⟩
  rw [← gb_b2] at V2 Q2 st2
  have ne_o_b2 : o ≠ b2 := Nat.ne_of_lt (Nat.lt_of_lt_of_le F_bytes_o.lt (Nat.le_of_eq gb_b2.symm))
  have ne_d_b2 : d ≠ b2 := Nat.ne_of_lt (Nat.lt_of_lt_of_le V_d.lt (Nat.le_of_eq gb_b2.symm))
  have g_b2 : h0.size ≤ b2 := Nat.le_trans E0.1 (Nat.le_of_eq gb_b2.symm)
  have F_bytes_o := F_bytes_o.ext E2
  have V_d := V_d.ext E2
  have E_d := E_d.ext E2
  have E0 := own_ext_tr E0 E2
  have V_b2 := V2
  have E_b2 := Q2
  refine own_st (T' := T2) (g' := (mkF m 7 #[.val (.ref o)] [(.ref b2)])) st2 ?_
  obtain ⟨T3, X3, e3, st3⟩ := castY X2 hx hZ hown (hw _ (List.mem_of_getElem? (i := 22) rfl)) e2 (Ins.self E_b2) (g := (mkF m 7 #[.val (.ref o)] [(.ref b2)])) rfl rfl (hb hby own_d_prog_11_method_5_code_7)
  refine own_st (T' := T3) (g' := (mkF m 10 #[.val (.ref o)] [(.ref b2)])) st3 ?_
  exact own_ret X3 hx hlk hret rfl (Or.inr (Or.inr (Or.inr (Or.inr ⟨rfl, rfl, rfl⟩)))) (hb hby own_d_prog_11_method_5_code_10) (by decide) (by decide) (by rw [e3]; exact ⟨b2, rfl, g_b2, Nf, E0, V_b2, E_b2⟩)
set_option maxRecDepth 65536 in
set_option maxHeartbeats 40000000 in
theorem own_isf (l : Launch) (Z : State) (a0 : Array Value) (hw : ∀ d ∈ tables_1, d.before a0 Z = true) (h0 : Heap) (o : Addr) (F : Fld Z h0 o "com/example/earnest_key/earnestkey/Outcome" "failure" "Z" (.int (0 : Int32))) :
    own_Pure l Z h0 [] ({ frames := 0, cells := 0, slots := 0, locals := 0 } : Room) (⟨"com/example/earnest_key/earnestkey/Outcome", "isFailure", "()Z"⟩ : MethodName) prog_11_method_6_code 1 (some .boolean) #[(.ref o)] (some (.int (0 : Int32))) := by
  refine own_body (plainFor_of_name own_pn_1) ?_
  intro p e s m below meth c T0 X0 hx hby hml hown hZ e0 hret hlk hnm hnamed
  replace hown : s.vm.findClass "com/example/earnest_key/earnestkey/Outcome" = some m.cls := hown
  replace hml : c.maxLocals = 1 := hml
  have ef : entryFrame m #[(.ref o)] 1 = mkF m 0 #[.val (.ref o)] [] := by first | (simp [entryFrame, mkF, argsToLocals, Value.category]; done) | rfl
  rw [ef]
  refine own_st (T' := T0) (g' := (mkF m 1 #[.val (.ref o)] [(.ref o)])) (fun _ k => XS.aloadN X0.here hx rfl (hb hby own_d_prog_11_method_6_code_0) rfl rfl k) ?_
  obtain ⟨T1, X1, e1, st1⟩ := getF X0 hx hZ hown (host := "") (Or.inl (hw _ (List.mem_of_getElem? (i := 39) rfl))) Via.refl e0 F (g := (mkF m 1 #[.val (.ref o)] [(.ref o)])) rfl rfl (hb hby own_d_prog_11_method_6_code_1)
  refine own_st (T' := T1) (g' := (mkF m 4 #[.val (.ref o)] [(.int (0 : Int32))])) st1 ?_
  exact own_ret X1 hx hlk hret rfl (Or.inl ⟨rfl, Or.inr (Or.inl rfl), _, rfl⟩) (hb hby own_d_prog_11_method_6_code_4) (by decide) (by decide) ⟨rfl, rfl, e1⟩
set_option maxRecDepth 65536 in
set_option maxHeartbeats 40000000 in
theorem own_stat (l : Launch) (Z : State) (a0 : Array Value) (hw : ∀ d ∈ tables_1, d.before a0 Z = true) (h0 : Heap) (o r : Addr) (F : Fld Z h0 o "com/example/earnest_key/earnestkey/Outcome" "failure" "Z" (.int (0 : Int32))) (S : Sta Z h0 "com/example/earnest_key/earnestkey/RecordState" "SUCCEEDED" "Lcom/example/earnest_key/earnestkey/RecordState;" (.ref r)) :
    own_Pure l Z h0 [] ({ frames := 0, cells := 0, slots := 0, locals := 0 } : Room) (⟨"com/example/earnest_key/earnestkey/Outcome", "state", "()Lcom/example/earnest_key/earnestkey/RecordState;"⟩ : MethodName) prog_11_method_7_code 1 (some (.object "com/example/earnest_key/earnestkey/RecordState")) #[(.ref o)] (some (.ref r)) := by
  refine own_body (plainFor_of_name own_pn_1) ?_
  intro p e s m below meth c T0 X0 hx hby hml hown hZ e0 hret hlk hnm hnamed
  replace hown : s.vm.findClass "com/example/earnest_key/earnestkey/Outcome" = some m.cls := hown
  replace hml : c.maxLocals = 1 := hml
  have ef : entryFrame m #[(.ref o)] 1 = mkF m 0 #[.val (.ref o)] [] := by first | (simp [entryFrame, mkF, argsToLocals, Value.category]; done) | rfl
  rw [ef]
  refine own_st (T' := T0) (g' := (mkF m 1 #[.val (.ref o)] [(.ref o)])) (fun _ k => XS.aloadN X0.here hx rfl (hb hby own_d_prog_11_method_7_code_0) rfl rfl k) ?_
  obtain ⟨T1, X1, e1, st1⟩ := getF X0 hx hZ hown (host := "") (Or.inl (hw _ (List.mem_of_getElem? (i := 39) rfl))) Via.refl e0 F (g := (mkF m 1 #[.val (.ref o)] [(.ref o)])) rfl rfl (hb hby own_d_prog_11_method_7_code_1)
  refine own_st (T' := T1) (g' := (mkF m 4 #[.val (.ref o)] [(.int (0 : Int32))])) st1 ?_
  refine own_st (T' := T1) (g' := (mkF m 13 #[.val (.ref o)] [])) (fun _ k => XS.ifYes X1.here hx rfl (pc0 := 4) (pc' := 13) rfl (hb hby own_d_prog_11_method_7_code_4) rfl (by decide) (by decide) (by decide) k) ?_
  obtain ⟨T2, X2, e2, st2⟩ := getS2 X1 hx hZ hown (host := "") (Or.inl (hw _ (List.mem_of_getElem? (i := 56) rfl))) Via.refl e1 S (g := (mkF m 13 #[.val (.ref o)] [])) rfl (hb hby own_d_prog_11_method_7_code_13)
  refine own_st (T' := T2) (g' := (mkF m 16 #[.val (.ref o)] [(.ref r)])) st2 ?_
  exact own_ret X2 hx hlk hret rfl (Or.inr (Or.inr (Or.inr (Or.inr ⟨rfl, rfl, rfl⟩)))) (hb hby own_d_prog_11_method_7_code_16) (by decide) (by decide) ⟨rfl, rfl, e2⟩
set_option maxRecDepth 65536 in
set_option maxHeartbeats 40000000 in
theorem own_make0 (l : Launch) (Z : State) (a0 : Array Value) (hw : ∀ d ∈ tables_1, d.before a0 Z = true) (h0 : Heap)  (x0 x1 x2 : Int32) :
    own_Met l Z h0 [] ({ frames := 0, cells := 1, slots := 0, locals := 0 } : Room) (⟨"com/example/earnest_key/earnestkey/OutcomeSuccessPinLaw", "make", "(IBBB)[B"⟩ : MethodName) method_2_code 4 (some (.array .byte)) #[(.int (0 : Int32)), (.int x0), (.int x1), (.int x2)] (fun v h L => ∃ b kB, v = some (.ref b) ∧ h0.size ≤ b ∧ Fr h0.size L ∧ Ext h0 h ∧ Arh Z h b kB .byte (0 : Int32) [] [] (.int (0 : Int32)) ∧ Exa Z h b "[B") := by
  refine own_body (plainFor_of_name own_pn_2) ?_
  intro p e s m below meth c T0 X0 hx hby hml hown hZ e0 hret hlk hnm hnamed
  replace hown : s.vm.findClass "com/example/earnest_key/earnestkey/OutcomeSuccessPinLaw" = some m.cls := hown
  replace hml : c.maxLocals = 4 := hml
  have ef : entryFrame m #[(.int (0 : Int32)), (.int x0), (.int x1), (.int x2)] 4 = mkF m 0 #[.val (.int (0 : Int32)), .val (.int x0), .val (.int x1), .val (.int x2)] [] := by first | (simp [entryFrame, mkF, argsToLocals, Value.category]; done) | rfl
  rw [ef]
  have E0 := own_ext_rf h0
  have Nf := Fr.nil h0.size
  refine own_st (T' := T0) (g' := (mkF m 1 #[.val (.int (0 : Int32)), .val (.int x0), .val (.int x1), .val (.int x2)] [(.int (0 : Int32))])) (fun _ k => XS.iloadN X0.here hx rfl (hb hby own_d_method_2_code_0) rfl k) ?_
  refine own_st (T' := T0) (g' := (mkF m 4 #[.val (.int (0 : Int32)), .val (.int x0), .val (.int x1), .val (.int x2)] [])) (fun _ k => XS.ifNo X0.here hx rfl (hb hby own_d_method_2_code_1) rfl (by decide) k) ?_
  refine own_st (T' := T0) (g' := (mkF m 5 #[.val (.int (0 : Int32)), .val (.int x0), .val (.int x1), .val (.int x2)] [(.int (0 : Int32))])) (fun _ k => XS.iconst X0.here hx rfl (hb hby own_d_method_2_code_4) k) ?_
  obtain ⟨T1, h1, k1, X1, e1, E1, A1, Q1, st1⟩ := newPE X0 hx hZ (hw _ (List.mem_of_getElem? (i := 4) rfl)) e0 (g := (mkF m 5 #[.val (.int (0 : Int32)), .val (.int x0), .val (.int x1), .val (.int x2)] [(.int (0 : Int32))])) rfl (hb hby own_d_method_2_code_5) rfl (by decide) (cap := 0) (by decide) (by decide) (by decide) (by decide) (ad := "[B") rfl
  obtain ⟨b1, gb_b1⟩ : ∃ z, z = h0.size := ⟨_, rfl⟩
  rw [← gb_b1] at A1 Q1 st1
  have g_b1 : h0.size ≤ b1 := Nat.le_trans E0.1 (Nat.le_of_eq gb_b1.symm)
  have E0 := own_ext_tr E0 E1
  have V_b1 : Arh Z h1 b1 k1 .byte (0 : Int32) [] [] (.int (0 : Int32)) := Arv.arh (Arv.new A1 (by decide))
  have E_b1 := Q1
  refine own_st (T' := T1) (g' := (mkF m 7 #[.val (.int (0 : Int32)), .val (.int x0), .val (.int x1), .val (.int x2)] [(.ref b1)])) st1 ?_
  exact own_ret X1 hx hlk hret rfl (Or.inr (Or.inr (Or.inr (Or.inr ⟨rfl, rfl, rfl⟩)))) (hb hby own_d_method_2_code_7) (by decide) (by decide) (by rw [e1]; exact ⟨b1, _, rfl, g_b1, Nf, E0, V_b1, E_b1⟩)
set_option maxRecDepth 65536 in
set_option maxHeartbeats 40000000 in
theorem own_make1 (l : Launch) (Z : State) (a0 : Array Value) (hw : ∀ d ∈ tables_1, d.before a0 Z = true) (h0 : Heap)  (x0 x1 x2 : Int32) :
    own_Met l Z h0 [] ({ frames := 0, cells := 1, slots := 1, locals := 0 } : Room) (⟨"com/example/earnest_key/earnestkey/OutcomeSuccessPinLaw", "make", "(IBBB)[B"⟩ : MethodName) method_2_code 4 (some (.array .byte)) #[(.int (1 : Int32)), (.int x0), (.int x1), (.int x2)] (fun v h L => ∃ b kB, v = some (.ref b) ∧ h0.size ≤ b ∧ Fr h0.size L ∧ Ext h0 h ∧ Arh Z h b kB .byte (1 : Int32) (((0 : Int32), (.int (x0.toInt8.toInt32))) :: []) [] (.int (0 : Int32)) ∧ Exa Z h b "[B") := by
  refine own_body (plainFor_of_name own_pn_2) ?_
  intro p e s m below meth c T0 X0 hx hby hml hown hZ e0 hret hlk hnm hnamed
  replace hown : s.vm.findClass "com/example/earnest_key/earnestkey/OutcomeSuccessPinLaw" = some m.cls := hown
  replace hml : c.maxLocals = 4 := hml
  have ef : entryFrame m #[(.int (1 : Int32)), (.int x0), (.int x1), (.int x2)] 4 = mkF m 0 #[.val (.int (1 : Int32)), .val (.int x0), .val (.int x1), .val (.int x2)] [] := by first | (simp [entryFrame, mkF, argsToLocals, Value.category]; done) | rfl
  rw [ef]
  have E0 := own_ext_rf h0
  have Nf := Fr.nil h0.size
  refine own_st (T' := T0) (g' := (mkF m 1 #[.val (.int (1 : Int32)), .val (.int x0), .val (.int x1), .val (.int x2)] [(.int (1 : Int32))])) (fun _ k => XS.iloadN X0.here hx rfl (hb hby own_d_method_2_code_0) rfl k) ?_
  refine own_st (T' := T0) (g' := (mkF m 8 #[.val (.int (1 : Int32)), .val (.int x0), .val (.int x1), .val (.int x2)] [])) (fun _ k => XS.ifYes X0.here hx rfl (pc0 := 1) (pc' := 8) rfl (hb hby own_d_method_2_code_1) rfl (by decide) (by decide) (by decide) k) ?_
  refine own_st (T' := T0) (g' := (mkF m 9 #[.val (.int (1 : Int32)), .val (.int x0), .val (.int x1), .val (.int x2)] [(.int (1 : Int32))])) (fun _ k => XS.iloadN X0.here hx rfl (hb hby own_d_method_2_code_8) rfl k) ?_
  refine own_st (T' := T0) (g' := (mkF m 10 #[.val (.int (1 : Int32)), .val (.int x0), .val (.int x1), .val (.int x2)] [(.int (1 : Int32)), (.int (1 : Int32))])) (fun _ k => XS.iconst X0.here hx rfl (hb hby own_d_method_2_code_9) k) ?_
  refine own_st (T' := T0) (g' := (mkF m 13 #[.val (.int (1 : Int32)), .val (.int x0), .val (.int x1), .val (.int x2)] [])) (fun _ k => XS.icmpNo X0.here hx rfl (hb hby own_d_method_2_code_10) rfl (by decide) k) ?_
  refine own_st (T' := T0) (g' := (mkF m 14 #[.val (.int (1 : Int32)), .val (.int x0), .val (.int x1), .val (.int x2)] [(.int (1 : Int32))])) (fun _ k => XS.iconst X0.here hx rfl (hb hby own_d_method_2_code_13) k) ?_
  obtain ⟨T1, h1, k1, X1, e1, E1, A1, Q1, st1⟩ := newPE X0 hx hZ (hw _ (List.mem_of_getElem? (i := 4) rfl)) e0 (g := (mkF m 14 #[.val (.int (1 : Int32)), .val (.int x0), .val (.int x1), .val (.int x2)] [(.int (1 : Int32))])) rfl (hb hby own_d_method_2_code_14) rfl (by decide) (cap := 1) (by decide) (by decide) (by decide) (by decide) (ad := "[B") rfl
  obtain ⟨b1, gb_b1⟩ : ∃ z, z = h0.size := ⟨_, rfl⟩
  rw [← gb_b1] at A1 Q1 st1
  have g_b1 : h0.size ≤ b1 := Nat.le_trans E0.1 (Nat.le_of_eq gb_b1.symm)
  have E0 := own_ext_tr E0 E1
  have V_b1 : Arh Z h1 b1 k1 .byte (1 : Int32) [] [] (.int (0 : Int32)) := Arv.arh (Arv.new A1 (by decide))
  have E_b1 := Q1
  refine own_st (T' := T1) (g' := (mkF m 16 #[.val (.int (1 : Int32)), .val (.int x0), .val (.int x1), .val (.int x2)] [(.ref b1)])) st1 ?_
  refine own_st (T' := T1) (g' := (mkF m 17 #[.val (.int (1 : Int32)), .val (.int x0), .val (.int x1), .val (.int x2)] [(.ref b1), (.ref b1)])) (fun _ k => XS.dup X1.here hx rfl (hb hby own_d_method_2_code_16) rfl rfl k) ?_
  refine own_st (T' := T1) (g' := (mkF m 18 #[.val (.int (1 : Int32)), .val (.int x0), .val (.int x1), .val (.int x2)] [(.int (0 : Int32)), (.ref b1), (.ref b1)])) (fun _ k => XS.iconst X1.here hx rfl (hb hby own_d_method_2_code_17) k) ?_
  refine own_st (T' := T1) (g' := (mkF m 19 #[.val (.int (1 : Int32)), .val (.int x0), .val (.int x1), .val (.int x2)] [(.int x0), (.int (0 : Int32)), (.ref b1), (.ref b1)])) (fun _ k => XS.iloadN X1.here hx rfl (hb hby own_d_method_2_code_18) rfl k) ?_
  have V2 := V_b1
  obtain ⟨cl2, Ar2, qk2, Sz2, Nn2, Hh2, Gg2⟩ := V2
  have hin3 : ¬ ((0 : Int32) < 0 ∨ cl2.slots.size ≤ ((0 : Int32)).toNatClampNeg) := inb_of Sz2 ⟨by decide, by decide⟩
  obtain ⟨T3, h3, X3, e3, W3, st3⟩ := stB X1 hx hZ e1 Ar2 (j := (0 : Int32)) hin3 (g := (mkF m 19 #[.val (.int (1 : Int32)), .val (.int x0), .val (.int x1), .val (.int x2)] [(.int x0), (.int (0 : Int32)), (.ref b1), (.ref b1)])) rfl rfl (hb hby own_d_method_2_code_19)
  have E_b1 := E_b1.wr W3
  have E0 := own_ext_wr E0 W3 g_b1
  have V_b1 : Arh Z h3 b1 k1 .byte (1 : Int32) (((0 : Int32), (.int (x0.toInt8.toInt32))) :: []) [] (.int (0 : Int32)) := Arh.push Ar2 qk2 Sz2 Nn2 Hh2 Gg2 (fits_nar_byte _) W3 hin3
  have Nf := Fr.snoc X3 Nf g_b1
  refine own_st (T' := T3) (g' := (mkF m 20 #[.val (.int (1 : Int32)), .val (.int x0), .val (.int x1), .val (.int x2)] [(.ref b1)])) st3 ?_
  exact own_ret X3 hx hlk hret rfl (Or.inr (Or.inr (Or.inr (Or.inr ⟨rfl, rfl, rfl⟩)))) (hb hby own_d_method_2_code_20) (by decide) (by decide) (by rw [e3]; exact ⟨b1, _, rfl, g_b1, Nf, E0, V_b1, E_b1⟩)
set_option maxRecDepth 65536 in
set_option maxHeartbeats 40000000 in
theorem own_make2 (l : Launch) (Z : State) (a0 : Array Value) (hw : ∀ d ∈ tables_1, d.before a0 Z = true) (h0 : Heap)  (x0 x1 x2 : Int32) :
    own_Met l Z h0 [] ({ frames := 0, cells := 1, slots := 2, locals := 0 } : Room) (⟨"com/example/earnest_key/earnestkey/OutcomeSuccessPinLaw", "make", "(IBBB)[B"⟩ : MethodName) method_2_code 4 (some (.array .byte)) #[(.int (2 : Int32)), (.int x0), (.int x1), (.int x2)] (fun v h L => ∃ b kB, v = some (.ref b) ∧ h0.size ≤ b ∧ Fr h0.size L ∧ Ext h0 h ∧ Arh Z h b kB .byte (2 : Int32) (((1 : Int32), (.int (x1.toInt8.toInt32))) :: (((0 : Int32), (.int (x0.toInt8.toInt32))) :: [])) [] (.int (0 : Int32)) ∧ Exa Z h b "[B") := by
  refine own_body (plainFor_of_name own_pn_2) ?_
  intro p e s m below meth c T0 X0 hx hby hml hown hZ e0 hret hlk hnm hnamed
  replace hown : s.vm.findClass "com/example/earnest_key/earnestkey/OutcomeSuccessPinLaw" = some m.cls := hown
  replace hml : c.maxLocals = 4 := hml
  have ef : entryFrame m #[(.int (2 : Int32)), (.int x0), (.int x1), (.int x2)] 4 = mkF m 0 #[.val (.int (2 : Int32)), .val (.int x0), .val (.int x1), .val (.int x2)] [] := by first | (simp [entryFrame, mkF, argsToLocals, Value.category]; done) | rfl
  rw [ef]
  have E0 := own_ext_rf h0
  have Nf := Fr.nil h0.size
  refine own_st (T' := T0) (g' := (mkF m 1 #[.val (.int (2 : Int32)), .val (.int x0), .val (.int x1), .val (.int x2)] [(.int (2 : Int32))])) (fun _ k => XS.iloadN X0.here hx rfl (hb hby own_d_method_2_code_0) rfl k) ?_
  refine own_st (T' := T0) (g' := (mkF m 8 #[.val (.int (2 : Int32)), .val (.int x0), .val (.int x1), .val (.int x2)] [])) (fun _ k => XS.ifYes X0.here hx rfl (pc0 := 1) (pc' := 8) rfl (hb hby own_d_method_2_code_1) rfl (by decide) (by decide) (by decide) k) ?_
  refine own_st (T' := T0) (g' := (mkF m 9 #[.val (.int (2 : Int32)), .val (.int x0), .val (.int x1), .val (.int x2)] [(.int (2 : Int32))])) (fun _ k => XS.iloadN X0.here hx rfl (hb hby own_d_method_2_code_8) rfl k) ?_
  refine own_st (T' := T0) (g' := (mkF m 10 #[.val (.int (2 : Int32)), .val (.int x0), .val (.int x1), .val (.int x2)] [(.int (1 : Int32)), (.int (2 : Int32))])) (fun _ k => XS.iconst X0.here hx rfl (hb hby own_d_method_2_code_9) k) ?_
  refine own_st (T' := T0) (g' := (mkF m 21 #[.val (.int (2 : Int32)), .val (.int x0), .val (.int x1), .val (.int x2)] [])) (fun _ k => XS.icmpYes X0.here hx rfl (pc0 := 10) (pc' := 21) rfl (hb hby own_d_method_2_code_10) rfl (by decide) (by decide) (by decide) k) ?_
  refine own_st (T' := T0) (g' := (mkF m 22 #[.val (.int (2 : Int32)), .val (.int x0), .val (.int x1), .val (.int x2)] [(.int (2 : Int32))])) (fun _ k => XS.iloadN X0.here hx rfl (hb hby own_d_method_2_code_21) rfl k) ?_
  refine own_st (T' := T0) (g' := (mkF m 23 #[.val (.int (2 : Int32)), .val (.int x0), .val (.int x1), .val (.int x2)] [(.int (2 : Int32)), (.int (2 : Int32))])) (fun _ k => XS.iconst X0.here hx rfl (hb hby own_d_method_2_code_22) k) ?_
  refine own_st (T' := T0) (g' := (mkF m 26 #[.val (.int (2 : Int32)), .val (.int x0), .val (.int x1), .val (.int x2)] [])) (fun _ k => XS.icmpNo X0.here hx rfl (hb hby own_d_method_2_code_23) rfl (by decide) k) ?_
  refine own_st (T' := T0) (g' := (mkF m 27 #[.val (.int (2 : Int32)), .val (.int x0), .val (.int x1), .val (.int x2)] [(.int (2 : Int32))])) (fun _ k => XS.iconst X0.here hx rfl (hb hby own_d_method_2_code_26) k) ?_
  obtain ⟨T1, h1, k1, X1, e1, E1, A1, Q1, st1⟩ := newPE X0 hx hZ (hw _ (List.mem_of_getElem? (i := 4) rfl)) e0 (g := (mkF m 27 #[.val (.int (2 : Int32)), .val (.int x0), .val (.int x1), .val (.int x2)] [(.int (2 : Int32))])) rfl (hb hby own_d_method_2_code_27) rfl (by decide) (cap := 2) (by decide) (by decide) (by decide) (by decide) (ad := "[B") rfl
  obtain ⟨b1, gb_b1⟩ : ∃ z, z = h0.size := ⟨_, rfl⟩
  rw [← gb_b1] at A1 Q1 st1
  have g_b1 : h0.size ≤ b1 := Nat.le_trans E0.1 (Nat.le_of_eq gb_b1.symm)
  have E0 := own_ext_tr E0 E1
  have V_b1 : Arh Z h1 b1 k1 .byte (2 : Int32) [] [] (.int (0 : Int32)) := Arv.arh (Arv.new A1 (by decide))
  have E_b1 := Q1
  refine own_st (T' := T1) (g' := (mkF m 29 #[.val (.int (2 : Int32)), .val (.int x0), .val (.int x1), .val (.int x2)] [(.ref b1)])) st1 ?_
  refine own_st (T' := T1) (g' := (mkF m 30 #[.val (.int (2 : Int32)), .val (.int x0), .val (.int x1), .val (.int x2)] [(.ref b1), (.ref b1)])) (fun _ k => XS.dup X1.here hx rfl (hb hby own_d_method_2_code_29) rfl rfl k) ?_
  refine own_st (T' := T1) (g' := (mkF m 31 #[.val (.int (2 : Int32)), .val (.int x0), .val (.int x1), .val (.int x2)] [(.int (0 : Int32)), (.ref b1), (.ref b1)])) (fun _ k => XS.iconst X1.here hx rfl (hb hby own_d_method_2_code_30) k) ?_
  refine own_st (T' := T1) (g' := (mkF m 32 #[.val (.int (2 : Int32)), .val (.int x0), .val (.int x1), .val (.int x2)] [(.int x0), (.int (0 : Int32)), (.ref b1), (.ref b1)])) (fun _ k => XS.iloadN X1.here hx rfl (hb hby own_d_method_2_code_31) rfl k) ?_
  have V2 := V_b1
  obtain ⟨cl2, Ar2, qk2, Sz2, Nn2, Hh2, Gg2⟩ := V2
  have hin3 : ¬ ((0 : Int32) < 0 ∨ cl2.slots.size ≤ ((0 : Int32)).toNatClampNeg) := inb_of Sz2 ⟨by decide, by decide⟩
  obtain ⟨T3, h3, X3, e3, W3, st3⟩ := stB X1 hx hZ e1 Ar2 (j := (0 : Int32)) hin3 (g := (mkF m 32 #[.val (.int (2 : Int32)), .val (.int x0), .val (.int x1), .val (.int x2)] [(.int x0), (.int (0 : Int32)), (.ref b1), (.ref b1)])) rfl rfl (hb hby own_d_method_2_code_32)
  have E_b1 := E_b1.wr W3
  have E0 := own_ext_wr E0 W3 g_b1
  have V_b1 : Arh Z h3 b1 k1 .byte (2 : Int32) (((0 : Int32), (.int (x0.toInt8.toInt32))) :: []) [] (.int (0 : Int32)) := Arh.push Ar2 qk2 Sz2 Nn2 Hh2 Gg2 (fits_nar_byte _) W3 hin3
  have Nf := Fr.snoc X3 Nf g_b1
  refine own_st (T' := T3) (g' := (mkF m 33 #[.val (.int (2 : Int32)), .val (.int x0), .val (.int x1), .val (.int x2)] [(.ref b1)])) st3 ?_
  refine own_st (T' := T3) (g' := (mkF m 34 #[.val (.int (2 : Int32)), .val (.int x0), .val (.int x1), .val (.int x2)] [(.ref b1), (.ref b1)])) (fun _ k => XS.dup X3.here hx rfl (hb hby own_d_method_2_code_33) rfl rfl k) ?_
  refine own_st (T' := T3) (g' := (mkF m 35 #[.val (.int (2 : Int32)), .val (.int x0), .val (.int x1), .val (.int x2)] [(.int (1 : Int32)), (.ref b1), (.ref b1)])) (fun _ k => XS.iconst X3.here hx rfl (hb hby own_d_method_2_code_34) k) ?_
  refine own_st (T' := T3) (g' := (mkF m 36 #[.val (.int (2 : Int32)), .val (.int x0), .val (.int x1), .val (.int x2)] [(.int x1), (.int (1 : Int32)), (.ref b1), (.ref b1)])) (fun _ k => XS.iloadN X3.here hx rfl (hb hby own_d_method_2_code_35) rfl k) ?_
  have V4 := V_b1
  obtain ⟨cl4, Ar4, qk4, Sz4, Nn4, Hh4, Gg4⟩ := V4
  have hin5 : ¬ ((1 : Int32) < 0 ∨ cl4.slots.size ≤ ((1 : Int32)).toNatClampNeg) := inb_of Sz4 ⟨by decide, by decide⟩
  obtain ⟨T5, h5, X5, e5, W5, st5⟩ := stB X3 hx hZ e3 Ar4 (j := (1 : Int32)) hin5 (g := (mkF m 36 #[.val (.int (2 : Int32)), .val (.int x0), .val (.int x1), .val (.int x2)] [(.int x1), (.int (1 : Int32)), (.ref b1), (.ref b1)])) rfl rfl (hb hby own_d_method_2_code_36)
  have E_b1 := E_b1.wr W5
  have E0 := own_ext_wr E0 W5 g_b1
  have V_b1 : Arh Z h5 b1 k1 .byte (2 : Int32) (((1 : Int32), (.int (x1.toInt8.toInt32))) :: (((0 : Int32), (.int (x0.toInt8.toInt32))) :: [])) [] (.int (0 : Int32)) := Arh.push Ar4 qk4 Sz4 Nn4 Hh4 Gg4 (fits_nar_byte _) W5 hin5
  have Nf := Fr.snoc X5 Nf g_b1
  refine own_st (T' := T5) (g' := (mkF m 37 #[.val (.int (2 : Int32)), .val (.int x0), .val (.int x1), .val (.int x2)] [(.ref b1)])) st5 ?_
  exact own_ret X5 hx hlk hret rfl (Or.inr (Or.inr (Or.inr (Or.inr ⟨rfl, rfl, rfl⟩)))) (hb hby own_d_method_2_code_37) (by decide) (by decide) (by rw [e5]; exact ⟨b1, _, rfl, g_b1, Nf, E0, V_b1, E_b1⟩)
set_option maxRecDepth 65536 in
set_option maxHeartbeats 40000000 in
theorem own_make3 (l : Launch) (Z : State) (a0 : Array Value) (hw : ∀ d ∈ tables_1, d.before a0 Z = true) (h0 : Heap)  (x0 x1 x2 : Int32) :
    own_Met l Z h0 [] ({ frames := 0, cells := 1, slots := 3, locals := 0 } : Room) (⟨"com/example/earnest_key/earnestkey/OutcomeSuccessPinLaw", "make", "(IBBB)[B"⟩ : MethodName) method_2_code 4 (some (.array .byte)) #[(.int (3 : Int32)), (.int x0), (.int x1), (.int x2)] (fun v h L => ∃ b kB, v = some (.ref b) ∧ h0.size ≤ b ∧ Fr h0.size L ∧ Ext h0 h ∧ Arh Z h b kB .byte (3 : Int32) (((2 : Int32), (.int (x2.toInt8.toInt32))) :: (((1 : Int32), (.int (x1.toInt8.toInt32))) :: (((0 : Int32), (.int (x0.toInt8.toInt32))) :: []))) [] (.int (0 : Int32)) ∧ Exa Z h b "[B") := by
  refine own_body (plainFor_of_name own_pn_2) ?_
  intro p e s m below meth c T0 X0 hx hby hml hown hZ e0 hret hlk hnm hnamed
  replace hown : s.vm.findClass "com/example/earnest_key/earnestkey/OutcomeSuccessPinLaw" = some m.cls := hown
  replace hml : c.maxLocals = 4 := hml
  have ef : entryFrame m #[(.int (3 : Int32)), (.int x0), (.int x1), (.int x2)] 4 = mkF m 0 #[.val (.int (3 : Int32)), .val (.int x0), .val (.int x1), .val (.int x2)] [] := by first | (simp [entryFrame, mkF, argsToLocals, Value.category]; done) | rfl
  rw [ef]
  have E0 := own_ext_rf h0
  have Nf := Fr.nil h0.size
  refine own_st (T' := T0) (g' := (mkF m 1 #[.val (.int (3 : Int32)), .val (.int x0), .val (.int x1), .val (.int x2)] [(.int (3 : Int32))])) (fun _ k => XS.iloadN X0.here hx rfl (hb hby own_d_method_2_code_0) rfl k) ?_
  refine own_st (T' := T0) (g' := (mkF m 8 #[.val (.int (3 : Int32)), .val (.int x0), .val (.int x1), .val (.int x2)] [])) (fun _ k => XS.ifYes X0.here hx rfl (pc0 := 1) (pc' := 8) rfl (hb hby own_d_method_2_code_1) rfl (by decide) (by decide) (by decide) k) ?_
  refine own_st (T' := T0) (g' := (mkF m 9 #[.val (.int (3 : Int32)), .val (.int x0), .val (.int x1), .val (.int x2)] [(.int (3 : Int32))])) (fun _ k => XS.iloadN X0.here hx rfl (hb hby own_d_method_2_code_8) rfl k) ?_
  refine own_st (T' := T0) (g' := (mkF m 10 #[.val (.int (3 : Int32)), .val (.int x0), .val (.int x1), .val (.int x2)] [(.int (1 : Int32)), (.int (3 : Int32))])) (fun _ k => XS.iconst X0.here hx rfl (hb hby own_d_method_2_code_9) k) ?_
  refine own_st (T' := T0) (g' := (mkF m 21 #[.val (.int (3 : Int32)), .val (.int x0), .val (.int x1), .val (.int x2)] [])) (fun _ k => XS.icmpYes X0.here hx rfl (pc0 := 10) (pc' := 21) rfl (hb hby own_d_method_2_code_10) rfl (by decide) (by decide) (by decide) k) ?_
  refine own_st (T' := T0) (g' := (mkF m 22 #[.val (.int (3 : Int32)), .val (.int x0), .val (.int x1), .val (.int x2)] [(.int (3 : Int32))])) (fun _ k => XS.iloadN X0.here hx rfl (hb hby own_d_method_2_code_21) rfl k) ?_
  refine own_st (T' := T0) (g' := (mkF m 23 #[.val (.int (3 : Int32)), .val (.int x0), .val (.int x1), .val (.int x2)] [(.int (2 : Int32)), (.int (3 : Int32))])) (fun _ k => XS.iconst X0.here hx rfl (hb hby own_d_method_2_code_22) k) ?_
  refine own_st (T' := T0) (g' := (mkF m 38 #[.val (.int (3 : Int32)), .val (.int x0), .val (.int x1), .val (.int x2)] [])) (fun _ k => XS.icmpYes X0.here hx rfl (pc0 := 23) (pc' := 38) rfl (hb hby own_d_method_2_code_23) rfl (by decide) (by decide) (by decide) k) ?_
  refine own_st (T' := T0) (g' := (mkF m 39 #[.val (.int (3 : Int32)), .val (.int x0), .val (.int x1), .val (.int x2)] [(.int (3 : Int32))])) (fun _ k => XS.iconst X0.here hx rfl (hb hby own_d_method_2_code_38) k) ?_
  obtain ⟨T1, h1, k1, X1, e1, E1, A1, Q1, st1⟩ := newPE X0 hx hZ (hw _ (List.mem_of_getElem? (i := 4) rfl)) e0 (g := (mkF m 39 #[.val (.int (3 : Int32)), .val (.int x0), .val (.int x1), .val (.int x2)] [(.int (3 : Int32))])) rfl (hb hby own_d_method_2_code_39) rfl (by decide) (cap := 3) (by decide) (by decide) (by decide) (by decide) (ad := "[B") rfl
  obtain ⟨b1, gb_b1⟩ : ∃ z, z = h0.size := ⟨_, rfl⟩
  rw [← gb_b1] at A1 Q1 st1
  have g_b1 : h0.size ≤ b1 := Nat.le_trans E0.1 (Nat.le_of_eq gb_b1.symm)
  have E0 := own_ext_tr E0 E1
  have V_b1 : Arh Z h1 b1 k1 .byte (3 : Int32) [] [] (.int (0 : Int32)) := Arv.arh (Arv.new A1 (by decide))
  have E_b1 := Q1
  refine own_st (T' := T1) (g' := (mkF m 41 #[.val (.int (3 : Int32)), .val (.int x0), .val (.int x1), .val (.int x2)] [(.ref b1)])) st1 ?_
  refine own_st (T' := T1) (g' := (mkF m 42 #[.val (.int (3 : Int32)), .val (.int x0), .val (.int x1), .val (.int x2)] [(.ref b1), (.ref b1)])) (fun _ k => XS.dup X1.here hx rfl (hb hby own_d_method_2_code_41) rfl rfl k) ?_
  refine own_st (T' := T1) (g' := (mkF m 43 #[.val (.int (3 : Int32)), .val (.int x0), .val (.int x1), .val (.int x2)] [(.int (0 : Int32)), (.ref b1), (.ref b1)])) (fun _ k => XS.iconst X1.here hx rfl (hb hby own_d_method_2_code_42) k) ?_
  refine own_st (T' := T1) (g' := (mkF m 44 #[.val (.int (3 : Int32)), .val (.int x0), .val (.int x1), .val (.int x2)] [(.int x0), (.int (0 : Int32)), (.ref b1), (.ref b1)])) (fun _ k => XS.iloadN X1.here hx rfl (hb hby own_d_method_2_code_43) rfl k) ?_
  have V2 := V_b1
  obtain ⟨cl2, Ar2, qk2, Sz2, Nn2, Hh2, Gg2⟩ := V2
  have hin3 : ¬ ((0 : Int32) < 0 ∨ cl2.slots.size ≤ ((0 : Int32)).toNatClampNeg) := inb_of Sz2 ⟨by decide, by decide⟩
  obtain ⟨T3, h3, X3, e3, W3, st3⟩ := stB X1 hx hZ e1 Ar2 (j := (0 : Int32)) hin3 (g := (mkF m 44 #[.val (.int (3 : Int32)), .val (.int x0), .val (.int x1), .val (.int x2)] [(.int x0), (.int (0 : Int32)), (.ref b1), (.ref b1)])) rfl rfl (hb hby own_d_method_2_code_44)
  have E_b1 := E_b1.wr W3
  have E0 := own_ext_wr E0 W3 g_b1
  have V_b1 : Arh Z h3 b1 k1 .byte (3 : Int32) (((0 : Int32), (.int (x0.toInt8.toInt32))) :: []) [] (.int (0 : Int32)) := Arh.push Ar2 qk2 Sz2 Nn2 Hh2 Gg2 (fits_nar_byte _) W3 hin3
  have Nf := Fr.snoc X3 Nf g_b1
  refine own_st (T' := T3) (g' := (mkF m 45 #[.val (.int (3 : Int32)), .val (.int x0), .val (.int x1), .val (.int x2)] [(.ref b1)])) st3 ?_
  refine own_st (T' := T3) (g' := (mkF m 46 #[.val (.int (3 : Int32)), .val (.int x0), .val (.int x1), .val (.int x2)] [(.ref b1), (.ref b1)])) (fun _ k => XS.dup X3.here hx rfl (hb hby own_d_method_2_code_45) rfl rfl k) ?_
  refine own_st (T' := T3) (g' := (mkF m 47 #[.val (.int (3 : Int32)), .val (.int x0), .val (.int x1), .val (.int x2)] [(.int (1 : Int32)), (.ref b1), (.ref b1)])) (fun _ k => XS.iconst X3.here hx rfl (hb hby own_d_method_2_code_46) k) ?_
  refine own_st (T' := T3) (g' := (mkF m 48 #[.val (.int (3 : Int32)), .val (.int x0), .val (.int x1), .val (.int x2)] [(.int x1), (.int (1 : Int32)), (.ref b1), (.ref b1)])) (fun _ k => XS.iloadN X3.here hx rfl (hb hby own_d_method_2_code_47) rfl k) ?_
  have V4 := V_b1
  obtain ⟨cl4, Ar4, qk4, Sz4, Nn4, Hh4, Gg4⟩ := V4
  have hin5 : ¬ ((1 : Int32) < 0 ∨ cl4.slots.size ≤ ((1 : Int32)).toNatClampNeg) := inb_of Sz4 ⟨by decide, by decide⟩
  obtain ⟨T5, h5, X5, e5, W5, st5⟩ := stB X3 hx hZ e3 Ar4 (j := (1 : Int32)) hin5 (g := (mkF m 48 #[.val (.int (3 : Int32)), .val (.int x0), .val (.int x1), .val (.int x2)] [(.int x1), (.int (1 : Int32)), (.ref b1), (.ref b1)])) rfl rfl (hb hby own_d_method_2_code_48)
  have E_b1 := E_b1.wr W5
  have E0 := own_ext_wr E0 W5 g_b1
  have V_b1 : Arh Z h5 b1 k1 .byte (3 : Int32) (((1 : Int32), (.int (x1.toInt8.toInt32))) :: (((0 : Int32), (.int (x0.toInt8.toInt32))) :: [])) [] (.int (0 : Int32)) := Arh.push Ar4 qk4 Sz4 Nn4 Hh4 Gg4 (fits_nar_byte _) W5 hin5
  have Nf := Fr.snoc X5 Nf g_b1
  refine own_st (T' := T5) (g' := (mkF m 49 #[.val (.int (3 : Int32)), .val (.int x0), .val (.int x1), .val (.int x2)] [(.ref b1)])) st5 ?_
  refine own_st (T' := T5) (g' := (mkF m 50 #[.val (.int (3 : Int32)), .val (.int x0), .val (.int x1), .val (.int x2)] [(.ref b1), (.ref b1)])) (fun _ k => XS.dup X5.here hx rfl (hb hby own_d_method_2_code_49) rfl rfl k) ?_
  refine own_st (T' := T5) (g' := (mkF m 51 #[.val (.int (3 : Int32)), .val (.int x0), .val (.int x1), .val (.int x2)] [(.int (2 : Int32)), (.ref b1), (.ref b1)])) (fun _ k => XS.iconst X5.here hx rfl (hb hby own_d_method_2_code_50) k) ?_
  refine own_st (T' := T5) (g' := (mkF m 52 #[.val (.int (3 : Int32)), .val (.int x0), .val (.int x1), .val (.int x2)] [(.int x2), (.int (2 : Int32)), (.ref b1), (.ref b1)])) (fun _ k => XS.iloadN X5.here hx rfl (hb hby own_d_method_2_code_51) rfl k) ?_
  have V6 := V_b1
  obtain ⟨cl6, Ar6, qk6, Sz6, Nn6, Hh6, Gg6⟩ := V6
  have hin7 : ¬ ((2 : Int32) < 0 ∨ cl6.slots.size ≤ ((2 : Int32)).toNatClampNeg) := inb_of Sz6 ⟨by decide, by decide⟩
  obtain ⟨T7, h7, X7, e7, W7, st7⟩ := stB X5 hx hZ e5 Ar6 (j := (2 : Int32)) hin7 (g := (mkF m 52 #[.val (.int (3 : Int32)), .val (.int x0), .val (.int x1), .val (.int x2)] [(.int x2), (.int (2 : Int32)), (.ref b1), (.ref b1)])) rfl rfl (hb hby own_d_method_2_code_52)
  have E_b1 := E_b1.wr W7
  have E0 := own_ext_wr E0 W7 g_b1
  have V_b1 : Arh Z h7 b1 k1 .byte (3 : Int32) (((2 : Int32), (.int (x2.toInt8.toInt32))) :: (((1 : Int32), (.int (x1.toInt8.toInt32))) :: (((0 : Int32), (.int (x0.toInt8.toInt32))) :: []))) [] (.int (0 : Int32)) := Arh.push Ar6 qk6 Sz6 Nn6 Hh6 Gg6 (fits_nar_byte _) W7 hin7
  have Nf := Fr.snoc X7 Nf g_b1
  refine own_st (T' := T7) (g' := (mkF m 53 #[.val (.int (3 : Int32)), .val (.int x0), .val (.int x1), .val (.int x2)] [(.ref b1)])) st7 ?_
  exact own_ret X7 hx hlk hret rfl (Or.inr (Or.inr (Or.inr (Or.inr ⟨rfl, rfl, rfl⟩)))) (hb hby own_d_method_2_code_53) (by decide) (by decide) (by rw [e7]; exact ⟨b1, _, rfl, g_b1, Nf, E0, V_b1, E_b1⟩)
set_option maxRecDepth 65536 in
set_option maxHeartbeats 40000000 in
theorem own_lawP (l : Launch) (Z : State) (a0 : Array Value) (hw : ∀ d ∈ tables_1, d.before a0 Z = true) (h0 : Heap) (a_SUCCEEDED : Addr) (S_SUCCEEDED : Sta Z h0 "com/example/earnest_key/earnestkey/RecordState" "SUCCEEDED" "Lcom/example/earnest_key/earnestkey/RecordState;" (.ref a_SUCCEEDED)) (E_SUCCEEDED : Exa Z h0 a_SUCCEEDED "com/example/earnest_key/earnestkey/RecordState") (i : Int32) (j : Int32)  :
    own_MetW l Z h0 tables_1 room_1 x code maxLocals ret #[(.int i), (.int j)] (fun v h L => v = some (.int (1 : Int32)) ∧ Fr h0.size L) := by
  refine own_bodyW (plainFor_of_name own_pn_2) ?_
  intro p e s m below meth c T0 vm0 k0 X0 hS hk hx hby hml hown hZ e0 hret hlk hnm hnamed
  replace hown : (s.setVm vm0).vm.findClass "com/example/earnest_key/earnestkey/OutcomeSuccessPinLaw" = some m.cls := hown
  replace hml : c.maxLocals = 12 := hml
  have ef : entryFrame m #[(.int i), (.int j)] maxLocals = mkF m 0 #[.val (.int i), .val (.int j), .unset, .unset, .unset, .unset, .unset, .unset, .unset, .unset, .unset, .unset] [] := by first | (simp [entryFrame, mkF, argsToLocals, Value.category, maxLocals]; done) | rfl
  rw [ef]
  have E0 := own_ext_rf h0
  have Nf := Fr.nil h0.size
  refine own_st (T' := T0) (g' := (mkF m 1 #[.val (.int i), .val (.int j), .unset, .unset, .unset, .unset, .unset, .unset, .unset, .unset, .unset, .unset] [(.int i)])) (fun _ k => XS.iloadN X0.here hx rfl (hb hby at_0) rfl k) ?_
  refine own_st (T' := T0) (g' := (mkF m 2 #[.val (.int i), .val (.int j), .unset, .unset, .unset, .unset, .unset, .unset, .unset, .unset, .unset, .unset] [(.int (3 : Int32)), (.int i)])) (fun _ k => XS.iconst X0.here hx rfl (hb hby at_1) k) ?_
  refine own_st (T' := T0) (g' := (mkF m 3 #[.val (.int i), .val (.int j), .unset, .unset, .unset, .unset, .unset, .unset, .unset, .unset, .unset, .unset] [(.int (i &&& (3 : Int32)))])) (fun _ k => XS.iand X0.here hx rfl (hb hby at_2) rfl k) ?_
  have hE := own_and3 i
  rcases hE with hE | hE | hE | hE
  ·
    rw [hE]
    refine own_st (T' := T0) (g' := (mkF m 4 #[.val (.int i), .val (.int j), .val (.int (0 : Int32)), .unset, .unset, .unset, .unset, .unset, .unset, .unset, .unset, .unset] [])) (fun _ k => XS.istoreN X0.here hx rfl (hb hby at_3) rfl (l' := #[.val (.int i), .val (.int j), .val (.int (0 : Int32)), .unset, .unset, .unset, .unset, .unset, .unset, .unset, .unset, .unset]) rfl k) ?_
    refine own_st (T' := T0) (g' := (mkF m 5 #[.val (.int i), .val (.int j), .val (.int (0 : Int32)), .unset, .unset, .unset, .unset, .unset, .unset, .unset, .unset, .unset] [(.int j)])) (fun _ k => XS.iloadN X0.here hx rfl (hb hby at_4) rfl k) ?_
    refine own_st (T' := T0) (g' := (mkF m 6 #[.val (.int i), .val (.int j), .val (.int (0 : Int32)), .unset, .unset, .unset, .unset, .unset, .unset, .unset, .unset, .unset] [(.int (j.toInt8.toInt32))])) (fun _ k => XS.i2b X0.here hx rfl (hb hby at_5) rfl k) ?_
    refine own_st (T' := T0) (g' := (mkF m 7 #[.val (.int i), .val (.int j), .val (.int (0 : Int32)), .val (.int (j.toInt8.toInt32)), .unset, .unset, .unset, .unset, .unset, .unset, .unset, .unset] [])) (fun _ k => XS.istoreN X0.here hx rfl (hb hby at_6) rfl (l' := #[.val (.int i), .val (.int j), .val (.int (0 : Int32)), .val (.int (j.toInt8.toInt32)), .unset, .unset, .unset, .unset, .unset, .unset, .unset, .unset]) rfl k) ?_
    refine own_st (T' := T0) (g' := (mkF m 8 #[.val (.int i), .val (.int j), .val (.int (0 : Int32)), .val (.int (j.toInt8.toInt32)), .unset, .unset, .unset, .unset, .unset, .unset, .unset, .unset] [(.int j)])) (fun _ k => XS.iloadN X0.here hx rfl (hb hby at_7) rfl k) ?_
    refine own_st (T' := T0) (g' := (mkF m 10 #[.val (.int i), .val (.int j), .val (.int (0 : Int32)), .val (.int (j.toInt8.toInt32)), .unset, .unset, .unset, .unset, .unset, .unset, .unset, .unset] [(.int (8 : Int32)), (.int j)])) (fun _ k => XS.bipush X0.here hx rfl (hb hby at_8) k) ?_
    refine own_st (T' := T0) (g' := (mkF m 11 #[.val (.int i), .val (.int j), .val (.int (0 : Int32)), .val (.int (j.toInt8.toInt32)), .unset, .unset, .unset, .unset, .unset, .unset, .unset, .unset] [(.int (j >>> ((8 : Int32) &&& 31)))])) (fun _ k => XS.ishr X0.here hx rfl (hb hby at_10) rfl k) ?_
    refine own_st (T' := T0) (g' := (mkF m 12 #[.val (.int i), .val (.int j), .val (.int (0 : Int32)), .val (.int (j.toInt8.toInt32)), .unset, .unset, .unset, .unset, .unset, .unset, .unset, .unset] [(.int ((j >>> ((8 : Int32) &&& 31)).toInt8.toInt32))])) (fun _ k => XS.i2b X0.here hx rfl (hb hby at_11) rfl k) ?_
    refine own_st (T' := T0) (g' := (mkF m 14 #[.val (.int i), .val (.int j), .val (.int (0 : Int32)), .val (.int (j.toInt8.toInt32)), .val (.int ((j >>> ((8 : Int32) &&& 31)).toInt8.toInt32)), .unset, .unset, .unset, .unset, .unset, .unset, .unset] [])) (fun _ k => XS.istore X0.here hx rfl (hb hby at_12) rfl (l' := #[.val (.int i), .val (.int j), .val (.int (0 : Int32)), .val (.int (j.toInt8.toInt32)), .val (.int ((j >>> ((8 : Int32) &&& 31)).toInt8.toInt32)), .unset, .unset, .unset, .unset, .unset, .unset, .unset]) rfl k) ?_
    refine own_st (T' := T0) (g' := (mkF m 15 #[.val (.int i), .val (.int j), .val (.int (0 : Int32)), .val (.int (j.toInt8.toInt32)), .val (.int ((j >>> ((8 : Int32) &&& 31)).toInt8.toInt32)), .unset, .unset, .unset, .unset, .unset, .unset, .unset] [(.int j)])) (fun _ k => XS.iloadN X0.here hx rfl (hb hby at_14) rfl k) ?_
    refine own_st (T' := T0) (g' := (mkF m 17 #[.val (.int i), .val (.int j), .val (.int (0 : Int32)), .val (.int (j.toInt8.toInt32)), .val (.int ((j >>> ((8 : Int32) &&& 31)).toInt8.toInt32)), .unset, .unset, .unset, .unset, .unset, .unset, .unset] [(.int (16 : Int32)), (.int j)])) (fun _ k => XS.bipush X0.here hx rfl (hb hby at_15) k) ?_
    refine own_st (T' := T0) (g' := (mkF m 18 #[.val (.int i), .val (.int j), .val (.int (0 : Int32)), .val (.int (j.toInt8.toInt32)), .val (.int ((j >>> ((8 : Int32) &&& 31)).toInt8.toInt32)), .unset, .unset, .unset, .unset, .unset, .unset, .unset] [(.int (j >>> ((16 : Int32) &&& 31)))])) (fun _ k => XS.ishr X0.here hx rfl (hb hby at_17) rfl k) ?_
    refine own_st (T' := T0) (g' := (mkF m 19 #[.val (.int i), .val (.int j), .val (.int (0 : Int32)), .val (.int (j.toInt8.toInt32)), .val (.int ((j >>> ((8 : Int32) &&& 31)).toInt8.toInt32)), .unset, .unset, .unset, .unset, .unset, .unset, .unset] [(.int ((j >>> ((16 : Int32) &&& 31)).toInt8.toInt32))])) (fun _ k => XS.i2b X0.here hx rfl (hb hby at_18) rfl k) ?_
    refine own_st (T' := T0) (g' := (mkF m 21 #[.val (.int i), .val (.int j), .val (.int (0 : Int32)), .val (.int (j.toInt8.toInt32)), .val (.int ((j >>> ((8 : Int32) &&& 31)).toInt8.toInt32)), .val (.int ((j >>> ((16 : Int32) &&& 31)).toInt8.toInt32)), .unset, .unset, .unset, .unset, .unset, .unset] [])) (fun _ k => XS.istore X0.here hx rfl (hb hby at_19) rfl (l' := #[.val (.int i), .val (.int j), .val (.int (0 : Int32)), .val (.int (j.toInt8.toInt32)), .val (.int ((j >>> ((8 : Int32) &&& 31)).toInt8.toInt32)), .val (.int ((j >>> ((16 : Int32) &&& 31)).toInt8.toInt32)), .unset, .unset, .unset, .unset, .unset, .unset]) rfl k) ?_
    refine own_st (T' := T0) (g' := (mkF m 22 #[.val (.int i), .val (.int j), .val (.int (0 : Int32)), .val (.int (j.toInt8.toInt32)), .val (.int ((j >>> ((8 : Int32) &&& 31)).toInt8.toInt32)), .val (.int ((j >>> ((16 : Int32) &&& 31)).toInt8.toInt32)), .unset, .unset, .unset, .unset, .unset, .unset] [(.int (0 : Int32))])) (fun _ k => XS.iloadN X0.here hx rfl (hb hby at_21) rfl k) ?_
    refine own_st (T' := T0) (g' := (mkF m 23 #[.val (.int i), .val (.int j), .val (.int (0 : Int32)), .val (.int (j.toInt8.toInt32)), .val (.int ((j >>> ((8 : Int32) &&& 31)).toInt8.toInt32)), .val (.int ((j >>> ((16 : Int32) &&& 31)).toInt8.toInt32)), .unset, .unset, .unset, .unset, .unset, .unset] [(.int (j.toInt8.toInt32)), (.int (0 : Int32))])) (fun _ k => XS.iloadN X0.here hx rfl (hb hby at_22) rfl k) ?_
    refine own_st (T' := T0) (g' := (mkF m 25 #[.val (.int i), .val (.int j), .val (.int (0 : Int32)), .val (.int (j.toInt8.toInt32)), .val (.int ((j >>> ((8 : Int32) &&& 31)).toInt8.toInt32)), .val (.int ((j >>> ((16 : Int32) &&& 31)).toInt8.toInt32)), .unset, .unset, .unset, .unset, .unset, .unset] [(.int ((j >>> ((8 : Int32) &&& 31)).toInt8.toInt32)), (.int (j.toInt8.toInt32)), (.int (0 : Int32))])) (fun _ k => XS.iload X0.here hx rfl (hb hby at_23) rfl k) ?_
    refine own_st (T' := T0) (g' := (mkF m 27 #[.val (.int i), .val (.int j), .val (.int (0 : Int32)), .val (.int (j.toInt8.toInt32)), .val (.int ((j >>> ((8 : Int32) &&& 31)).toInt8.toInt32)), .val (.int ((j >>> ((16 : Int32) &&& 31)).toInt8.toInt32)), .unset, .unset, .unset, .unset, .unset, .unset] [(.int ((j >>> ((16 : Int32) &&& 31)).toInt8.toInt32)), (.int ((j >>> ((8 : Int32) &&& 31)).toInt8.toInt32)), (.int (j.toInt8.toInt32)), (.int (0 : Int32))])) (fun _ k => XS.iload X0.here hx rfl (hb hby at_25) rfl k) ?_
    obtain ⟨v1, T1, L1, X1, hQ1, st1⟩ := own_gS X0  hx hZ hown (hw _ (List.mem_of_getElem? (i := 0) rfl)) (hw _ (List.mem_of_getElem? (i := 1) rfl)) (hw _ (List.mem_of_getElem? (i := 2) rfl)) (hw _ (List.mem_of_getElem? (i := 3) rfl)) (by decide) e0 (own_make0 l Z a0 hw h0 ((j.toInt8.toInt32)) (((j >>> ((8 : Int32) &&& 31)).toInt8.toInt32)) (((j >>> ((16 : Int32) &&& 31)).toInt8.toInt32))) (by decide) (by decide) (by decide) (by decide) (Q := (fun v h L => ∃ b kB, v = some (.ref b) ∧ h0.size ≤ b ∧ Fr h0.size L ∧ Ext h0 h ∧ Arh Z h b kB .byte (0 : Int32) [] [] (.int (0 : Int32)) ∧ Exa Z h b "[B")) (W := 0) (g := (mkF m 27 #[.val (.int i), .val (.int j), .val (.int (0 : Int32)), .val (.int (j.toInt8.toInt32)), .val (.int ((j >>> ((8 : Int32) &&& 31)).toInt8.toInt32)), .val (.int ((j >>> ((16 : Int32) &&& 31)).toInt8.toInt32)), .unset, .unset, .unset, .unset, .unset, .unset] [(.int ((j >>> ((16 : Int32) &&& 31)).toInt8.toInt32)), (.int ((j >>> ((8 : Int32) &&& 31)).toInt8.toInt32)), (.int (j.toInt8.toInt32)), (.int (0 : Int32))])) (argsL := [(.int (0 : Int32)), (.int (j.toInt8.toInt32)), (.int ((j >>> ((8 : Int32) &&& 31)).toInt8.toInt32)), (.int ((j >>> ((16 : Int32) &&& 31)).toInt8.toInt32))]) (rest := []) rfl (by rw [hml]; rfl) (lenOf own_pd_2 rfl) rfl (by show 2 * 0 + _ ≤ _; exact Nat.le_of_eq rfl) (hb hby at_27)
    obtain ⟨b1, kB1, rfl, gq1, NL1, EX1, VV1, EE1⟩ := hQ1
    have g_b1 : h0.size ≤ b1 := Nat.le_trans E0.1 gq1
    have Nf := Fr.app Nf (own_fr_mono E0.1 NL1)
    have E0 := own_ext_tr E0 EX1
    have hk := Nat.le_trans hk EX1.1
    have V_b1 := VV1
    have E_b1 := EE1
    refine own_st (T' := T1) (g' := (mkF m 30 #[.val (.int i), .val (.int j), .val (.int (0 : Int32)), .val (.int (j.toInt8.toInt32)), .val (.int ((j >>> ((8 : Int32) &&& 31)).toInt8.toInt32)), .val (.int ((j >>> ((16 : Int32) &&& 31)).toInt8.toInt32)), .unset, .unset, .unset, .unset, .unset, .unset] [(.ref b1)])) st1 ?_
    refine own_st (T' := T1) (g' := (mkF m 32 #[.val (.int i), .val (.int j), .val (.int (0 : Int32)), .val (.int (j.toInt8.toInt32)), .val (.int ((j >>> ((8 : Int32) &&& 31)).toInt8.toInt32)), .val (.int ((j >>> ((16 : Int32) &&& 31)).toInt8.toInt32)), .val (.ref b1), .unset, .unset, .unset, .unset, .unset] [])) (fun _ k => XS.astore X1.here hx rfl (hb hby at_30) rfl rfl (l' := #[.val (.int i), .val (.int j), .val (.int (0 : Int32)), .val (.int (j.toInt8.toInt32)), .val (.int ((j >>> ((8 : Int32) &&& 31)).toInt8.toInt32)), .val (.int ((j >>> ((16 : Int32) &&& 31)).toInt8.toInt32)), .val (.ref b1), .unset, .unset, .unset, .unset, .unset]) rfl k) ?_
    refine own_st (T' := T1) (g' := (mkF m 34 #[.val (.int i), .val (.int j), .val (.int (0 : Int32)), .val (.int (j.toInt8.toInt32)), .val (.int ((j >>> ((8 : Int32) &&& 31)).toInt8.toInt32)), .val (.int ((j >>> ((16 : Int32) &&& 31)).toInt8.toInt32)), .val (.ref b1), .unset, .unset, .unset, .unset, .unset] [(.ref b1)])) (fun _ k => XS.aload X1.here hx rfl (hb hby at_32) rfl rfl k) ?_
    obtain ⟨v2, T2, L2, k2, X2, hQ2, hS, hk, hZ, hown, st2⟩ := own_gSW X1 hS hk hx hZ hown (hw _ (List.mem_of_getElem? (i := 5) rfl)) (hw _ (List.mem_of_getElem? (i := 6) rfl)) (hw _ (List.mem_of_getElem? (i := 7) rfl)) (hw _ (List.mem_of_getElem? (i := 8) rfl)) (by decide) rfl (own_succ l Z a0 hw T1.heap b1 kB1 (0 : Int32) [] (by decide) V_b1 E_b1) (by decide) (by decide) (by decide) (by decide) (Q := (fun v h L => ∃ o d, v = some (.ref o) ∧ T1.heap.size ≤ o ∧ T1.heap.size ≤ d ∧ Fr T1.heap.size L ∧ Ext T1.heap h ∧ Exa Z h o "com/example/earnest_key/earnestkey/Outcome" ∧ Fld Z h o "com/example/earnest_key/earnestkey/Outcome" "bytes" "[B" (.ref d) ∧ Fld Z h o "com/example/earnest_key/earnestkey/Outcome" "failure" "Z" (.int (0 : Int32)) ∧ Arh Z h d kB1 .byte (0 : Int32) [] [] (.int (0 : Int32)) ∧ Exa Z h d "[B" ∧ o ≠ d)) (W := 0) (g := (mkF m 34 #[.val (.int i), .val (.int j), .val (.int (0 : Int32)), .val (.int (j.toInt8.toInt32)), .val (.int ((j >>> ((8 : Int32) &&& 31)).toInt8.toInt32)), .val (.int ((j >>> ((16 : Int32) &&& 31)).toInt8.toInt32)), .val (.ref b1), .unset, .unset, .unset, .unset, .unset] [(.ref b1)])) (argsL := [(.ref b1)]) (rest := []) rfl (by rw [hml]; rfl) (lenOf own_pd_3 rfl) rfl (by show 2 * 0 + _ ≤ _; exact Nat.le_of_eq rfl) (hb hby at_34)
    obtain ⟨b2, d2, rfl, gq2, gd2, NL2, EX2, EE2, FB2, FF2, VV2, ED2, nod2⟩ := hQ2
    have ne_b1_b2 : b1 ≠ b2 := Nat.ne_of_lt (Nat.lt_of_lt_of_le V_b1.lt gq2)
    have g_b2 : h0.size ≤ b2 := Nat.le_trans E0.1 gq2
    have ne_b1_d2 : b1 ≠ d2 := Nat.ne_of_lt (Nat.lt_of_lt_of_le V_b1.lt gd2)
    have g_d2 : h0.size ≤ d2 := Nat.le_trans E0.1 gd2
    have Nf := Fr.app Nf (own_fr_mono E0.1 NL2)
    have V_b1 := V_b1.ext EX2
    have E_b1 := E_b1.ext EX2
    have E0 := own_ext_tr E0 EX2
    have E_b2 := EE2
    have F_bytes_b2 := FB2
    have F_failure_b2 := FF2
    have V_d2 := VV2
    have E_d2 := ED2
    refine own_st (T' := T2) (g' := (mkF m 37 #[.val (.int i), .val (.int j), .val (.int (0 : Int32)), .val (.int (j.toInt8.toInt32)), .val (.int ((j >>> ((8 : Int32) &&& 31)).toInt8.toInt32)), .val (.int ((j >>> ((16 : Int32) &&& 31)).toInt8.toInt32)), .val (.ref b1), .unset, .unset, .unset, .unset, .unset] [(.ref b2)])) st2 ?_
    refine own_st (T' := T2) (g' := (mkF m 39 #[.val (.int i), .val (.int j), .val (.int (0 : Int32)), .val (.int (j.toInt8.toInt32)), .val (.int ((j >>> ((8 : Int32) &&& 31)).toInt8.toInt32)), .val (.int ((j >>> ((16 : Int32) &&& 31)).toInt8.toInt32)), .val (.ref b1), .val (.ref b2), .unset, .unset, .unset, .unset] [])) (fun _ k => XS.astore X2.here hx rfl (hb hby at_37) rfl rfl (l' := #[.val (.int i), .val (.int j), .val (.int (0 : Int32)), .val (.int (j.toInt8.toInt32)), .val (.int ((j >>> ((8 : Int32) &&& 31)).toInt8.toInt32)), .val (.int ((j >>> ((16 : Int32) &&& 31)).toInt8.toInt32)), .val (.ref b1), .val (.ref b2), .unset, .unset, .unset, .unset]) rfl k) ?_
    refine own_st (T' := T2) (g' := (mkF m 40 #[.val (.int i), .val (.int j), .val (.int (0 : Int32)), .val (.int (j.toInt8.toInt32)), .val (.int ((j >>> ((8 : Int32) &&& 31)).toInt8.toInt32)), .val (.int ((j >>> ((16 : Int32) &&& 31)).toInt8.toInt32)), .val (.ref b1), .val (.ref b2), .unset, .unset, .unset, .unset] [(.int (0 : Int32))])) (fun _ k => XS.iloadN X2.here hx rfl (hb hby at_39) rfl k) ?_
    refine own_st (T' := T2) (g' := (mkF m 51 #[.val (.int i), .val (.int j), .val (.int (0 : Int32)), .val (.int (j.toInt8.toInt32)), .val (.int ((j >>> ((8 : Int32) &&& 31)).toInt8.toInt32)), .val (.int ((j >>> ((16 : Int32) &&& 31)).toInt8.toInt32)), .val (.ref b1), .val (.ref b2), .unset, .unset, .unset, .unset] [])) (fun _ k => XS.ifYes X2.here hx rfl (pc0 := 40) (pc' := 51) rfl (hb hby at_40) rfl (by decide) (by decide) (by decide) k) ?_
    refine own_st (T' := T2) (g' := (mkF m 52 #[.val (.int i), .val (.int j), .val (.int (0 : Int32)), .val (.int (j.toInt8.toInt32)), .val (.int ((j >>> ((8 : Int32) &&& 31)).toInt8.toInt32)), .val (.int ((j >>> ((16 : Int32) &&& 31)).toInt8.toInt32)), .val (.ref b1), .val (.ref b2), .unset, .unset, .unset, .unset] [(.int (0 : Int32))])) (fun _ k => XS.iloadN X2.here hx rfl (hb hby at_51) rfl k) ?_
    refine own_st (T' := T2) (g' := (mkF m 53 #[.val (.int i), .val (.int j), .val (.int (0 : Int32)), .val (.int (j.toInt8.toInt32)), .val (.int ((j >>> ((8 : Int32) &&& 31)).toInt8.toInt32)), .val (.int ((j >>> ((16 : Int32) &&& 31)).toInt8.toInt32)), .val (.ref b1), .val (.ref b2), .unset, .unset, .unset, .unset] [(.int (1 : Int32)), (.int (0 : Int32))])) (fun _ k => XS.iconst X2.here hx rfl (hb hby at_52) k) ?_
    refine own_st (T' := T2) (g' := (mkF m 65 #[.val (.int i), .val (.int j), .val (.int (0 : Int32)), .val (.int (j.toInt8.toInt32)), .val (.int ((j >>> ((8 : Int32) &&& 31)).toInt8.toInt32)), .val (.int ((j >>> ((16 : Int32) &&& 31)).toInt8.toInt32)), .val (.ref b1), .val (.ref b2), .unset, .unset, .unset, .unset] [])) (fun _ k => XS.icmpYes X2.here hx rfl (pc0 := 53) (pc' := 65) rfl (hb hby at_53) rfl (by decide) (by decide) (by decide) k) ?_
    refine own_st (T' := T2) (g' := (mkF m 66 #[.val (.int i), .val (.int j), .val (.int (0 : Int32)), .val (.int (j.toInt8.toInt32)), .val (.int ((j >>> ((8 : Int32) &&& 31)).toInt8.toInt32)), .val (.int ((j >>> ((16 : Int32) &&& 31)).toInt8.toInt32)), .val (.ref b1), .val (.ref b2), .unset, .unset, .unset, .unset] [(.int (0 : Int32))])) (fun _ k => XS.iloadN X2.here hx rfl (hb hby at_65) rfl k) ?_
    refine own_st (T' := T2) (g' := (mkF m 67 #[.val (.int i), .val (.int j), .val (.int (0 : Int32)), .val (.int (j.toInt8.toInt32)), .val (.int ((j >>> ((8 : Int32) &&& 31)).toInt8.toInt32)), .val (.int ((j >>> ((16 : Int32) &&& 31)).toInt8.toInt32)), .val (.ref b1), .val (.ref b2), .unset, .unset, .unset, .unset] [(.int (2 : Int32)), (.int (0 : Int32))])) (fun _ k => XS.iconst X2.here hx rfl (hb hby at_66) k) ?_
    refine own_st (T' := T2) (g' := (mkF m 79 #[.val (.int i), .val (.int j), .val (.int (0 : Int32)), .val (.int (j.toInt8.toInt32)), .val (.int ((j >>> ((8 : Int32) &&& 31)).toInt8.toInt32)), .val (.int ((j >>> ((16 : Int32) &&& 31)).toInt8.toInt32)), .val (.ref b1), .val (.ref b2), .unset, .unset, .unset, .unset] [])) (fun _ k => XS.icmpYes X2.here hx rfl (pc0 := 67) (pc' := 79) rfl (hb hby at_67) rfl (by decide) (by decide) (by decide) k) ?_
    refine own_st (T' := T2) (g' := (mkF m 81 #[.val (.int i), .val (.int j), .val (.int (0 : Int32)), .val (.int (j.toInt8.toInt32)), .val (.int ((j >>> ((8 : Int32) &&& 31)).toInt8.toInt32)), .val (.int ((j >>> ((16 : Int32) &&& 31)).toInt8.toInt32)), .val (.ref b1), .val (.ref b2), .unset, .unset, .unset, .unset] [(.ref b2)])) (fun _ k => XS.aload X2.here hx rfl (hb hby at_79) rfl rfl k) ?_
    obtain ⟨v3, T3, L3, X3, hQ3, st3⟩ := own_gV X2 hx hZ hown (hw _ (List.mem_of_getElem? (i := 41) rfl)) (hw _ (List.mem_of_getElem? (i := 42) rfl)) (notFace_of_selects (args := #[]) (mvT hZ (hw _ (List.mem_of_getElem? (i := 44) rfl)))) (hw _ (List.mem_of_getElem? (i := 44) rfl)) (hw _ (List.mem_of_getElem? (i := 43) rfl)) (hw _ (List.mem_of_getElem? (i := 7) rfl)) (hw _ (List.mem_of_getElem? (i := 45) rfl)) (by decide) rfl E_b2 (own_byt l Z a0 hw T2.heap b2 d2 kB1 (0 : Int32) [] (by decide) F_bytes_b2 V_d2 E_d2) (by decide) (by decide) (by decide) (by decide) (Q := (fun v h L => ∃ b, v = some (.ref b) ∧ T2.heap.size ≤ b ∧ Fr T2.heap.size L ∧ Ext T2.heap h ∧ Arh Z h b kB1 .byte (0 : Int32) [] [] (.int (0 : Int32)) ∧ Exa Z h b "[B")) (W := 0) (g := (mkF m 81 #[.val (.int i), .val (.int j), .val (.int (0 : Int32)), .val (.int (j.toInt8.toInt32)), .val (.int ((j >>> ((8 : Int32) &&& 31)).toInt8.toInt32)), .val (.int ((j >>> ((16 : Int32) &&& 31)).toInt8.toInt32)), .val (.ref b1), .val (.ref b2), .unset, .unset, .unset, .unset] [(.ref b2)])) (argsL := []) (rest := []) rfl (by rw [hml]; rfl) (lenOf own_pd_4 rfl) rfl (by show 2 * 0 + _ ≤ _; exact Nat.le_of_eq rfl) (hb hby at_81)
    obtain ⟨b3, rfl, gq3, NL3, EX3, VV3, EE3⟩ := hQ3
    have ne_b1_b3 : b1 ≠ b3 := Nat.ne_of_lt (Nat.lt_of_lt_of_le V_b1.lt gq3)
    have ne_b2_b3 : b2 ≠ b3 := Nat.ne_of_lt (Nat.lt_of_lt_of_le E_b2.lt gq3)
    have ne_d2_b3 : d2 ≠ b3 := Nat.ne_of_lt (Nat.lt_of_lt_of_le V_d2.lt gq3)
    have g_b3 : h0.size ≤ b3 := Nat.le_trans E0.1 gq3
    have Nf := Fr.app Nf (own_fr_mono E0.1 NL3)
    have V_b1 := V_b1.ext EX3
    have E_b1 := E_b1.ext EX3
    have E_b2 := E_b2.ext EX3
    have F_bytes_b2 := F_bytes_b2.ext EX3
    have F_failure_b2 := F_failure_b2.ext EX3
    have V_d2 := V_d2.ext EX3
    have E_d2 := E_d2.ext EX3
    have E0 := own_ext_tr E0 EX3
    have hk := Nat.le_trans hk EX3.1
    have V_b3 := VV3
    have E_b3 := EE3
    refine own_st (T' := T3) (g' := (mkF m 84 #[.val (.int i), .val (.int j), .val (.int (0 : Int32)), .val (.int (j.toInt8.toInt32)), .val (.int ((j >>> ((8 : Int32) &&& 31)).toInt8.toInt32)), .val (.int ((j >>> ((16 : Int32) &&& 31)).toInt8.toInt32)), .val (.ref b1), .val (.ref b2), .unset, .unset, .unset, .unset] [(.ref b3)])) st3 ?_
    refine own_st (T' := T3) (g' := (mkF m 86 #[.val (.int i), .val (.int j), .val (.int (0 : Int32)), .val (.int (j.toInt8.toInt32)), .val (.int ((j >>> ((8 : Int32) &&& 31)).toInt8.toInt32)), .val (.int ((j >>> ((16 : Int32) &&& 31)).toInt8.toInt32)), .val (.ref b1), .val (.ref b2), .val (.ref b3), .unset, .unset, .unset] [])) (fun _ k => XS.astore X3.here hx rfl (hb hby at_84) rfl rfl (l' := #[.val (.int i), .val (.int j), .val (.int (0 : Int32)), .val (.int (j.toInt8.toInt32)), .val (.int ((j >>> ((8 : Int32) &&& 31)).toInt8.toInt32)), .val (.int ((j >>> ((16 : Int32) &&& 31)).toInt8.toInt32)), .val (.ref b1), .val (.ref b2), .val (.ref b3), .unset, .unset, .unset]) rfl k) ?_
    refine own_st (T' := T3) (g' := (mkF m 88 #[.val (.int i), .val (.int j), .val (.int (0 : Int32)), .val (.int (j.toInt8.toInt32)), .val (.int ((j >>> ((8 : Int32) &&& 31)).toInt8.toInt32)), .val (.int ((j >>> ((16 : Int32) &&& 31)).toInt8.toInt32)), .val (.ref b1), .val (.ref b2), .val (.ref b3), .unset, .unset, .unset] [(.ref b3)])) (fun _ k => XS.aload X3.here hx rfl (hb hby at_86) rfl rfl k) ?_
    have V4 := V_b3
    obtain ⟨cl4, Ar4, qk4, Sz4, Nn4, Hh4, Gg4⟩ := V4
    refine own_st (T' := T3) (g' := (mkF m 89 #[.val (.int i), .val (.int j), .val (.int (0 : Int32)), .val (.int (j.toInt8.toInt32)), .val (.int ((j >>> ((8 : Int32) &&& 31)).toInt8.toInt32)), .val (.int ((j >>> ((16 : Int32) &&& 31)).toInt8.toInt32)), .val (.ref b1), .val (.ref b2), .val (.ref b3), .unset, .unset, .unset] [(.int cl4.slots.size.toInt32)])) (fun _ k => X3.arraylength hx (own_he rfl Ar4.1) (State.isArrayOf_alike hZ.alike Ar4.2.1) (g := (mkF m 88 #[.val (.int i), .val (.int j), .val (.int (0 : Int32)), .val (.int (j.toInt8.toInt32)), .val (.int ((j >>> ((8 : Int32) &&& 31)).toInt8.toInt32)), .val (.int ((j >>> ((16 : Int32) &&& 31)).toInt8.toInt32)), .val (.ref b1), .val (.ref b2), .val (.ref b3), .unset, .unset, .unset] [(.ref b3)])) rfl rfl (hb hby at_88) _ k) ?_
    rw [len_of Sz4 Nn4]
    refine own_st (T' := T3) (g' := (mkF m 90 #[.val (.int i), .val (.int j), .val (.int (0 : Int32)), .val (.int (j.toInt8.toInt32)), .val (.int ((j >>> ((8 : Int32) &&& 31)).toInt8.toInt32)), .val (.int ((j >>> ((16 : Int32) &&& 31)).toInt8.toInt32)), .val (.ref b1), .val (.ref b2), .val (.ref b3), .unset, .unset, .unset] [(.int (0 : Int32)), (.int (0 : Int32))])) (fun _ k => XS.iloadN X3.here hx rfl (hb hby at_89) rfl k) ?_
    refine own_st (T' := T3) (g' := (mkF m 93 #[.val (.int i), .val (.int j), .val (.int (0 : Int32)), .val (.int (j.toInt8.toInt32)), .val (.int ((j >>> ((8 : Int32) &&& 31)).toInt8.toInt32)), .val (.int ((j >>> ((16 : Int32) &&& 31)).toInt8.toInt32)), .val (.ref b1), .val (.ref b2), .val (.ref b3), .unset, .unset, .unset] [])) (fun _ k => XS.icmpNo X3.here hx rfl (hb hby at_90) rfl (by decide) k) ?_
    refine own_st (T' := T3) (g' := (mkF m 94 #[.val (.int i), .val (.int j), .val (.int (0 : Int32)), .val (.int (j.toInt8.toInt32)), .val (.int ((j >>> ((8 : Int32) &&& 31)).toInt8.toInt32)), .val (.int ((j >>> ((16 : Int32) &&& 31)).toInt8.toInt32)), .val (.ref b1), .val (.ref b2), .val (.ref b3), .unset, .unset, .unset] [(.int (0 : Int32))])) (fun _ k => XS.iloadN X3.here hx rfl (hb hby at_93) rfl k) ?_
    refine own_st (T' := T3) (g' := (mkF m 95 #[.val (.int i), .val (.int j), .val (.int (0 : Int32)), .val (.int (j.toInt8.toInt32)), .val (.int ((j >>> ((8 : Int32) &&& 31)).toInt8.toInt32)), .val (.int ((j >>> ((16 : Int32) &&& 31)).toInt8.toInt32)), .val (.ref b1), .val (.ref b2), .val (.ref b3), .unset, .unset, .unset] [(.int (1 : Int32)), (.int (0 : Int32))])) (fun _ k => XS.iconst X3.here hx rfl (hb hby at_94) k) ?_
    refine own_st (T' := T3) (g' := (mkF m 106 #[.val (.int i), .val (.int j), .val (.int (0 : Int32)), .val (.int (j.toInt8.toInt32)), .val (.int ((j >>> ((8 : Int32) &&& 31)).toInt8.toInt32)), .val (.int ((j >>> ((16 : Int32) &&& 31)).toInt8.toInt32)), .val (.ref b1), .val (.ref b2), .val (.ref b3), .unset, .unset, .unset] [])) (fun _ k => XS.icmpYes X3.here hx rfl (pc0 := 95) (pc' := 106) rfl (hb hby at_95) rfl (by decide) (by decide) (by decide) k) ?_
    refine own_st (T' := T3) (g' := (mkF m 107 #[.val (.int i), .val (.int j), .val (.int (0 : Int32)), .val (.int (j.toInt8.toInt32)), .val (.int ((j >>> ((8 : Int32) &&& 31)).toInt8.toInt32)), .val (.int ((j >>> ((16 : Int32) &&& 31)).toInt8.toInt32)), .val (.ref b1), .val (.ref b2), .val (.ref b3), .unset, .unset, .unset] [(.int (0 : Int32))])) (fun _ k => XS.iloadN X3.here hx rfl (hb hby at_106) rfl k) ?_
    refine own_st (T' := T3) (g' := (mkF m 108 #[.val (.int i), .val (.int j), .val (.int (0 : Int32)), .val (.int (j.toInt8.toInt32)), .val (.int ((j >>> ((8 : Int32) &&& 31)).toInt8.toInt32)), .val (.int ((j >>> ((16 : Int32) &&& 31)).toInt8.toInt32)), .val (.ref b1), .val (.ref b2), .val (.ref b3), .unset, .unset, .unset] [(.int (2 : Int32)), (.int (0 : Int32))])) (fun _ k => XS.iconst X3.here hx rfl (hb hby at_107) k) ?_
    refine own_st (T' := T3) (g' := (mkF m 120 #[.val (.int i), .val (.int j), .val (.int (0 : Int32)), .val (.int (j.toInt8.toInt32)), .val (.int ((j >>> ((8 : Int32) &&& 31)).toInt8.toInt32)), .val (.int ((j >>> ((16 : Int32) &&& 31)).toInt8.toInt32)), .val (.ref b1), .val (.ref b2), .val (.ref b3), .unset, .unset, .unset] [])) (fun _ k => XS.icmpYes X3.here hx rfl (pc0 := 108) (pc' := 120) rfl (hb hby at_108) rfl (by decide) (by decide) (by decide) k) ?_
    refine own_st (T' := T3) (g' := (mkF m 121 #[.val (.int i), .val (.int j), .val (.int (0 : Int32)), .val (.int (j.toInt8.toInt32)), .val (.int ((j >>> ((8 : Int32) &&& 31)).toInt8.toInt32)), .val (.int ((j >>> ((16 : Int32) &&& 31)).toInt8.toInt32)), .val (.ref b1), .val (.ref b2), .val (.ref b3), .unset, .unset, .unset] [(.int (0 : Int32))])) (fun _ k => XS.iloadN X3.here hx rfl (hb hby at_120) rfl k) ?_
    refine own_st (T' := T3) (g' := (mkF m 122 #[.val (.int i), .val (.int j), .val (.int (0 : Int32)), .val (.int (j.toInt8.toInt32)), .val (.int ((j >>> ((8 : Int32) &&& 31)).toInt8.toInt32)), .val (.int ((j >>> ((16 : Int32) &&& 31)).toInt8.toInt32)), .val (.ref b1), .val (.ref b2), .val (.ref b3), .unset, .unset, .unset] [(.int (3 : Int32)), (.int (0 : Int32))])) (fun _ k => XS.iconst X3.here hx rfl (hb hby at_121) k) ?_
    refine own_st (T' := T3) (g' := (mkF m 134 #[.val (.int i), .val (.int j), .val (.int (0 : Int32)), .val (.int (j.toInt8.toInt32)), .val (.int ((j >>> ((8 : Int32) &&& 31)).toInt8.toInt32)), .val (.int ((j >>> ((16 : Int32) &&& 31)).toInt8.toInt32)), .val (.ref b1), .val (.ref b2), .val (.ref b3), .unset, .unset, .unset] [])) (fun _ k => XS.icmpYes X3.here hx rfl (pc0 := 122) (pc' := 134) rfl (hb hby at_122) rfl (by decide) (by decide) (by decide) k) ?_
    refine own_st (T' := T3) (g' := (mkF m 135 #[.val (.int i), .val (.int j), .val (.int (0 : Int32)), .val (.int (j.toInt8.toInt32)), .val (.int ((j >>> ((8 : Int32) &&& 31)).toInt8.toInt32)), .val (.int ((j >>> ((16 : Int32) &&& 31)).toInt8.toInt32)), .val (.ref b1), .val (.ref b2), .val (.ref b3), .unset, .unset, .unset] [(.int (1 : Int32))])) (fun _ k => XS.iconst X3.here hx rfl (hb hby at_134) k) ?_
    refine own_st (T' := T3) (g' := (mkF m 139 #[.val (.int i), .val (.int j), .val (.int (0 : Int32)), .val (.int (j.toInt8.toInt32)), .val (.int ((j >>> ((8 : Int32) &&& 31)).toInt8.toInt32)), .val (.int ((j >>> ((16 : Int32) &&& 31)).toInt8.toInt32)), .val (.ref b1), .val (.ref b2), .val (.ref b3), .unset, .unset, .unset] [(.int (1 : Int32))])) (fun _ k => XS.goto X3.here hx rfl (pc0 := 135) (pc' := 139) rfl (hb hby at_135) (by decide) (by decide) k) ?_
    refine own_st (T' := T3) (g' := (mkF m 141 #[.val (.int i), .val (.int j), .val (.int (0 : Int32)), .val (.int (j.toInt8.toInt32)), .val (.int ((j >>> ((8 : Int32) &&& 31)).toInt8.toInt32)), .val (.int ((j >>> ((16 : Int32) &&& 31)).toInt8.toInt32)), .val (.ref b1), .val (.ref b2), .val (.ref b3), .val (.int (1 : Int32)), .unset, .unset] [])) (fun _ k => XS.istore X3.here hx rfl (hb hby at_139) rfl (l' := #[.val (.int i), .val (.int j), .val (.int (0 : Int32)), .val (.int (j.toInt8.toInt32)), .val (.int ((j >>> ((8 : Int32) &&& 31)).toInt8.toInt32)), .val (.int ((j >>> ((16 : Int32) &&& 31)).toInt8.toInt32)), .val (.ref b1), .val (.ref b2), .val (.ref b3), .val (.int (1 : Int32)), .unset, .unset]) rfl k) ?_
    refine own_st (T' := T3) (g' := (mkF m 143 #[.val (.int i), .val (.int j), .val (.int (0 : Int32)), .val (.int (j.toInt8.toInt32)), .val (.int ((j >>> ((8 : Int32) &&& 31)).toInt8.toInt32)), .val (.int ((j >>> ((16 : Int32) &&& 31)).toInt8.toInt32)), .val (.ref b1), .val (.ref b2), .val (.ref b3), .val (.int (1 : Int32)), .unset, .unset] [(.ref b2)])) (fun _ k => XS.aload X3.here hx rfl (hb hby at_141) rfl rfl k) ?_
    obtain ⟨T5, X5, e5, st5⟩ := own_pure (w := (.int (0 : Int32))) rfl rfl (own_gV X3 hx hZ hown (hw _ (List.mem_of_getElem? (i := 46) rfl)) (hw _ (List.mem_of_getElem? (i := 47) rfl)) (notFace_of_selects (args := #[]) (mvT hZ (hw _ (List.mem_of_getElem? (i := 49) rfl)))) (hw _ (List.mem_of_getElem? (i := 49) rfl)) (hw _ (List.mem_of_getElem? (i := 48) rfl)) (hw _ (List.mem_of_getElem? (i := 7) rfl)) (hw _ (List.mem_of_getElem? (i := 50) rfl)) (by decide) rfl E_b2 (own_isf l Z a0 hw T3.heap b2 F_failure_b2) (by decide) (by decide) (by decide) (by decide) (Q := fun v h L => v = some (.int (0 : Int32)) ∧ L = [] ∧ h = T3.heap) (W := 0) (g := (mkF m 143 #[.val (.int i), .val (.int j), .val (.int (0 : Int32)), .val (.int (j.toInt8.toInt32)), .val (.int ((j >>> ((8 : Int32) &&& 31)).toInt8.toInt32)), .val (.int ((j >>> ((16 : Int32) &&& 31)).toInt8.toInt32)), .val (.ref b1), .val (.ref b2), .val (.ref b3), .val (.int (1 : Int32)), .unset, .unset] [(.ref b2)])) (argsL := []) (rest := []) rfl (by rw [hml]; rfl) (lenOf own_pd_5 rfl) rfl (by show 2 * 0 + _ ≤ _; exact Nat.le_of_eq rfl) (hb hby at_143))
    refine own_st (T' := T5) (g' := (mkF m 146 #[.val (.int i), .val (.int j), .val (.int (0 : Int32)), .val (.int (j.toInt8.toInt32)), .val (.int ((j >>> ((8 : Int32) &&& 31)).toInt8.toInt32)), .val (.int ((j >>> ((16 : Int32) &&& 31)).toInt8.toInt32)), .val (.ref b1), .val (.ref b2), .val (.ref b3), .val (.int (1 : Int32)), .unset, .unset] [(.int (0 : Int32))])) st5 ?_
    refine own_st (T' := T5) (g' := (mkF m 149 #[.val (.int i), .val (.int j), .val (.int (0 : Int32)), .val (.int (j.toInt8.toInt32)), .val (.int ((j >>> ((8 : Int32) &&& 31)).toInt8.toInt32)), .val (.int ((j >>> ((16 : Int32) &&& 31)).toInt8.toInt32)), .val (.ref b1), .val (.ref b2), .val (.ref b3), .val (.int (1 : Int32)), .unset, .unset] [])) (fun _ k => XS.ifNo X5.here hx rfl (hb hby at_146) rfl (by decide) k) ?_
    refine own_st (T' := T5) (g' := (mkF m 150 #[.val (.int i), .val (.int j), .val (.int (0 : Int32)), .val (.int (j.toInt8.toInt32)), .val (.int ((j >>> ((8 : Int32) &&& 31)).toInt8.toInt32)), .val (.int ((j >>> ((16 : Int32) &&& 31)).toInt8.toInt32)), .val (.ref b1), .val (.ref b2), .val (.ref b3), .val (.int (1 : Int32)), .unset, .unset] [(.int (1 : Int32))])) (fun _ k => XS.iconst X5.here hx rfl (hb hby at_149) k) ?_
    refine own_st (T' := T5) (g' := (mkF m 154 #[.val (.int i), .val (.int j), .val (.int (0 : Int32)), .val (.int (j.toInt8.toInt32)), .val (.int ((j >>> ((8 : Int32) &&& 31)).toInt8.toInt32)), .val (.int ((j >>> ((16 : Int32) &&& 31)).toInt8.toInt32)), .val (.ref b1), .val (.ref b2), .val (.ref b3), .val (.int (1 : Int32)), .unset, .unset] [(.int (1 : Int32))])) (fun _ k => XS.goto X5.here hx rfl (pc0 := 150) (pc' := 154) rfl (hb hby at_150) (by decide) (by decide) k) ?_
    refine own_st (T' := T5) (g' := (mkF m 156 #[.val (.int i), .val (.int j), .val (.int (0 : Int32)), .val (.int (j.toInt8.toInt32)), .val (.int ((j >>> ((8 : Int32) &&& 31)).toInt8.toInt32)), .val (.int ((j >>> ((16 : Int32) &&& 31)).toInt8.toInt32)), .val (.ref b1), .val (.ref b2), .val (.ref b3), .val (.int (1 : Int32)), .val (.int (1 : Int32)), .unset] [])) (fun _ k => XS.istore X5.here hx rfl (hb hby at_154) rfl (l' := #[.val (.int i), .val (.int j), .val (.int (0 : Int32)), .val (.int (j.toInt8.toInt32)), .val (.int ((j >>> ((8 : Int32) &&& 31)).toInt8.toInt32)), .val (.int ((j >>> ((16 : Int32) &&& 31)).toInt8.toInt32)), .val (.ref b1), .val (.ref b2), .val (.ref b3), .val (.int (1 : Int32)), .val (.int (1 : Int32)), .unset]) rfl k) ?_
    refine own_st (T' := T5) (g' := (mkF m 158 #[.val (.int i), .val (.int j), .val (.int (0 : Int32)), .val (.int (j.toInt8.toInt32)), .val (.int ((j >>> ((8 : Int32) &&& 31)).toInt8.toInt32)), .val (.int ((j >>> ((16 : Int32) &&& 31)).toInt8.toInt32)), .val (.ref b1), .val (.ref b2), .val (.ref b3), .val (.int (1 : Int32)), .val (.int (1 : Int32)), .unset] [(.ref b2)])) (fun _ k => XS.aload X5.here hx rfl (hb hby at_156) rfl rfl k) ?_
    obtain ⟨T6, X6, e6, st6⟩ := own_pure (w := (.ref a_SUCCEEDED)) rfl rfl (own_gV X5 hx hZ hown (hw _ (List.mem_of_getElem? (i := 51) rfl)) (hw _ (List.mem_of_getElem? (i := 52) rfl)) (notFace_of_selects (args := #[]) (mvT hZ (hw _ (List.mem_of_getElem? (i := 54) rfl)))) (hw _ (List.mem_of_getElem? (i := 54) rfl)) (hw _ (List.mem_of_getElem? (i := 53) rfl)) (hw _ (List.mem_of_getElem? (i := 7) rfl)) (hw _ (List.mem_of_getElem? (i := 55) rfl)) (by decide) e5 E_b2 (own_stat l Z a0 hw T3.heap b2 a_SUCCEEDED F_failure_b2 (S_SUCCEEDED.ext E0)) (by decide) (by decide) (by decide) (by decide) (Q := fun v h L => v = some (.ref a_SUCCEEDED) ∧ L = [] ∧ h = T3.heap) (W := 0) (g := (mkF m 158 #[.val (.int i), .val (.int j), .val (.int (0 : Int32)), .val (.int (j.toInt8.toInt32)), .val (.int ((j >>> ((8 : Int32) &&& 31)).toInt8.toInt32)), .val (.int ((j >>> ((16 : Int32) &&& 31)).toInt8.toInt32)), .val (.ref b1), .val (.ref b2), .val (.ref b3), .val (.int (1 : Int32)), .val (.int (1 : Int32)), .unset] [(.ref b2)])) (argsL := []) (rest := []) rfl (by rw [hml]; rfl) (lenOf own_pd_6 rfl) rfl (by show 2 * 0 + _ ≤ _; exact Nat.le_of_eq rfl) (hb hby at_158))
    refine own_st (T' := T6) (g' := (mkF m 161 #[.val (.int i), .val (.int j), .val (.int (0 : Int32)), .val (.int (j.toInt8.toInt32)), .val (.int ((j >>> ((8 : Int32) &&& 31)).toInt8.toInt32)), .val (.int ((j >>> ((16 : Int32) &&& 31)).toInt8.toInt32)), .val (.ref b1), .val (.ref b2), .val (.ref b3), .val (.int (1 : Int32)), .val (.int (1 : Int32)), .unset] [(.ref a_SUCCEEDED)])) st6 ?_
    obtain ⟨T7, X7, e7, st7⟩ := getS2 X6 hx hZ hown (host := "") (Or.inl (hw _ (List.mem_of_getElem? (i := 59) rfl))) Via.refl e6 (S_SUCCEEDED.ext E0) (g := (mkF m 161 #[.val (.int i), .val (.int j), .val (.int (0 : Int32)), .val (.int (j.toInt8.toInt32)), .val (.int ((j >>> ((8 : Int32) &&& 31)).toInt8.toInt32)), .val (.int ((j >>> ((16 : Int32) &&& 31)).toInt8.toInt32)), .val (.ref b1), .val (.ref b2), .val (.ref b3), .val (.int (1 : Int32)), .val (.int (1 : Int32)), .unset] [(.ref a_SUCCEEDED)])) rfl (hb hby at_161)
    refine own_st (T' := T7) (g' := (mkF m 164 #[.val (.int i), .val (.int j), .val (.int (0 : Int32)), .val (.int (j.toInt8.toInt32)), .val (.int ((j >>> ((8 : Int32) &&& 31)).toInt8.toInt32)), .val (.int ((j >>> ((16 : Int32) &&& 31)).toInt8.toInt32)), .val (.ref b1), .val (.ref b2), .val (.ref b3), .val (.int (1 : Int32)), .val (.int (1 : Int32)), .unset] [(.ref a_SUCCEEDED), (.ref a_SUCCEEDED)])) st7 ?_
    refine own_st (T' := T7) (g' := (mkF m 167 #[.val (.int i), .val (.int j), .val (.int (0 : Int32)), .val (.int (j.toInt8.toInt32)), .val (.int ((j >>> ((8 : Int32) &&& 31)).toInt8.toInt32)), .val (.int ((j >>> ((16 : Int32) &&& 31)).toInt8.toInt32)), .val (.ref b1), .val (.ref b2), .val (.ref b3), .val (.int (1 : Int32)), .val (.int (1 : Int32)), .unset] [])) (fun _ k => Jvm.RoadKit.acmp (g := (mkF m 164 #[.val (.int i), .val (.int j), .val (.int (0 : Int32)), .val (.int (j.toInt8.toInt32)), .val (.int ((j >>> ((8 : Int32) &&& 31)).toInt8.toInt32)), .val (.int ((j >>> ((16 : Int32) &&& 31)).toInt8.toInt32)), .val (.ref b1), .val (.ref b2), .val (.ref b3), .val (.int (1 : Int32)), .val (.int (1 : Int32)), .unset] [(.ref a_SUCCEEDED), (.ref a_SUCCEEDED)])) X7 hx rfl rfl rfl (pc0 := 164) (pc' := 167) (same := true) rfl (hb hby at_164) rfl (decide_eq_true rfl) (by decide) (by decide) k) ?_
    refine own_st (T' := T7) (g' := (mkF m 168 #[.val (.int i), .val (.int j), .val (.int (0 : Int32)), .val (.int (j.toInt8.toInt32)), .val (.int ((j >>> ((8 : Int32) &&& 31)).toInt8.toInt32)), .val (.int ((j >>> ((16 : Int32) &&& 31)).toInt8.toInt32)), .val (.ref b1), .val (.ref b2), .val (.ref b3), .val (.int (1 : Int32)), .val (.int (1 : Int32)), .unset] [(.int (1 : Int32))])) (fun _ k => XS.iconst X7.here hx rfl (hb hby at_167) k) ?_
    refine own_st (T' := T7) (g' := (mkF m 172 #[.val (.int i), .val (.int j), .val (.int (0 : Int32)), .val (.int (j.toInt8.toInt32)), .val (.int ((j >>> ((8 : Int32) &&& 31)).toInt8.toInt32)), .val (.int ((j >>> ((16 : Int32) &&& 31)).toInt8.toInt32)), .val (.ref b1), .val (.ref b2), .val (.ref b3), .val (.int (1 : Int32)), .val (.int (1 : Int32)), .unset] [(.int (1 : Int32))])) (fun _ k => XS.goto X7.here hx rfl (pc0 := 168) (pc' := 172) rfl (hb hby at_168) (by decide) (by decide) k) ?_
    refine own_st (T' := T7) (g' := (mkF m 174 #[.val (.int i), .val (.int j), .val (.int (0 : Int32)), .val (.int (j.toInt8.toInt32)), .val (.int ((j >>> ((8 : Int32) &&& 31)).toInt8.toInt32)), .val (.int ((j >>> ((16 : Int32) &&& 31)).toInt8.toInt32)), .val (.ref b1), .val (.ref b2), .val (.ref b3), .val (.int (1 : Int32)), .val (.int (1 : Int32)), .val (.int (1 : Int32))] [])) (fun _ k => XS.istore X7.here hx rfl (hb hby at_172) rfl (l' := #[.val (.int i), .val (.int j), .val (.int (0 : Int32)), .val (.int (j.toInt8.toInt32)), .val (.int ((j >>> ((8 : Int32) &&& 31)).toInt8.toInt32)), .val (.int ((j >>> ((16 : Int32) &&& 31)).toInt8.toInt32)), .val (.ref b1), .val (.ref b2), .val (.ref b3), .val (.int (1 : Int32)), .val (.int (1 : Int32)), .val (.int (1 : Int32))]) rfl k) ?_
    refine own_st (T' := T7) (g' := (mkF m 176 #[.val (.int i), .val (.int j), .val (.int (0 : Int32)), .val (.int (j.toInt8.toInt32)), .val (.int ((j >>> ((8 : Int32) &&& 31)).toInt8.toInt32)), .val (.int ((j >>> ((16 : Int32) &&& 31)).toInt8.toInt32)), .val (.ref b1), .val (.ref b2), .val (.ref b3), .val (.int (1 : Int32)), .val (.int (1 : Int32)), .val (.int (1 : Int32))] [(.int (1 : Int32))])) (fun _ k => XS.iload X7.here hx rfl (hb hby at_174) rfl k) ?_
    refine own_st (T' := T7) (g' := (mkF m 179 #[.val (.int i), .val (.int j), .val (.int (0 : Int32)), .val (.int (j.toInt8.toInt32)), .val (.int ((j >>> ((8 : Int32) &&& 31)).toInt8.toInt32)), .val (.int ((j >>> ((16 : Int32) &&& 31)).toInt8.toInt32)), .val (.ref b1), .val (.ref b2), .val (.ref b3), .val (.int (1 : Int32)), .val (.int (1 : Int32)), .val (.int (1 : Int32))] [])) (fun _ k => XS.ifNo X7.here hx rfl (hb hby at_176) rfl (by decide) k) ?_
    refine own_st (T' := T7) (g' := (mkF m 181 #[.val (.int i), .val (.int j), .val (.int (0 : Int32)), .val (.int (j.toInt8.toInt32)), .val (.int ((j >>> ((8 : Int32) &&& 31)).toInt8.toInt32)), .val (.int ((j >>> ((16 : Int32) &&& 31)).toInt8.toInt32)), .val (.ref b1), .val (.ref b2), .val (.ref b3), .val (.int (1 : Int32)), .val (.int (1 : Int32)), .val (.int (1 : Int32))] [(.int (1 : Int32))])) (fun _ k => XS.iload X7.here hx rfl (hb hby at_179) rfl k) ?_
    refine own_st (T' := T7) (g' := (mkF m 184 #[.val (.int i), .val (.int j), .val (.int (0 : Int32)), .val (.int (j.toInt8.toInt32)), .val (.int ((j >>> ((8 : Int32) &&& 31)).toInt8.toInt32)), .val (.int ((j >>> ((16 : Int32) &&& 31)).toInt8.toInt32)), .val (.ref b1), .val (.ref b2), .val (.ref b3), .val (.int (1 : Int32)), .val (.int (1 : Int32)), .val (.int (1 : Int32))] [])) (fun _ k => XS.ifNo X7.here hx rfl (hb hby at_181) rfl (by decide) k) ?_
    refine own_st (T' := T7) (g' := (mkF m 186 #[.val (.int i), .val (.int j), .val (.int (0 : Int32)), .val (.int (j.toInt8.toInt32)), .val (.int ((j >>> ((8 : Int32) &&& 31)).toInt8.toInt32)), .val (.int ((j >>> ((16 : Int32) &&& 31)).toInt8.toInt32)), .val (.ref b1), .val (.ref b2), .val (.ref b3), .val (.int (1 : Int32)), .val (.int (1 : Int32)), .val (.int (1 : Int32))] [(.int (1 : Int32))])) (fun _ k => XS.iload X7.here hx rfl (hb hby at_184) rfl k) ?_
    refine own_st (T' := T7) (g' := (mkF m 189 #[.val (.int i), .val (.int j), .val (.int (0 : Int32)), .val (.int (j.toInt8.toInt32)), .val (.int ((j >>> ((8 : Int32) &&& 31)).toInt8.toInt32)), .val (.int ((j >>> ((16 : Int32) &&& 31)).toInt8.toInt32)), .val (.ref b1), .val (.ref b2), .val (.ref b3), .val (.int (1 : Int32)), .val (.int (1 : Int32)), .val (.int (1 : Int32))] [])) (fun _ k => XS.ifNo X7.here hx rfl (hb hby at_186) rfl (by decide) k) ?_
    refine own_st (T' := T7) (g' := (mkF m 190 #[.val (.int i), .val (.int j), .val (.int (0 : Int32)), .val (.int (j.toInt8.toInt32)), .val (.int ((j >>> ((8 : Int32) &&& 31)).toInt8.toInt32)), .val (.int ((j >>> ((16 : Int32) &&& 31)).toInt8.toInt32)), .val (.ref b1), .val (.ref b2), .val (.ref b3), .val (.int (1 : Int32)), .val (.int (1 : Int32)), .val (.int (1 : Int32))] [(.int (1 : Int32))])) (fun _ k => XS.iconst X7.here hx rfl (hb hby at_189) k) ?_
    refine own_st (T' := T7) (g' := (mkF m 194 #[.val (.int i), .val (.int j), .val (.int (0 : Int32)), .val (.int (j.toInt8.toInt32)), .val (.int ((j >>> ((8 : Int32) &&& 31)).toInt8.toInt32)), .val (.int ((j >>> ((16 : Int32) &&& 31)).toInt8.toInt32)), .val (.ref b1), .val (.ref b2), .val (.ref b3), .val (.int (1 : Int32)), .val (.int (1 : Int32)), .val (.int (1 : Int32))] [(.int (1 : Int32))])) (fun _ k => XS.goto X7.here hx rfl (pc0 := 190) (pc' := 194) rfl (hb hby at_190) (by decide) (by decide) k) ?_
    exact own_retW X7 hx hlk hS (by rw [e7]; exact hk) hret rfl (Or.inl ⟨rfl, Or.inr (Or.inl rfl), _, rfl⟩) (hb hby at_194) (by decide) (by decide) ⟨rfl, Nf⟩
  ·
    rw [hE]
    refine own_st (T' := T0) (g' := (mkF m 4 #[.val (.int i), .val (.int j), .val (.int (1 : Int32)), .unset, .unset, .unset, .unset, .unset, .unset, .unset, .unset, .unset] [])) (fun _ k => XS.istoreN X0.here hx rfl (hb hby at_3) rfl (l' := #[.val (.int i), .val (.int j), .val (.int (1 : Int32)), .unset, .unset, .unset, .unset, .unset, .unset, .unset, .unset, .unset]) rfl k) ?_
    refine own_st (T' := T0) (g' := (mkF m 5 #[.val (.int i), .val (.int j), .val (.int (1 : Int32)), .unset, .unset, .unset, .unset, .unset, .unset, .unset, .unset, .unset] [(.int j)])) (fun _ k => XS.iloadN X0.here hx rfl (hb hby at_4) rfl k) ?_
    refine own_st (T' := T0) (g' := (mkF m 6 #[.val (.int i), .val (.int j), .val (.int (1 : Int32)), .unset, .unset, .unset, .unset, .unset, .unset, .unset, .unset, .unset] [(.int (j.toInt8.toInt32))])) (fun _ k => XS.i2b X0.here hx rfl (hb hby at_5) rfl k) ?_
    refine own_st (T' := T0) (g' := (mkF m 7 #[.val (.int i), .val (.int j), .val (.int (1 : Int32)), .val (.int (j.toInt8.toInt32)), .unset, .unset, .unset, .unset, .unset, .unset, .unset, .unset] [])) (fun _ k => XS.istoreN X0.here hx rfl (hb hby at_6) rfl (l' := #[.val (.int i), .val (.int j), .val (.int (1 : Int32)), .val (.int (j.toInt8.toInt32)), .unset, .unset, .unset, .unset, .unset, .unset, .unset, .unset]) rfl k) ?_
    refine own_st (T' := T0) (g' := (mkF m 8 #[.val (.int i), .val (.int j), .val (.int (1 : Int32)), .val (.int (j.toInt8.toInt32)), .unset, .unset, .unset, .unset, .unset, .unset, .unset, .unset] [(.int j)])) (fun _ k => XS.iloadN X0.here hx rfl (hb hby at_7) rfl k) ?_
    refine own_st (T' := T0) (g' := (mkF m 10 #[.val (.int i), .val (.int j), .val (.int (1 : Int32)), .val (.int (j.toInt8.toInt32)), .unset, .unset, .unset, .unset, .unset, .unset, .unset, .unset] [(.int (8 : Int32)), (.int j)])) (fun _ k => XS.bipush X0.here hx rfl (hb hby at_8) k) ?_
    refine own_st (T' := T0) (g' := (mkF m 11 #[.val (.int i), .val (.int j), .val (.int (1 : Int32)), .val (.int (j.toInt8.toInt32)), .unset, .unset, .unset, .unset, .unset, .unset, .unset, .unset] [(.int (j >>> ((8 : Int32) &&& 31)))])) (fun _ k => XS.ishr X0.here hx rfl (hb hby at_10) rfl k) ?_
    refine own_st (T' := T0) (g' := (mkF m 12 #[.val (.int i), .val (.int j), .val (.int (1 : Int32)), .val (.int (j.toInt8.toInt32)), .unset, .unset, .unset, .unset, .unset, .unset, .unset, .unset] [(.int ((j >>> ((8 : Int32) &&& 31)).toInt8.toInt32))])) (fun _ k => XS.i2b X0.here hx rfl (hb hby at_11) rfl k) ?_
    refine own_st (T' := T0) (g' := (mkF m 14 #[.val (.int i), .val (.int j), .val (.int (1 : Int32)), .val (.int (j.toInt8.toInt32)), .val (.int ((j >>> ((8 : Int32) &&& 31)).toInt8.toInt32)), .unset, .unset, .unset, .unset, .unset, .unset, .unset] [])) (fun _ k => XS.istore X0.here hx rfl (hb hby at_12) rfl (l' := #[.val (.int i), .val (.int j), .val (.int (1 : Int32)), .val (.int (j.toInt8.toInt32)), .val (.int ((j >>> ((8 : Int32) &&& 31)).toInt8.toInt32)), .unset, .unset, .unset, .unset, .unset, .unset, .unset]) rfl k) ?_
    refine own_st (T' := T0) (g' := (mkF m 15 #[.val (.int i), .val (.int j), .val (.int (1 : Int32)), .val (.int (j.toInt8.toInt32)), .val (.int ((j >>> ((8 : Int32) &&& 31)).toInt8.toInt32)), .unset, .unset, .unset, .unset, .unset, .unset, .unset] [(.int j)])) (fun _ k => XS.iloadN X0.here hx rfl (hb hby at_14) rfl k) ?_
    refine own_st (T' := T0) (g' := (mkF m 17 #[.val (.int i), .val (.int j), .val (.int (1 : Int32)), .val (.int (j.toInt8.toInt32)), .val (.int ((j >>> ((8 : Int32) &&& 31)).toInt8.toInt32)), .unset, .unset, .unset, .unset, .unset, .unset, .unset] [(.int (16 : Int32)), (.int j)])) (fun _ k => XS.bipush X0.here hx rfl (hb hby at_15) k) ?_
    refine own_st (T' := T0) (g' := (mkF m 18 #[.val (.int i), .val (.int j), .val (.int (1 : Int32)), .val (.int (j.toInt8.toInt32)), .val (.int ((j >>> ((8 : Int32) &&& 31)).toInt8.toInt32)), .unset, .unset, .unset, .unset, .unset, .unset, .unset] [(.int (j >>> ((16 : Int32) &&& 31)))])) (fun _ k => XS.ishr X0.here hx rfl (hb hby at_17) rfl k) ?_
    refine own_st (T' := T0) (g' := (mkF m 19 #[.val (.int i), .val (.int j), .val (.int (1 : Int32)), .val (.int (j.toInt8.toInt32)), .val (.int ((j >>> ((8 : Int32) &&& 31)).toInt8.toInt32)), .unset, .unset, .unset, .unset, .unset, .unset, .unset] [(.int ((j >>> ((16 : Int32) &&& 31)).toInt8.toInt32))])) (fun _ k => XS.i2b X0.here hx rfl (hb hby at_18) rfl k) ?_
    refine own_st (T' := T0) (g' := (mkF m 21 #[.val (.int i), .val (.int j), .val (.int (1 : Int32)), .val (.int (j.toInt8.toInt32)), .val (.int ((j >>> ((8 : Int32) &&& 31)).toInt8.toInt32)), .val (.int ((j >>> ((16 : Int32) &&& 31)).toInt8.toInt32)), .unset, .unset, .unset, .unset, .unset, .unset] [])) (fun _ k => XS.istore X0.here hx rfl (hb hby at_19) rfl (l' := #[.val (.int i), .val (.int j), .val (.int (1 : Int32)), .val (.int (j.toInt8.toInt32)), .val (.int ((j >>> ((8 : Int32) &&& 31)).toInt8.toInt32)), .val (.int ((j >>> ((16 : Int32) &&& 31)).toInt8.toInt32)), .unset, .unset, .unset, .unset, .unset, .unset]) rfl k) ?_
    refine own_st (T' := T0) (g' := (mkF m 22 #[.val (.int i), .val (.int j), .val (.int (1 : Int32)), .val (.int (j.toInt8.toInt32)), .val (.int ((j >>> ((8 : Int32) &&& 31)).toInt8.toInt32)), .val (.int ((j >>> ((16 : Int32) &&& 31)).toInt8.toInt32)), .unset, .unset, .unset, .unset, .unset, .unset] [(.int (1 : Int32))])) (fun _ k => XS.iloadN X0.here hx rfl (hb hby at_21) rfl k) ?_
    refine own_st (T' := T0) (g' := (mkF m 23 #[.val (.int i), .val (.int j), .val (.int (1 : Int32)), .val (.int (j.toInt8.toInt32)), .val (.int ((j >>> ((8 : Int32) &&& 31)).toInt8.toInt32)), .val (.int ((j >>> ((16 : Int32) &&& 31)).toInt8.toInt32)), .unset, .unset, .unset, .unset, .unset, .unset] [(.int (j.toInt8.toInt32)), (.int (1 : Int32))])) (fun _ k => XS.iloadN X0.here hx rfl (hb hby at_22) rfl k) ?_
    refine own_st (T' := T0) (g' := (mkF m 25 #[.val (.int i), .val (.int j), .val (.int (1 : Int32)), .val (.int (j.toInt8.toInt32)), .val (.int ((j >>> ((8 : Int32) &&& 31)).toInt8.toInt32)), .val (.int ((j >>> ((16 : Int32) &&& 31)).toInt8.toInt32)), .unset, .unset, .unset, .unset, .unset, .unset] [(.int ((j >>> ((8 : Int32) &&& 31)).toInt8.toInt32)), (.int (j.toInt8.toInt32)), (.int (1 : Int32))])) (fun _ k => XS.iload X0.here hx rfl (hb hby at_23) rfl k) ?_
    refine own_st (T' := T0) (g' := (mkF m 27 #[.val (.int i), .val (.int j), .val (.int (1 : Int32)), .val (.int (j.toInt8.toInt32)), .val (.int ((j >>> ((8 : Int32) &&& 31)).toInt8.toInt32)), .val (.int ((j >>> ((16 : Int32) &&& 31)).toInt8.toInt32)), .unset, .unset, .unset, .unset, .unset, .unset] [(.int ((j >>> ((16 : Int32) &&& 31)).toInt8.toInt32)), (.int ((j >>> ((8 : Int32) &&& 31)).toInt8.toInt32)), (.int (j.toInt8.toInt32)), (.int (1 : Int32))])) (fun _ k => XS.iload X0.here hx rfl (hb hby at_25) rfl k) ?_
    obtain ⟨v8, T8, L8, X8, hQ8, st8⟩ := own_gS X0  hx hZ hown (hw _ (List.mem_of_getElem? (i := 0) rfl)) (hw _ (List.mem_of_getElem? (i := 1) rfl)) (hw _ (List.mem_of_getElem? (i := 2) rfl)) (hw _ (List.mem_of_getElem? (i := 3) rfl)) (by decide) e0 (own_make1 l Z a0 hw h0 ((j.toInt8.toInt32)) (((j >>> ((8 : Int32) &&& 31)).toInt8.toInt32)) (((j >>> ((16 : Int32) &&& 31)).toInt8.toInt32))) (by decide) (by decide) (by decide) (by decide) (Q := (fun v h L => ∃ b kB, v = some (.ref b) ∧ h0.size ≤ b ∧ Fr h0.size L ∧ Ext h0 h ∧ Arh Z h b kB .byte (1 : Int32) (((0 : Int32), (.int (((j.toInt8.toInt32)).toInt8.toInt32))) :: []) [] (.int (0 : Int32)) ∧ Exa Z h b "[B")) (W := 0) (g := (mkF m 27 #[.val (.int i), .val (.int j), .val (.int (1 : Int32)), .val (.int (j.toInt8.toInt32)), .val (.int ((j >>> ((8 : Int32) &&& 31)).toInt8.toInt32)), .val (.int ((j >>> ((16 : Int32) &&& 31)).toInt8.toInt32)), .unset, .unset, .unset, .unset, .unset, .unset] [(.int ((j >>> ((16 : Int32) &&& 31)).toInt8.toInt32)), (.int ((j >>> ((8 : Int32) &&& 31)).toInt8.toInt32)), (.int (j.toInt8.toInt32)), (.int (1 : Int32))])) (argsL := [(.int (1 : Int32)), (.int (j.toInt8.toInt32)), (.int ((j >>> ((8 : Int32) &&& 31)).toInt8.toInt32)), (.int ((j >>> ((16 : Int32) &&& 31)).toInt8.toInt32))]) (rest := []) rfl (by rw [hml]; rfl) (lenOf own_pd_2 rfl) rfl (by show 2 * 0 + _ ≤ _; exact Nat.le_of_eq rfl) (hb hby at_27)
    obtain ⟨b8, kB8, rfl, gq8, NL8, EX8, VV8, EE8⟩ := hQ8
    have g_b8 : h0.size ≤ b8 := Nat.le_trans E0.1 gq8
    have Nf := Fr.app Nf (own_fr_mono E0.1 NL8)
    have E0 := own_ext_tr E0 EX8
    have hk := Nat.le_trans hk EX8.1
    have V_b8 := VV8
    have E_b8 := EE8
    refine own_st (T' := T8) (g' := (mkF m 30 #[.val (.int i), .val (.int j), .val (.int (1 : Int32)), .val (.int (j.toInt8.toInt32)), .val (.int ((j >>> ((8 : Int32) &&& 31)).toInt8.toInt32)), .val (.int ((j >>> ((16 : Int32) &&& 31)).toInt8.toInt32)), .unset, .unset, .unset, .unset, .unset, .unset] [(.ref b8)])) st8 ?_
    refine own_st (T' := T8) (g' := (mkF m 32 #[.val (.int i), .val (.int j), .val (.int (1 : Int32)), .val (.int (j.toInt8.toInt32)), .val (.int ((j >>> ((8 : Int32) &&& 31)).toInt8.toInt32)), .val (.int ((j >>> ((16 : Int32) &&& 31)).toInt8.toInt32)), .val (.ref b8), .unset, .unset, .unset, .unset, .unset] [])) (fun _ k => XS.astore X8.here hx rfl (hb hby at_30) rfl rfl (l' := #[.val (.int i), .val (.int j), .val (.int (1 : Int32)), .val (.int (j.toInt8.toInt32)), .val (.int ((j >>> ((8 : Int32) &&& 31)).toInt8.toInt32)), .val (.int ((j >>> ((16 : Int32) &&& 31)).toInt8.toInt32)), .val (.ref b8), .unset, .unset, .unset, .unset, .unset]) rfl k) ?_
    refine own_st (T' := T8) (g' := (mkF m 34 #[.val (.int i), .val (.int j), .val (.int (1 : Int32)), .val (.int (j.toInt8.toInt32)), .val (.int ((j >>> ((8 : Int32) &&& 31)).toInt8.toInt32)), .val (.int ((j >>> ((16 : Int32) &&& 31)).toInt8.toInt32)), .val (.ref b8), .unset, .unset, .unset, .unset, .unset] [(.ref b8)])) (fun _ k => XS.aload X8.here hx rfl (hb hby at_32) rfl rfl k) ?_
    obtain ⟨v9, T9, L9, k9, X9, hQ9, hS, hk, hZ, hown, st9⟩ := own_gSW X8 hS hk hx hZ hown (hw _ (List.mem_of_getElem? (i := 5) rfl)) (hw _ (List.mem_of_getElem? (i := 6) rfl)) (hw _ (List.mem_of_getElem? (i := 7) rfl)) (hw _ (List.mem_of_getElem? (i := 8) rfl)) (by decide) rfl (own_succ l Z a0 hw T8.heap b8 kB8 (1 : Int32) (((0 : Int32), (.int (((j.toInt8.toInt32)).toInt8.toInt32))) :: []) (by decide) V_b8 E_b8) (by decide) (by decide) (by decide) (by decide) (Q := (fun v h L => ∃ o d, v = some (.ref o) ∧ T8.heap.size ≤ o ∧ T8.heap.size ≤ d ∧ Fr T8.heap.size L ∧ Ext T8.heap h ∧ Exa Z h o "com/example/earnest_key/earnestkey/Outcome" ∧ Fld Z h o "com/example/earnest_key/earnestkey/Outcome" "bytes" "[B" (.ref d) ∧ Fld Z h o "com/example/earnest_key/earnestkey/Outcome" "failure" "Z" (.int (0 : Int32)) ∧ Arh Z h d kB8 .byte (1 : Int32) (((0 : Int32), (.int (((j.toInt8.toInt32)).toInt8.toInt32))) :: []) [] (.int (0 : Int32)) ∧ Exa Z h d "[B" ∧ o ≠ d)) (W := 0) (g := (mkF m 34 #[.val (.int i), .val (.int j), .val (.int (1 : Int32)), .val (.int (j.toInt8.toInt32)), .val (.int ((j >>> ((8 : Int32) &&& 31)).toInt8.toInt32)), .val (.int ((j >>> ((16 : Int32) &&& 31)).toInt8.toInt32)), .val (.ref b8), .unset, .unset, .unset, .unset, .unset] [(.ref b8)])) (argsL := [(.ref b8)]) (rest := []) rfl (by rw [hml]; rfl) (lenOf own_pd_3 rfl) rfl (by show 2 * 0 + _ ≤ _; exact Nat.le_of_eq rfl) (hb hby at_34)
    obtain ⟨b9, d9, rfl, gq9, gd9, NL9, EX9, EE9, FB9, FF9, VV9, ED9, nod9⟩ := hQ9
    have ne_b8_b9 : b8 ≠ b9 := Nat.ne_of_lt (Nat.lt_of_lt_of_le V_b8.lt gq9)
    have g_b9 : h0.size ≤ b9 := Nat.le_trans E0.1 gq9
    have ne_b8_d9 : b8 ≠ d9 := Nat.ne_of_lt (Nat.lt_of_lt_of_le V_b8.lt gd9)
    have g_d9 : h0.size ≤ d9 := Nat.le_trans E0.1 gd9
    have Nf := Fr.app Nf (own_fr_mono E0.1 NL9)
    have V_b8 := V_b8.ext EX9
    have E_b8 := E_b8.ext EX9
    have E0 := own_ext_tr E0 EX9
    have E_b9 := EE9
    have F_bytes_b9 := FB9
    have F_failure_b9 := FF9
    have V_d9 := VV9
    have E_d9 := ED9
    refine own_st (T' := T9) (g' := (mkF m 37 #[.val (.int i), .val (.int j), .val (.int (1 : Int32)), .val (.int (j.toInt8.toInt32)), .val (.int ((j >>> ((8 : Int32) &&& 31)).toInt8.toInt32)), .val (.int ((j >>> ((16 : Int32) &&& 31)).toInt8.toInt32)), .val (.ref b8), .unset, .unset, .unset, .unset, .unset] [(.ref b9)])) st9 ?_
    refine own_st (T' := T9) (g' := (mkF m 39 #[.val (.int i), .val (.int j), .val (.int (1 : Int32)), .val (.int (j.toInt8.toInt32)), .val (.int ((j >>> ((8 : Int32) &&& 31)).toInt8.toInt32)), .val (.int ((j >>> ((16 : Int32) &&& 31)).toInt8.toInt32)), .val (.ref b8), .val (.ref b9), .unset, .unset, .unset, .unset] [])) (fun _ k => XS.astore X9.here hx rfl (hb hby at_37) rfl rfl (l' := #[.val (.int i), .val (.int j), .val (.int (1 : Int32)), .val (.int (j.toInt8.toInt32)), .val (.int ((j >>> ((8 : Int32) &&& 31)).toInt8.toInt32)), .val (.int ((j >>> ((16 : Int32) &&& 31)).toInt8.toInt32)), .val (.ref b8), .val (.ref b9), .unset, .unset, .unset, .unset]) rfl k) ?_
    refine own_st (T' := T9) (g' := (mkF m 40 #[.val (.int i), .val (.int j), .val (.int (1 : Int32)), .val (.int (j.toInt8.toInt32)), .val (.int ((j >>> ((8 : Int32) &&& 31)).toInt8.toInt32)), .val (.int ((j >>> ((16 : Int32) &&& 31)).toInt8.toInt32)), .val (.ref b8), .val (.ref b9), .unset, .unset, .unset, .unset] [(.int (1 : Int32))])) (fun _ k => XS.iloadN X9.here hx rfl (hb hby at_39) rfl k) ?_
    refine own_st (T' := T9) (g' := (mkF m 43 #[.val (.int i), .val (.int j), .val (.int (1 : Int32)), .val (.int (j.toInt8.toInt32)), .val (.int ((j >>> ((8 : Int32) &&& 31)).toInt8.toInt32)), .val (.int ((j >>> ((16 : Int32) &&& 31)).toInt8.toInt32)), .val (.ref b8), .val (.ref b9), .unset, .unset, .unset, .unset] [])) (fun _ k => XS.ifNo X9.here hx rfl (hb hby at_40) rfl (by decide) k) ?_
    refine own_st (T' := T9) (g' := (mkF m 45 #[.val (.int i), .val (.int j), .val (.int (1 : Int32)), .val (.int (j.toInt8.toInt32)), .val (.int ((j >>> ((8 : Int32) &&& 31)).toInt8.toInt32)), .val (.int ((j >>> ((16 : Int32) &&& 31)).toInt8.toInt32)), .val (.ref b8), .val (.ref b9), .unset, .unset, .unset, .unset] [(.ref b8)])) (fun _ k => XS.aload X9.here hx rfl (hb hby at_43) rfl rfl k) ?_
    refine own_st (T' := T9) (g' := (mkF m 46 #[.val (.int i), .val (.int j), .val (.int (1 : Int32)), .val (.int (j.toInt8.toInt32)), .val (.int ((j >>> ((8 : Int32) &&& 31)).toInt8.toInt32)), .val (.int ((j >>> ((16 : Int32) &&& 31)).toInt8.toInt32)), .val (.ref b8), .val (.ref b9), .unset, .unset, .unset, .unset] [(.int (0 : Int32)), (.ref b8)])) (fun _ k => XS.iconst X9.here hx rfl (hb hby at_45) k) ?_
    refine own_st (T' := T9) (g' := (mkF m 47 #[.val (.int i), .val (.int j), .val (.int (1 : Int32)), .val (.int (j.toInt8.toInt32)), .val (.int ((j >>> ((8 : Int32) &&& 31)).toInt8.toInt32)), .val (.int ((j >>> ((16 : Int32) &&& 31)).toInt8.toInt32)), .val (.ref b8), .val (.ref b9), .unset, .unset, .unset, .unset] [(.int (j.toInt8.toInt32)), (.int (0 : Int32)), (.ref b8)])) (fun _ k => XS.iloadN X9.here hx rfl (hb hby at_46) rfl k) ?_
    refine own_st (T' := T9) (g' := (mkF m 48 #[.val (.int i), .val (.int j), .val (.int (1 : Int32)), .val (.int (j.toInt8.toInt32)), .val (.int ((j >>> ((8 : Int32) &&& 31)).toInt8.toInt32)), .val (.int ((j >>> ((16 : Int32) &&& 31)).toInt8.toInt32)), .val (.ref b8), .val (.ref b9), .unset, .unset, .unset, .unset] [(.int (-1 : Int32)), (.int (j.toInt8.toInt32)), (.int (0 : Int32)), (.ref b8)])) (fun _ k => XS.iconst X9.here hx rfl (hb hby at_47) k) ?_
    refine own_st (T' := T9) (g' := (mkF m 49 #[.val (.int i), .val (.int j), .val (.int (1 : Int32)), .val (.int (j.toInt8.toInt32)), .val (.int ((j >>> ((8 : Int32) &&& 31)).toInt8.toInt32)), .val (.int ((j >>> ((16 : Int32) &&& 31)).toInt8.toInt32)), .val (.ref b8), .val (.ref b9), .unset, .unset, .unset, .unset] [(.int ((j.toInt8.toInt32) ^^^ (-1 : Int32))), (.int (0 : Int32)), (.ref b8)])) (fun _ k => XS.ixor X9.here hx rfl (hb hby at_48) rfl k) ?_
    refine own_st (T' := T9) (g' := (mkF m 50 #[.val (.int i), .val (.int j), .val (.int (1 : Int32)), .val (.int (j.toInt8.toInt32)), .val (.int ((j >>> ((8 : Int32) &&& 31)).toInt8.toInt32)), .val (.int ((j >>> ((16 : Int32) &&& 31)).toInt8.toInt32)), .val (.ref b8), .val (.ref b9), .unset, .unset, .unset, .unset] [(.int (((j.toInt8.toInt32) ^^^ (-1 : Int32)).toInt8.toInt32)), (.int (0 : Int32)), (.ref b8)])) (fun _ k => XS.i2b X9.here hx rfl (hb hby at_49) rfl k) ?_
    have V10 := V_b8
    obtain ⟨cl10, Ar10, qk10, Sz10, Nn10, Hh10, Gg10⟩ := V10
    have hin11 : ¬ ((0 : Int32) < 0 ∨ cl10.slots.size ≤ ((0 : Int32)).toNatClampNeg) := inb_of Sz10 ⟨by decide, by decide⟩
    obtain ⟨T11, h11, X11, e11, W11, st11⟩ := stB X9 hx hZ rfl Ar10 (j := (0 : Int32)) hin11 (g := (mkF m 50 #[.val (.int i), .val (.int j), .val (.int (1 : Int32)), .val (.int (j.toInt8.toInt32)), .val (.int ((j >>> ((8 : Int32) &&& 31)).toInt8.toInt32)), .val (.int ((j >>> ((16 : Int32) &&& 31)).toInt8.toInt32)), .val (.ref b8), .val (.ref b9), .unset, .unset, .unset, .unset] [(.int (((j.toInt8.toInt32) ^^^ (-1 : Int32)).toInt8.toInt32)), (.int (0 : Int32)), (.ref b8)])) rfl rfl (hb hby at_50)
    have E_b8 := E_b8.wr W11
    have E_b9 := E_b9.wr W11
    have F_bytes_b9 := F_bytes_b9.other W11 (Or.inl (Ne.symm ne_b8_b9))
    have F_failure_b9 := F_failure_b9.other W11 (Or.inl (Ne.symm ne_b8_b9))
    have V_d9 := V_d9.other W11 (Ne.symm ne_b8_d9)
    have E_d9 := E_d9.wr W11
    have E0 := own_ext_wr E0 W11 g_b8
    have hk := (Wr.size W11) ▸ hk
    have V_b8 : Arh Z h11 b8 kB8 .byte (1 : Int32) (((0 : Int32), (.int ((((j.toInt8.toInt32) ^^^ (-1 : Int32)).toInt8.toInt32).toInt8.toInt32))) :: (((0 : Int32), (.int (((j.toInt8.toInt32)).toInt8.toInt32))) :: [])) [] (.int (0 : Int32)) := Arh.push Ar10 qk10 Sz10 Nn10 Hh10 Gg10 (fits_nar_byte _) W11 hin11
    rw [own_i8] at V_b8
    have Nf := Fr.snoc X11 Nf g_b8
    refine own_st (T' := T11) (g' := (mkF m 51 #[.val (.int i), .val (.int j), .val (.int (1 : Int32)), .val (.int (j.toInt8.toInt32)), .val (.int ((j >>> ((8 : Int32) &&& 31)).toInt8.toInt32)), .val (.int ((j >>> ((16 : Int32) &&& 31)).toInt8.toInt32)), .val (.ref b8), .val (.ref b9), .unset, .unset, .unset, .unset] [])) st11 ?_
    refine own_st (T' := T11) (g' := (mkF m 52 #[.val (.int i), .val (.int j), .val (.int (1 : Int32)), .val (.int (j.toInt8.toInt32)), .val (.int ((j >>> ((8 : Int32) &&& 31)).toInt8.toInt32)), .val (.int ((j >>> ((16 : Int32) &&& 31)).toInt8.toInt32)), .val (.ref b8), .val (.ref b9), .unset, .unset, .unset, .unset] [(.int (1 : Int32))])) (fun _ k => XS.iloadN X11.here hx rfl (hb hby at_51) rfl k) ?_
    refine own_st (T' := T11) (g' := (mkF m 53 #[.val (.int i), .val (.int j), .val (.int (1 : Int32)), .val (.int (j.toInt8.toInt32)), .val (.int ((j >>> ((8 : Int32) &&& 31)).toInt8.toInt32)), .val (.int ((j >>> ((16 : Int32) &&& 31)).toInt8.toInt32)), .val (.ref b8), .val (.ref b9), .unset, .unset, .unset, .unset] [(.int (1 : Int32)), (.int (1 : Int32))])) (fun _ k => XS.iconst X11.here hx rfl (hb hby at_52) k) ?_
    refine own_st (T' := T11) (g' := (mkF m 65 #[.val (.int i), .val (.int j), .val (.int (1 : Int32)), .val (.int (j.toInt8.toInt32)), .val (.int ((j >>> ((8 : Int32) &&& 31)).toInt8.toInt32)), .val (.int ((j >>> ((16 : Int32) &&& 31)).toInt8.toInt32)), .val (.ref b8), .val (.ref b9), .unset, .unset, .unset, .unset] [])) (fun _ k => XS.icmpYes X11.here hx rfl (pc0 := 53) (pc' := 65) rfl (hb hby at_53) rfl (by decide) (by decide) (by decide) k) ?_
    refine own_st (T' := T11) (g' := (mkF m 66 #[.val (.int i), .val (.int j), .val (.int (1 : Int32)), .val (.int (j.toInt8.toInt32)), .val (.int ((j >>> ((8 : Int32) &&& 31)).toInt8.toInt32)), .val (.int ((j >>> ((16 : Int32) &&& 31)).toInt8.toInt32)), .val (.ref b8), .val (.ref b9), .unset, .unset, .unset, .unset] [(.int (1 : Int32))])) (fun _ k => XS.iloadN X11.here hx rfl (hb hby at_65) rfl k) ?_
    refine own_st (T' := T11) (g' := (mkF m 67 #[.val (.int i), .val (.int j), .val (.int (1 : Int32)), .val (.int (j.toInt8.toInt32)), .val (.int ((j >>> ((8 : Int32) &&& 31)).toInt8.toInt32)), .val (.int ((j >>> ((16 : Int32) &&& 31)).toInt8.toInt32)), .val (.ref b8), .val (.ref b9), .unset, .unset, .unset, .unset] [(.int (2 : Int32)), (.int (1 : Int32))])) (fun _ k => XS.iconst X11.here hx rfl (hb hby at_66) k) ?_
    refine own_st (T' := T11) (g' := (mkF m 79 #[.val (.int i), .val (.int j), .val (.int (1 : Int32)), .val (.int (j.toInt8.toInt32)), .val (.int ((j >>> ((8 : Int32) &&& 31)).toInt8.toInt32)), .val (.int ((j >>> ((16 : Int32) &&& 31)).toInt8.toInt32)), .val (.ref b8), .val (.ref b9), .unset, .unset, .unset, .unset] [])) (fun _ k => XS.icmpYes X11.here hx rfl (pc0 := 67) (pc' := 79) rfl (hb hby at_67) rfl (by decide) (by decide) (by decide) k) ?_
    refine own_st (T' := T11) (g' := (mkF m 81 #[.val (.int i), .val (.int j), .val (.int (1 : Int32)), .val (.int (j.toInt8.toInt32)), .val (.int ((j >>> ((8 : Int32) &&& 31)).toInt8.toInt32)), .val (.int ((j >>> ((16 : Int32) &&& 31)).toInt8.toInt32)), .val (.ref b8), .val (.ref b9), .unset, .unset, .unset, .unset] [(.ref b9)])) (fun _ k => XS.aload X11.here hx rfl (hb hby at_79) rfl rfl k) ?_
    obtain ⟨v12, T12, L12, X12, hQ12, st12⟩ := own_gV X11 hx hZ hown (hw _ (List.mem_of_getElem? (i := 41) rfl)) (hw _ (List.mem_of_getElem? (i := 42) rfl)) (notFace_of_selects (args := #[]) (mvT hZ (hw _ (List.mem_of_getElem? (i := 44) rfl)))) (hw _ (List.mem_of_getElem? (i := 44) rfl)) (hw _ (List.mem_of_getElem? (i := 43) rfl)) (hw _ (List.mem_of_getElem? (i := 7) rfl)) (hw _ (List.mem_of_getElem? (i := 45) rfl)) (by decide) e11 E_b9 (own_byt l Z a0 hw h11 b9 d9 kB8 (1 : Int32) (((0 : Int32), (.int (((j.toInt8.toInt32)).toInt8.toInt32))) :: []) (by decide) F_bytes_b9 V_d9 E_d9) (by decide) (by decide) (by decide) (by decide) (Q := (fun v h L => ∃ b, v = some (.ref b) ∧ h11.size ≤ b ∧ Fr h11.size L ∧ Ext h11 h ∧ Arh Z h b kB8 .byte (1 : Int32) (((0 : Int32), (.int (((j.toInt8.toInt32)).toInt8.toInt32))) :: []) [] (.int (0 : Int32)) ∧ Exa Z h b "[B")) (W := 0) (g := (mkF m 81 #[.val (.int i), .val (.int j), .val (.int (1 : Int32)), .val (.int (j.toInt8.toInt32)), .val (.int ((j >>> ((8 : Int32) &&& 31)).toInt8.toInt32)), .val (.int ((j >>> ((16 : Int32) &&& 31)).toInt8.toInt32)), .val (.ref b8), .val (.ref b9), .unset, .unset, .unset, .unset] [(.ref b9)])) (argsL := []) (rest := []) rfl (by rw [hml]; rfl) (lenOf own_pd_4 rfl) rfl (by show 2 * 0 + _ ≤ _; exact Nat.le_of_eq rfl) (hb hby at_81)
    obtain ⟨b12, rfl, gq12, NL12, EX12, VV12, EE12⟩ := hQ12
    have ne_b8_b12 : b8 ≠ b12 := Nat.ne_of_lt (Nat.lt_of_lt_of_le V_b8.lt gq12)
    have ne_b9_b12 : b9 ≠ b12 := Nat.ne_of_lt (Nat.lt_of_lt_of_le E_b9.lt gq12)
    have ne_d9_b12 : d9 ≠ b12 := Nat.ne_of_lt (Nat.lt_of_lt_of_le V_d9.lt gq12)
    have g_b12 : h0.size ≤ b12 := Nat.le_trans E0.1 gq12
    have Nf := Fr.app Nf (own_fr_mono E0.1 NL12)
    have V_b8 := V_b8.ext EX12
    have E_b8 := E_b8.ext EX12
    have E_b9 := E_b9.ext EX12
    have F_bytes_b9 := F_bytes_b9.ext EX12
    have F_failure_b9 := F_failure_b9.ext EX12
    have V_d9 := V_d9.ext EX12
    have E_d9 := E_d9.ext EX12
    have E0 := own_ext_tr E0 EX12
    have hk := Nat.le_trans hk EX12.1
    have V_b12 := VV12
    have E_b12 := EE12
    refine own_st (T' := T12) (g' := (mkF m 84 #[.val (.int i), .val (.int j), .val (.int (1 : Int32)), .val (.int (j.toInt8.toInt32)), .val (.int ((j >>> ((8 : Int32) &&& 31)).toInt8.toInt32)), .val (.int ((j >>> ((16 : Int32) &&& 31)).toInt8.toInt32)), .val (.ref b8), .val (.ref b9), .unset, .unset, .unset, .unset] [(.ref b12)])) st12 ?_
    refine own_st (T' := T12) (g' := (mkF m 86 #[.val (.int i), .val (.int j), .val (.int (1 : Int32)), .val (.int (j.toInt8.toInt32)), .val (.int ((j >>> ((8 : Int32) &&& 31)).toInt8.toInt32)), .val (.int ((j >>> ((16 : Int32) &&& 31)).toInt8.toInt32)), .val (.ref b8), .val (.ref b9), .val (.ref b12), .unset, .unset, .unset] [])) (fun _ k => XS.astore X12.here hx rfl (hb hby at_84) rfl rfl (l' := #[.val (.int i), .val (.int j), .val (.int (1 : Int32)), .val (.int (j.toInt8.toInt32)), .val (.int ((j >>> ((8 : Int32) &&& 31)).toInt8.toInt32)), .val (.int ((j >>> ((16 : Int32) &&& 31)).toInt8.toInt32)), .val (.ref b8), .val (.ref b9), .val (.ref b12), .unset, .unset, .unset]) rfl k) ?_
    refine own_st (T' := T12) (g' := (mkF m 88 #[.val (.int i), .val (.int j), .val (.int (1 : Int32)), .val (.int (j.toInt8.toInt32)), .val (.int ((j >>> ((8 : Int32) &&& 31)).toInt8.toInt32)), .val (.int ((j >>> ((16 : Int32) &&& 31)).toInt8.toInt32)), .val (.ref b8), .val (.ref b9), .val (.ref b12), .unset, .unset, .unset] [(.ref b12)])) (fun _ k => XS.aload X12.here hx rfl (hb hby at_86) rfl rfl k) ?_
    have V13 := V_b12
    obtain ⟨cl13, Ar13, qk13, Sz13, Nn13, Hh13, Gg13⟩ := V13
    refine own_st (T' := T12) (g' := (mkF m 89 #[.val (.int i), .val (.int j), .val (.int (1 : Int32)), .val (.int (j.toInt8.toInt32)), .val (.int ((j >>> ((8 : Int32) &&& 31)).toInt8.toInt32)), .val (.int ((j >>> ((16 : Int32) &&& 31)).toInt8.toInt32)), .val (.ref b8), .val (.ref b9), .val (.ref b12), .unset, .unset, .unset] [(.int cl13.slots.size.toInt32)])) (fun _ k => X12.arraylength hx (own_he rfl Ar13.1) (State.isArrayOf_alike hZ.alike Ar13.2.1) (g := (mkF m 88 #[.val (.int i), .val (.int j), .val (.int (1 : Int32)), .val (.int (j.toInt8.toInt32)), .val (.int ((j >>> ((8 : Int32) &&& 31)).toInt8.toInt32)), .val (.int ((j >>> ((16 : Int32) &&& 31)).toInt8.toInt32)), .val (.ref b8), .val (.ref b9), .val (.ref b12), .unset, .unset, .unset] [(.ref b12)])) rfl rfl (hb hby at_88) _ k) ?_
    rw [len_of Sz13 Nn13]
    refine own_st (T' := T12) (g' := (mkF m 90 #[.val (.int i), .val (.int j), .val (.int (1 : Int32)), .val (.int (j.toInt8.toInt32)), .val (.int ((j >>> ((8 : Int32) &&& 31)).toInt8.toInt32)), .val (.int ((j >>> ((16 : Int32) &&& 31)).toInt8.toInt32)), .val (.ref b8), .val (.ref b9), .val (.ref b12), .unset, .unset, .unset] [(.int (1 : Int32)), (.int (1 : Int32))])) (fun _ k => XS.iloadN X12.here hx rfl (hb hby at_89) rfl k) ?_
    refine own_st (T' := T12) (g' := (mkF m 93 #[.val (.int i), .val (.int j), .val (.int (1 : Int32)), .val (.int (j.toInt8.toInt32)), .val (.int ((j >>> ((8 : Int32) &&& 31)).toInt8.toInt32)), .val (.int ((j >>> ((16 : Int32) &&& 31)).toInt8.toInt32)), .val (.ref b8), .val (.ref b9), .val (.ref b12), .unset, .unset, .unset] [])) (fun _ k => XS.icmpNo X12.here hx rfl (hb hby at_90) rfl (by decide) k) ?_
    refine own_st (T' := T12) (g' := (mkF m 94 #[.val (.int i), .val (.int j), .val (.int (1 : Int32)), .val (.int (j.toInt8.toInt32)), .val (.int ((j >>> ((8 : Int32) &&& 31)).toInt8.toInt32)), .val (.int ((j >>> ((16 : Int32) &&& 31)).toInt8.toInt32)), .val (.ref b8), .val (.ref b9), .val (.ref b12), .unset, .unset, .unset] [(.int (1 : Int32))])) (fun _ k => XS.iloadN X12.here hx rfl (hb hby at_93) rfl k) ?_
    refine own_st (T' := T12) (g' := (mkF m 95 #[.val (.int i), .val (.int j), .val (.int (1 : Int32)), .val (.int (j.toInt8.toInt32)), .val (.int ((j >>> ((8 : Int32) &&& 31)).toInt8.toInt32)), .val (.int ((j >>> ((16 : Int32) &&& 31)).toInt8.toInt32)), .val (.ref b8), .val (.ref b9), .val (.ref b12), .unset, .unset, .unset] [(.int (1 : Int32)), (.int (1 : Int32))])) (fun _ k => XS.iconst X12.here hx rfl (hb hby at_94) k) ?_
    refine own_st (T' := T12) (g' := (mkF m 98 #[.val (.int i), .val (.int j), .val (.int (1 : Int32)), .val (.int (j.toInt8.toInt32)), .val (.int ((j >>> ((8 : Int32) &&& 31)).toInt8.toInt32)), .val (.int ((j >>> ((16 : Int32) &&& 31)).toInt8.toInt32)), .val (.ref b8), .val (.ref b9), .val (.ref b12), .unset, .unset, .unset] [])) (fun _ k => XS.icmpNo X12.here hx rfl (hb hby at_95) rfl (by decide) k) ?_
    refine own_st (T' := T12) (g' := (mkF m 100 #[.val (.int i), .val (.int j), .val (.int (1 : Int32)), .val (.int (j.toInt8.toInt32)), .val (.int ((j >>> ((8 : Int32) &&& 31)).toInt8.toInt32)), .val (.int ((j >>> ((16 : Int32) &&& 31)).toInt8.toInt32)), .val (.ref b8), .val (.ref b9), .val (.ref b12), .unset, .unset, .unset] [(.ref b12)])) (fun _ k => XS.aload X12.here hx rfl (hb hby at_98) rfl rfl k) ?_
    refine own_st (T' := T12) (g' := (mkF m 101 #[.val (.int i), .val (.int j), .val (.int (1 : Int32)), .val (.int (j.toInt8.toInt32)), .val (.int ((j >>> ((8 : Int32) &&& 31)).toInt8.toInt32)), .val (.int ((j >>> ((16 : Int32) &&& 31)).toInt8.toInt32)), .val (.ref b8), .val (.ref b9), .val (.ref b12), .unset, .unset, .unset] [(.int (0 : Int32)), (.ref b12)])) (fun _ k => XS.iconst X12.here hx rfl (hb hby at_100) k) ?_
    have V14 := V_b12
    obtain ⟨cl14, Ar14, qk14, Sz14, Nn14, Hh14, Gg14⟩ := V14
    have hin15 : ¬ ((0 : Int32) < 0 ∨ cl14.slots.size ≤ ((0 : Int32)).toNatClampNeg) := inb_of Sz14 ⟨by decide, by decide⟩
    refine own_st (T' := T12) (g' := (mkF m 102 #[.val (.int i), .val (.int j), .val (.int (1 : Int32)), .val (.int (j.toInt8.toInt32)), .val (.int ((j >>> ((8 : Int32) &&& 31)).toInt8.toInt32)), .val (.int ((j >>> ((16 : Int32) &&& 31)).toInt8.toInt32)), .val (.ref b8), .val (.ref b9), .val (.ref b12), .unset, .unset, .unset] [(.int (((j.toInt8.toInt32)).toInt8.toInt32))])) (fun _ k => X12.baloadBytes hx (j := (0 : Int32)) (v := (.int (((j.toInt8.toInt32)).toInt8.toInt32))) (own_he rfl Ar14.1) (State.isArrayOf_alike hZ.alike Ar14.2.1) Ar14.2.2 hin15 (atH Hh14 hin15 rfl) (g := (mkF m 101 #[.val (.int i), .val (.int j), .val (.int (1 : Int32)), .val (.int (j.toInt8.toInt32)), .val (.int ((j >>> ((8 : Int32) &&& 31)).toInt8.toInt32)), .val (.int ((j >>> ((16 : Int32) &&& 31)).toInt8.toInt32)), .val (.ref b8), .val (.ref b9), .val (.ref b12), .unset, .unset, .unset] [(.int (0 : Int32)), (.ref b12)])) rfl rfl (hb hby at_101) _ k) ?_
    refine own_st (T' := T12) (g' := (mkF m 103 #[.val (.int i), .val (.int j), .val (.int (1 : Int32)), .val (.int (j.toInt8.toInt32)), .val (.int ((j >>> ((8 : Int32) &&& 31)).toInt8.toInt32)), .val (.int ((j >>> ((16 : Int32) &&& 31)).toInt8.toInt32)), .val (.ref b8), .val (.ref b9), .val (.ref b12), .unset, .unset, .unset] [(.int (j.toInt8.toInt32)), (.int (((j.toInt8.toInt32)).toInt8.toInt32))])) (fun _ k => XS.iloadN X12.here hx rfl (hb hby at_102) rfl k) ?_
    refine own_st (T' := T12) (g' := (mkF m 106 #[.val (.int i), .val (.int j), .val (.int (1 : Int32)), .val (.int (j.toInt8.toInt32)), .val (.int ((j >>> ((8 : Int32) &&& 31)).toInt8.toInt32)), .val (.int ((j >>> ((16 : Int32) &&& 31)).toInt8.toInt32)), .val (.ref b8), .val (.ref b9), .val (.ref b12), .unset, .unset, .unset] [])) (fun _ k => XS.icmpNo X12.here hx rfl (hb hby at_103) rfl (teq (by simp only [own_i8])).2 k) ?_
    refine own_st (T' := T12) (g' := (mkF m 107 #[.val (.int i), .val (.int j), .val (.int (1 : Int32)), .val (.int (j.toInt8.toInt32)), .val (.int ((j >>> ((8 : Int32) &&& 31)).toInt8.toInt32)), .val (.int ((j >>> ((16 : Int32) &&& 31)).toInt8.toInt32)), .val (.ref b8), .val (.ref b9), .val (.ref b12), .unset, .unset, .unset] [(.int (1 : Int32))])) (fun _ k => XS.iloadN X12.here hx rfl (hb hby at_106) rfl k) ?_
    refine own_st (T' := T12) (g' := (mkF m 108 #[.val (.int i), .val (.int j), .val (.int (1 : Int32)), .val (.int (j.toInt8.toInt32)), .val (.int ((j >>> ((8 : Int32) &&& 31)).toInt8.toInt32)), .val (.int ((j >>> ((16 : Int32) &&& 31)).toInt8.toInt32)), .val (.ref b8), .val (.ref b9), .val (.ref b12), .unset, .unset, .unset] [(.int (2 : Int32)), (.int (1 : Int32))])) (fun _ k => XS.iconst X12.here hx rfl (hb hby at_107) k) ?_
    refine own_st (T' := T12) (g' := (mkF m 120 #[.val (.int i), .val (.int j), .val (.int (1 : Int32)), .val (.int (j.toInt8.toInt32)), .val (.int ((j >>> ((8 : Int32) &&& 31)).toInt8.toInt32)), .val (.int ((j >>> ((16 : Int32) &&& 31)).toInt8.toInt32)), .val (.ref b8), .val (.ref b9), .val (.ref b12), .unset, .unset, .unset] [])) (fun _ k => XS.icmpYes X12.here hx rfl (pc0 := 108) (pc' := 120) rfl (hb hby at_108) rfl (by decide) (by decide) (by decide) k) ?_
    refine own_st (T' := T12) (g' := (mkF m 121 #[.val (.int i), .val (.int j), .val (.int (1 : Int32)), .val (.int (j.toInt8.toInt32)), .val (.int ((j >>> ((8 : Int32) &&& 31)).toInt8.toInt32)), .val (.int ((j >>> ((16 : Int32) &&& 31)).toInt8.toInt32)), .val (.ref b8), .val (.ref b9), .val (.ref b12), .unset, .unset, .unset] [(.int (1 : Int32))])) (fun _ k => XS.iloadN X12.here hx rfl (hb hby at_120) rfl k) ?_
    refine own_st (T' := T12) (g' := (mkF m 122 #[.val (.int i), .val (.int j), .val (.int (1 : Int32)), .val (.int (j.toInt8.toInt32)), .val (.int ((j >>> ((8 : Int32) &&& 31)).toInt8.toInt32)), .val (.int ((j >>> ((16 : Int32) &&& 31)).toInt8.toInt32)), .val (.ref b8), .val (.ref b9), .val (.ref b12), .unset, .unset, .unset] [(.int (3 : Int32)), (.int (1 : Int32))])) (fun _ k => XS.iconst X12.here hx rfl (hb hby at_121) k) ?_
    refine own_st (T' := T12) (g' := (mkF m 134 #[.val (.int i), .val (.int j), .val (.int (1 : Int32)), .val (.int (j.toInt8.toInt32)), .val (.int ((j >>> ((8 : Int32) &&& 31)).toInt8.toInt32)), .val (.int ((j >>> ((16 : Int32) &&& 31)).toInt8.toInt32)), .val (.ref b8), .val (.ref b9), .val (.ref b12), .unset, .unset, .unset] [])) (fun _ k => XS.icmpYes X12.here hx rfl (pc0 := 122) (pc' := 134) rfl (hb hby at_122) rfl (by decide) (by decide) (by decide) k) ?_
    refine own_st (T' := T12) (g' := (mkF m 135 #[.val (.int i), .val (.int j), .val (.int (1 : Int32)), .val (.int (j.toInt8.toInt32)), .val (.int ((j >>> ((8 : Int32) &&& 31)).toInt8.toInt32)), .val (.int ((j >>> ((16 : Int32) &&& 31)).toInt8.toInt32)), .val (.ref b8), .val (.ref b9), .val (.ref b12), .unset, .unset, .unset] [(.int (1 : Int32))])) (fun _ k => XS.iconst X12.here hx rfl (hb hby at_134) k) ?_
    refine own_st (T' := T12) (g' := (mkF m 139 #[.val (.int i), .val (.int j), .val (.int (1 : Int32)), .val (.int (j.toInt8.toInt32)), .val (.int ((j >>> ((8 : Int32) &&& 31)).toInt8.toInt32)), .val (.int ((j >>> ((16 : Int32) &&& 31)).toInt8.toInt32)), .val (.ref b8), .val (.ref b9), .val (.ref b12), .unset, .unset, .unset] [(.int (1 : Int32))])) (fun _ k => XS.goto X12.here hx rfl (pc0 := 135) (pc' := 139) rfl (hb hby at_135) (by decide) (by decide) k) ?_
    refine own_st (T' := T12) (g' := (mkF m 141 #[.val (.int i), .val (.int j), .val (.int (1 : Int32)), .val (.int (j.toInt8.toInt32)), .val (.int ((j >>> ((8 : Int32) &&& 31)).toInt8.toInt32)), .val (.int ((j >>> ((16 : Int32) &&& 31)).toInt8.toInt32)), .val (.ref b8), .val (.ref b9), .val (.ref b12), .val (.int (1 : Int32)), .unset, .unset] [])) (fun _ k => XS.istore X12.here hx rfl (hb hby at_139) rfl (l' := #[.val (.int i), .val (.int j), .val (.int (1 : Int32)), .val (.int (j.toInt8.toInt32)), .val (.int ((j >>> ((8 : Int32) &&& 31)).toInt8.toInt32)), .val (.int ((j >>> ((16 : Int32) &&& 31)).toInt8.toInt32)), .val (.ref b8), .val (.ref b9), .val (.ref b12), .val (.int (1 : Int32)), .unset, .unset]) rfl k) ?_
    refine own_st (T' := T12) (g' := (mkF m 143 #[.val (.int i), .val (.int j), .val (.int (1 : Int32)), .val (.int (j.toInt8.toInt32)), .val (.int ((j >>> ((8 : Int32) &&& 31)).toInt8.toInt32)), .val (.int ((j >>> ((16 : Int32) &&& 31)).toInt8.toInt32)), .val (.ref b8), .val (.ref b9), .val (.ref b12), .val (.int (1 : Int32)), .unset, .unset] [(.ref b9)])) (fun _ k => XS.aload X12.here hx rfl (hb hby at_141) rfl rfl k) ?_
    obtain ⟨T16, X16, e16, st16⟩ := own_pure (w := (.int (0 : Int32))) rfl rfl (own_gV X12 hx hZ hown (hw _ (List.mem_of_getElem? (i := 46) rfl)) (hw _ (List.mem_of_getElem? (i := 47) rfl)) (notFace_of_selects (args := #[]) (mvT hZ (hw _ (List.mem_of_getElem? (i := 49) rfl)))) (hw _ (List.mem_of_getElem? (i := 49) rfl)) (hw _ (List.mem_of_getElem? (i := 48) rfl)) (hw _ (List.mem_of_getElem? (i := 7) rfl)) (hw _ (List.mem_of_getElem? (i := 50) rfl)) (by decide) rfl E_b9 (own_isf l Z a0 hw T12.heap b9 F_failure_b9) (by decide) (by decide) (by decide) (by decide) (Q := fun v h L => v = some (.int (0 : Int32)) ∧ L = [] ∧ h = T12.heap) (W := 0) (g := (mkF m 143 #[.val (.int i), .val (.int j), .val (.int (1 : Int32)), .val (.int (j.toInt8.toInt32)), .val (.int ((j >>> ((8 : Int32) &&& 31)).toInt8.toInt32)), .val (.int ((j >>> ((16 : Int32) &&& 31)).toInt8.toInt32)), .val (.ref b8), .val (.ref b9), .val (.ref b12), .val (.int (1 : Int32)), .unset, .unset] [(.ref b9)])) (argsL := []) (rest := []) rfl (by rw [hml]; rfl) (lenOf own_pd_5 rfl) rfl (by show 2 * 0 + _ ≤ _; exact Nat.le_of_eq rfl) (hb hby at_143))
    refine own_st (T' := T16) (g' := (mkF m 146 #[.val (.int i), .val (.int j), .val (.int (1 : Int32)), .val (.int (j.toInt8.toInt32)), .val (.int ((j >>> ((8 : Int32) &&& 31)).toInt8.toInt32)), .val (.int ((j >>> ((16 : Int32) &&& 31)).toInt8.toInt32)), .val (.ref b8), .val (.ref b9), .val (.ref b12), .val (.int (1 : Int32)), .unset, .unset] [(.int (0 : Int32))])) st16 ?_
    refine own_st (T' := T16) (g' := (mkF m 149 #[.val (.int i), .val (.int j), .val (.int (1 : Int32)), .val (.int (j.toInt8.toInt32)), .val (.int ((j >>> ((8 : Int32) &&& 31)).toInt8.toInt32)), .val (.int ((j >>> ((16 : Int32) &&& 31)).toInt8.toInt32)), .val (.ref b8), .val (.ref b9), .val (.ref b12), .val (.int (1 : Int32)), .unset, .unset] [])) (fun _ k => XS.ifNo X16.here hx rfl (hb hby at_146) rfl (by decide) k) ?_
    refine own_st (T' := T16) (g' := (mkF m 150 #[.val (.int i), .val (.int j), .val (.int (1 : Int32)), .val (.int (j.toInt8.toInt32)), .val (.int ((j >>> ((8 : Int32) &&& 31)).toInt8.toInt32)), .val (.int ((j >>> ((16 : Int32) &&& 31)).toInt8.toInt32)), .val (.ref b8), .val (.ref b9), .val (.ref b12), .val (.int (1 : Int32)), .unset, .unset] [(.int (1 : Int32))])) (fun _ k => XS.iconst X16.here hx rfl (hb hby at_149) k) ?_
    refine own_st (T' := T16) (g' := (mkF m 154 #[.val (.int i), .val (.int j), .val (.int (1 : Int32)), .val (.int (j.toInt8.toInt32)), .val (.int ((j >>> ((8 : Int32) &&& 31)).toInt8.toInt32)), .val (.int ((j >>> ((16 : Int32) &&& 31)).toInt8.toInt32)), .val (.ref b8), .val (.ref b9), .val (.ref b12), .val (.int (1 : Int32)), .unset, .unset] [(.int (1 : Int32))])) (fun _ k => XS.goto X16.here hx rfl (pc0 := 150) (pc' := 154) rfl (hb hby at_150) (by decide) (by decide) k) ?_
    refine own_st (T' := T16) (g' := (mkF m 156 #[.val (.int i), .val (.int j), .val (.int (1 : Int32)), .val (.int (j.toInt8.toInt32)), .val (.int ((j >>> ((8 : Int32) &&& 31)).toInt8.toInt32)), .val (.int ((j >>> ((16 : Int32) &&& 31)).toInt8.toInt32)), .val (.ref b8), .val (.ref b9), .val (.ref b12), .val (.int (1 : Int32)), .val (.int (1 : Int32)), .unset] [])) (fun _ k => XS.istore X16.here hx rfl (hb hby at_154) rfl (l' := #[.val (.int i), .val (.int j), .val (.int (1 : Int32)), .val (.int (j.toInt8.toInt32)), .val (.int ((j >>> ((8 : Int32) &&& 31)).toInt8.toInt32)), .val (.int ((j >>> ((16 : Int32) &&& 31)).toInt8.toInt32)), .val (.ref b8), .val (.ref b9), .val (.ref b12), .val (.int (1 : Int32)), .val (.int (1 : Int32)), .unset]) rfl k) ?_
    refine own_st (T' := T16) (g' := (mkF m 158 #[.val (.int i), .val (.int j), .val (.int (1 : Int32)), .val (.int (j.toInt8.toInt32)), .val (.int ((j >>> ((8 : Int32) &&& 31)).toInt8.toInt32)), .val (.int ((j >>> ((16 : Int32) &&& 31)).toInt8.toInt32)), .val (.ref b8), .val (.ref b9), .val (.ref b12), .val (.int (1 : Int32)), .val (.int (1 : Int32)), .unset] [(.ref b9)])) (fun _ k => XS.aload X16.here hx rfl (hb hby at_156) rfl rfl k) ?_
    obtain ⟨T17, X17, e17, st17⟩ := own_pure (w := (.ref a_SUCCEEDED)) rfl rfl (own_gV X16 hx hZ hown (hw _ (List.mem_of_getElem? (i := 51) rfl)) (hw _ (List.mem_of_getElem? (i := 52) rfl)) (notFace_of_selects (args := #[]) (mvT hZ (hw _ (List.mem_of_getElem? (i := 54) rfl)))) (hw _ (List.mem_of_getElem? (i := 54) rfl)) (hw _ (List.mem_of_getElem? (i := 53) rfl)) (hw _ (List.mem_of_getElem? (i := 7) rfl)) (hw _ (List.mem_of_getElem? (i := 55) rfl)) (by decide) e16 E_b9 (own_stat l Z a0 hw T12.heap b9 a_SUCCEEDED F_failure_b9 (S_SUCCEEDED.ext E0)) (by decide) (by decide) (by decide) (by decide) (Q := fun v h L => v = some (.ref a_SUCCEEDED) ∧ L = [] ∧ h = T12.heap) (W := 0) (g := (mkF m 158 #[.val (.int i), .val (.int j), .val (.int (1 : Int32)), .val (.int (j.toInt8.toInt32)), .val (.int ((j >>> ((8 : Int32) &&& 31)).toInt8.toInt32)), .val (.int ((j >>> ((16 : Int32) &&& 31)).toInt8.toInt32)), .val (.ref b8), .val (.ref b9), .val (.ref b12), .val (.int (1 : Int32)), .val (.int (1 : Int32)), .unset] [(.ref b9)])) (argsL := []) (rest := []) rfl (by rw [hml]; rfl) (lenOf own_pd_6 rfl) rfl (by show 2 * 0 + _ ≤ _; exact Nat.le_of_eq rfl) (hb hby at_158))
    refine own_st (T' := T17) (g' := (mkF m 161 #[.val (.int i), .val (.int j), .val (.int (1 : Int32)), .val (.int (j.toInt8.toInt32)), .val (.int ((j >>> ((8 : Int32) &&& 31)).toInt8.toInt32)), .val (.int ((j >>> ((16 : Int32) &&& 31)).toInt8.toInt32)), .val (.ref b8), .val (.ref b9), .val (.ref b12), .val (.int (1 : Int32)), .val (.int (1 : Int32)), .unset] [(.ref a_SUCCEEDED)])) st17 ?_
    obtain ⟨T18, X18, e18, st18⟩ := getS2 X17 hx hZ hown (host := "") (Or.inl (hw _ (List.mem_of_getElem? (i := 59) rfl))) Via.refl e17 (S_SUCCEEDED.ext E0) (g := (mkF m 161 #[.val (.int i), .val (.int j), .val (.int (1 : Int32)), .val (.int (j.toInt8.toInt32)), .val (.int ((j >>> ((8 : Int32) &&& 31)).toInt8.toInt32)), .val (.int ((j >>> ((16 : Int32) &&& 31)).toInt8.toInt32)), .val (.ref b8), .val (.ref b9), .val (.ref b12), .val (.int (1 : Int32)), .val (.int (1 : Int32)), .unset] [(.ref a_SUCCEEDED)])) rfl (hb hby at_161)
    refine own_st (T' := T18) (g' := (mkF m 164 #[.val (.int i), .val (.int j), .val (.int (1 : Int32)), .val (.int (j.toInt8.toInt32)), .val (.int ((j >>> ((8 : Int32) &&& 31)).toInt8.toInt32)), .val (.int ((j >>> ((16 : Int32) &&& 31)).toInt8.toInt32)), .val (.ref b8), .val (.ref b9), .val (.ref b12), .val (.int (1 : Int32)), .val (.int (1 : Int32)), .unset] [(.ref a_SUCCEEDED), (.ref a_SUCCEEDED)])) st18 ?_
    refine own_st (T' := T18) (g' := (mkF m 167 #[.val (.int i), .val (.int j), .val (.int (1 : Int32)), .val (.int (j.toInt8.toInt32)), .val (.int ((j >>> ((8 : Int32) &&& 31)).toInt8.toInt32)), .val (.int ((j >>> ((16 : Int32) &&& 31)).toInt8.toInt32)), .val (.ref b8), .val (.ref b9), .val (.ref b12), .val (.int (1 : Int32)), .val (.int (1 : Int32)), .unset] [])) (fun _ k => Jvm.RoadKit.acmp (g := (mkF m 164 #[.val (.int i), .val (.int j), .val (.int (1 : Int32)), .val (.int (j.toInt8.toInt32)), .val (.int ((j >>> ((8 : Int32) &&& 31)).toInt8.toInt32)), .val (.int ((j >>> ((16 : Int32) &&& 31)).toInt8.toInt32)), .val (.ref b8), .val (.ref b9), .val (.ref b12), .val (.int (1 : Int32)), .val (.int (1 : Int32)), .unset] [(.ref a_SUCCEEDED), (.ref a_SUCCEEDED)])) X18 hx rfl rfl rfl (pc0 := 164) (pc' := 167) (same := true) rfl (hb hby at_164) rfl (decide_eq_true rfl) (by decide) (by decide) k) ?_
    refine own_st (T' := T18) (g' := (mkF m 168 #[.val (.int i), .val (.int j), .val (.int (1 : Int32)), .val (.int (j.toInt8.toInt32)), .val (.int ((j >>> ((8 : Int32) &&& 31)).toInt8.toInt32)), .val (.int ((j >>> ((16 : Int32) &&& 31)).toInt8.toInt32)), .val (.ref b8), .val (.ref b9), .val (.ref b12), .val (.int (1 : Int32)), .val (.int (1 : Int32)), .unset] [(.int (1 : Int32))])) (fun _ k => XS.iconst X18.here hx rfl (hb hby at_167) k) ?_
    refine own_st (T' := T18) (g' := (mkF m 172 #[.val (.int i), .val (.int j), .val (.int (1 : Int32)), .val (.int (j.toInt8.toInt32)), .val (.int ((j >>> ((8 : Int32) &&& 31)).toInt8.toInt32)), .val (.int ((j >>> ((16 : Int32) &&& 31)).toInt8.toInt32)), .val (.ref b8), .val (.ref b9), .val (.ref b12), .val (.int (1 : Int32)), .val (.int (1 : Int32)), .unset] [(.int (1 : Int32))])) (fun _ k => XS.goto X18.here hx rfl (pc0 := 168) (pc' := 172) rfl (hb hby at_168) (by decide) (by decide) k) ?_
    refine own_st (T' := T18) (g' := (mkF m 174 #[.val (.int i), .val (.int j), .val (.int (1 : Int32)), .val (.int (j.toInt8.toInt32)), .val (.int ((j >>> ((8 : Int32) &&& 31)).toInt8.toInt32)), .val (.int ((j >>> ((16 : Int32) &&& 31)).toInt8.toInt32)), .val (.ref b8), .val (.ref b9), .val (.ref b12), .val (.int (1 : Int32)), .val (.int (1 : Int32)), .val (.int (1 : Int32))] [])) (fun _ k => XS.istore X18.here hx rfl (hb hby at_172) rfl (l' := #[.val (.int i), .val (.int j), .val (.int (1 : Int32)), .val (.int (j.toInt8.toInt32)), .val (.int ((j >>> ((8 : Int32) &&& 31)).toInt8.toInt32)), .val (.int ((j >>> ((16 : Int32) &&& 31)).toInt8.toInt32)), .val (.ref b8), .val (.ref b9), .val (.ref b12), .val (.int (1 : Int32)), .val (.int (1 : Int32)), .val (.int (1 : Int32))]) rfl k) ?_
    refine own_st (T' := T18) (g' := (mkF m 176 #[.val (.int i), .val (.int j), .val (.int (1 : Int32)), .val (.int (j.toInt8.toInt32)), .val (.int ((j >>> ((8 : Int32) &&& 31)).toInt8.toInt32)), .val (.int ((j >>> ((16 : Int32) &&& 31)).toInt8.toInt32)), .val (.ref b8), .val (.ref b9), .val (.ref b12), .val (.int (1 : Int32)), .val (.int (1 : Int32)), .val (.int (1 : Int32))] [(.int (1 : Int32))])) (fun _ k => XS.iload X18.here hx rfl (hb hby at_174) rfl k) ?_
    refine own_st (T' := T18) (g' := (mkF m 179 #[.val (.int i), .val (.int j), .val (.int (1 : Int32)), .val (.int (j.toInt8.toInt32)), .val (.int ((j >>> ((8 : Int32) &&& 31)).toInt8.toInt32)), .val (.int ((j >>> ((16 : Int32) &&& 31)).toInt8.toInt32)), .val (.ref b8), .val (.ref b9), .val (.ref b12), .val (.int (1 : Int32)), .val (.int (1 : Int32)), .val (.int (1 : Int32))] [])) (fun _ k => XS.ifNo X18.here hx rfl (hb hby at_176) rfl (by decide) k) ?_
    refine own_st (T' := T18) (g' := (mkF m 181 #[.val (.int i), .val (.int j), .val (.int (1 : Int32)), .val (.int (j.toInt8.toInt32)), .val (.int ((j >>> ((8 : Int32) &&& 31)).toInt8.toInt32)), .val (.int ((j >>> ((16 : Int32) &&& 31)).toInt8.toInt32)), .val (.ref b8), .val (.ref b9), .val (.ref b12), .val (.int (1 : Int32)), .val (.int (1 : Int32)), .val (.int (1 : Int32))] [(.int (1 : Int32))])) (fun _ k => XS.iload X18.here hx rfl (hb hby at_179) rfl k) ?_
    refine own_st (T' := T18) (g' := (mkF m 184 #[.val (.int i), .val (.int j), .val (.int (1 : Int32)), .val (.int (j.toInt8.toInt32)), .val (.int ((j >>> ((8 : Int32) &&& 31)).toInt8.toInt32)), .val (.int ((j >>> ((16 : Int32) &&& 31)).toInt8.toInt32)), .val (.ref b8), .val (.ref b9), .val (.ref b12), .val (.int (1 : Int32)), .val (.int (1 : Int32)), .val (.int (1 : Int32))] [])) (fun _ k => XS.ifNo X18.here hx rfl (hb hby at_181) rfl (by decide) k) ?_
    refine own_st (T' := T18) (g' := (mkF m 186 #[.val (.int i), .val (.int j), .val (.int (1 : Int32)), .val (.int (j.toInt8.toInt32)), .val (.int ((j >>> ((8 : Int32) &&& 31)).toInt8.toInt32)), .val (.int ((j >>> ((16 : Int32) &&& 31)).toInt8.toInt32)), .val (.ref b8), .val (.ref b9), .val (.ref b12), .val (.int (1 : Int32)), .val (.int (1 : Int32)), .val (.int (1 : Int32))] [(.int (1 : Int32))])) (fun _ k => XS.iload X18.here hx rfl (hb hby at_184) rfl k) ?_
    refine own_st (T' := T18) (g' := (mkF m 189 #[.val (.int i), .val (.int j), .val (.int (1 : Int32)), .val (.int (j.toInt8.toInt32)), .val (.int ((j >>> ((8 : Int32) &&& 31)).toInt8.toInt32)), .val (.int ((j >>> ((16 : Int32) &&& 31)).toInt8.toInt32)), .val (.ref b8), .val (.ref b9), .val (.ref b12), .val (.int (1 : Int32)), .val (.int (1 : Int32)), .val (.int (1 : Int32))] [])) (fun _ k => XS.ifNo X18.here hx rfl (hb hby at_186) rfl (by decide) k) ?_
    refine own_st (T' := T18) (g' := (mkF m 190 #[.val (.int i), .val (.int j), .val (.int (1 : Int32)), .val (.int (j.toInt8.toInt32)), .val (.int ((j >>> ((8 : Int32) &&& 31)).toInt8.toInt32)), .val (.int ((j >>> ((16 : Int32) &&& 31)).toInt8.toInt32)), .val (.ref b8), .val (.ref b9), .val (.ref b12), .val (.int (1 : Int32)), .val (.int (1 : Int32)), .val (.int (1 : Int32))] [(.int (1 : Int32))])) (fun _ k => XS.iconst X18.here hx rfl (hb hby at_189) k) ?_
    refine own_st (T' := T18) (g' := (mkF m 194 #[.val (.int i), .val (.int j), .val (.int (1 : Int32)), .val (.int (j.toInt8.toInt32)), .val (.int ((j >>> ((8 : Int32) &&& 31)).toInt8.toInt32)), .val (.int ((j >>> ((16 : Int32) &&& 31)).toInt8.toInt32)), .val (.ref b8), .val (.ref b9), .val (.ref b12), .val (.int (1 : Int32)), .val (.int (1 : Int32)), .val (.int (1 : Int32))] [(.int (1 : Int32))])) (fun _ k => XS.goto X18.here hx rfl (pc0 := 190) (pc' := 194) rfl (hb hby at_190) (by decide) (by decide) k) ?_
    exact own_retW X18 hx hlk hS (by rw [e18]; exact hk) hret rfl (Or.inl ⟨rfl, Or.inr (Or.inl rfl), _, rfl⟩) (hb hby at_194) (by decide) (by decide) ⟨rfl, Nf⟩
  ·
    rw [hE]
    refine own_st (T' := T0) (g' := (mkF m 4 #[.val (.int i), .val (.int j), .val (.int (2 : Int32)), .unset, .unset, .unset, .unset, .unset, .unset, .unset, .unset, .unset] [])) (fun _ k => XS.istoreN X0.here hx rfl (hb hby at_3) rfl (l' := #[.val (.int i), .val (.int j), .val (.int (2 : Int32)), .unset, .unset, .unset, .unset, .unset, .unset, .unset, .unset, .unset]) rfl k) ?_
    refine own_st (T' := T0) (g' := (mkF m 5 #[.val (.int i), .val (.int j), .val (.int (2 : Int32)), .unset, .unset, .unset, .unset, .unset, .unset, .unset, .unset, .unset] [(.int j)])) (fun _ k => XS.iloadN X0.here hx rfl (hb hby at_4) rfl k) ?_
    refine own_st (T' := T0) (g' := (mkF m 6 #[.val (.int i), .val (.int j), .val (.int (2 : Int32)), .unset, .unset, .unset, .unset, .unset, .unset, .unset, .unset, .unset] [(.int (j.toInt8.toInt32))])) (fun _ k => XS.i2b X0.here hx rfl (hb hby at_5) rfl k) ?_
    refine own_st (T' := T0) (g' := (mkF m 7 #[.val (.int i), .val (.int j), .val (.int (2 : Int32)), .val (.int (j.toInt8.toInt32)), .unset, .unset, .unset, .unset, .unset, .unset, .unset, .unset] [])) (fun _ k => XS.istoreN X0.here hx rfl (hb hby at_6) rfl (l' := #[.val (.int i), .val (.int j), .val (.int (2 : Int32)), .val (.int (j.toInt8.toInt32)), .unset, .unset, .unset, .unset, .unset, .unset, .unset, .unset]) rfl k) ?_
    refine own_st (T' := T0) (g' := (mkF m 8 #[.val (.int i), .val (.int j), .val (.int (2 : Int32)), .val (.int (j.toInt8.toInt32)), .unset, .unset, .unset, .unset, .unset, .unset, .unset, .unset] [(.int j)])) (fun _ k => XS.iloadN X0.here hx rfl (hb hby at_7) rfl k) ?_
    refine own_st (T' := T0) (g' := (mkF m 10 #[.val (.int i), .val (.int j), .val (.int (2 : Int32)), .val (.int (j.toInt8.toInt32)), .unset, .unset, .unset, .unset, .unset, .unset, .unset, .unset] [(.int (8 : Int32)), (.int j)])) (fun _ k => XS.bipush X0.here hx rfl (hb hby at_8) k) ?_
    refine own_st (T' := T0) (g' := (mkF m 11 #[.val (.int i), .val (.int j), .val (.int (2 : Int32)), .val (.int (j.toInt8.toInt32)), .unset, .unset, .unset, .unset, .unset, .unset, .unset, .unset] [(.int (j >>> ((8 : Int32) &&& 31)))])) (fun _ k => XS.ishr X0.here hx rfl (hb hby at_10) rfl k) ?_
    refine own_st (T' := T0) (g' := (mkF m 12 #[.val (.int i), .val (.int j), .val (.int (2 : Int32)), .val (.int (j.toInt8.toInt32)), .unset, .unset, .unset, .unset, .unset, .unset, .unset, .unset] [(.int ((j >>> ((8 : Int32) &&& 31)).toInt8.toInt32))])) (fun _ k => XS.i2b X0.here hx rfl (hb hby at_11) rfl k) ?_
    refine own_st (T' := T0) (g' := (mkF m 14 #[.val (.int i), .val (.int j), .val (.int (2 : Int32)), .val (.int (j.toInt8.toInt32)), .val (.int ((j >>> ((8 : Int32) &&& 31)).toInt8.toInt32)), .unset, .unset, .unset, .unset, .unset, .unset, .unset] [])) (fun _ k => XS.istore X0.here hx rfl (hb hby at_12) rfl (l' := #[.val (.int i), .val (.int j), .val (.int (2 : Int32)), .val (.int (j.toInt8.toInt32)), .val (.int ((j >>> ((8 : Int32) &&& 31)).toInt8.toInt32)), .unset, .unset, .unset, .unset, .unset, .unset, .unset]) rfl k) ?_
    refine own_st (T' := T0) (g' := (mkF m 15 #[.val (.int i), .val (.int j), .val (.int (2 : Int32)), .val (.int (j.toInt8.toInt32)), .val (.int ((j >>> ((8 : Int32) &&& 31)).toInt8.toInt32)), .unset, .unset, .unset, .unset, .unset, .unset, .unset] [(.int j)])) (fun _ k => XS.iloadN X0.here hx rfl (hb hby at_14) rfl k) ?_
    refine own_st (T' := T0) (g' := (mkF m 17 #[.val (.int i), .val (.int j), .val (.int (2 : Int32)), .val (.int (j.toInt8.toInt32)), .val (.int ((j >>> ((8 : Int32) &&& 31)).toInt8.toInt32)), .unset, .unset, .unset, .unset, .unset, .unset, .unset] [(.int (16 : Int32)), (.int j)])) (fun _ k => XS.bipush X0.here hx rfl (hb hby at_15) k) ?_
    refine own_st (T' := T0) (g' := (mkF m 18 #[.val (.int i), .val (.int j), .val (.int (2 : Int32)), .val (.int (j.toInt8.toInt32)), .val (.int ((j >>> ((8 : Int32) &&& 31)).toInt8.toInt32)), .unset, .unset, .unset, .unset, .unset, .unset, .unset] [(.int (j >>> ((16 : Int32) &&& 31)))])) (fun _ k => XS.ishr X0.here hx rfl (hb hby at_17) rfl k) ?_
    refine own_st (T' := T0) (g' := (mkF m 19 #[.val (.int i), .val (.int j), .val (.int (2 : Int32)), .val (.int (j.toInt8.toInt32)), .val (.int ((j >>> ((8 : Int32) &&& 31)).toInt8.toInt32)), .unset, .unset, .unset, .unset, .unset, .unset, .unset] [(.int ((j >>> ((16 : Int32) &&& 31)).toInt8.toInt32))])) (fun _ k => XS.i2b X0.here hx rfl (hb hby at_18) rfl k) ?_
    refine own_st (T' := T0) (g' := (mkF m 21 #[.val (.int i), .val (.int j), .val (.int (2 : Int32)), .val (.int (j.toInt8.toInt32)), .val (.int ((j >>> ((8 : Int32) &&& 31)).toInt8.toInt32)), .val (.int ((j >>> ((16 : Int32) &&& 31)).toInt8.toInt32)), .unset, .unset, .unset, .unset, .unset, .unset] [])) (fun _ k => XS.istore X0.here hx rfl (hb hby at_19) rfl (l' := #[.val (.int i), .val (.int j), .val (.int (2 : Int32)), .val (.int (j.toInt8.toInt32)), .val (.int ((j >>> ((8 : Int32) &&& 31)).toInt8.toInt32)), .val (.int ((j >>> ((16 : Int32) &&& 31)).toInt8.toInt32)), .unset, .unset, .unset, .unset, .unset, .unset]) rfl k) ?_
    refine own_st (T' := T0) (g' := (mkF m 22 #[.val (.int i), .val (.int j), .val (.int (2 : Int32)), .val (.int (j.toInt8.toInt32)), .val (.int ((j >>> ((8 : Int32) &&& 31)).toInt8.toInt32)), .val (.int ((j >>> ((16 : Int32) &&& 31)).toInt8.toInt32)), .unset, .unset, .unset, .unset, .unset, .unset] [(.int (2 : Int32))])) (fun _ k => XS.iloadN X0.here hx rfl (hb hby at_21) rfl k) ?_
    refine own_st (T' := T0) (g' := (mkF m 23 #[.val (.int i), .val (.int j), .val (.int (2 : Int32)), .val (.int (j.toInt8.toInt32)), .val (.int ((j >>> ((8 : Int32) &&& 31)).toInt8.toInt32)), .val (.int ((j >>> ((16 : Int32) &&& 31)).toInt8.toInt32)), .unset, .unset, .unset, .unset, .unset, .unset] [(.int (j.toInt8.toInt32)), (.int (2 : Int32))])) (fun _ k => XS.iloadN X0.here hx rfl (hb hby at_22) rfl k) ?_
    refine own_st (T' := T0) (g' := (mkF m 25 #[.val (.int i), .val (.int j), .val (.int (2 : Int32)), .val (.int (j.toInt8.toInt32)), .val (.int ((j >>> ((8 : Int32) &&& 31)).toInt8.toInt32)), .val (.int ((j >>> ((16 : Int32) &&& 31)).toInt8.toInt32)), .unset, .unset, .unset, .unset, .unset, .unset] [(.int ((j >>> ((8 : Int32) &&& 31)).toInt8.toInt32)), (.int (j.toInt8.toInt32)), (.int (2 : Int32))])) (fun _ k => XS.iload X0.here hx rfl (hb hby at_23) rfl k) ?_
    refine own_st (T' := T0) (g' := (mkF m 27 #[.val (.int i), .val (.int j), .val (.int (2 : Int32)), .val (.int (j.toInt8.toInt32)), .val (.int ((j >>> ((8 : Int32) &&& 31)).toInt8.toInt32)), .val (.int ((j >>> ((16 : Int32) &&& 31)).toInt8.toInt32)), .unset, .unset, .unset, .unset, .unset, .unset] [(.int ((j >>> ((16 : Int32) &&& 31)).toInt8.toInt32)), (.int ((j >>> ((8 : Int32) &&& 31)).toInt8.toInt32)), (.int (j.toInt8.toInt32)), (.int (2 : Int32))])) (fun _ k => XS.iload X0.here hx rfl (hb hby at_25) rfl k) ?_
    obtain ⟨v19, T19, L19, X19, hQ19, st19⟩ := own_gS X0  hx hZ hown (hw _ (List.mem_of_getElem? (i := 0) rfl)) (hw _ (List.mem_of_getElem? (i := 1) rfl)) (hw _ (List.mem_of_getElem? (i := 2) rfl)) (hw _ (List.mem_of_getElem? (i := 3) rfl)) (by decide) e0 (own_make2 l Z a0 hw h0 ((j.toInt8.toInt32)) (((j >>> ((8 : Int32) &&& 31)).toInt8.toInt32)) (((j >>> ((16 : Int32) &&& 31)).toInt8.toInt32))) (by decide) (by decide) (by decide) (by decide) (Q := (fun v h L => ∃ b kB, v = some (.ref b) ∧ h0.size ≤ b ∧ Fr h0.size L ∧ Ext h0 h ∧ Arh Z h b kB .byte (2 : Int32) (((1 : Int32), (.int ((((j >>> ((8 : Int32) &&& 31)).toInt8.toInt32)).toInt8.toInt32))) :: (((0 : Int32), (.int (((j.toInt8.toInt32)).toInt8.toInt32))) :: [])) [] (.int (0 : Int32)) ∧ Exa Z h b "[B")) (W := 0) (g := (mkF m 27 #[.val (.int i), .val (.int j), .val (.int (2 : Int32)), .val (.int (j.toInt8.toInt32)), .val (.int ((j >>> ((8 : Int32) &&& 31)).toInt8.toInt32)), .val (.int ((j >>> ((16 : Int32) &&& 31)).toInt8.toInt32)), .unset, .unset, .unset, .unset, .unset, .unset] [(.int ((j >>> ((16 : Int32) &&& 31)).toInt8.toInt32)), (.int ((j >>> ((8 : Int32) &&& 31)).toInt8.toInt32)), (.int (j.toInt8.toInt32)), (.int (2 : Int32))])) (argsL := [(.int (2 : Int32)), (.int (j.toInt8.toInt32)), (.int ((j >>> ((8 : Int32) &&& 31)).toInt8.toInt32)), (.int ((j >>> ((16 : Int32) &&& 31)).toInt8.toInt32))]) (rest := []) rfl (by rw [hml]; rfl) (lenOf own_pd_2 rfl) rfl (by show 2 * 0 + _ ≤ _; exact Nat.le_of_eq rfl) (hb hby at_27)
    obtain ⟨b19, kB19, rfl, gq19, NL19, EX19, VV19, EE19⟩ := hQ19
    have g_b19 : h0.size ≤ b19 := Nat.le_trans E0.1 gq19
    have Nf := Fr.app Nf (own_fr_mono E0.1 NL19)
    have E0 := own_ext_tr E0 EX19
    have hk := Nat.le_trans hk EX19.1
    have V_b19 := VV19
    have E_b19 := EE19
    refine own_st (T' := T19) (g' := (mkF m 30 #[.val (.int i), .val (.int j), .val (.int (2 : Int32)), .val (.int (j.toInt8.toInt32)), .val (.int ((j >>> ((8 : Int32) &&& 31)).toInt8.toInt32)), .val (.int ((j >>> ((16 : Int32) &&& 31)).toInt8.toInt32)), .unset, .unset, .unset, .unset, .unset, .unset] [(.ref b19)])) st19 ?_
    refine own_st (T' := T19) (g' := (mkF m 32 #[.val (.int i), .val (.int j), .val (.int (2 : Int32)), .val (.int (j.toInt8.toInt32)), .val (.int ((j >>> ((8 : Int32) &&& 31)).toInt8.toInt32)), .val (.int ((j >>> ((16 : Int32) &&& 31)).toInt8.toInt32)), .val (.ref b19), .unset, .unset, .unset, .unset, .unset] [])) (fun _ k => XS.astore X19.here hx rfl (hb hby at_30) rfl rfl (l' := #[.val (.int i), .val (.int j), .val (.int (2 : Int32)), .val (.int (j.toInt8.toInt32)), .val (.int ((j >>> ((8 : Int32) &&& 31)).toInt8.toInt32)), .val (.int ((j >>> ((16 : Int32) &&& 31)).toInt8.toInt32)), .val (.ref b19), .unset, .unset, .unset, .unset, .unset]) rfl k) ?_
    refine own_st (T' := T19) (g' := (mkF m 34 #[.val (.int i), .val (.int j), .val (.int (2 : Int32)), .val (.int (j.toInt8.toInt32)), .val (.int ((j >>> ((8 : Int32) &&& 31)).toInt8.toInt32)), .val (.int ((j >>> ((16 : Int32) &&& 31)).toInt8.toInt32)), .val (.ref b19), .unset, .unset, .unset, .unset, .unset] [(.ref b19)])) (fun _ k => XS.aload X19.here hx rfl (hb hby at_32) rfl rfl k) ?_
    obtain ⟨v20, T20, L20, k20, X20, hQ20, hS, hk, hZ, hown, st20⟩ := own_gSW X19 hS hk hx hZ hown (hw _ (List.mem_of_getElem? (i := 5) rfl)) (hw _ (List.mem_of_getElem? (i := 6) rfl)) (hw _ (List.mem_of_getElem? (i := 7) rfl)) (hw _ (List.mem_of_getElem? (i := 8) rfl)) (by decide) rfl (own_succ l Z a0 hw T19.heap b19 kB19 (2 : Int32) (((1 : Int32), (.int ((((j >>> ((8 : Int32) &&& 31)).toInt8.toInt32)).toInt8.toInt32))) :: (((0 : Int32), (.int (((j.toInt8.toInt32)).toInt8.toInt32))) :: [])) (by decide) V_b19 E_b19) (by decide) (by decide) (by decide) (by decide) (Q := (fun v h L => ∃ o d, v = some (.ref o) ∧ T19.heap.size ≤ o ∧ T19.heap.size ≤ d ∧ Fr T19.heap.size L ∧ Ext T19.heap h ∧ Exa Z h o "com/example/earnest_key/earnestkey/Outcome" ∧ Fld Z h o "com/example/earnest_key/earnestkey/Outcome" "bytes" "[B" (.ref d) ∧ Fld Z h o "com/example/earnest_key/earnestkey/Outcome" "failure" "Z" (.int (0 : Int32)) ∧ Arh Z h d kB19 .byte (2 : Int32) (((1 : Int32), (.int ((((j >>> ((8 : Int32) &&& 31)).toInt8.toInt32)).toInt8.toInt32))) :: (((0 : Int32), (.int (((j.toInt8.toInt32)).toInt8.toInt32))) :: [])) [] (.int (0 : Int32)) ∧ Exa Z h d "[B" ∧ o ≠ d)) (W := 0) (g := (mkF m 34 #[.val (.int i), .val (.int j), .val (.int (2 : Int32)), .val (.int (j.toInt8.toInt32)), .val (.int ((j >>> ((8 : Int32) &&& 31)).toInt8.toInt32)), .val (.int ((j >>> ((16 : Int32) &&& 31)).toInt8.toInt32)), .val (.ref b19), .unset, .unset, .unset, .unset, .unset] [(.ref b19)])) (argsL := [(.ref b19)]) (rest := []) rfl (by rw [hml]; rfl) (lenOf own_pd_3 rfl) rfl (by show 2 * 0 + _ ≤ _; exact Nat.le_of_eq rfl) (hb hby at_34)
    obtain ⟨b20, d20, rfl, gq20, gd20, NL20, EX20, EE20, FB20, FF20, VV20, ED20, nod20⟩ := hQ20
    have ne_b19_b20 : b19 ≠ b20 := Nat.ne_of_lt (Nat.lt_of_lt_of_le V_b19.lt gq20)
    have g_b20 : h0.size ≤ b20 := Nat.le_trans E0.1 gq20
    have ne_b19_d20 : b19 ≠ d20 := Nat.ne_of_lt (Nat.lt_of_lt_of_le V_b19.lt gd20)
    have g_d20 : h0.size ≤ d20 := Nat.le_trans E0.1 gd20
    have Nf := Fr.app Nf (own_fr_mono E0.1 NL20)
    have V_b19 := V_b19.ext EX20
    have E_b19 := E_b19.ext EX20
    have E0 := own_ext_tr E0 EX20
    have E_b20 := EE20
    have F_bytes_b20 := FB20
    have F_failure_b20 := FF20
    have V_d20 := VV20
    have E_d20 := ED20
    refine own_st (T' := T20) (g' := (mkF m 37 #[.val (.int i), .val (.int j), .val (.int (2 : Int32)), .val (.int (j.toInt8.toInt32)), .val (.int ((j >>> ((8 : Int32) &&& 31)).toInt8.toInt32)), .val (.int ((j >>> ((16 : Int32) &&& 31)).toInt8.toInt32)), .val (.ref b19), .unset, .unset, .unset, .unset, .unset] [(.ref b20)])) st20 ?_
    refine own_st (T' := T20) (g' := (mkF m 39 #[.val (.int i), .val (.int j), .val (.int (2 : Int32)), .val (.int (j.toInt8.toInt32)), .val (.int ((j >>> ((8 : Int32) &&& 31)).toInt8.toInt32)), .val (.int ((j >>> ((16 : Int32) &&& 31)).toInt8.toInt32)), .val (.ref b19), .val (.ref b20), .unset, .unset, .unset, .unset] [])) (fun _ k => XS.astore X20.here hx rfl (hb hby at_37) rfl rfl (l' := #[.val (.int i), .val (.int j), .val (.int (2 : Int32)), .val (.int (j.toInt8.toInt32)), .val (.int ((j >>> ((8 : Int32) &&& 31)).toInt8.toInt32)), .val (.int ((j >>> ((16 : Int32) &&& 31)).toInt8.toInt32)), .val (.ref b19), .val (.ref b20), .unset, .unset, .unset, .unset]) rfl k) ?_
    refine own_st (T' := T20) (g' := (mkF m 40 #[.val (.int i), .val (.int j), .val (.int (2 : Int32)), .val (.int (j.toInt8.toInt32)), .val (.int ((j >>> ((8 : Int32) &&& 31)).toInt8.toInt32)), .val (.int ((j >>> ((16 : Int32) &&& 31)).toInt8.toInt32)), .val (.ref b19), .val (.ref b20), .unset, .unset, .unset, .unset] [(.int (2 : Int32))])) (fun _ k => XS.iloadN X20.here hx rfl (hb hby at_39) rfl k) ?_
    refine own_st (T' := T20) (g' := (mkF m 43 #[.val (.int i), .val (.int j), .val (.int (2 : Int32)), .val (.int (j.toInt8.toInt32)), .val (.int ((j >>> ((8 : Int32) &&& 31)).toInt8.toInt32)), .val (.int ((j >>> ((16 : Int32) &&& 31)).toInt8.toInt32)), .val (.ref b19), .val (.ref b20), .unset, .unset, .unset, .unset] [])) (fun _ k => XS.ifNo X20.here hx rfl (hb hby at_40) rfl (by decide) k) ?_
    refine own_st (T' := T20) (g' := (mkF m 45 #[.val (.int i), .val (.int j), .val (.int (2 : Int32)), .val (.int (j.toInt8.toInt32)), .val (.int ((j >>> ((8 : Int32) &&& 31)).toInt8.toInt32)), .val (.int ((j >>> ((16 : Int32) &&& 31)).toInt8.toInt32)), .val (.ref b19), .val (.ref b20), .unset, .unset, .unset, .unset] [(.ref b19)])) (fun _ k => XS.aload X20.here hx rfl (hb hby at_43) rfl rfl k) ?_
    refine own_st (T' := T20) (g' := (mkF m 46 #[.val (.int i), .val (.int j), .val (.int (2 : Int32)), .val (.int (j.toInt8.toInt32)), .val (.int ((j >>> ((8 : Int32) &&& 31)).toInt8.toInt32)), .val (.int ((j >>> ((16 : Int32) &&& 31)).toInt8.toInt32)), .val (.ref b19), .val (.ref b20), .unset, .unset, .unset, .unset] [(.int (0 : Int32)), (.ref b19)])) (fun _ k => XS.iconst X20.here hx rfl (hb hby at_45) k) ?_
    refine own_st (T' := T20) (g' := (mkF m 47 #[.val (.int i), .val (.int j), .val (.int (2 : Int32)), .val (.int (j.toInt8.toInt32)), .val (.int ((j >>> ((8 : Int32) &&& 31)).toInt8.toInt32)), .val (.int ((j >>> ((16 : Int32) &&& 31)).toInt8.toInt32)), .val (.ref b19), .val (.ref b20), .unset, .unset, .unset, .unset] [(.int (j.toInt8.toInt32)), (.int (0 : Int32)), (.ref b19)])) (fun _ k => XS.iloadN X20.here hx rfl (hb hby at_46) rfl k) ?_
    refine own_st (T' := T20) (g' := (mkF m 48 #[.val (.int i), .val (.int j), .val (.int (2 : Int32)), .val (.int (j.toInt8.toInt32)), .val (.int ((j >>> ((8 : Int32) &&& 31)).toInt8.toInt32)), .val (.int ((j >>> ((16 : Int32) &&& 31)).toInt8.toInt32)), .val (.ref b19), .val (.ref b20), .unset, .unset, .unset, .unset] [(.int (-1 : Int32)), (.int (j.toInt8.toInt32)), (.int (0 : Int32)), (.ref b19)])) (fun _ k => XS.iconst X20.here hx rfl (hb hby at_47) k) ?_
    refine own_st (T' := T20) (g' := (mkF m 49 #[.val (.int i), .val (.int j), .val (.int (2 : Int32)), .val (.int (j.toInt8.toInt32)), .val (.int ((j >>> ((8 : Int32) &&& 31)).toInt8.toInt32)), .val (.int ((j >>> ((16 : Int32) &&& 31)).toInt8.toInt32)), .val (.ref b19), .val (.ref b20), .unset, .unset, .unset, .unset] [(.int ((j.toInt8.toInt32) ^^^ (-1 : Int32))), (.int (0 : Int32)), (.ref b19)])) (fun _ k => XS.ixor X20.here hx rfl (hb hby at_48) rfl k) ?_
    refine own_st (T' := T20) (g' := (mkF m 50 #[.val (.int i), .val (.int j), .val (.int (2 : Int32)), .val (.int (j.toInt8.toInt32)), .val (.int ((j >>> ((8 : Int32) &&& 31)).toInt8.toInt32)), .val (.int ((j >>> ((16 : Int32) &&& 31)).toInt8.toInt32)), .val (.ref b19), .val (.ref b20), .unset, .unset, .unset, .unset] [(.int (((j.toInt8.toInt32) ^^^ (-1 : Int32)).toInt8.toInt32)), (.int (0 : Int32)), (.ref b19)])) (fun _ k => XS.i2b X20.here hx rfl (hb hby at_49) rfl k) ?_
    have V21 := V_b19
    obtain ⟨cl21, Ar21, qk21, Sz21, Nn21, Hh21, Gg21⟩ := V21
    have hin22 : ¬ ((0 : Int32) < 0 ∨ cl21.slots.size ≤ ((0 : Int32)).toNatClampNeg) := inb_of Sz21 ⟨by decide, by decide⟩
    obtain ⟨T22, h22, X22, e22, W22, st22⟩ := stB X20 hx hZ rfl Ar21 (j := (0 : Int32)) hin22 (g := (mkF m 50 #[.val (.int i), .val (.int j), .val (.int (2 : Int32)), .val (.int (j.toInt8.toInt32)), .val (.int ((j >>> ((8 : Int32) &&& 31)).toInt8.toInt32)), .val (.int ((j >>> ((16 : Int32) &&& 31)).toInt8.toInt32)), .val (.ref b19), .val (.ref b20), .unset, .unset, .unset, .unset] [(.int (((j.toInt8.toInt32) ^^^ (-1 : Int32)).toInt8.toInt32)), (.int (0 : Int32)), (.ref b19)])) rfl rfl (hb hby at_50)
    have E_b19 := E_b19.wr W22
    have E_b20 := E_b20.wr W22
    have F_bytes_b20 := F_bytes_b20.other W22 (Or.inl (Ne.symm ne_b19_b20))
    have F_failure_b20 := F_failure_b20.other W22 (Or.inl (Ne.symm ne_b19_b20))
    have V_d20 := V_d20.other W22 (Ne.symm ne_b19_d20)
    have E_d20 := E_d20.wr W22
    have E0 := own_ext_wr E0 W22 g_b19
    have hk := (Wr.size W22) ▸ hk
    have V_b19 : Arh Z h22 b19 kB19 .byte (2 : Int32) (((0 : Int32), (.int ((((j.toInt8.toInt32) ^^^ (-1 : Int32)).toInt8.toInt32).toInt8.toInt32))) :: (((1 : Int32), (.int ((((j >>> ((8 : Int32) &&& 31)).toInt8.toInt32)).toInt8.toInt32))) :: (((0 : Int32), (.int (((j.toInt8.toInt32)).toInt8.toInt32))) :: []))) [] (.int (0 : Int32)) := Arh.push Ar21 qk21 Sz21 Nn21 Hh21 Gg21 (fits_nar_byte _) W22 hin22
    rw [own_i8] at V_b19
    have Nf := Fr.snoc X22 Nf g_b19
    refine own_st (T' := T22) (g' := (mkF m 51 #[.val (.int i), .val (.int j), .val (.int (2 : Int32)), .val (.int (j.toInt8.toInt32)), .val (.int ((j >>> ((8 : Int32) &&& 31)).toInt8.toInt32)), .val (.int ((j >>> ((16 : Int32) &&& 31)).toInt8.toInt32)), .val (.ref b19), .val (.ref b20), .unset, .unset, .unset, .unset] [])) st22 ?_
    refine own_st (T' := T22) (g' := (mkF m 52 #[.val (.int i), .val (.int j), .val (.int (2 : Int32)), .val (.int (j.toInt8.toInt32)), .val (.int ((j >>> ((8 : Int32) &&& 31)).toInt8.toInt32)), .val (.int ((j >>> ((16 : Int32) &&& 31)).toInt8.toInt32)), .val (.ref b19), .val (.ref b20), .unset, .unset, .unset, .unset] [(.int (2 : Int32))])) (fun _ k => XS.iloadN X22.here hx rfl (hb hby at_51) rfl k) ?_
    refine own_st (T' := T22) (g' := (mkF m 53 #[.val (.int i), .val (.int j), .val (.int (2 : Int32)), .val (.int (j.toInt8.toInt32)), .val (.int ((j >>> ((8 : Int32) &&& 31)).toInt8.toInt32)), .val (.int ((j >>> ((16 : Int32) &&& 31)).toInt8.toInt32)), .val (.ref b19), .val (.ref b20), .unset, .unset, .unset, .unset] [(.int (1 : Int32)), (.int (2 : Int32))])) (fun _ k => XS.iconst X22.here hx rfl (hb hby at_52) k) ?_
    refine own_st (T' := T22) (g' := (mkF m 56 #[.val (.int i), .val (.int j), .val (.int (2 : Int32)), .val (.int (j.toInt8.toInt32)), .val (.int ((j >>> ((8 : Int32) &&& 31)).toInt8.toInt32)), .val (.int ((j >>> ((16 : Int32) &&& 31)).toInt8.toInt32)), .val (.ref b19), .val (.ref b20), .unset, .unset, .unset, .unset] [])) (fun _ k => XS.icmpNo X22.here hx rfl (hb hby at_53) rfl (by decide) k) ?_
    refine own_st (T' := T22) (g' := (mkF m 58 #[.val (.int i), .val (.int j), .val (.int (2 : Int32)), .val (.int (j.toInt8.toInt32)), .val (.int ((j >>> ((8 : Int32) &&& 31)).toInt8.toInt32)), .val (.int ((j >>> ((16 : Int32) &&& 31)).toInt8.toInt32)), .val (.ref b19), .val (.ref b20), .unset, .unset, .unset, .unset] [(.ref b19)])) (fun _ k => XS.aload X22.here hx rfl (hb hby at_56) rfl rfl k) ?_
    refine own_st (T' := T22) (g' := (mkF m 59 #[.val (.int i), .val (.int j), .val (.int (2 : Int32)), .val (.int (j.toInt8.toInt32)), .val (.int ((j >>> ((8 : Int32) &&& 31)).toInt8.toInt32)), .val (.int ((j >>> ((16 : Int32) &&& 31)).toInt8.toInt32)), .val (.ref b19), .val (.ref b20), .unset, .unset, .unset, .unset] [(.int (1 : Int32)), (.ref b19)])) (fun _ k => XS.iconst X22.here hx rfl (hb hby at_58) k) ?_
    refine own_st (T' := T22) (g' := (mkF m 61 #[.val (.int i), .val (.int j), .val (.int (2 : Int32)), .val (.int (j.toInt8.toInt32)), .val (.int ((j >>> ((8 : Int32) &&& 31)).toInt8.toInt32)), .val (.int ((j >>> ((16 : Int32) &&& 31)).toInt8.toInt32)), .val (.ref b19), .val (.ref b20), .unset, .unset, .unset, .unset] [(.int ((j >>> ((8 : Int32) &&& 31)).toInt8.toInt32)), (.int (1 : Int32)), (.ref b19)])) (fun _ k => XS.iload X22.here hx rfl (hb hby at_59) rfl k) ?_
    refine own_st (T' := T22) (g' := (mkF m 62 #[.val (.int i), .val (.int j), .val (.int (2 : Int32)), .val (.int (j.toInt8.toInt32)), .val (.int ((j >>> ((8 : Int32) &&& 31)).toInt8.toInt32)), .val (.int ((j >>> ((16 : Int32) &&& 31)).toInt8.toInt32)), .val (.ref b19), .val (.ref b20), .unset, .unset, .unset, .unset] [(.int (-1 : Int32)), (.int ((j >>> ((8 : Int32) &&& 31)).toInt8.toInt32)), (.int (1 : Int32)), (.ref b19)])) (fun _ k => XS.iconst X22.here hx rfl (hb hby at_61) k) ?_
    refine own_st (T' := T22) (g' := (mkF m 63 #[.val (.int i), .val (.int j), .val (.int (2 : Int32)), .val (.int (j.toInt8.toInt32)), .val (.int ((j >>> ((8 : Int32) &&& 31)).toInt8.toInt32)), .val (.int ((j >>> ((16 : Int32) &&& 31)).toInt8.toInt32)), .val (.ref b19), .val (.ref b20), .unset, .unset, .unset, .unset] [(.int (((j >>> ((8 : Int32) &&& 31)).toInt8.toInt32) ^^^ (-1 : Int32))), (.int (1 : Int32)), (.ref b19)])) (fun _ k => XS.ixor X22.here hx rfl (hb hby at_62) rfl k) ?_
    refine own_st (T' := T22) (g' := (mkF m 64 #[.val (.int i), .val (.int j), .val (.int (2 : Int32)), .val (.int (j.toInt8.toInt32)), .val (.int ((j >>> ((8 : Int32) &&& 31)).toInt8.toInt32)), .val (.int ((j >>> ((16 : Int32) &&& 31)).toInt8.toInt32)), .val (.ref b19), .val (.ref b20), .unset, .unset, .unset, .unset] [(.int ((((j >>> ((8 : Int32) &&& 31)).toInt8.toInt32) ^^^ (-1 : Int32)).toInt8.toInt32)), (.int (1 : Int32)), (.ref b19)])) (fun _ k => XS.i2b X22.here hx rfl (hb hby at_63) rfl k) ?_
    have V23 := V_b19
    obtain ⟨cl23, Ar23, qk23, Sz23, Nn23, Hh23, Gg23⟩ := V23
    have hin24 : ¬ ((1 : Int32) < 0 ∨ cl23.slots.size ≤ ((1 : Int32)).toNatClampNeg) := inb_of Sz23 ⟨by decide, by decide⟩
    obtain ⟨T24, h24, X24, e24, W24, st24⟩ := stB X22 hx hZ e22 Ar23 (j := (1 : Int32)) hin24 (g := (mkF m 64 #[.val (.int i), .val (.int j), .val (.int (2 : Int32)), .val (.int (j.toInt8.toInt32)), .val (.int ((j >>> ((8 : Int32) &&& 31)).toInt8.toInt32)), .val (.int ((j >>> ((16 : Int32) &&& 31)).toInt8.toInt32)), .val (.ref b19), .val (.ref b20), .unset, .unset, .unset, .unset] [(.int ((((j >>> ((8 : Int32) &&& 31)).toInt8.toInt32) ^^^ (-1 : Int32)).toInt8.toInt32)), (.int (1 : Int32)), (.ref b19)])) rfl rfl (hb hby at_64)
    have E_b19 := E_b19.wr W24
    have E_b20 := E_b20.wr W24
    have F_bytes_b20 := F_bytes_b20.other W24 (Or.inl (Ne.symm ne_b19_b20))
    have F_failure_b20 := F_failure_b20.other W24 (Or.inl (Ne.symm ne_b19_b20))
    have V_d20 := V_d20.other W24 (Ne.symm ne_b19_d20)
    have E_d20 := E_d20.wr W24
    have E0 := own_ext_wr E0 W24 g_b19
    have hk := (Wr.size W24) ▸ hk
    have V_b19 : Arh Z h24 b19 kB19 .byte (2 : Int32) (((1 : Int32), (.int (((((j >>> ((8 : Int32) &&& 31)).toInt8.toInt32) ^^^ (-1 : Int32)).toInt8.toInt32).toInt8.toInt32))) :: (((0 : Int32), (.int (((j.toInt8.toInt32) ^^^ (-1 : Int32)).toInt8.toInt32))) :: (((1 : Int32), (.int ((((j >>> ((8 : Int32) &&& 31)).toInt8.toInt32)).toInt8.toInt32))) :: (((0 : Int32), (.int (((j.toInt8.toInt32)).toInt8.toInt32))) :: [])))) [] (.int (0 : Int32)) := Arh.push Ar23 qk23 Sz23 Nn23 Hh23 Gg23 (fits_nar_byte _) W24 hin24
    rw [own_i8] at V_b19
    have Nf := Fr.snoc X24 Nf g_b19
    refine own_st (T' := T24) (g' := (mkF m 65 #[.val (.int i), .val (.int j), .val (.int (2 : Int32)), .val (.int (j.toInt8.toInt32)), .val (.int ((j >>> ((8 : Int32) &&& 31)).toInt8.toInt32)), .val (.int ((j >>> ((16 : Int32) &&& 31)).toInt8.toInt32)), .val (.ref b19), .val (.ref b20), .unset, .unset, .unset, .unset] [])) st24 ?_
    refine own_st (T' := T24) (g' := (mkF m 66 #[.val (.int i), .val (.int j), .val (.int (2 : Int32)), .val (.int (j.toInt8.toInt32)), .val (.int ((j >>> ((8 : Int32) &&& 31)).toInt8.toInt32)), .val (.int ((j >>> ((16 : Int32) &&& 31)).toInt8.toInt32)), .val (.ref b19), .val (.ref b20), .unset, .unset, .unset, .unset] [(.int (2 : Int32))])) (fun _ k => XS.iloadN X24.here hx rfl (hb hby at_65) rfl k) ?_
    refine own_st (T' := T24) (g' := (mkF m 67 #[.val (.int i), .val (.int j), .val (.int (2 : Int32)), .val (.int (j.toInt8.toInt32)), .val (.int ((j >>> ((8 : Int32) &&& 31)).toInt8.toInt32)), .val (.int ((j >>> ((16 : Int32) &&& 31)).toInt8.toInt32)), .val (.ref b19), .val (.ref b20), .unset, .unset, .unset, .unset] [(.int (2 : Int32)), (.int (2 : Int32))])) (fun _ k => XS.iconst X24.here hx rfl (hb hby at_66) k) ?_
    refine own_st (T' := T24) (g' := (mkF m 79 #[.val (.int i), .val (.int j), .val (.int (2 : Int32)), .val (.int (j.toInt8.toInt32)), .val (.int ((j >>> ((8 : Int32) &&& 31)).toInt8.toInt32)), .val (.int ((j >>> ((16 : Int32) &&& 31)).toInt8.toInt32)), .val (.ref b19), .val (.ref b20), .unset, .unset, .unset, .unset] [])) (fun _ k => XS.icmpYes X24.here hx rfl (pc0 := 67) (pc' := 79) rfl (hb hby at_67) rfl (by decide) (by decide) (by decide) k) ?_
    refine own_st (T' := T24) (g' := (mkF m 81 #[.val (.int i), .val (.int j), .val (.int (2 : Int32)), .val (.int (j.toInt8.toInt32)), .val (.int ((j >>> ((8 : Int32) &&& 31)).toInt8.toInt32)), .val (.int ((j >>> ((16 : Int32) &&& 31)).toInt8.toInt32)), .val (.ref b19), .val (.ref b20), .unset, .unset, .unset, .unset] [(.ref b20)])) (fun _ k => XS.aload X24.here hx rfl (hb hby at_79) rfl rfl k) ?_
    obtain ⟨v25, T25, L25, X25, hQ25, st25⟩ := own_gV X24 hx hZ hown (hw _ (List.mem_of_getElem? (i := 41) rfl)) (hw _ (List.mem_of_getElem? (i := 42) rfl)) (notFace_of_selects (args := #[]) (mvT hZ (hw _ (List.mem_of_getElem? (i := 44) rfl)))) (hw _ (List.mem_of_getElem? (i := 44) rfl)) (hw _ (List.mem_of_getElem? (i := 43) rfl)) (hw _ (List.mem_of_getElem? (i := 7) rfl)) (hw _ (List.mem_of_getElem? (i := 45) rfl)) (by decide) e24 E_b20 (own_byt l Z a0 hw h24 b20 d20 kB19 (2 : Int32) (((1 : Int32), (.int ((((j >>> ((8 : Int32) &&& 31)).toInt8.toInt32)).toInt8.toInt32))) :: (((0 : Int32), (.int (((j.toInt8.toInt32)).toInt8.toInt32))) :: [])) (by decide) F_bytes_b20 V_d20 E_d20) (by decide) (by decide) (by decide) (by decide) (Q := (fun v h L => ∃ b, v = some (.ref b) ∧ h24.size ≤ b ∧ Fr h24.size L ∧ Ext h24 h ∧ Arh Z h b kB19 .byte (2 : Int32) (((1 : Int32), (.int ((((j >>> ((8 : Int32) &&& 31)).toInt8.toInt32)).toInt8.toInt32))) :: (((0 : Int32), (.int (((j.toInt8.toInt32)).toInt8.toInt32))) :: [])) [] (.int (0 : Int32)) ∧ Exa Z h b "[B")) (W := 0) (g := (mkF m 81 #[.val (.int i), .val (.int j), .val (.int (2 : Int32)), .val (.int (j.toInt8.toInt32)), .val (.int ((j >>> ((8 : Int32) &&& 31)).toInt8.toInt32)), .val (.int ((j >>> ((16 : Int32) &&& 31)).toInt8.toInt32)), .val (.ref b19), .val (.ref b20), .unset, .unset, .unset, .unset] [(.ref b20)])) (argsL := []) (rest := []) rfl (by rw [hml]; rfl) (lenOf own_pd_4 rfl) rfl (by show 2 * 0 + _ ≤ _; exact Nat.le_of_eq rfl) (hb hby at_81)
    obtain ⟨b25, rfl, gq25, NL25, EX25, VV25, EE25⟩ := hQ25
    have ne_b19_b25 : b19 ≠ b25 := Nat.ne_of_lt (Nat.lt_of_lt_of_le V_b19.lt gq25)
    have ne_b20_b25 : b20 ≠ b25 := Nat.ne_of_lt (Nat.lt_of_lt_of_le E_b20.lt gq25)
    have ne_d20_b25 : d20 ≠ b25 := Nat.ne_of_lt (Nat.lt_of_lt_of_le V_d20.lt gq25)
    have g_b25 : h0.size ≤ b25 := Nat.le_trans E0.1 gq25
    have Nf := Fr.app Nf (own_fr_mono E0.1 NL25)
    have V_b19 := V_b19.ext EX25
    have E_b19 := E_b19.ext EX25
    have E_b20 := E_b20.ext EX25
    have F_bytes_b20 := F_bytes_b20.ext EX25
    have F_failure_b20 := F_failure_b20.ext EX25
    have V_d20 := V_d20.ext EX25
    have E_d20 := E_d20.ext EX25
    have E0 := own_ext_tr E0 EX25
    have hk := Nat.le_trans hk EX25.1
    have V_b25 := VV25
    have E_b25 := EE25
    refine own_st (T' := T25) (g' := (mkF m 84 #[.val (.int i), .val (.int j), .val (.int (2 : Int32)), .val (.int (j.toInt8.toInt32)), .val (.int ((j >>> ((8 : Int32) &&& 31)).toInt8.toInt32)), .val (.int ((j >>> ((16 : Int32) &&& 31)).toInt8.toInt32)), .val (.ref b19), .val (.ref b20), .unset, .unset, .unset, .unset] [(.ref b25)])) st25 ?_
    refine own_st (T' := T25) (g' := (mkF m 86 #[.val (.int i), .val (.int j), .val (.int (2 : Int32)), .val (.int (j.toInt8.toInt32)), .val (.int ((j >>> ((8 : Int32) &&& 31)).toInt8.toInt32)), .val (.int ((j >>> ((16 : Int32) &&& 31)).toInt8.toInt32)), .val (.ref b19), .val (.ref b20), .val (.ref b25), .unset, .unset, .unset] [])) (fun _ k => XS.astore X25.here hx rfl (hb hby at_84) rfl rfl (l' := #[.val (.int i), .val (.int j), .val (.int (2 : Int32)), .val (.int (j.toInt8.toInt32)), .val (.int ((j >>> ((8 : Int32) &&& 31)).toInt8.toInt32)), .val (.int ((j >>> ((16 : Int32) &&& 31)).toInt8.toInt32)), .val (.ref b19), .val (.ref b20), .val (.ref b25), .unset, .unset, .unset]) rfl k) ?_
    refine own_st (T' := T25) (g' := (mkF m 88 #[.val (.int i), .val (.int j), .val (.int (2 : Int32)), .val (.int (j.toInt8.toInt32)), .val (.int ((j >>> ((8 : Int32) &&& 31)).toInt8.toInt32)), .val (.int ((j >>> ((16 : Int32) &&& 31)).toInt8.toInt32)), .val (.ref b19), .val (.ref b20), .val (.ref b25), .unset, .unset, .unset] [(.ref b25)])) (fun _ k => XS.aload X25.here hx rfl (hb hby at_86) rfl rfl k) ?_
    have V26 := V_b25
    obtain ⟨cl26, Ar26, qk26, Sz26, Nn26, Hh26, Gg26⟩ := V26
    refine own_st (T' := T25) (g' := (mkF m 89 #[.val (.int i), .val (.int j), .val (.int (2 : Int32)), .val (.int (j.toInt8.toInt32)), .val (.int ((j >>> ((8 : Int32) &&& 31)).toInt8.toInt32)), .val (.int ((j >>> ((16 : Int32) &&& 31)).toInt8.toInt32)), .val (.ref b19), .val (.ref b20), .val (.ref b25), .unset, .unset, .unset] [(.int cl26.slots.size.toInt32)])) (fun _ k => X25.arraylength hx (own_he rfl Ar26.1) (State.isArrayOf_alike hZ.alike Ar26.2.1) (g := (mkF m 88 #[.val (.int i), .val (.int j), .val (.int (2 : Int32)), .val (.int (j.toInt8.toInt32)), .val (.int ((j >>> ((8 : Int32) &&& 31)).toInt8.toInt32)), .val (.int ((j >>> ((16 : Int32) &&& 31)).toInt8.toInt32)), .val (.ref b19), .val (.ref b20), .val (.ref b25), .unset, .unset, .unset] [(.ref b25)])) rfl rfl (hb hby at_88) _ k) ?_
    rw [len_of Sz26 Nn26]
    refine own_st (T' := T25) (g' := (mkF m 90 #[.val (.int i), .val (.int j), .val (.int (2 : Int32)), .val (.int (j.toInt8.toInt32)), .val (.int ((j >>> ((8 : Int32) &&& 31)).toInt8.toInt32)), .val (.int ((j >>> ((16 : Int32) &&& 31)).toInt8.toInt32)), .val (.ref b19), .val (.ref b20), .val (.ref b25), .unset, .unset, .unset] [(.int (2 : Int32)), (.int (2 : Int32))])) (fun _ k => XS.iloadN X25.here hx rfl (hb hby at_89) rfl k) ?_
    refine own_st (T' := T25) (g' := (mkF m 93 #[.val (.int i), .val (.int j), .val (.int (2 : Int32)), .val (.int (j.toInt8.toInt32)), .val (.int ((j >>> ((8 : Int32) &&& 31)).toInt8.toInt32)), .val (.int ((j >>> ((16 : Int32) &&& 31)).toInt8.toInt32)), .val (.ref b19), .val (.ref b20), .val (.ref b25), .unset, .unset, .unset] [])) (fun _ k => XS.icmpNo X25.here hx rfl (hb hby at_90) rfl (by decide) k) ?_
    refine own_st (T' := T25) (g' := (mkF m 94 #[.val (.int i), .val (.int j), .val (.int (2 : Int32)), .val (.int (j.toInt8.toInt32)), .val (.int ((j >>> ((8 : Int32) &&& 31)).toInt8.toInt32)), .val (.int ((j >>> ((16 : Int32) &&& 31)).toInt8.toInt32)), .val (.ref b19), .val (.ref b20), .val (.ref b25), .unset, .unset, .unset] [(.int (2 : Int32))])) (fun _ k => XS.iloadN X25.here hx rfl (hb hby at_93) rfl k) ?_
    refine own_st (T' := T25) (g' := (mkF m 95 #[.val (.int i), .val (.int j), .val (.int (2 : Int32)), .val (.int (j.toInt8.toInt32)), .val (.int ((j >>> ((8 : Int32) &&& 31)).toInt8.toInt32)), .val (.int ((j >>> ((16 : Int32) &&& 31)).toInt8.toInt32)), .val (.ref b19), .val (.ref b20), .val (.ref b25), .unset, .unset, .unset] [(.int (1 : Int32)), (.int (2 : Int32))])) (fun _ k => XS.iconst X25.here hx rfl (hb hby at_94) k) ?_
    refine own_st (T' := T25) (g' := (mkF m 98 #[.val (.int i), .val (.int j), .val (.int (2 : Int32)), .val (.int (j.toInt8.toInt32)), .val (.int ((j >>> ((8 : Int32) &&& 31)).toInt8.toInt32)), .val (.int ((j >>> ((16 : Int32) &&& 31)).toInt8.toInt32)), .val (.ref b19), .val (.ref b20), .val (.ref b25), .unset, .unset, .unset] [])) (fun _ k => XS.icmpNo X25.here hx rfl (hb hby at_95) rfl (by decide) k) ?_
    refine own_st (T' := T25) (g' := (mkF m 100 #[.val (.int i), .val (.int j), .val (.int (2 : Int32)), .val (.int (j.toInt8.toInt32)), .val (.int ((j >>> ((8 : Int32) &&& 31)).toInt8.toInt32)), .val (.int ((j >>> ((16 : Int32) &&& 31)).toInt8.toInt32)), .val (.ref b19), .val (.ref b20), .val (.ref b25), .unset, .unset, .unset] [(.ref b25)])) (fun _ k => XS.aload X25.here hx rfl (hb hby at_98) rfl rfl k) ?_
    refine own_st (T' := T25) (g' := (mkF m 101 #[.val (.int i), .val (.int j), .val (.int (2 : Int32)), .val (.int (j.toInt8.toInt32)), .val (.int ((j >>> ((8 : Int32) &&& 31)).toInt8.toInt32)), .val (.int ((j >>> ((16 : Int32) &&& 31)).toInt8.toInt32)), .val (.ref b19), .val (.ref b20), .val (.ref b25), .unset, .unset, .unset] [(.int (0 : Int32)), (.ref b25)])) (fun _ k => XS.iconst X25.here hx rfl (hb hby at_100) k) ?_
    have V27 := V_b25
    obtain ⟨cl27, Ar27, qk27, Sz27, Nn27, Hh27, Gg27⟩ := V27
    have hin28 : ¬ ((0 : Int32) < 0 ∨ cl27.slots.size ≤ ((0 : Int32)).toNatClampNeg) := inb_of Sz27 ⟨by decide, by decide⟩
    refine own_st (T' := T25) (g' := (mkF m 102 #[.val (.int i), .val (.int j), .val (.int (2 : Int32)), .val (.int (j.toInt8.toInt32)), .val (.int ((j >>> ((8 : Int32) &&& 31)).toInt8.toInt32)), .val (.int ((j >>> ((16 : Int32) &&& 31)).toInt8.toInt32)), .val (.ref b19), .val (.ref b20), .val (.ref b25), .unset, .unset, .unset] [(.int (((j.toInt8.toInt32)).toInt8.toInt32))])) (fun _ k => X25.baloadBytes hx (j := (0 : Int32)) (v := (.int (((j.toInt8.toInt32)).toInt8.toInt32))) (own_he rfl Ar27.1) (State.isArrayOf_alike hZ.alike Ar27.2.1) Ar27.2.2 hin28 (atH Hh27 hin28 rfl) (g := (mkF m 101 #[.val (.int i), .val (.int j), .val (.int (2 : Int32)), .val (.int (j.toInt8.toInt32)), .val (.int ((j >>> ((8 : Int32) &&& 31)).toInt8.toInt32)), .val (.int ((j >>> ((16 : Int32) &&& 31)).toInt8.toInt32)), .val (.ref b19), .val (.ref b20), .val (.ref b25), .unset, .unset, .unset] [(.int (0 : Int32)), (.ref b25)])) rfl rfl (hb hby at_101) _ k) ?_
    refine own_st (T' := T25) (g' := (mkF m 103 #[.val (.int i), .val (.int j), .val (.int (2 : Int32)), .val (.int (j.toInt8.toInt32)), .val (.int ((j >>> ((8 : Int32) &&& 31)).toInt8.toInt32)), .val (.int ((j >>> ((16 : Int32) &&& 31)).toInt8.toInt32)), .val (.ref b19), .val (.ref b20), .val (.ref b25), .unset, .unset, .unset] [(.int (j.toInt8.toInt32)), (.int (((j.toInt8.toInt32)).toInt8.toInt32))])) (fun _ k => XS.iloadN X25.here hx rfl (hb hby at_102) rfl k) ?_
    refine own_st (T' := T25) (g' := (mkF m 106 #[.val (.int i), .val (.int j), .val (.int (2 : Int32)), .val (.int (j.toInt8.toInt32)), .val (.int ((j >>> ((8 : Int32) &&& 31)).toInt8.toInt32)), .val (.int ((j >>> ((16 : Int32) &&& 31)).toInt8.toInt32)), .val (.ref b19), .val (.ref b20), .val (.ref b25), .unset, .unset, .unset] [])) (fun _ k => XS.icmpNo X25.here hx rfl (hb hby at_103) rfl (teq (by simp only [own_i8])).2 k) ?_
    refine own_st (T' := T25) (g' := (mkF m 107 #[.val (.int i), .val (.int j), .val (.int (2 : Int32)), .val (.int (j.toInt8.toInt32)), .val (.int ((j >>> ((8 : Int32) &&& 31)).toInt8.toInt32)), .val (.int ((j >>> ((16 : Int32) &&& 31)).toInt8.toInt32)), .val (.ref b19), .val (.ref b20), .val (.ref b25), .unset, .unset, .unset] [(.int (2 : Int32))])) (fun _ k => XS.iloadN X25.here hx rfl (hb hby at_106) rfl k) ?_
    refine own_st (T' := T25) (g' := (mkF m 108 #[.val (.int i), .val (.int j), .val (.int (2 : Int32)), .val (.int (j.toInt8.toInt32)), .val (.int ((j >>> ((8 : Int32) &&& 31)).toInt8.toInt32)), .val (.int ((j >>> ((16 : Int32) &&& 31)).toInt8.toInt32)), .val (.ref b19), .val (.ref b20), .val (.ref b25), .unset, .unset, .unset] [(.int (2 : Int32)), (.int (2 : Int32))])) (fun _ k => XS.iconst X25.here hx rfl (hb hby at_107) k) ?_
    refine own_st (T' := T25) (g' := (mkF m 111 #[.val (.int i), .val (.int j), .val (.int (2 : Int32)), .val (.int (j.toInt8.toInt32)), .val (.int ((j >>> ((8 : Int32) &&& 31)).toInt8.toInt32)), .val (.int ((j >>> ((16 : Int32) &&& 31)).toInt8.toInt32)), .val (.ref b19), .val (.ref b20), .val (.ref b25), .unset, .unset, .unset] [])) (fun _ k => XS.icmpNo X25.here hx rfl (hb hby at_108) rfl (by decide) k) ?_
    refine own_st (T' := T25) (g' := (mkF m 113 #[.val (.int i), .val (.int j), .val (.int (2 : Int32)), .val (.int (j.toInt8.toInt32)), .val (.int ((j >>> ((8 : Int32) &&& 31)).toInt8.toInt32)), .val (.int ((j >>> ((16 : Int32) &&& 31)).toInt8.toInt32)), .val (.ref b19), .val (.ref b20), .val (.ref b25), .unset, .unset, .unset] [(.ref b25)])) (fun _ k => XS.aload X25.here hx rfl (hb hby at_111) rfl rfl k) ?_
    refine own_st (T' := T25) (g' := (mkF m 114 #[.val (.int i), .val (.int j), .val (.int (2 : Int32)), .val (.int (j.toInt8.toInt32)), .val (.int ((j >>> ((8 : Int32) &&& 31)).toInt8.toInt32)), .val (.int ((j >>> ((16 : Int32) &&& 31)).toInt8.toInt32)), .val (.ref b19), .val (.ref b20), .val (.ref b25), .unset, .unset, .unset] [(.int (1 : Int32)), (.ref b25)])) (fun _ k => XS.iconst X25.here hx rfl (hb hby at_113) k) ?_
    have V29 := V_b25
    obtain ⟨cl29, Ar29, qk29, Sz29, Nn29, Hh29, Gg29⟩ := V29
    have hin30 : ¬ ((1 : Int32) < 0 ∨ cl29.slots.size ≤ ((1 : Int32)).toNatClampNeg) := inb_of Sz29 ⟨by decide, by decide⟩
    refine own_st (T' := T25) (g' := (mkF m 115 #[.val (.int i), .val (.int j), .val (.int (2 : Int32)), .val (.int (j.toInt8.toInt32)), .val (.int ((j >>> ((8 : Int32) &&& 31)).toInt8.toInt32)), .val (.int ((j >>> ((16 : Int32) &&& 31)).toInt8.toInt32)), .val (.ref b19), .val (.ref b20), .val (.ref b25), .unset, .unset, .unset] [(.int ((((j >>> ((8 : Int32) &&& 31)).toInt8.toInt32)).toInt8.toInt32))])) (fun _ k => X25.baloadBytes hx (j := (1 : Int32)) (v := (.int ((((j >>> ((8 : Int32) &&& 31)).toInt8.toInt32)).toInt8.toInt32))) (own_he rfl Ar29.1) (State.isArrayOf_alike hZ.alike Ar29.2.1) Ar29.2.2 hin30 (atH Hh29 hin30 rfl) (g := (mkF m 114 #[.val (.int i), .val (.int j), .val (.int (2 : Int32)), .val (.int (j.toInt8.toInt32)), .val (.int ((j >>> ((8 : Int32) &&& 31)).toInt8.toInt32)), .val (.int ((j >>> ((16 : Int32) &&& 31)).toInt8.toInt32)), .val (.ref b19), .val (.ref b20), .val (.ref b25), .unset, .unset, .unset] [(.int (1 : Int32)), (.ref b25)])) rfl rfl (hb hby at_114) _ k) ?_
    refine own_st (T' := T25) (g' := (mkF m 117 #[.val (.int i), .val (.int j), .val (.int (2 : Int32)), .val (.int (j.toInt8.toInt32)), .val (.int ((j >>> ((8 : Int32) &&& 31)).toInt8.toInt32)), .val (.int ((j >>> ((16 : Int32) &&& 31)).toInt8.toInt32)), .val (.ref b19), .val (.ref b20), .val (.ref b25), .unset, .unset, .unset] [(.int ((j >>> ((8 : Int32) &&& 31)).toInt8.toInt32)), (.int ((((j >>> ((8 : Int32) &&& 31)).toInt8.toInt32)).toInt8.toInt32))])) (fun _ k => XS.iload X25.here hx rfl (hb hby at_115) rfl k) ?_
    refine own_st (T' := T25) (g' := (mkF m 120 #[.val (.int i), .val (.int j), .val (.int (2 : Int32)), .val (.int (j.toInt8.toInt32)), .val (.int ((j >>> ((8 : Int32) &&& 31)).toInt8.toInt32)), .val (.int ((j >>> ((16 : Int32) &&& 31)).toInt8.toInt32)), .val (.ref b19), .val (.ref b20), .val (.ref b25), .unset, .unset, .unset] [])) (fun _ k => XS.icmpNo X25.here hx rfl (hb hby at_117) rfl (teq (by simp only [own_i8])).2 k) ?_
    refine own_st (T' := T25) (g' := (mkF m 121 #[.val (.int i), .val (.int j), .val (.int (2 : Int32)), .val (.int (j.toInt8.toInt32)), .val (.int ((j >>> ((8 : Int32) &&& 31)).toInt8.toInt32)), .val (.int ((j >>> ((16 : Int32) &&& 31)).toInt8.toInt32)), .val (.ref b19), .val (.ref b20), .val (.ref b25), .unset, .unset, .unset] [(.int (2 : Int32))])) (fun _ k => XS.iloadN X25.here hx rfl (hb hby at_120) rfl k) ?_
    refine own_st (T' := T25) (g' := (mkF m 122 #[.val (.int i), .val (.int j), .val (.int (2 : Int32)), .val (.int (j.toInt8.toInt32)), .val (.int ((j >>> ((8 : Int32) &&& 31)).toInt8.toInt32)), .val (.int ((j >>> ((16 : Int32) &&& 31)).toInt8.toInt32)), .val (.ref b19), .val (.ref b20), .val (.ref b25), .unset, .unset, .unset] [(.int (3 : Int32)), (.int (2 : Int32))])) (fun _ k => XS.iconst X25.here hx rfl (hb hby at_121) k) ?_
    refine own_st (T' := T25) (g' := (mkF m 134 #[.val (.int i), .val (.int j), .val (.int (2 : Int32)), .val (.int (j.toInt8.toInt32)), .val (.int ((j >>> ((8 : Int32) &&& 31)).toInt8.toInt32)), .val (.int ((j >>> ((16 : Int32) &&& 31)).toInt8.toInt32)), .val (.ref b19), .val (.ref b20), .val (.ref b25), .unset, .unset, .unset] [])) (fun _ k => XS.icmpYes X25.here hx rfl (pc0 := 122) (pc' := 134) rfl (hb hby at_122) rfl (by decide) (by decide) (by decide) k) ?_
    refine own_st (T' := T25) (g' := (mkF m 135 #[.val (.int i), .val (.int j), .val (.int (2 : Int32)), .val (.int (j.toInt8.toInt32)), .val (.int ((j >>> ((8 : Int32) &&& 31)).toInt8.toInt32)), .val (.int ((j >>> ((16 : Int32) &&& 31)).toInt8.toInt32)), .val (.ref b19), .val (.ref b20), .val (.ref b25), .unset, .unset, .unset] [(.int (1 : Int32))])) (fun _ k => XS.iconst X25.here hx rfl (hb hby at_134) k) ?_
    refine own_st (T' := T25) (g' := (mkF m 139 #[.val (.int i), .val (.int j), .val (.int (2 : Int32)), .val (.int (j.toInt8.toInt32)), .val (.int ((j >>> ((8 : Int32) &&& 31)).toInt8.toInt32)), .val (.int ((j >>> ((16 : Int32) &&& 31)).toInt8.toInt32)), .val (.ref b19), .val (.ref b20), .val (.ref b25), .unset, .unset, .unset] [(.int (1 : Int32))])) (fun _ k => XS.goto X25.here hx rfl (pc0 := 135) (pc' := 139) rfl (hb hby at_135) (by decide) (by decide) k) ?_
    refine own_st (T' := T25) (g' := (mkF m 141 #[.val (.int i), .val (.int j), .val (.int (2 : Int32)), .val (.int (j.toInt8.toInt32)), .val (.int ((j >>> ((8 : Int32) &&& 31)).toInt8.toInt32)), .val (.int ((j >>> ((16 : Int32) &&& 31)).toInt8.toInt32)), .val (.ref b19), .val (.ref b20), .val (.ref b25), .val (.int (1 : Int32)), .unset, .unset] [])) (fun _ k => XS.istore X25.here hx rfl (hb hby at_139) rfl (l' := #[.val (.int i), .val (.int j), .val (.int (2 : Int32)), .val (.int (j.toInt8.toInt32)), .val (.int ((j >>> ((8 : Int32) &&& 31)).toInt8.toInt32)), .val (.int ((j >>> ((16 : Int32) &&& 31)).toInt8.toInt32)), .val (.ref b19), .val (.ref b20), .val (.ref b25), .val (.int (1 : Int32)), .unset, .unset]) rfl k) ?_
    refine own_st (T' := T25) (g' := (mkF m 143 #[.val (.int i), .val (.int j), .val (.int (2 : Int32)), .val (.int (j.toInt8.toInt32)), .val (.int ((j >>> ((8 : Int32) &&& 31)).toInt8.toInt32)), .val (.int ((j >>> ((16 : Int32) &&& 31)).toInt8.toInt32)), .val (.ref b19), .val (.ref b20), .val (.ref b25), .val (.int (1 : Int32)), .unset, .unset] [(.ref b20)])) (fun _ k => XS.aload X25.here hx rfl (hb hby at_141) rfl rfl k) ?_
    obtain ⟨T31, X31, e31, st31⟩ := own_pure (w := (.int (0 : Int32))) rfl rfl (own_gV X25 hx hZ hown (hw _ (List.mem_of_getElem? (i := 46) rfl)) (hw _ (List.mem_of_getElem? (i := 47) rfl)) (notFace_of_selects (args := #[]) (mvT hZ (hw _ (List.mem_of_getElem? (i := 49) rfl)))) (hw _ (List.mem_of_getElem? (i := 49) rfl)) (hw _ (List.mem_of_getElem? (i := 48) rfl)) (hw _ (List.mem_of_getElem? (i := 7) rfl)) (hw _ (List.mem_of_getElem? (i := 50) rfl)) (by decide) rfl E_b20 (own_isf l Z a0 hw T25.heap b20 F_failure_b20) (by decide) (by decide) (by decide) (by decide) (Q := fun v h L => v = some (.int (0 : Int32)) ∧ L = [] ∧ h = T25.heap) (W := 0) (g := (mkF m 143 #[.val (.int i), .val (.int j), .val (.int (2 : Int32)), .val (.int (j.toInt8.toInt32)), .val (.int ((j >>> ((8 : Int32) &&& 31)).toInt8.toInt32)), .val (.int ((j >>> ((16 : Int32) &&& 31)).toInt8.toInt32)), .val (.ref b19), .val (.ref b20), .val (.ref b25), .val (.int (1 : Int32)), .unset, .unset] [(.ref b20)])) (argsL := []) (rest := []) rfl (by rw [hml]; rfl) (lenOf own_pd_5 rfl) rfl (by show 2 * 0 + _ ≤ _; exact Nat.le_of_eq rfl) (hb hby at_143))
    refine own_st (T' := T31) (g' := (mkF m 146 #[.val (.int i), .val (.int j), .val (.int (2 : Int32)), .val (.int (j.toInt8.toInt32)), .val (.int ((j >>> ((8 : Int32) &&& 31)).toInt8.toInt32)), .val (.int ((j >>> ((16 : Int32) &&& 31)).toInt8.toInt32)), .val (.ref b19), .val (.ref b20), .val (.ref b25), .val (.int (1 : Int32)), .unset, .unset] [(.int (0 : Int32))])) st31 ?_
    refine own_st (T' := T31) (g' := (mkF m 149 #[.val (.int i), .val (.int j), .val (.int (2 : Int32)), .val (.int (j.toInt8.toInt32)), .val (.int ((j >>> ((8 : Int32) &&& 31)).toInt8.toInt32)), .val (.int ((j >>> ((16 : Int32) &&& 31)).toInt8.toInt32)), .val (.ref b19), .val (.ref b20), .val (.ref b25), .val (.int (1 : Int32)), .unset, .unset] [])) (fun _ k => XS.ifNo X31.here hx rfl (hb hby at_146) rfl (by decide) k) ?_
    refine own_st (T' := T31) (g' := (mkF m 150 #[.val (.int i), .val (.int j), .val (.int (2 : Int32)), .val (.int (j.toInt8.toInt32)), .val (.int ((j >>> ((8 : Int32) &&& 31)).toInt8.toInt32)), .val (.int ((j >>> ((16 : Int32) &&& 31)).toInt8.toInt32)), .val (.ref b19), .val (.ref b20), .val (.ref b25), .val (.int (1 : Int32)), .unset, .unset] [(.int (1 : Int32))])) (fun _ k => XS.iconst X31.here hx rfl (hb hby at_149) k) ?_
    refine own_st (T' := T31) (g' := (mkF m 154 #[.val (.int i), .val (.int j), .val (.int (2 : Int32)), .val (.int (j.toInt8.toInt32)), .val (.int ((j >>> ((8 : Int32) &&& 31)).toInt8.toInt32)), .val (.int ((j >>> ((16 : Int32) &&& 31)).toInt8.toInt32)), .val (.ref b19), .val (.ref b20), .val (.ref b25), .val (.int (1 : Int32)), .unset, .unset] [(.int (1 : Int32))])) (fun _ k => XS.goto X31.here hx rfl (pc0 := 150) (pc' := 154) rfl (hb hby at_150) (by decide) (by decide) k) ?_
    refine own_st (T' := T31) (g' := (mkF m 156 #[.val (.int i), .val (.int j), .val (.int (2 : Int32)), .val (.int (j.toInt8.toInt32)), .val (.int ((j >>> ((8 : Int32) &&& 31)).toInt8.toInt32)), .val (.int ((j >>> ((16 : Int32) &&& 31)).toInt8.toInt32)), .val (.ref b19), .val (.ref b20), .val (.ref b25), .val (.int (1 : Int32)), .val (.int (1 : Int32)), .unset] [])) (fun _ k => XS.istore X31.here hx rfl (hb hby at_154) rfl (l' := #[.val (.int i), .val (.int j), .val (.int (2 : Int32)), .val (.int (j.toInt8.toInt32)), .val (.int ((j >>> ((8 : Int32) &&& 31)).toInt8.toInt32)), .val (.int ((j >>> ((16 : Int32) &&& 31)).toInt8.toInt32)), .val (.ref b19), .val (.ref b20), .val (.ref b25), .val (.int (1 : Int32)), .val (.int (1 : Int32)), .unset]) rfl k) ?_
    refine own_st (T' := T31) (g' := (mkF m 158 #[.val (.int i), .val (.int j), .val (.int (2 : Int32)), .val (.int (j.toInt8.toInt32)), .val (.int ((j >>> ((8 : Int32) &&& 31)).toInt8.toInt32)), .val (.int ((j >>> ((16 : Int32) &&& 31)).toInt8.toInt32)), .val (.ref b19), .val (.ref b20), .val (.ref b25), .val (.int (1 : Int32)), .val (.int (1 : Int32)), .unset] [(.ref b20)])) (fun _ k => XS.aload X31.here hx rfl (hb hby at_156) rfl rfl k) ?_
    obtain ⟨T32, X32, e32, st32⟩ := own_pure (w := (.ref a_SUCCEEDED)) rfl rfl (own_gV X31 hx hZ hown (hw _ (List.mem_of_getElem? (i := 51) rfl)) (hw _ (List.mem_of_getElem? (i := 52) rfl)) (notFace_of_selects (args := #[]) (mvT hZ (hw _ (List.mem_of_getElem? (i := 54) rfl)))) (hw _ (List.mem_of_getElem? (i := 54) rfl)) (hw _ (List.mem_of_getElem? (i := 53) rfl)) (hw _ (List.mem_of_getElem? (i := 7) rfl)) (hw _ (List.mem_of_getElem? (i := 55) rfl)) (by decide) e31 E_b20 (own_stat l Z a0 hw T25.heap b20 a_SUCCEEDED F_failure_b20 (S_SUCCEEDED.ext E0)) (by decide) (by decide) (by decide) (by decide) (Q := fun v h L => v = some (.ref a_SUCCEEDED) ∧ L = [] ∧ h = T25.heap) (W := 0) (g := (mkF m 158 #[.val (.int i), .val (.int j), .val (.int (2 : Int32)), .val (.int (j.toInt8.toInt32)), .val (.int ((j >>> ((8 : Int32) &&& 31)).toInt8.toInt32)), .val (.int ((j >>> ((16 : Int32) &&& 31)).toInt8.toInt32)), .val (.ref b19), .val (.ref b20), .val (.ref b25), .val (.int (1 : Int32)), .val (.int (1 : Int32)), .unset] [(.ref b20)])) (argsL := []) (rest := []) rfl (by rw [hml]; rfl) (lenOf own_pd_6 rfl) rfl (by show 2 * 0 + _ ≤ _; exact Nat.le_of_eq rfl) (hb hby at_158))
    refine own_st (T' := T32) (g' := (mkF m 161 #[.val (.int i), .val (.int j), .val (.int (2 : Int32)), .val (.int (j.toInt8.toInt32)), .val (.int ((j >>> ((8 : Int32) &&& 31)).toInt8.toInt32)), .val (.int ((j >>> ((16 : Int32) &&& 31)).toInt8.toInt32)), .val (.ref b19), .val (.ref b20), .val (.ref b25), .val (.int (1 : Int32)), .val (.int (1 : Int32)), .unset] [(.ref a_SUCCEEDED)])) st32 ?_
    obtain ⟨T33, X33, e33, st33⟩ := getS2 X32 hx hZ hown (host := "") (Or.inl (hw _ (List.mem_of_getElem? (i := 59) rfl))) Via.refl e32 (S_SUCCEEDED.ext E0) (g := (mkF m 161 #[.val (.int i), .val (.int j), .val (.int (2 : Int32)), .val (.int (j.toInt8.toInt32)), .val (.int ((j >>> ((8 : Int32) &&& 31)).toInt8.toInt32)), .val (.int ((j >>> ((16 : Int32) &&& 31)).toInt8.toInt32)), .val (.ref b19), .val (.ref b20), .val (.ref b25), .val (.int (1 : Int32)), .val (.int (1 : Int32)), .unset] [(.ref a_SUCCEEDED)])) rfl (hb hby at_161)
    refine own_st (T' := T33) (g' := (mkF m 164 #[.val (.int i), .val (.int j), .val (.int (2 : Int32)), .val (.int (j.toInt8.toInt32)), .val (.int ((j >>> ((8 : Int32) &&& 31)).toInt8.toInt32)), .val (.int ((j >>> ((16 : Int32) &&& 31)).toInt8.toInt32)), .val (.ref b19), .val (.ref b20), .val (.ref b25), .val (.int (1 : Int32)), .val (.int (1 : Int32)), .unset] [(.ref a_SUCCEEDED), (.ref a_SUCCEEDED)])) st33 ?_
    refine own_st (T' := T33) (g' := (mkF m 167 #[.val (.int i), .val (.int j), .val (.int (2 : Int32)), .val (.int (j.toInt8.toInt32)), .val (.int ((j >>> ((8 : Int32) &&& 31)).toInt8.toInt32)), .val (.int ((j >>> ((16 : Int32) &&& 31)).toInt8.toInt32)), .val (.ref b19), .val (.ref b20), .val (.ref b25), .val (.int (1 : Int32)), .val (.int (1 : Int32)), .unset] [])) (fun _ k => Jvm.RoadKit.acmp (g := (mkF m 164 #[.val (.int i), .val (.int j), .val (.int (2 : Int32)), .val (.int (j.toInt8.toInt32)), .val (.int ((j >>> ((8 : Int32) &&& 31)).toInt8.toInt32)), .val (.int ((j >>> ((16 : Int32) &&& 31)).toInt8.toInt32)), .val (.ref b19), .val (.ref b20), .val (.ref b25), .val (.int (1 : Int32)), .val (.int (1 : Int32)), .unset] [(.ref a_SUCCEEDED), (.ref a_SUCCEEDED)])) X33 hx rfl rfl rfl (pc0 := 164) (pc' := 167) (same := true) rfl (hb hby at_164) rfl (decide_eq_true rfl) (by decide) (by decide) k) ?_
    refine own_st (T' := T33) (g' := (mkF m 168 #[.val (.int i), .val (.int j), .val (.int (2 : Int32)), .val (.int (j.toInt8.toInt32)), .val (.int ((j >>> ((8 : Int32) &&& 31)).toInt8.toInt32)), .val (.int ((j >>> ((16 : Int32) &&& 31)).toInt8.toInt32)), .val (.ref b19), .val (.ref b20), .val (.ref b25), .val (.int (1 : Int32)), .val (.int (1 : Int32)), .unset] [(.int (1 : Int32))])) (fun _ k => XS.iconst X33.here hx rfl (hb hby at_167) k) ?_
    refine own_st (T' := T33) (g' := (mkF m 172 #[.val (.int i), .val (.int j), .val (.int (2 : Int32)), .val (.int (j.toInt8.toInt32)), .val (.int ((j >>> ((8 : Int32) &&& 31)).toInt8.toInt32)), .val (.int ((j >>> ((16 : Int32) &&& 31)).toInt8.toInt32)), .val (.ref b19), .val (.ref b20), .val (.ref b25), .val (.int (1 : Int32)), .val (.int (1 : Int32)), .unset] [(.int (1 : Int32))])) (fun _ k => XS.goto X33.here hx rfl (pc0 := 168) (pc' := 172) rfl (hb hby at_168) (by decide) (by decide) k) ?_
    refine own_st (T' := T33) (g' := (mkF m 174 #[.val (.int i), .val (.int j), .val (.int (2 : Int32)), .val (.int (j.toInt8.toInt32)), .val (.int ((j >>> ((8 : Int32) &&& 31)).toInt8.toInt32)), .val (.int ((j >>> ((16 : Int32) &&& 31)).toInt8.toInt32)), .val (.ref b19), .val (.ref b20), .val (.ref b25), .val (.int (1 : Int32)), .val (.int (1 : Int32)), .val (.int (1 : Int32))] [])) (fun _ k => XS.istore X33.here hx rfl (hb hby at_172) rfl (l' := #[.val (.int i), .val (.int j), .val (.int (2 : Int32)), .val (.int (j.toInt8.toInt32)), .val (.int ((j >>> ((8 : Int32) &&& 31)).toInt8.toInt32)), .val (.int ((j >>> ((16 : Int32) &&& 31)).toInt8.toInt32)), .val (.ref b19), .val (.ref b20), .val (.ref b25), .val (.int (1 : Int32)), .val (.int (1 : Int32)), .val (.int (1 : Int32))]) rfl k) ?_
    refine own_st (T' := T33) (g' := (mkF m 176 #[.val (.int i), .val (.int j), .val (.int (2 : Int32)), .val (.int (j.toInt8.toInt32)), .val (.int ((j >>> ((8 : Int32) &&& 31)).toInt8.toInt32)), .val (.int ((j >>> ((16 : Int32) &&& 31)).toInt8.toInt32)), .val (.ref b19), .val (.ref b20), .val (.ref b25), .val (.int (1 : Int32)), .val (.int (1 : Int32)), .val (.int (1 : Int32))] [(.int (1 : Int32))])) (fun _ k => XS.iload X33.here hx rfl (hb hby at_174) rfl k) ?_
    refine own_st (T' := T33) (g' := (mkF m 179 #[.val (.int i), .val (.int j), .val (.int (2 : Int32)), .val (.int (j.toInt8.toInt32)), .val (.int ((j >>> ((8 : Int32) &&& 31)).toInt8.toInt32)), .val (.int ((j >>> ((16 : Int32) &&& 31)).toInt8.toInt32)), .val (.ref b19), .val (.ref b20), .val (.ref b25), .val (.int (1 : Int32)), .val (.int (1 : Int32)), .val (.int (1 : Int32))] [])) (fun _ k => XS.ifNo X33.here hx rfl (hb hby at_176) rfl (by decide) k) ?_
    refine own_st (T' := T33) (g' := (mkF m 181 #[.val (.int i), .val (.int j), .val (.int (2 : Int32)), .val (.int (j.toInt8.toInt32)), .val (.int ((j >>> ((8 : Int32) &&& 31)).toInt8.toInt32)), .val (.int ((j >>> ((16 : Int32) &&& 31)).toInt8.toInt32)), .val (.ref b19), .val (.ref b20), .val (.ref b25), .val (.int (1 : Int32)), .val (.int (1 : Int32)), .val (.int (1 : Int32))] [(.int (1 : Int32))])) (fun _ k => XS.iload X33.here hx rfl (hb hby at_179) rfl k) ?_
    refine own_st (T' := T33) (g' := (mkF m 184 #[.val (.int i), .val (.int j), .val (.int (2 : Int32)), .val (.int (j.toInt8.toInt32)), .val (.int ((j >>> ((8 : Int32) &&& 31)).toInt8.toInt32)), .val (.int ((j >>> ((16 : Int32) &&& 31)).toInt8.toInt32)), .val (.ref b19), .val (.ref b20), .val (.ref b25), .val (.int (1 : Int32)), .val (.int (1 : Int32)), .val (.int (1 : Int32))] [])) (fun _ k => XS.ifNo X33.here hx rfl (hb hby at_181) rfl (by decide) k) ?_
    refine own_st (T' := T33) (g' := (mkF m 186 #[.val (.int i), .val (.int j), .val (.int (2 : Int32)), .val (.int (j.toInt8.toInt32)), .val (.int ((j >>> ((8 : Int32) &&& 31)).toInt8.toInt32)), .val (.int ((j >>> ((16 : Int32) &&& 31)).toInt8.toInt32)), .val (.ref b19), .val (.ref b20), .val (.ref b25), .val (.int (1 : Int32)), .val (.int (1 : Int32)), .val (.int (1 : Int32))] [(.int (1 : Int32))])) (fun _ k => XS.iload X33.here hx rfl (hb hby at_184) rfl k) ?_
    refine own_st (T' := T33) (g' := (mkF m 189 #[.val (.int i), .val (.int j), .val (.int (2 : Int32)), .val (.int (j.toInt8.toInt32)), .val (.int ((j >>> ((8 : Int32) &&& 31)).toInt8.toInt32)), .val (.int ((j >>> ((16 : Int32) &&& 31)).toInt8.toInt32)), .val (.ref b19), .val (.ref b20), .val (.ref b25), .val (.int (1 : Int32)), .val (.int (1 : Int32)), .val (.int (1 : Int32))] [])) (fun _ k => XS.ifNo X33.here hx rfl (hb hby at_186) rfl (by decide) k) ?_
    refine own_st (T' := T33) (g' := (mkF m 190 #[.val (.int i), .val (.int j), .val (.int (2 : Int32)), .val (.int (j.toInt8.toInt32)), .val (.int ((j >>> ((8 : Int32) &&& 31)).toInt8.toInt32)), .val (.int ((j >>> ((16 : Int32) &&& 31)).toInt8.toInt32)), .val (.ref b19), .val (.ref b20), .val (.ref b25), .val (.int (1 : Int32)), .val (.int (1 : Int32)), .val (.int (1 : Int32))] [(.int (1 : Int32))])) (fun _ k => XS.iconst X33.here hx rfl (hb hby at_189) k) ?_
    refine own_st (T' := T33) (g' := (mkF m 194 #[.val (.int i), .val (.int j), .val (.int (2 : Int32)), .val (.int (j.toInt8.toInt32)), .val (.int ((j >>> ((8 : Int32) &&& 31)).toInt8.toInt32)), .val (.int ((j >>> ((16 : Int32) &&& 31)).toInt8.toInt32)), .val (.ref b19), .val (.ref b20), .val (.ref b25), .val (.int (1 : Int32)), .val (.int (1 : Int32)), .val (.int (1 : Int32))] [(.int (1 : Int32))])) (fun _ k => XS.goto X33.here hx rfl (pc0 := 190) (pc' := 194) rfl (hb hby at_190) (by decide) (by decide) k) ?_
    exact own_retW X33 hx hlk hS (by rw [e33]; exact hk) hret rfl (Or.inl ⟨rfl, Or.inr (Or.inl rfl), _, rfl⟩) (hb hby at_194) (by decide) (by decide) ⟨rfl, Nf⟩
  ·
    rw [hE]
    refine own_st (T' := T0) (g' := (mkF m 4 #[.val (.int i), .val (.int j), .val (.int (3 : Int32)), .unset, .unset, .unset, .unset, .unset, .unset, .unset, .unset, .unset] [])) (fun _ k => XS.istoreN X0.here hx rfl (hb hby at_3) rfl (l' := #[.val (.int i), .val (.int j), .val (.int (3 : Int32)), .unset, .unset, .unset, .unset, .unset, .unset, .unset, .unset, .unset]) rfl k) ?_
    refine own_st (T' := T0) (g' := (mkF m 5 #[.val (.int i), .val (.int j), .val (.int (3 : Int32)), .unset, .unset, .unset, .unset, .unset, .unset, .unset, .unset, .unset] [(.int j)])) (fun _ k => XS.iloadN X0.here hx rfl (hb hby at_4) rfl k) ?_
    refine own_st (T' := T0) (g' := (mkF m 6 #[.val (.int i), .val (.int j), .val (.int (3 : Int32)), .unset, .unset, .unset, .unset, .unset, .unset, .unset, .unset, .unset] [(.int (j.toInt8.toInt32))])) (fun _ k => XS.i2b X0.here hx rfl (hb hby at_5) rfl k) ?_
    refine own_st (T' := T0) (g' := (mkF m 7 #[.val (.int i), .val (.int j), .val (.int (3 : Int32)), .val (.int (j.toInt8.toInt32)), .unset, .unset, .unset, .unset, .unset, .unset, .unset, .unset] [])) (fun _ k => XS.istoreN X0.here hx rfl (hb hby at_6) rfl (l' := #[.val (.int i), .val (.int j), .val (.int (3 : Int32)), .val (.int (j.toInt8.toInt32)), .unset, .unset, .unset, .unset, .unset, .unset, .unset, .unset]) rfl k) ?_
    refine own_st (T' := T0) (g' := (mkF m 8 #[.val (.int i), .val (.int j), .val (.int (3 : Int32)), .val (.int (j.toInt8.toInt32)), .unset, .unset, .unset, .unset, .unset, .unset, .unset, .unset] [(.int j)])) (fun _ k => XS.iloadN X0.here hx rfl (hb hby at_7) rfl k) ?_
    refine own_st (T' := T0) (g' := (mkF m 10 #[.val (.int i), .val (.int j), .val (.int (3 : Int32)), .val (.int (j.toInt8.toInt32)), .unset, .unset, .unset, .unset, .unset, .unset, .unset, .unset] [(.int (8 : Int32)), (.int j)])) (fun _ k => XS.bipush X0.here hx rfl (hb hby at_8) k) ?_
    refine own_st (T' := T0) (g' := (mkF m 11 #[.val (.int i), .val (.int j), .val (.int (3 : Int32)), .val (.int (j.toInt8.toInt32)), .unset, .unset, .unset, .unset, .unset, .unset, .unset, .unset] [(.int (j >>> ((8 : Int32) &&& 31)))])) (fun _ k => XS.ishr X0.here hx rfl (hb hby at_10) rfl k) ?_
    refine own_st (T' := T0) (g' := (mkF m 12 #[.val (.int i), .val (.int j), .val (.int (3 : Int32)), .val (.int (j.toInt8.toInt32)), .unset, .unset, .unset, .unset, .unset, .unset, .unset, .unset] [(.int ((j >>> ((8 : Int32) &&& 31)).toInt8.toInt32))])) (fun _ k => XS.i2b X0.here hx rfl (hb hby at_11) rfl k) ?_
    refine own_st (T' := T0) (g' := (mkF m 14 #[.val (.int i), .val (.int j), .val (.int (3 : Int32)), .val (.int (j.toInt8.toInt32)), .val (.int ((j >>> ((8 : Int32) &&& 31)).toInt8.toInt32)), .unset, .unset, .unset, .unset, .unset, .unset, .unset] [])) (fun _ k => XS.istore X0.here hx rfl (hb hby at_12) rfl (l' := #[.val (.int i), .val (.int j), .val (.int (3 : Int32)), .val (.int (j.toInt8.toInt32)), .val (.int ((j >>> ((8 : Int32) &&& 31)).toInt8.toInt32)), .unset, .unset, .unset, .unset, .unset, .unset, .unset]) rfl k) ?_
    refine own_st (T' := T0) (g' := (mkF m 15 #[.val (.int i), .val (.int j), .val (.int (3 : Int32)), .val (.int (j.toInt8.toInt32)), .val (.int ((j >>> ((8 : Int32) &&& 31)).toInt8.toInt32)), .unset, .unset, .unset, .unset, .unset, .unset, .unset] [(.int j)])) (fun _ k => XS.iloadN X0.here hx rfl (hb hby at_14) rfl k) ?_
    refine own_st (T' := T0) (g' := (mkF m 17 #[.val (.int i), .val (.int j), .val (.int (3 : Int32)), .val (.int (j.toInt8.toInt32)), .val (.int ((j >>> ((8 : Int32) &&& 31)).toInt8.toInt32)), .unset, .unset, .unset, .unset, .unset, .unset, .unset] [(.int (16 : Int32)), (.int j)])) (fun _ k => XS.bipush X0.here hx rfl (hb hby at_15) k) ?_
    refine own_st (T' := T0) (g' := (mkF m 18 #[.val (.int i), .val (.int j), .val (.int (3 : Int32)), .val (.int (j.toInt8.toInt32)), .val (.int ((j >>> ((8 : Int32) &&& 31)).toInt8.toInt32)), .unset, .unset, .unset, .unset, .unset, .unset, .unset] [(.int (j >>> ((16 : Int32) &&& 31)))])) (fun _ k => XS.ishr X0.here hx rfl (hb hby at_17) rfl k) ?_
    refine own_st (T' := T0) (g' := (mkF m 19 #[.val (.int i), .val (.int j), .val (.int (3 : Int32)), .val (.int (j.toInt8.toInt32)), .val (.int ((j >>> ((8 : Int32) &&& 31)).toInt8.toInt32)), .unset, .unset, .unset, .unset, .unset, .unset, .unset] [(.int ((j >>> ((16 : Int32) &&& 31)).toInt8.toInt32))])) (fun _ k => XS.i2b X0.here hx rfl (hb hby at_18) rfl k) ?_
    refine own_st (T' := T0) (g' := (mkF m 21 #[.val (.int i), .val (.int j), .val (.int (3 : Int32)), .val (.int (j.toInt8.toInt32)), .val (.int ((j >>> ((8 : Int32) &&& 31)).toInt8.toInt32)), .val (.int ((j >>> ((16 : Int32) &&& 31)).toInt8.toInt32)), .unset, .unset, .unset, .unset, .unset, .unset] [])) (fun _ k => XS.istore X0.here hx rfl (hb hby at_19) rfl (l' := #[.val (.int i), .val (.int j), .val (.int (3 : Int32)), .val (.int (j.toInt8.toInt32)), .val (.int ((j >>> ((8 : Int32) &&& 31)).toInt8.toInt32)), .val (.int ((j >>> ((16 : Int32) &&& 31)).toInt8.toInt32)), .unset, .unset, .unset, .unset, .unset, .unset]) rfl k) ?_
    refine own_st (T' := T0) (g' := (mkF m 22 #[.val (.int i), .val (.int j), .val (.int (3 : Int32)), .val (.int (j.toInt8.toInt32)), .val (.int ((j >>> ((8 : Int32) &&& 31)).toInt8.toInt32)), .val (.int ((j >>> ((16 : Int32) &&& 31)).toInt8.toInt32)), .unset, .unset, .unset, .unset, .unset, .unset] [(.int (3 : Int32))])) (fun _ k => XS.iloadN X0.here hx rfl (hb hby at_21) rfl k) ?_
    refine own_st (T' := T0) (g' := (mkF m 23 #[.val (.int i), .val (.int j), .val (.int (3 : Int32)), .val (.int (j.toInt8.toInt32)), .val (.int ((j >>> ((8 : Int32) &&& 31)).toInt8.toInt32)), .val (.int ((j >>> ((16 : Int32) &&& 31)).toInt8.toInt32)), .unset, .unset, .unset, .unset, .unset, .unset] [(.int (j.toInt8.toInt32)), (.int (3 : Int32))])) (fun _ k => XS.iloadN X0.here hx rfl (hb hby at_22) rfl k) ?_
    refine own_st (T' := T0) (g' := (mkF m 25 #[.val (.int i), .val (.int j), .val (.int (3 : Int32)), .val (.int (j.toInt8.toInt32)), .val (.int ((j >>> ((8 : Int32) &&& 31)).toInt8.toInt32)), .val (.int ((j >>> ((16 : Int32) &&& 31)).toInt8.toInt32)), .unset, .unset, .unset, .unset, .unset, .unset] [(.int ((j >>> ((8 : Int32) &&& 31)).toInt8.toInt32)), (.int (j.toInt8.toInt32)), (.int (3 : Int32))])) (fun _ k => XS.iload X0.here hx rfl (hb hby at_23) rfl k) ?_
    refine own_st (T' := T0) (g' := (mkF m 27 #[.val (.int i), .val (.int j), .val (.int (3 : Int32)), .val (.int (j.toInt8.toInt32)), .val (.int ((j >>> ((8 : Int32) &&& 31)).toInt8.toInt32)), .val (.int ((j >>> ((16 : Int32) &&& 31)).toInt8.toInt32)), .unset, .unset, .unset, .unset, .unset, .unset] [(.int ((j >>> ((16 : Int32) &&& 31)).toInt8.toInt32)), (.int ((j >>> ((8 : Int32) &&& 31)).toInt8.toInt32)), (.int (j.toInt8.toInt32)), (.int (3 : Int32))])) (fun _ k => XS.iload X0.here hx rfl (hb hby at_25) rfl k) ?_
    obtain ⟨v34, T34, L34, X34, hQ34, st34⟩ := own_gS X0  hx hZ hown (hw _ (List.mem_of_getElem? (i := 0) rfl)) (hw _ (List.mem_of_getElem? (i := 1) rfl)) (hw _ (List.mem_of_getElem? (i := 2) rfl)) (hw _ (List.mem_of_getElem? (i := 3) rfl)) (by decide) e0 (own_make3 l Z a0 hw h0 ((j.toInt8.toInt32)) (((j >>> ((8 : Int32) &&& 31)).toInt8.toInt32)) (((j >>> ((16 : Int32) &&& 31)).toInt8.toInt32))) (by decide) (by decide) (by decide) (by decide) (Q := (fun v h L => ∃ b kB, v = some (.ref b) ∧ h0.size ≤ b ∧ Fr h0.size L ∧ Ext h0 h ∧ Arh Z h b kB .byte (3 : Int32) (((2 : Int32), (.int ((((j >>> ((16 : Int32) &&& 31)).toInt8.toInt32)).toInt8.toInt32))) :: (((1 : Int32), (.int ((((j >>> ((8 : Int32) &&& 31)).toInt8.toInt32)).toInt8.toInt32))) :: (((0 : Int32), (.int (((j.toInt8.toInt32)).toInt8.toInt32))) :: []))) [] (.int (0 : Int32)) ∧ Exa Z h b "[B")) (W := 0) (g := (mkF m 27 #[.val (.int i), .val (.int j), .val (.int (3 : Int32)), .val (.int (j.toInt8.toInt32)), .val (.int ((j >>> ((8 : Int32) &&& 31)).toInt8.toInt32)), .val (.int ((j >>> ((16 : Int32) &&& 31)).toInt8.toInt32)), .unset, .unset, .unset, .unset, .unset, .unset] [(.int ((j >>> ((16 : Int32) &&& 31)).toInt8.toInt32)), (.int ((j >>> ((8 : Int32) &&& 31)).toInt8.toInt32)), (.int (j.toInt8.toInt32)), (.int (3 : Int32))])) (argsL := [(.int (3 : Int32)), (.int (j.toInt8.toInt32)), (.int ((j >>> ((8 : Int32) &&& 31)).toInt8.toInt32)), (.int ((j >>> ((16 : Int32) &&& 31)).toInt8.toInt32))]) (rest := []) rfl (by rw [hml]; rfl) (lenOf own_pd_2 rfl) rfl (by show 2 * 0 + _ ≤ _; exact Nat.le_of_eq rfl) (hb hby at_27)
    obtain ⟨b34, kB34, rfl, gq34, NL34, EX34, VV34, EE34⟩ := hQ34
    have g_b34 : h0.size ≤ b34 := Nat.le_trans E0.1 gq34
    have Nf := Fr.app Nf (own_fr_mono E0.1 NL34)
    have E0 := own_ext_tr E0 EX34
    have hk := Nat.le_trans hk EX34.1
    have V_b34 := VV34
    have E_b34 := EE34
    refine own_st (T' := T34) (g' := (mkF m 30 #[.val (.int i), .val (.int j), .val (.int (3 : Int32)), .val (.int (j.toInt8.toInt32)), .val (.int ((j >>> ((8 : Int32) &&& 31)).toInt8.toInt32)), .val (.int ((j >>> ((16 : Int32) &&& 31)).toInt8.toInt32)), .unset, .unset, .unset, .unset, .unset, .unset] [(.ref b34)])) st34 ?_
    refine own_st (T' := T34) (g' := (mkF m 32 #[.val (.int i), .val (.int j), .val (.int (3 : Int32)), .val (.int (j.toInt8.toInt32)), .val (.int ((j >>> ((8 : Int32) &&& 31)).toInt8.toInt32)), .val (.int ((j >>> ((16 : Int32) &&& 31)).toInt8.toInt32)), .val (.ref b34), .unset, .unset, .unset, .unset, .unset] [])) (fun _ k => XS.astore X34.here hx rfl (hb hby at_30) rfl rfl (l' := #[.val (.int i), .val (.int j), .val (.int (3 : Int32)), .val (.int (j.toInt8.toInt32)), .val (.int ((j >>> ((8 : Int32) &&& 31)).toInt8.toInt32)), .val (.int ((j >>> ((16 : Int32) &&& 31)).toInt8.toInt32)), .val (.ref b34), .unset, .unset, .unset, .unset, .unset]) rfl k) ?_
    refine own_st (T' := T34) (g' := (mkF m 34 #[.val (.int i), .val (.int j), .val (.int (3 : Int32)), .val (.int (j.toInt8.toInt32)), .val (.int ((j >>> ((8 : Int32) &&& 31)).toInt8.toInt32)), .val (.int ((j >>> ((16 : Int32) &&& 31)).toInt8.toInt32)), .val (.ref b34), .unset, .unset, .unset, .unset, .unset] [(.ref b34)])) (fun _ k => XS.aload X34.here hx rfl (hb hby at_32) rfl rfl k) ?_
    obtain ⟨v35, T35, L35, k35, X35, hQ35, hS, hk, hZ, hown, st35⟩ := own_gSW X34 hS hk hx hZ hown (hw _ (List.mem_of_getElem? (i := 5) rfl)) (hw _ (List.mem_of_getElem? (i := 6) rfl)) (hw _ (List.mem_of_getElem? (i := 7) rfl)) (hw _ (List.mem_of_getElem? (i := 8) rfl)) (by decide) rfl (own_succ l Z a0 hw T34.heap b34 kB34 (3 : Int32) (((2 : Int32), (.int ((((j >>> ((16 : Int32) &&& 31)).toInt8.toInt32)).toInt8.toInt32))) :: (((1 : Int32), (.int ((((j >>> ((8 : Int32) &&& 31)).toInt8.toInt32)).toInt8.toInt32))) :: (((0 : Int32), (.int (((j.toInt8.toInt32)).toInt8.toInt32))) :: []))) (by decide) V_b34 E_b34) (by decide) (by decide) (by decide) (by decide) (Q := (fun v h L => ∃ o d, v = some (.ref o) ∧ T34.heap.size ≤ o ∧ T34.heap.size ≤ d ∧ Fr T34.heap.size L ∧ Ext T34.heap h ∧ Exa Z h o "com/example/earnest_key/earnestkey/Outcome" ∧ Fld Z h o "com/example/earnest_key/earnestkey/Outcome" "bytes" "[B" (.ref d) ∧ Fld Z h o "com/example/earnest_key/earnestkey/Outcome" "failure" "Z" (.int (0 : Int32)) ∧ Arh Z h d kB34 .byte (3 : Int32) (((2 : Int32), (.int ((((j >>> ((16 : Int32) &&& 31)).toInt8.toInt32)).toInt8.toInt32))) :: (((1 : Int32), (.int ((((j >>> ((8 : Int32) &&& 31)).toInt8.toInt32)).toInt8.toInt32))) :: (((0 : Int32), (.int (((j.toInt8.toInt32)).toInt8.toInt32))) :: []))) [] (.int (0 : Int32)) ∧ Exa Z h d "[B" ∧ o ≠ d)) (W := 0) (g := (mkF m 34 #[.val (.int i), .val (.int j), .val (.int (3 : Int32)), .val (.int (j.toInt8.toInt32)), .val (.int ((j >>> ((8 : Int32) &&& 31)).toInt8.toInt32)), .val (.int ((j >>> ((16 : Int32) &&& 31)).toInt8.toInt32)), .val (.ref b34), .unset, .unset, .unset, .unset, .unset] [(.ref b34)])) (argsL := [(.ref b34)]) (rest := []) rfl (by rw [hml]; rfl) (lenOf own_pd_3 rfl) rfl (by show 2 * 0 + _ ≤ _; exact Nat.le_of_eq rfl) (hb hby at_34)
    obtain ⟨b35, d35, rfl, gq35, gd35, NL35, EX35, EE35, FB35, FF35, VV35, ED35, nod35⟩ := hQ35
    have ne_b34_b35 : b34 ≠ b35 := Nat.ne_of_lt (Nat.lt_of_lt_of_le V_b34.lt gq35)
    have g_b35 : h0.size ≤ b35 := Nat.le_trans E0.1 gq35
    have ne_b34_d35 : b34 ≠ d35 := Nat.ne_of_lt (Nat.lt_of_lt_of_le V_b34.lt gd35)
    have g_d35 : h0.size ≤ d35 := Nat.le_trans E0.1 gd35
    have Nf := Fr.app Nf (own_fr_mono E0.1 NL35)
    have V_b34 := V_b34.ext EX35
    have E_b34 := E_b34.ext EX35
    have E0 := own_ext_tr E0 EX35
    have E_b35 := EE35
    have F_bytes_b35 := FB35
    have F_failure_b35 := FF35
    have V_d35 := VV35
    have E_d35 := ED35
    refine own_st (T' := T35) (g' := (mkF m 37 #[.val (.int i), .val (.int j), .val (.int (3 : Int32)), .val (.int (j.toInt8.toInt32)), .val (.int ((j >>> ((8 : Int32) &&& 31)).toInt8.toInt32)), .val (.int ((j >>> ((16 : Int32) &&& 31)).toInt8.toInt32)), .val (.ref b34), .unset, .unset, .unset, .unset, .unset] [(.ref b35)])) st35 ?_
    refine own_st (T' := T35) (g' := (mkF m 39 #[.val (.int i), .val (.int j), .val (.int (3 : Int32)), .val (.int (j.toInt8.toInt32)), .val (.int ((j >>> ((8 : Int32) &&& 31)).toInt8.toInt32)), .val (.int ((j >>> ((16 : Int32) &&& 31)).toInt8.toInt32)), .val (.ref b34), .val (.ref b35), .unset, .unset, .unset, .unset] [])) (fun _ k => XS.astore X35.here hx rfl (hb hby at_37) rfl rfl (l' := #[.val (.int i), .val (.int j), .val (.int (3 : Int32)), .val (.int (j.toInt8.toInt32)), .val (.int ((j >>> ((8 : Int32) &&& 31)).toInt8.toInt32)), .val (.int ((j >>> ((16 : Int32) &&& 31)).toInt8.toInt32)), .val (.ref b34), .val (.ref b35), .unset, .unset, .unset, .unset]) rfl k) ?_
    refine own_st (T' := T35) (g' := (mkF m 40 #[.val (.int i), .val (.int j), .val (.int (3 : Int32)), .val (.int (j.toInt8.toInt32)), .val (.int ((j >>> ((8 : Int32) &&& 31)).toInt8.toInt32)), .val (.int ((j >>> ((16 : Int32) &&& 31)).toInt8.toInt32)), .val (.ref b34), .val (.ref b35), .unset, .unset, .unset, .unset] [(.int (3 : Int32))])) (fun _ k => XS.iloadN X35.here hx rfl (hb hby at_39) rfl k) ?_
    refine own_st (T' := T35) (g' := (mkF m 43 #[.val (.int i), .val (.int j), .val (.int (3 : Int32)), .val (.int (j.toInt8.toInt32)), .val (.int ((j >>> ((8 : Int32) &&& 31)).toInt8.toInt32)), .val (.int ((j >>> ((16 : Int32) &&& 31)).toInt8.toInt32)), .val (.ref b34), .val (.ref b35), .unset, .unset, .unset, .unset] [])) (fun _ k => XS.ifNo X35.here hx rfl (hb hby at_40) rfl (by decide) k) ?_
    refine own_st (T' := T35) (g' := (mkF m 45 #[.val (.int i), .val (.int j), .val (.int (3 : Int32)), .val (.int (j.toInt8.toInt32)), .val (.int ((j >>> ((8 : Int32) &&& 31)).toInt8.toInt32)), .val (.int ((j >>> ((16 : Int32) &&& 31)).toInt8.toInt32)), .val (.ref b34), .val (.ref b35), .unset, .unset, .unset, .unset] [(.ref b34)])) (fun _ k => XS.aload X35.here hx rfl (hb hby at_43) rfl rfl k) ?_
    refine own_st (T' := T35) (g' := (mkF m 46 #[.val (.int i), .val (.int j), .val (.int (3 : Int32)), .val (.int (j.toInt8.toInt32)), .val (.int ((j >>> ((8 : Int32) &&& 31)).toInt8.toInt32)), .val (.int ((j >>> ((16 : Int32) &&& 31)).toInt8.toInt32)), .val (.ref b34), .val (.ref b35), .unset, .unset, .unset, .unset] [(.int (0 : Int32)), (.ref b34)])) (fun _ k => XS.iconst X35.here hx rfl (hb hby at_45) k) ?_
    refine own_st (T' := T35) (g' := (mkF m 47 #[.val (.int i), .val (.int j), .val (.int (3 : Int32)), .val (.int (j.toInt8.toInt32)), .val (.int ((j >>> ((8 : Int32) &&& 31)).toInt8.toInt32)), .val (.int ((j >>> ((16 : Int32) &&& 31)).toInt8.toInt32)), .val (.ref b34), .val (.ref b35), .unset, .unset, .unset, .unset] [(.int (j.toInt8.toInt32)), (.int (0 : Int32)), (.ref b34)])) (fun _ k => XS.iloadN X35.here hx rfl (hb hby at_46) rfl k) ?_
    refine own_st (T' := T35) (g' := (mkF m 48 #[.val (.int i), .val (.int j), .val (.int (3 : Int32)), .val (.int (j.toInt8.toInt32)), .val (.int ((j >>> ((8 : Int32) &&& 31)).toInt8.toInt32)), .val (.int ((j >>> ((16 : Int32) &&& 31)).toInt8.toInt32)), .val (.ref b34), .val (.ref b35), .unset, .unset, .unset, .unset] [(.int (-1 : Int32)), (.int (j.toInt8.toInt32)), (.int (0 : Int32)), (.ref b34)])) (fun _ k => XS.iconst X35.here hx rfl (hb hby at_47) k) ?_
    refine own_st (T' := T35) (g' := (mkF m 49 #[.val (.int i), .val (.int j), .val (.int (3 : Int32)), .val (.int (j.toInt8.toInt32)), .val (.int ((j >>> ((8 : Int32) &&& 31)).toInt8.toInt32)), .val (.int ((j >>> ((16 : Int32) &&& 31)).toInt8.toInt32)), .val (.ref b34), .val (.ref b35), .unset, .unset, .unset, .unset] [(.int ((j.toInt8.toInt32) ^^^ (-1 : Int32))), (.int (0 : Int32)), (.ref b34)])) (fun _ k => XS.ixor X35.here hx rfl (hb hby at_48) rfl k) ?_
    refine own_st (T' := T35) (g' := (mkF m 50 #[.val (.int i), .val (.int j), .val (.int (3 : Int32)), .val (.int (j.toInt8.toInt32)), .val (.int ((j >>> ((8 : Int32) &&& 31)).toInt8.toInt32)), .val (.int ((j >>> ((16 : Int32) &&& 31)).toInt8.toInt32)), .val (.ref b34), .val (.ref b35), .unset, .unset, .unset, .unset] [(.int (((j.toInt8.toInt32) ^^^ (-1 : Int32)).toInt8.toInt32)), (.int (0 : Int32)), (.ref b34)])) (fun _ k => XS.i2b X35.here hx rfl (hb hby at_49) rfl k) ?_
    have V36 := V_b34
    obtain ⟨cl36, Ar36, qk36, Sz36, Nn36, Hh36, Gg36⟩ := V36
    have hin37 : ¬ ((0 : Int32) < 0 ∨ cl36.slots.size ≤ ((0 : Int32)).toNatClampNeg) := inb_of Sz36 ⟨by decide, by decide⟩
    obtain ⟨T37, h37, X37, e37, W37, st37⟩ := stB X35 hx hZ rfl Ar36 (j := (0 : Int32)) hin37 (g := (mkF m 50 #[.val (.int i), .val (.int j), .val (.int (3 : Int32)), .val (.int (j.toInt8.toInt32)), .val (.int ((j >>> ((8 : Int32) &&& 31)).toInt8.toInt32)), .val (.int ((j >>> ((16 : Int32) &&& 31)).toInt8.toInt32)), .val (.ref b34), .val (.ref b35), .unset, .unset, .unset, .unset] [(.int (((j.toInt8.toInt32) ^^^ (-1 : Int32)).toInt8.toInt32)), (.int (0 : Int32)), (.ref b34)])) rfl rfl (hb hby at_50)
    have E_b34 := E_b34.wr W37
    have E_b35 := E_b35.wr W37
    have F_bytes_b35 := F_bytes_b35.other W37 (Or.inl (Ne.symm ne_b34_b35))
    have F_failure_b35 := F_failure_b35.other W37 (Or.inl (Ne.symm ne_b34_b35))
    have V_d35 := V_d35.other W37 (Ne.symm ne_b34_d35)
    have E_d35 := E_d35.wr W37
    have E0 := own_ext_wr E0 W37 g_b34
    have hk := (Wr.size W37) ▸ hk
    have V_b34 : Arh Z h37 b34 kB34 .byte (3 : Int32) (((0 : Int32), (.int ((((j.toInt8.toInt32) ^^^ (-1 : Int32)).toInt8.toInt32).toInt8.toInt32))) :: (((2 : Int32), (.int ((((j >>> ((16 : Int32) &&& 31)).toInt8.toInt32)).toInt8.toInt32))) :: (((1 : Int32), (.int ((((j >>> ((8 : Int32) &&& 31)).toInt8.toInt32)).toInt8.toInt32))) :: (((0 : Int32), (.int (((j.toInt8.toInt32)).toInt8.toInt32))) :: [])))) [] (.int (0 : Int32)) := Arh.push Ar36 qk36 Sz36 Nn36 Hh36 Gg36 (fits_nar_byte _) W37 hin37
    rw [own_i8] at V_b34
    have Nf := Fr.snoc X37 Nf g_b34
    refine own_st (T' := T37) (g' := (mkF m 51 #[.val (.int i), .val (.int j), .val (.int (3 : Int32)), .val (.int (j.toInt8.toInt32)), .val (.int ((j >>> ((8 : Int32) &&& 31)).toInt8.toInt32)), .val (.int ((j >>> ((16 : Int32) &&& 31)).toInt8.toInt32)), .val (.ref b34), .val (.ref b35), .unset, .unset, .unset, .unset] [])) st37 ?_
    refine own_st (T' := T37) (g' := (mkF m 52 #[.val (.int i), .val (.int j), .val (.int (3 : Int32)), .val (.int (j.toInt8.toInt32)), .val (.int ((j >>> ((8 : Int32) &&& 31)).toInt8.toInt32)), .val (.int ((j >>> ((16 : Int32) &&& 31)).toInt8.toInt32)), .val (.ref b34), .val (.ref b35), .unset, .unset, .unset, .unset] [(.int (3 : Int32))])) (fun _ k => XS.iloadN X37.here hx rfl (hb hby at_51) rfl k) ?_
    refine own_st (T' := T37) (g' := (mkF m 53 #[.val (.int i), .val (.int j), .val (.int (3 : Int32)), .val (.int (j.toInt8.toInt32)), .val (.int ((j >>> ((8 : Int32) &&& 31)).toInt8.toInt32)), .val (.int ((j >>> ((16 : Int32) &&& 31)).toInt8.toInt32)), .val (.ref b34), .val (.ref b35), .unset, .unset, .unset, .unset] [(.int (1 : Int32)), (.int (3 : Int32))])) (fun _ k => XS.iconst X37.here hx rfl (hb hby at_52) k) ?_
    refine own_st (T' := T37) (g' := (mkF m 56 #[.val (.int i), .val (.int j), .val (.int (3 : Int32)), .val (.int (j.toInt8.toInt32)), .val (.int ((j >>> ((8 : Int32) &&& 31)).toInt8.toInt32)), .val (.int ((j >>> ((16 : Int32) &&& 31)).toInt8.toInt32)), .val (.ref b34), .val (.ref b35), .unset, .unset, .unset, .unset] [])) (fun _ k => XS.icmpNo X37.here hx rfl (hb hby at_53) rfl (by decide) k) ?_
    refine own_st (T' := T37) (g' := (mkF m 58 #[.val (.int i), .val (.int j), .val (.int (3 : Int32)), .val (.int (j.toInt8.toInt32)), .val (.int ((j >>> ((8 : Int32) &&& 31)).toInt8.toInt32)), .val (.int ((j >>> ((16 : Int32) &&& 31)).toInt8.toInt32)), .val (.ref b34), .val (.ref b35), .unset, .unset, .unset, .unset] [(.ref b34)])) (fun _ k => XS.aload X37.here hx rfl (hb hby at_56) rfl rfl k) ?_
    refine own_st (T' := T37) (g' := (mkF m 59 #[.val (.int i), .val (.int j), .val (.int (3 : Int32)), .val (.int (j.toInt8.toInt32)), .val (.int ((j >>> ((8 : Int32) &&& 31)).toInt8.toInt32)), .val (.int ((j >>> ((16 : Int32) &&& 31)).toInt8.toInt32)), .val (.ref b34), .val (.ref b35), .unset, .unset, .unset, .unset] [(.int (1 : Int32)), (.ref b34)])) (fun _ k => XS.iconst X37.here hx rfl (hb hby at_58) k) ?_
    refine own_st (T' := T37) (g' := (mkF m 61 #[.val (.int i), .val (.int j), .val (.int (3 : Int32)), .val (.int (j.toInt8.toInt32)), .val (.int ((j >>> ((8 : Int32) &&& 31)).toInt8.toInt32)), .val (.int ((j >>> ((16 : Int32) &&& 31)).toInt8.toInt32)), .val (.ref b34), .val (.ref b35), .unset, .unset, .unset, .unset] [(.int ((j >>> ((8 : Int32) &&& 31)).toInt8.toInt32)), (.int (1 : Int32)), (.ref b34)])) (fun _ k => XS.iload X37.here hx rfl (hb hby at_59) rfl k) ?_
    refine own_st (T' := T37) (g' := (mkF m 62 #[.val (.int i), .val (.int j), .val (.int (3 : Int32)), .val (.int (j.toInt8.toInt32)), .val (.int ((j >>> ((8 : Int32) &&& 31)).toInt8.toInt32)), .val (.int ((j >>> ((16 : Int32) &&& 31)).toInt8.toInt32)), .val (.ref b34), .val (.ref b35), .unset, .unset, .unset, .unset] [(.int (-1 : Int32)), (.int ((j >>> ((8 : Int32) &&& 31)).toInt8.toInt32)), (.int (1 : Int32)), (.ref b34)])) (fun _ k => XS.iconst X37.here hx rfl (hb hby at_61) k) ?_
    refine own_st (T' := T37) (g' := (mkF m 63 #[.val (.int i), .val (.int j), .val (.int (3 : Int32)), .val (.int (j.toInt8.toInt32)), .val (.int ((j >>> ((8 : Int32) &&& 31)).toInt8.toInt32)), .val (.int ((j >>> ((16 : Int32) &&& 31)).toInt8.toInt32)), .val (.ref b34), .val (.ref b35), .unset, .unset, .unset, .unset] [(.int (((j >>> ((8 : Int32) &&& 31)).toInt8.toInt32) ^^^ (-1 : Int32))), (.int (1 : Int32)), (.ref b34)])) (fun _ k => XS.ixor X37.here hx rfl (hb hby at_62) rfl k) ?_
    refine own_st (T' := T37) (g' := (mkF m 64 #[.val (.int i), .val (.int j), .val (.int (3 : Int32)), .val (.int (j.toInt8.toInt32)), .val (.int ((j >>> ((8 : Int32) &&& 31)).toInt8.toInt32)), .val (.int ((j >>> ((16 : Int32) &&& 31)).toInt8.toInt32)), .val (.ref b34), .val (.ref b35), .unset, .unset, .unset, .unset] [(.int ((((j >>> ((8 : Int32) &&& 31)).toInt8.toInt32) ^^^ (-1 : Int32)).toInt8.toInt32)), (.int (1 : Int32)), (.ref b34)])) (fun _ k => XS.i2b X37.here hx rfl (hb hby at_63) rfl k) ?_
    have V38 := V_b34
    obtain ⟨cl38, Ar38, qk38, Sz38, Nn38, Hh38, Gg38⟩ := V38
    have hin39 : ¬ ((1 : Int32) < 0 ∨ cl38.slots.size ≤ ((1 : Int32)).toNatClampNeg) := inb_of Sz38 ⟨by decide, by decide⟩
    obtain ⟨T39, h39, X39, e39, W39, st39⟩ := stB X37 hx hZ e37 Ar38 (j := (1 : Int32)) hin39 (g := (mkF m 64 #[.val (.int i), .val (.int j), .val (.int (3 : Int32)), .val (.int (j.toInt8.toInt32)), .val (.int ((j >>> ((8 : Int32) &&& 31)).toInt8.toInt32)), .val (.int ((j >>> ((16 : Int32) &&& 31)).toInt8.toInt32)), .val (.ref b34), .val (.ref b35), .unset, .unset, .unset, .unset] [(.int ((((j >>> ((8 : Int32) &&& 31)).toInt8.toInt32) ^^^ (-1 : Int32)).toInt8.toInt32)), (.int (1 : Int32)), (.ref b34)])) rfl rfl (hb hby at_64)
    have E_b34 := E_b34.wr W39
    have E_b35 := E_b35.wr W39
    have F_bytes_b35 := F_bytes_b35.other W39 (Or.inl (Ne.symm ne_b34_b35))
    have F_failure_b35 := F_failure_b35.other W39 (Or.inl (Ne.symm ne_b34_b35))
    have V_d35 := V_d35.other W39 (Ne.symm ne_b34_d35)
    have E_d35 := E_d35.wr W39
    have E0 := own_ext_wr E0 W39 g_b34
    have hk := (Wr.size W39) ▸ hk
    have V_b34 : Arh Z h39 b34 kB34 .byte (3 : Int32) (((1 : Int32), (.int (((((j >>> ((8 : Int32) &&& 31)).toInt8.toInt32) ^^^ (-1 : Int32)).toInt8.toInt32).toInt8.toInt32))) :: (((0 : Int32), (.int (((j.toInt8.toInt32) ^^^ (-1 : Int32)).toInt8.toInt32))) :: (((2 : Int32), (.int ((((j >>> ((16 : Int32) &&& 31)).toInt8.toInt32)).toInt8.toInt32))) :: (((1 : Int32), (.int ((((j >>> ((8 : Int32) &&& 31)).toInt8.toInt32)).toInt8.toInt32))) :: (((0 : Int32), (.int (((j.toInt8.toInt32)).toInt8.toInt32))) :: []))))) [] (.int (0 : Int32)) := Arh.push Ar38 qk38 Sz38 Nn38 Hh38 Gg38 (fits_nar_byte _) W39 hin39
    rw [own_i8] at V_b34
    have Nf := Fr.snoc X39 Nf g_b34
    refine own_st (T' := T39) (g' := (mkF m 65 #[.val (.int i), .val (.int j), .val (.int (3 : Int32)), .val (.int (j.toInt8.toInt32)), .val (.int ((j >>> ((8 : Int32) &&& 31)).toInt8.toInt32)), .val (.int ((j >>> ((16 : Int32) &&& 31)).toInt8.toInt32)), .val (.ref b34), .val (.ref b35), .unset, .unset, .unset, .unset] [])) st39 ?_
    refine own_st (T' := T39) (g' := (mkF m 66 #[.val (.int i), .val (.int j), .val (.int (3 : Int32)), .val (.int (j.toInt8.toInt32)), .val (.int ((j >>> ((8 : Int32) &&& 31)).toInt8.toInt32)), .val (.int ((j >>> ((16 : Int32) &&& 31)).toInt8.toInt32)), .val (.ref b34), .val (.ref b35), .unset, .unset, .unset, .unset] [(.int (3 : Int32))])) (fun _ k => XS.iloadN X39.here hx rfl (hb hby at_65) rfl k) ?_
    refine own_st (T' := T39) (g' := (mkF m 67 #[.val (.int i), .val (.int j), .val (.int (3 : Int32)), .val (.int (j.toInt8.toInt32)), .val (.int ((j >>> ((8 : Int32) &&& 31)).toInt8.toInt32)), .val (.int ((j >>> ((16 : Int32) &&& 31)).toInt8.toInt32)), .val (.ref b34), .val (.ref b35), .unset, .unset, .unset, .unset] [(.int (2 : Int32)), (.int (3 : Int32))])) (fun _ k => XS.iconst X39.here hx rfl (hb hby at_66) k) ?_
    refine own_st (T' := T39) (g' := (mkF m 70 #[.val (.int i), .val (.int j), .val (.int (3 : Int32)), .val (.int (j.toInt8.toInt32)), .val (.int ((j >>> ((8 : Int32) &&& 31)).toInt8.toInt32)), .val (.int ((j >>> ((16 : Int32) &&& 31)).toInt8.toInt32)), .val (.ref b34), .val (.ref b35), .unset, .unset, .unset, .unset] [])) (fun _ k => XS.icmpNo X39.here hx rfl (hb hby at_67) rfl (by decide) k) ?_
    refine own_st (T' := T39) (g' := (mkF m 72 #[.val (.int i), .val (.int j), .val (.int (3 : Int32)), .val (.int (j.toInt8.toInt32)), .val (.int ((j >>> ((8 : Int32) &&& 31)).toInt8.toInt32)), .val (.int ((j >>> ((16 : Int32) &&& 31)).toInt8.toInt32)), .val (.ref b34), .val (.ref b35), .unset, .unset, .unset, .unset] [(.ref b34)])) (fun _ k => XS.aload X39.here hx rfl (hb hby at_70) rfl rfl k) ?_
    refine own_st (T' := T39) (g' := (mkF m 73 #[.val (.int i), .val (.int j), .val (.int (3 : Int32)), .val (.int (j.toInt8.toInt32)), .val (.int ((j >>> ((8 : Int32) &&& 31)).toInt8.toInt32)), .val (.int ((j >>> ((16 : Int32) &&& 31)).toInt8.toInt32)), .val (.ref b34), .val (.ref b35), .unset, .unset, .unset, .unset] [(.int (2 : Int32)), (.ref b34)])) (fun _ k => XS.iconst X39.here hx rfl (hb hby at_72) k) ?_
    refine own_st (T' := T39) (g' := (mkF m 75 #[.val (.int i), .val (.int j), .val (.int (3 : Int32)), .val (.int (j.toInt8.toInt32)), .val (.int ((j >>> ((8 : Int32) &&& 31)).toInt8.toInt32)), .val (.int ((j >>> ((16 : Int32) &&& 31)).toInt8.toInt32)), .val (.ref b34), .val (.ref b35), .unset, .unset, .unset, .unset] [(.int ((j >>> ((16 : Int32) &&& 31)).toInt8.toInt32)), (.int (2 : Int32)), (.ref b34)])) (fun _ k => XS.iload X39.here hx rfl (hb hby at_73) rfl k) ?_
    refine own_st (T' := T39) (g' := (mkF m 76 #[.val (.int i), .val (.int j), .val (.int (3 : Int32)), .val (.int (j.toInt8.toInt32)), .val (.int ((j >>> ((8 : Int32) &&& 31)).toInt8.toInt32)), .val (.int ((j >>> ((16 : Int32) &&& 31)).toInt8.toInt32)), .val (.ref b34), .val (.ref b35), .unset, .unset, .unset, .unset] [(.int (-1 : Int32)), (.int ((j >>> ((16 : Int32) &&& 31)).toInt8.toInt32)), (.int (2 : Int32)), (.ref b34)])) (fun _ k => XS.iconst X39.here hx rfl (hb hby at_75) k) ?_
    refine own_st (T' := T39) (g' := (mkF m 77 #[.val (.int i), .val (.int j), .val (.int (3 : Int32)), .val (.int (j.toInt8.toInt32)), .val (.int ((j >>> ((8 : Int32) &&& 31)).toInt8.toInt32)), .val (.int ((j >>> ((16 : Int32) &&& 31)).toInt8.toInt32)), .val (.ref b34), .val (.ref b35), .unset, .unset, .unset, .unset] [(.int (((j >>> ((16 : Int32) &&& 31)).toInt8.toInt32) ^^^ (-1 : Int32))), (.int (2 : Int32)), (.ref b34)])) (fun _ k => XS.ixor X39.here hx rfl (hb hby at_76) rfl k) ?_
    refine own_st (T' := T39) (g' := (mkF m 78 #[.val (.int i), .val (.int j), .val (.int (3 : Int32)), .val (.int (j.toInt8.toInt32)), .val (.int ((j >>> ((8 : Int32) &&& 31)).toInt8.toInt32)), .val (.int ((j >>> ((16 : Int32) &&& 31)).toInt8.toInt32)), .val (.ref b34), .val (.ref b35), .unset, .unset, .unset, .unset] [(.int ((((j >>> ((16 : Int32) &&& 31)).toInt8.toInt32) ^^^ (-1 : Int32)).toInt8.toInt32)), (.int (2 : Int32)), (.ref b34)])) (fun _ k => XS.i2b X39.here hx rfl (hb hby at_77) rfl k) ?_
    have V40 := V_b34
    obtain ⟨cl40, Ar40, qk40, Sz40, Nn40, Hh40, Gg40⟩ := V40
    have hin41 : ¬ ((2 : Int32) < 0 ∨ cl40.slots.size ≤ ((2 : Int32)).toNatClampNeg) := inb_of Sz40 ⟨by decide, by decide⟩
    obtain ⟨T41, h41, X41, e41, W41, st41⟩ := stB X39 hx hZ e39 Ar40 (j := (2 : Int32)) hin41 (g := (mkF m 78 #[.val (.int i), .val (.int j), .val (.int (3 : Int32)), .val (.int (j.toInt8.toInt32)), .val (.int ((j >>> ((8 : Int32) &&& 31)).toInt8.toInt32)), .val (.int ((j >>> ((16 : Int32) &&& 31)).toInt8.toInt32)), .val (.ref b34), .val (.ref b35), .unset, .unset, .unset, .unset] [(.int ((((j >>> ((16 : Int32) &&& 31)).toInt8.toInt32) ^^^ (-1 : Int32)).toInt8.toInt32)), (.int (2 : Int32)), (.ref b34)])) rfl rfl (hb hby at_78)
    have E_b34 := E_b34.wr W41
    have E_b35 := E_b35.wr W41
    have F_bytes_b35 := F_bytes_b35.other W41 (Or.inl (Ne.symm ne_b34_b35))
    have F_failure_b35 := F_failure_b35.other W41 (Or.inl (Ne.symm ne_b34_b35))
    have V_d35 := V_d35.other W41 (Ne.symm ne_b34_d35)
    have E_d35 := E_d35.wr W41
    have E0 := own_ext_wr E0 W41 g_b34
    have hk := (Wr.size W41) ▸ hk
    have V_b34 : Arh Z h41 b34 kB34 .byte (3 : Int32) (((2 : Int32), (.int (((((j >>> ((16 : Int32) &&& 31)).toInt8.toInt32) ^^^ (-1 : Int32)).toInt8.toInt32).toInt8.toInt32))) :: (((1 : Int32), (.int ((((j >>> ((8 : Int32) &&& 31)).toInt8.toInt32) ^^^ (-1 : Int32)).toInt8.toInt32))) :: (((0 : Int32), (.int (((j.toInt8.toInt32) ^^^ (-1 : Int32)).toInt8.toInt32))) :: (((2 : Int32), (.int ((((j >>> ((16 : Int32) &&& 31)).toInt8.toInt32)).toInt8.toInt32))) :: (((1 : Int32), (.int ((((j >>> ((8 : Int32) &&& 31)).toInt8.toInt32)).toInt8.toInt32))) :: (((0 : Int32), (.int (((j.toInt8.toInt32)).toInt8.toInt32))) :: [])))))) [] (.int (0 : Int32)) := Arh.push Ar40 qk40 Sz40 Nn40 Hh40 Gg40 (fits_nar_byte _) W41 hin41
    rw [own_i8] at V_b34
    have Nf := Fr.snoc X41 Nf g_b34
    refine own_st (T' := T41) (g' := (mkF m 79 #[.val (.int i), .val (.int j), .val (.int (3 : Int32)), .val (.int (j.toInt8.toInt32)), .val (.int ((j >>> ((8 : Int32) &&& 31)).toInt8.toInt32)), .val (.int ((j >>> ((16 : Int32) &&& 31)).toInt8.toInt32)), .val (.ref b34), .val (.ref b35), .unset, .unset, .unset, .unset] [])) st41 ?_
    refine own_st (T' := T41) (g' := (mkF m 81 #[.val (.int i), .val (.int j), .val (.int (3 : Int32)), .val (.int (j.toInt8.toInt32)), .val (.int ((j >>> ((8 : Int32) &&& 31)).toInt8.toInt32)), .val (.int ((j >>> ((16 : Int32) &&& 31)).toInt8.toInt32)), .val (.ref b34), .val (.ref b35), .unset, .unset, .unset, .unset] [(.ref b35)])) (fun _ k => XS.aload X41.here hx rfl (hb hby at_79) rfl rfl k) ?_
    obtain ⟨v42, T42, L42, X42, hQ42, st42⟩ := own_gV X41 hx hZ hown (hw _ (List.mem_of_getElem? (i := 41) rfl)) (hw _ (List.mem_of_getElem? (i := 42) rfl)) (notFace_of_selects (args := #[]) (mvT hZ (hw _ (List.mem_of_getElem? (i := 44) rfl)))) (hw _ (List.mem_of_getElem? (i := 44) rfl)) (hw _ (List.mem_of_getElem? (i := 43) rfl)) (hw _ (List.mem_of_getElem? (i := 7) rfl)) (hw _ (List.mem_of_getElem? (i := 45) rfl)) (by decide) e41 E_b35 (own_byt l Z a0 hw h41 b35 d35 kB34 (3 : Int32) (((2 : Int32), (.int ((((j >>> ((16 : Int32) &&& 31)).toInt8.toInt32)).toInt8.toInt32))) :: (((1 : Int32), (.int ((((j >>> ((8 : Int32) &&& 31)).toInt8.toInt32)).toInt8.toInt32))) :: (((0 : Int32), (.int (((j.toInt8.toInt32)).toInt8.toInt32))) :: []))) (by decide) F_bytes_b35 V_d35 E_d35) (by decide) (by decide) (by decide) (by decide) (Q := (fun v h L => ∃ b, v = some (.ref b) ∧ h41.size ≤ b ∧ Fr h41.size L ∧ Ext h41 h ∧ Arh Z h b kB34 .byte (3 : Int32) (((2 : Int32), (.int ((((j >>> ((16 : Int32) &&& 31)).toInt8.toInt32)).toInt8.toInt32))) :: (((1 : Int32), (.int ((((j >>> ((8 : Int32) &&& 31)).toInt8.toInt32)).toInt8.toInt32))) :: (((0 : Int32), (.int (((j.toInt8.toInt32)).toInt8.toInt32))) :: []))) [] (.int (0 : Int32)) ∧ Exa Z h b "[B")) (W := 0) (g := (mkF m 81 #[.val (.int i), .val (.int j), .val (.int (3 : Int32)), .val (.int (j.toInt8.toInt32)), .val (.int ((j >>> ((8 : Int32) &&& 31)).toInt8.toInt32)), .val (.int ((j >>> ((16 : Int32) &&& 31)).toInt8.toInt32)), .val (.ref b34), .val (.ref b35), .unset, .unset, .unset, .unset] [(.ref b35)])) (argsL := []) (rest := []) rfl (by rw [hml]; rfl) (lenOf own_pd_4 rfl) rfl (by show 2 * 0 + _ ≤ _; exact Nat.le_of_eq rfl) (hb hby at_81)
    obtain ⟨b42, rfl, gq42, NL42, EX42, VV42, EE42⟩ := hQ42
    have ne_b34_b42 : b34 ≠ b42 := Nat.ne_of_lt (Nat.lt_of_lt_of_le V_b34.lt gq42)
    have ne_b35_b42 : b35 ≠ b42 := Nat.ne_of_lt (Nat.lt_of_lt_of_le E_b35.lt gq42)
    have ne_d35_b42 : d35 ≠ b42 := Nat.ne_of_lt (Nat.lt_of_lt_of_le V_d35.lt gq42)
    have g_b42 : h0.size ≤ b42 := Nat.le_trans E0.1 gq42
    have Nf := Fr.app Nf (own_fr_mono E0.1 NL42)
    have V_b34 := V_b34.ext EX42
    have E_b34 := E_b34.ext EX42
    have E_b35 := E_b35.ext EX42
    have F_bytes_b35 := F_bytes_b35.ext EX42
    have F_failure_b35 := F_failure_b35.ext EX42
    have V_d35 := V_d35.ext EX42
    have E_d35 := E_d35.ext EX42
    have E0 := own_ext_tr E0 EX42
    have hk := Nat.le_trans hk EX42.1
    have V_b42 := VV42
    have E_b42 := EE42
    refine own_st (T' := T42) (g' := (mkF m 84 #[.val (.int i), .val (.int j), .val (.int (3 : Int32)), .val (.int (j.toInt8.toInt32)), .val (.int ((j >>> ((8 : Int32) &&& 31)).toInt8.toInt32)), .val (.int ((j >>> ((16 : Int32) &&& 31)).toInt8.toInt32)), .val (.ref b34), .val (.ref b35), .unset, .unset, .unset, .unset] [(.ref b42)])) st42 ?_
    refine own_st (T' := T42) (g' := (mkF m 86 #[.val (.int i), .val (.int j), .val (.int (3 : Int32)), .val (.int (j.toInt8.toInt32)), .val (.int ((j >>> ((8 : Int32) &&& 31)).toInt8.toInt32)), .val (.int ((j >>> ((16 : Int32) &&& 31)).toInt8.toInt32)), .val (.ref b34), .val (.ref b35), .val (.ref b42), .unset, .unset, .unset] [])) (fun _ k => XS.astore X42.here hx rfl (hb hby at_84) rfl rfl (l' := #[.val (.int i), .val (.int j), .val (.int (3 : Int32)), .val (.int (j.toInt8.toInt32)), .val (.int ((j >>> ((8 : Int32) &&& 31)).toInt8.toInt32)), .val (.int ((j >>> ((16 : Int32) &&& 31)).toInt8.toInt32)), .val (.ref b34), .val (.ref b35), .val (.ref b42), .unset, .unset, .unset]) rfl k) ?_
    refine own_st (T' := T42) (g' := (mkF m 88 #[.val (.int i), .val (.int j), .val (.int (3 : Int32)), .val (.int (j.toInt8.toInt32)), .val (.int ((j >>> ((8 : Int32) &&& 31)).toInt8.toInt32)), .val (.int ((j >>> ((16 : Int32) &&& 31)).toInt8.toInt32)), .val (.ref b34), .val (.ref b35), .val (.ref b42), .unset, .unset, .unset] [(.ref b42)])) (fun _ k => XS.aload X42.here hx rfl (hb hby at_86) rfl rfl k) ?_
    have V43 := V_b42
    obtain ⟨cl43, Ar43, qk43, Sz43, Nn43, Hh43, Gg43⟩ := V43
    refine own_st (T' := T42) (g' := (mkF m 89 #[.val (.int i), .val (.int j), .val (.int (3 : Int32)), .val (.int (j.toInt8.toInt32)), .val (.int ((j >>> ((8 : Int32) &&& 31)).toInt8.toInt32)), .val (.int ((j >>> ((16 : Int32) &&& 31)).toInt8.toInt32)), .val (.ref b34), .val (.ref b35), .val (.ref b42), .unset, .unset, .unset] [(.int cl43.slots.size.toInt32)])) (fun _ k => X42.arraylength hx (own_he rfl Ar43.1) (State.isArrayOf_alike hZ.alike Ar43.2.1) (g := (mkF m 88 #[.val (.int i), .val (.int j), .val (.int (3 : Int32)), .val (.int (j.toInt8.toInt32)), .val (.int ((j >>> ((8 : Int32) &&& 31)).toInt8.toInt32)), .val (.int ((j >>> ((16 : Int32) &&& 31)).toInt8.toInt32)), .val (.ref b34), .val (.ref b35), .val (.ref b42), .unset, .unset, .unset] [(.ref b42)])) rfl rfl (hb hby at_88) _ k) ?_
    rw [len_of Sz43 Nn43]
    refine own_st (T' := T42) (g' := (mkF m 90 #[.val (.int i), .val (.int j), .val (.int (3 : Int32)), .val (.int (j.toInt8.toInt32)), .val (.int ((j >>> ((8 : Int32) &&& 31)).toInt8.toInt32)), .val (.int ((j >>> ((16 : Int32) &&& 31)).toInt8.toInt32)), .val (.ref b34), .val (.ref b35), .val (.ref b42), .unset, .unset, .unset] [(.int (3 : Int32)), (.int (3 : Int32))])) (fun _ k => XS.iloadN X42.here hx rfl (hb hby at_89) rfl k) ?_
    refine own_st (T' := T42) (g' := (mkF m 93 #[.val (.int i), .val (.int j), .val (.int (3 : Int32)), .val (.int (j.toInt8.toInt32)), .val (.int ((j >>> ((8 : Int32) &&& 31)).toInt8.toInt32)), .val (.int ((j >>> ((16 : Int32) &&& 31)).toInt8.toInt32)), .val (.ref b34), .val (.ref b35), .val (.ref b42), .unset, .unset, .unset] [])) (fun _ k => XS.icmpNo X42.here hx rfl (hb hby at_90) rfl (by decide) k) ?_
    refine own_st (T' := T42) (g' := (mkF m 94 #[.val (.int i), .val (.int j), .val (.int (3 : Int32)), .val (.int (j.toInt8.toInt32)), .val (.int ((j >>> ((8 : Int32) &&& 31)).toInt8.toInt32)), .val (.int ((j >>> ((16 : Int32) &&& 31)).toInt8.toInt32)), .val (.ref b34), .val (.ref b35), .val (.ref b42), .unset, .unset, .unset] [(.int (3 : Int32))])) (fun _ k => XS.iloadN X42.here hx rfl (hb hby at_93) rfl k) ?_
    refine own_st (T' := T42) (g' := (mkF m 95 #[.val (.int i), .val (.int j), .val (.int (3 : Int32)), .val (.int (j.toInt8.toInt32)), .val (.int ((j >>> ((8 : Int32) &&& 31)).toInt8.toInt32)), .val (.int ((j >>> ((16 : Int32) &&& 31)).toInt8.toInt32)), .val (.ref b34), .val (.ref b35), .val (.ref b42), .unset, .unset, .unset] [(.int (1 : Int32)), (.int (3 : Int32))])) (fun _ k => XS.iconst X42.here hx rfl (hb hby at_94) k) ?_
    refine own_st (T' := T42) (g' := (mkF m 98 #[.val (.int i), .val (.int j), .val (.int (3 : Int32)), .val (.int (j.toInt8.toInt32)), .val (.int ((j >>> ((8 : Int32) &&& 31)).toInt8.toInt32)), .val (.int ((j >>> ((16 : Int32) &&& 31)).toInt8.toInt32)), .val (.ref b34), .val (.ref b35), .val (.ref b42), .unset, .unset, .unset] [])) (fun _ k => XS.icmpNo X42.here hx rfl (hb hby at_95) rfl (by decide) k) ?_
    refine own_st (T' := T42) (g' := (mkF m 100 #[.val (.int i), .val (.int j), .val (.int (3 : Int32)), .val (.int (j.toInt8.toInt32)), .val (.int ((j >>> ((8 : Int32) &&& 31)).toInt8.toInt32)), .val (.int ((j >>> ((16 : Int32) &&& 31)).toInt8.toInt32)), .val (.ref b34), .val (.ref b35), .val (.ref b42), .unset, .unset, .unset] [(.ref b42)])) (fun _ k => XS.aload X42.here hx rfl (hb hby at_98) rfl rfl k) ?_
    refine own_st (T' := T42) (g' := (mkF m 101 #[.val (.int i), .val (.int j), .val (.int (3 : Int32)), .val (.int (j.toInt8.toInt32)), .val (.int ((j >>> ((8 : Int32) &&& 31)).toInt8.toInt32)), .val (.int ((j >>> ((16 : Int32) &&& 31)).toInt8.toInt32)), .val (.ref b34), .val (.ref b35), .val (.ref b42), .unset, .unset, .unset] [(.int (0 : Int32)), (.ref b42)])) (fun _ k => XS.iconst X42.here hx rfl (hb hby at_100) k) ?_
    have V44 := V_b42
    obtain ⟨cl44, Ar44, qk44, Sz44, Nn44, Hh44, Gg44⟩ := V44
    have hin45 : ¬ ((0 : Int32) < 0 ∨ cl44.slots.size ≤ ((0 : Int32)).toNatClampNeg) := inb_of Sz44 ⟨by decide, by decide⟩
    refine own_st (T' := T42) (g' := (mkF m 102 #[.val (.int i), .val (.int j), .val (.int (3 : Int32)), .val (.int (j.toInt8.toInt32)), .val (.int ((j >>> ((8 : Int32) &&& 31)).toInt8.toInt32)), .val (.int ((j >>> ((16 : Int32) &&& 31)).toInt8.toInt32)), .val (.ref b34), .val (.ref b35), .val (.ref b42), .unset, .unset, .unset] [(.int (((j.toInt8.toInt32)).toInt8.toInt32))])) (fun _ k => X42.baloadBytes hx (j := (0 : Int32)) (v := (.int (((j.toInt8.toInt32)).toInt8.toInt32))) (own_he rfl Ar44.1) (State.isArrayOf_alike hZ.alike Ar44.2.1) Ar44.2.2 hin45 (atH Hh44 hin45 rfl) (g := (mkF m 101 #[.val (.int i), .val (.int j), .val (.int (3 : Int32)), .val (.int (j.toInt8.toInt32)), .val (.int ((j >>> ((8 : Int32) &&& 31)).toInt8.toInt32)), .val (.int ((j >>> ((16 : Int32) &&& 31)).toInt8.toInt32)), .val (.ref b34), .val (.ref b35), .val (.ref b42), .unset, .unset, .unset] [(.int (0 : Int32)), (.ref b42)])) rfl rfl (hb hby at_101) _ k) ?_
    refine own_st (T' := T42) (g' := (mkF m 103 #[.val (.int i), .val (.int j), .val (.int (3 : Int32)), .val (.int (j.toInt8.toInt32)), .val (.int ((j >>> ((8 : Int32) &&& 31)).toInt8.toInt32)), .val (.int ((j >>> ((16 : Int32) &&& 31)).toInt8.toInt32)), .val (.ref b34), .val (.ref b35), .val (.ref b42), .unset, .unset, .unset] [(.int (j.toInt8.toInt32)), (.int (((j.toInt8.toInt32)).toInt8.toInt32))])) (fun _ k => XS.iloadN X42.here hx rfl (hb hby at_102) rfl k) ?_
    refine own_st (T' := T42) (g' := (mkF m 106 #[.val (.int i), .val (.int j), .val (.int (3 : Int32)), .val (.int (j.toInt8.toInt32)), .val (.int ((j >>> ((8 : Int32) &&& 31)).toInt8.toInt32)), .val (.int ((j >>> ((16 : Int32) &&& 31)).toInt8.toInt32)), .val (.ref b34), .val (.ref b35), .val (.ref b42), .unset, .unset, .unset] [])) (fun _ k => XS.icmpNo X42.here hx rfl (hb hby at_103) rfl (teq (by simp only [own_i8])).2 k) ?_
    refine own_st (T' := T42) (g' := (mkF m 107 #[.val (.int i), .val (.int j), .val (.int (3 : Int32)), .val (.int (j.toInt8.toInt32)), .val (.int ((j >>> ((8 : Int32) &&& 31)).toInt8.toInt32)), .val (.int ((j >>> ((16 : Int32) &&& 31)).toInt8.toInt32)), .val (.ref b34), .val (.ref b35), .val (.ref b42), .unset, .unset, .unset] [(.int (3 : Int32))])) (fun _ k => XS.iloadN X42.here hx rfl (hb hby at_106) rfl k) ?_
    refine own_st (T' := T42) (g' := (mkF m 108 #[.val (.int i), .val (.int j), .val (.int (3 : Int32)), .val (.int (j.toInt8.toInt32)), .val (.int ((j >>> ((8 : Int32) &&& 31)).toInt8.toInt32)), .val (.int ((j >>> ((16 : Int32) &&& 31)).toInt8.toInt32)), .val (.ref b34), .val (.ref b35), .val (.ref b42), .unset, .unset, .unset] [(.int (2 : Int32)), (.int (3 : Int32))])) (fun _ k => XS.iconst X42.here hx rfl (hb hby at_107) k) ?_
    refine own_st (T' := T42) (g' := (mkF m 111 #[.val (.int i), .val (.int j), .val (.int (3 : Int32)), .val (.int (j.toInt8.toInt32)), .val (.int ((j >>> ((8 : Int32) &&& 31)).toInt8.toInt32)), .val (.int ((j >>> ((16 : Int32) &&& 31)).toInt8.toInt32)), .val (.ref b34), .val (.ref b35), .val (.ref b42), .unset, .unset, .unset] [])) (fun _ k => XS.icmpNo X42.here hx rfl (hb hby at_108) rfl (by decide) k) ?_
    refine own_st (T' := T42) (g' := (mkF m 113 #[.val (.int i), .val (.int j), .val (.int (3 : Int32)), .val (.int (j.toInt8.toInt32)), .val (.int ((j >>> ((8 : Int32) &&& 31)).toInt8.toInt32)), .val (.int ((j >>> ((16 : Int32) &&& 31)).toInt8.toInt32)), .val (.ref b34), .val (.ref b35), .val (.ref b42), .unset, .unset, .unset] [(.ref b42)])) (fun _ k => XS.aload X42.here hx rfl (hb hby at_111) rfl rfl k) ?_
    refine own_st (T' := T42) (g' := (mkF m 114 #[.val (.int i), .val (.int j), .val (.int (3 : Int32)), .val (.int (j.toInt8.toInt32)), .val (.int ((j >>> ((8 : Int32) &&& 31)).toInt8.toInt32)), .val (.int ((j >>> ((16 : Int32) &&& 31)).toInt8.toInt32)), .val (.ref b34), .val (.ref b35), .val (.ref b42), .unset, .unset, .unset] [(.int (1 : Int32)), (.ref b42)])) (fun _ k => XS.iconst X42.here hx rfl (hb hby at_113) k) ?_
    have V46 := V_b42
    obtain ⟨cl46, Ar46, qk46, Sz46, Nn46, Hh46, Gg46⟩ := V46
    have hin47 : ¬ ((1 : Int32) < 0 ∨ cl46.slots.size ≤ ((1 : Int32)).toNatClampNeg) := inb_of Sz46 ⟨by decide, by decide⟩
    refine own_st (T' := T42) (g' := (mkF m 115 #[.val (.int i), .val (.int j), .val (.int (3 : Int32)), .val (.int (j.toInt8.toInt32)), .val (.int ((j >>> ((8 : Int32) &&& 31)).toInt8.toInt32)), .val (.int ((j >>> ((16 : Int32) &&& 31)).toInt8.toInt32)), .val (.ref b34), .val (.ref b35), .val (.ref b42), .unset, .unset, .unset] [(.int ((((j >>> ((8 : Int32) &&& 31)).toInt8.toInt32)).toInt8.toInt32))])) (fun _ k => X42.baloadBytes hx (j := (1 : Int32)) (v := (.int ((((j >>> ((8 : Int32) &&& 31)).toInt8.toInt32)).toInt8.toInt32))) (own_he rfl Ar46.1) (State.isArrayOf_alike hZ.alike Ar46.2.1) Ar46.2.2 hin47 (atH Hh46 hin47 rfl) (g := (mkF m 114 #[.val (.int i), .val (.int j), .val (.int (3 : Int32)), .val (.int (j.toInt8.toInt32)), .val (.int ((j >>> ((8 : Int32) &&& 31)).toInt8.toInt32)), .val (.int ((j >>> ((16 : Int32) &&& 31)).toInt8.toInt32)), .val (.ref b34), .val (.ref b35), .val (.ref b42), .unset, .unset, .unset] [(.int (1 : Int32)), (.ref b42)])) rfl rfl (hb hby at_114) _ k) ?_
    refine own_st (T' := T42) (g' := (mkF m 117 #[.val (.int i), .val (.int j), .val (.int (3 : Int32)), .val (.int (j.toInt8.toInt32)), .val (.int ((j >>> ((8 : Int32) &&& 31)).toInt8.toInt32)), .val (.int ((j >>> ((16 : Int32) &&& 31)).toInt8.toInt32)), .val (.ref b34), .val (.ref b35), .val (.ref b42), .unset, .unset, .unset] [(.int ((j >>> ((8 : Int32) &&& 31)).toInt8.toInt32)), (.int ((((j >>> ((8 : Int32) &&& 31)).toInt8.toInt32)).toInt8.toInt32))])) (fun _ k => XS.iload X42.here hx rfl (hb hby at_115) rfl k) ?_
    refine own_st (T' := T42) (g' := (mkF m 120 #[.val (.int i), .val (.int j), .val (.int (3 : Int32)), .val (.int (j.toInt8.toInt32)), .val (.int ((j >>> ((8 : Int32) &&& 31)).toInt8.toInt32)), .val (.int ((j >>> ((16 : Int32) &&& 31)).toInt8.toInt32)), .val (.ref b34), .val (.ref b35), .val (.ref b42), .unset, .unset, .unset] [])) (fun _ k => XS.icmpNo X42.here hx rfl (hb hby at_117) rfl (teq (by simp only [own_i8])).2 k) ?_
    refine own_st (T' := T42) (g' := (mkF m 121 #[.val (.int i), .val (.int j), .val (.int (3 : Int32)), .val (.int (j.toInt8.toInt32)), .val (.int ((j >>> ((8 : Int32) &&& 31)).toInt8.toInt32)), .val (.int ((j >>> ((16 : Int32) &&& 31)).toInt8.toInt32)), .val (.ref b34), .val (.ref b35), .val (.ref b42), .unset, .unset, .unset] [(.int (3 : Int32))])) (fun _ k => XS.iloadN X42.here hx rfl (hb hby at_120) rfl k) ?_
    refine own_st (T' := T42) (g' := (mkF m 122 #[.val (.int i), .val (.int j), .val (.int (3 : Int32)), .val (.int (j.toInt8.toInt32)), .val (.int ((j >>> ((8 : Int32) &&& 31)).toInt8.toInt32)), .val (.int ((j >>> ((16 : Int32) &&& 31)).toInt8.toInt32)), .val (.ref b34), .val (.ref b35), .val (.ref b42), .unset, .unset, .unset] [(.int (3 : Int32)), (.int (3 : Int32))])) (fun _ k => XS.iconst X42.here hx rfl (hb hby at_121) k) ?_
    refine own_st (T' := T42) (g' := (mkF m 125 #[.val (.int i), .val (.int j), .val (.int (3 : Int32)), .val (.int (j.toInt8.toInt32)), .val (.int ((j >>> ((8 : Int32) &&& 31)).toInt8.toInt32)), .val (.int ((j >>> ((16 : Int32) &&& 31)).toInt8.toInt32)), .val (.ref b34), .val (.ref b35), .val (.ref b42), .unset, .unset, .unset] [])) (fun _ k => XS.icmpNo X42.here hx rfl (hb hby at_122) rfl (by decide) k) ?_
    refine own_st (T' := T42) (g' := (mkF m 127 #[.val (.int i), .val (.int j), .val (.int (3 : Int32)), .val (.int (j.toInt8.toInt32)), .val (.int ((j >>> ((8 : Int32) &&& 31)).toInt8.toInt32)), .val (.int ((j >>> ((16 : Int32) &&& 31)).toInt8.toInt32)), .val (.ref b34), .val (.ref b35), .val (.ref b42), .unset, .unset, .unset] [(.ref b42)])) (fun _ k => XS.aload X42.here hx rfl (hb hby at_125) rfl rfl k) ?_
    refine own_st (T' := T42) (g' := (mkF m 128 #[.val (.int i), .val (.int j), .val (.int (3 : Int32)), .val (.int (j.toInt8.toInt32)), .val (.int ((j >>> ((8 : Int32) &&& 31)).toInt8.toInt32)), .val (.int ((j >>> ((16 : Int32) &&& 31)).toInt8.toInt32)), .val (.ref b34), .val (.ref b35), .val (.ref b42), .unset, .unset, .unset] [(.int (2 : Int32)), (.ref b42)])) (fun _ k => XS.iconst X42.here hx rfl (hb hby at_127) k) ?_
    have V48 := V_b42
    obtain ⟨cl48, Ar48, qk48, Sz48, Nn48, Hh48, Gg48⟩ := V48
    have hin49 : ¬ ((2 : Int32) < 0 ∨ cl48.slots.size ≤ ((2 : Int32)).toNatClampNeg) := inb_of Sz48 ⟨by decide, by decide⟩
    refine own_st (T' := T42) (g' := (mkF m 129 #[.val (.int i), .val (.int j), .val (.int (3 : Int32)), .val (.int (j.toInt8.toInt32)), .val (.int ((j >>> ((8 : Int32) &&& 31)).toInt8.toInt32)), .val (.int ((j >>> ((16 : Int32) &&& 31)).toInt8.toInt32)), .val (.ref b34), .val (.ref b35), .val (.ref b42), .unset, .unset, .unset] [(.int ((((j >>> ((16 : Int32) &&& 31)).toInt8.toInt32)).toInt8.toInt32))])) (fun _ k => X42.baloadBytes hx (j := (2 : Int32)) (v := (.int ((((j >>> ((16 : Int32) &&& 31)).toInt8.toInt32)).toInt8.toInt32))) (own_he rfl Ar48.1) (State.isArrayOf_alike hZ.alike Ar48.2.1) Ar48.2.2 hin49 (atH Hh48 hin49 rfl) (g := (mkF m 128 #[.val (.int i), .val (.int j), .val (.int (3 : Int32)), .val (.int (j.toInt8.toInt32)), .val (.int ((j >>> ((8 : Int32) &&& 31)).toInt8.toInt32)), .val (.int ((j >>> ((16 : Int32) &&& 31)).toInt8.toInt32)), .val (.ref b34), .val (.ref b35), .val (.ref b42), .unset, .unset, .unset] [(.int (2 : Int32)), (.ref b42)])) rfl rfl (hb hby at_128) _ k) ?_
    refine own_st (T' := T42) (g' := (mkF m 131 #[.val (.int i), .val (.int j), .val (.int (3 : Int32)), .val (.int (j.toInt8.toInt32)), .val (.int ((j >>> ((8 : Int32) &&& 31)).toInt8.toInt32)), .val (.int ((j >>> ((16 : Int32) &&& 31)).toInt8.toInt32)), .val (.ref b34), .val (.ref b35), .val (.ref b42), .unset, .unset, .unset] [(.int ((j >>> ((16 : Int32) &&& 31)).toInt8.toInt32)), (.int ((((j >>> ((16 : Int32) &&& 31)).toInt8.toInt32)).toInt8.toInt32))])) (fun _ k => XS.iload X42.here hx rfl (hb hby at_129) rfl k) ?_
    refine own_st (T' := T42) (g' := (mkF m 134 #[.val (.int i), .val (.int j), .val (.int (3 : Int32)), .val (.int (j.toInt8.toInt32)), .val (.int ((j >>> ((8 : Int32) &&& 31)).toInt8.toInt32)), .val (.int ((j >>> ((16 : Int32) &&& 31)).toInt8.toInt32)), .val (.ref b34), .val (.ref b35), .val (.ref b42), .unset, .unset, .unset] [])) (fun _ k => XS.icmpNo X42.here hx rfl (hb hby at_131) rfl (teq (by simp only [own_i8])).2 k) ?_
    refine own_st (T' := T42) (g' := (mkF m 135 #[.val (.int i), .val (.int j), .val (.int (3 : Int32)), .val (.int (j.toInt8.toInt32)), .val (.int ((j >>> ((8 : Int32) &&& 31)).toInt8.toInt32)), .val (.int ((j >>> ((16 : Int32) &&& 31)).toInt8.toInt32)), .val (.ref b34), .val (.ref b35), .val (.ref b42), .unset, .unset, .unset] [(.int (1 : Int32))])) (fun _ k => XS.iconst X42.here hx rfl (hb hby at_134) k) ?_
    refine own_st (T' := T42) (g' := (mkF m 139 #[.val (.int i), .val (.int j), .val (.int (3 : Int32)), .val (.int (j.toInt8.toInt32)), .val (.int ((j >>> ((8 : Int32) &&& 31)).toInt8.toInt32)), .val (.int ((j >>> ((16 : Int32) &&& 31)).toInt8.toInt32)), .val (.ref b34), .val (.ref b35), .val (.ref b42), .unset, .unset, .unset] [(.int (1 : Int32))])) (fun _ k => XS.goto X42.here hx rfl (pc0 := 135) (pc' := 139) rfl (hb hby at_135) (by decide) (by decide) k) ?_
    refine own_st (T' := T42) (g' := (mkF m 141 #[.val (.int i), .val (.int j), .val (.int (3 : Int32)), .val (.int (j.toInt8.toInt32)), .val (.int ((j >>> ((8 : Int32) &&& 31)).toInt8.toInt32)), .val (.int ((j >>> ((16 : Int32) &&& 31)).toInt8.toInt32)), .val (.ref b34), .val (.ref b35), .val (.ref b42), .val (.int (1 : Int32)), .unset, .unset] [])) (fun _ k => XS.istore X42.here hx rfl (hb hby at_139) rfl (l' := #[.val (.int i), .val (.int j), .val (.int (3 : Int32)), .val (.int (j.toInt8.toInt32)), .val (.int ((j >>> ((8 : Int32) &&& 31)).toInt8.toInt32)), .val (.int ((j >>> ((16 : Int32) &&& 31)).toInt8.toInt32)), .val (.ref b34), .val (.ref b35), .val (.ref b42), .val (.int (1 : Int32)), .unset, .unset]) rfl k) ?_
    refine own_st (T' := T42) (g' := (mkF m 143 #[.val (.int i), .val (.int j), .val (.int (3 : Int32)), .val (.int (j.toInt8.toInt32)), .val (.int ((j >>> ((8 : Int32) &&& 31)).toInt8.toInt32)), .val (.int ((j >>> ((16 : Int32) &&& 31)).toInt8.toInt32)), .val (.ref b34), .val (.ref b35), .val (.ref b42), .val (.int (1 : Int32)), .unset, .unset] [(.ref b35)])) (fun _ k => XS.aload X42.here hx rfl (hb hby at_141) rfl rfl k) ?_
    obtain ⟨T50, X50, e50, st50⟩ := own_pure (w := (.int (0 : Int32))) rfl rfl (own_gV X42 hx hZ hown (hw _ (List.mem_of_getElem? (i := 46) rfl)) (hw _ (List.mem_of_getElem? (i := 47) rfl)) (notFace_of_selects (args := #[]) (mvT hZ (hw _ (List.mem_of_getElem? (i := 49) rfl)))) (hw _ (List.mem_of_getElem? (i := 49) rfl)) (hw _ (List.mem_of_getElem? (i := 48) rfl)) (hw _ (List.mem_of_getElem? (i := 7) rfl)) (hw _ (List.mem_of_getElem? (i := 50) rfl)) (by decide) rfl E_b35 (own_isf l Z a0 hw T42.heap b35 F_failure_b35) (by decide) (by decide) (by decide) (by decide) (Q := fun v h L => v = some (.int (0 : Int32)) ∧ L = [] ∧ h = T42.heap) (W := 0) (g := (mkF m 143 #[.val (.int i), .val (.int j), .val (.int (3 : Int32)), .val (.int (j.toInt8.toInt32)), .val (.int ((j >>> ((8 : Int32) &&& 31)).toInt8.toInt32)), .val (.int ((j >>> ((16 : Int32) &&& 31)).toInt8.toInt32)), .val (.ref b34), .val (.ref b35), .val (.ref b42), .val (.int (1 : Int32)), .unset, .unset] [(.ref b35)])) (argsL := []) (rest := []) rfl (by rw [hml]; rfl) (lenOf own_pd_5 rfl) rfl (by show 2 * 0 + _ ≤ _; exact Nat.le_of_eq rfl) (hb hby at_143))
    refine own_st (T' := T50) (g' := (mkF m 146 #[.val (.int i), .val (.int j), .val (.int (3 : Int32)), .val (.int (j.toInt8.toInt32)), .val (.int ((j >>> ((8 : Int32) &&& 31)).toInt8.toInt32)), .val (.int ((j >>> ((16 : Int32) &&& 31)).toInt8.toInt32)), .val (.ref b34), .val (.ref b35), .val (.ref b42), .val (.int (1 : Int32)), .unset, .unset] [(.int (0 : Int32))])) st50 ?_
    refine own_st (T' := T50) (g' := (mkF m 149 #[.val (.int i), .val (.int j), .val (.int (3 : Int32)), .val (.int (j.toInt8.toInt32)), .val (.int ((j >>> ((8 : Int32) &&& 31)).toInt8.toInt32)), .val (.int ((j >>> ((16 : Int32) &&& 31)).toInt8.toInt32)), .val (.ref b34), .val (.ref b35), .val (.ref b42), .val (.int (1 : Int32)), .unset, .unset] [])) (fun _ k => XS.ifNo X50.here hx rfl (hb hby at_146) rfl (by decide) k) ?_
    refine own_st (T' := T50) (g' := (mkF m 150 #[.val (.int i), .val (.int j), .val (.int (3 : Int32)), .val (.int (j.toInt8.toInt32)), .val (.int ((j >>> ((8 : Int32) &&& 31)).toInt8.toInt32)), .val (.int ((j >>> ((16 : Int32) &&& 31)).toInt8.toInt32)), .val (.ref b34), .val (.ref b35), .val (.ref b42), .val (.int (1 : Int32)), .unset, .unset] [(.int (1 : Int32))])) (fun _ k => XS.iconst X50.here hx rfl (hb hby at_149) k) ?_
    refine own_st (T' := T50) (g' := (mkF m 154 #[.val (.int i), .val (.int j), .val (.int (3 : Int32)), .val (.int (j.toInt8.toInt32)), .val (.int ((j >>> ((8 : Int32) &&& 31)).toInt8.toInt32)), .val (.int ((j >>> ((16 : Int32) &&& 31)).toInt8.toInt32)), .val (.ref b34), .val (.ref b35), .val (.ref b42), .val (.int (1 : Int32)), .unset, .unset] [(.int (1 : Int32))])) (fun _ k => XS.goto X50.here hx rfl (pc0 := 150) (pc' := 154) rfl (hb hby at_150) (by decide) (by decide) k) ?_
    refine own_st (T' := T50) (g' := (mkF m 156 #[.val (.int i), .val (.int j), .val (.int (3 : Int32)), .val (.int (j.toInt8.toInt32)), .val (.int ((j >>> ((8 : Int32) &&& 31)).toInt8.toInt32)), .val (.int ((j >>> ((16 : Int32) &&& 31)).toInt8.toInt32)), .val (.ref b34), .val (.ref b35), .val (.ref b42), .val (.int (1 : Int32)), .val (.int (1 : Int32)), .unset] [])) (fun _ k => XS.istore X50.here hx rfl (hb hby at_154) rfl (l' := #[.val (.int i), .val (.int j), .val (.int (3 : Int32)), .val (.int (j.toInt8.toInt32)), .val (.int ((j >>> ((8 : Int32) &&& 31)).toInt8.toInt32)), .val (.int ((j >>> ((16 : Int32) &&& 31)).toInt8.toInt32)), .val (.ref b34), .val (.ref b35), .val (.ref b42), .val (.int (1 : Int32)), .val (.int (1 : Int32)), .unset]) rfl k) ?_
    refine own_st (T' := T50) (g' := (mkF m 158 #[.val (.int i), .val (.int j), .val (.int (3 : Int32)), .val (.int (j.toInt8.toInt32)), .val (.int ((j >>> ((8 : Int32) &&& 31)).toInt8.toInt32)), .val (.int ((j >>> ((16 : Int32) &&& 31)).toInt8.toInt32)), .val (.ref b34), .val (.ref b35), .val (.ref b42), .val (.int (1 : Int32)), .val (.int (1 : Int32)), .unset] [(.ref b35)])) (fun _ k => XS.aload X50.here hx rfl (hb hby at_156) rfl rfl k) ?_
    obtain ⟨T51, X51, e51, st51⟩ := own_pure (w := (.ref a_SUCCEEDED)) rfl rfl (own_gV X50 hx hZ hown (hw _ (List.mem_of_getElem? (i := 51) rfl)) (hw _ (List.mem_of_getElem? (i := 52) rfl)) (notFace_of_selects (args := #[]) (mvT hZ (hw _ (List.mem_of_getElem? (i := 54) rfl)))) (hw _ (List.mem_of_getElem? (i := 54) rfl)) (hw _ (List.mem_of_getElem? (i := 53) rfl)) (hw _ (List.mem_of_getElem? (i := 7) rfl)) (hw _ (List.mem_of_getElem? (i := 55) rfl)) (by decide) e50 E_b35 (own_stat l Z a0 hw T42.heap b35 a_SUCCEEDED F_failure_b35 (S_SUCCEEDED.ext E0)) (by decide) (by decide) (by decide) (by decide) (Q := fun v h L => v = some (.ref a_SUCCEEDED) ∧ L = [] ∧ h = T42.heap) (W := 0) (g := (mkF m 158 #[.val (.int i), .val (.int j), .val (.int (3 : Int32)), .val (.int (j.toInt8.toInt32)), .val (.int ((j >>> ((8 : Int32) &&& 31)).toInt8.toInt32)), .val (.int ((j >>> ((16 : Int32) &&& 31)).toInt8.toInt32)), .val (.ref b34), .val (.ref b35), .val (.ref b42), .val (.int (1 : Int32)), .val (.int (1 : Int32)), .unset] [(.ref b35)])) (argsL := []) (rest := []) rfl (by rw [hml]; rfl) (lenOf own_pd_6 rfl) rfl (by show 2 * 0 + _ ≤ _; exact Nat.le_of_eq rfl) (hb hby at_158))
    refine own_st (T' := T51) (g' := (mkF m 161 #[.val (.int i), .val (.int j), .val (.int (3 : Int32)), .val (.int (j.toInt8.toInt32)), .val (.int ((j >>> ((8 : Int32) &&& 31)).toInt8.toInt32)), .val (.int ((j >>> ((16 : Int32) &&& 31)).toInt8.toInt32)), .val (.ref b34), .val (.ref b35), .val (.ref b42), .val (.int (1 : Int32)), .val (.int (1 : Int32)), .unset] [(.ref a_SUCCEEDED)])) st51 ?_
    obtain ⟨T52, X52, e52, st52⟩ := getS2 X51 hx hZ hown (host := "") (Or.inl (hw _ (List.mem_of_getElem? (i := 59) rfl))) Via.refl e51 (S_SUCCEEDED.ext E0) (g := (mkF m 161 #[.val (.int i), .val (.int j), .val (.int (3 : Int32)), .val (.int (j.toInt8.toInt32)), .val (.int ((j >>> ((8 : Int32) &&& 31)).toInt8.toInt32)), .val (.int ((j >>> ((16 : Int32) &&& 31)).toInt8.toInt32)), .val (.ref b34), .val (.ref b35), .val (.ref b42), .val (.int (1 : Int32)), .val (.int (1 : Int32)), .unset] [(.ref a_SUCCEEDED)])) rfl (hb hby at_161)
    refine own_st (T' := T52) (g' := (mkF m 164 #[.val (.int i), .val (.int j), .val (.int (3 : Int32)), .val (.int (j.toInt8.toInt32)), .val (.int ((j >>> ((8 : Int32) &&& 31)).toInt8.toInt32)), .val (.int ((j >>> ((16 : Int32) &&& 31)).toInt8.toInt32)), .val (.ref b34), .val (.ref b35), .val (.ref b42), .val (.int (1 : Int32)), .val (.int (1 : Int32)), .unset] [(.ref a_SUCCEEDED), (.ref a_SUCCEEDED)])) st52 ?_
    refine own_st (T' := T52) (g' := (mkF m 167 #[.val (.int i), .val (.int j), .val (.int (3 : Int32)), .val (.int (j.toInt8.toInt32)), .val (.int ((j >>> ((8 : Int32) &&& 31)).toInt8.toInt32)), .val (.int ((j >>> ((16 : Int32) &&& 31)).toInt8.toInt32)), .val (.ref b34), .val (.ref b35), .val (.ref b42), .val (.int (1 : Int32)), .val (.int (1 : Int32)), .unset] [])) (fun _ k => Jvm.RoadKit.acmp (g := (mkF m 164 #[.val (.int i), .val (.int j), .val (.int (3 : Int32)), .val (.int (j.toInt8.toInt32)), .val (.int ((j >>> ((8 : Int32) &&& 31)).toInt8.toInt32)), .val (.int ((j >>> ((16 : Int32) &&& 31)).toInt8.toInt32)), .val (.ref b34), .val (.ref b35), .val (.ref b42), .val (.int (1 : Int32)), .val (.int (1 : Int32)), .unset] [(.ref a_SUCCEEDED), (.ref a_SUCCEEDED)])) X52 hx rfl rfl rfl (pc0 := 164) (pc' := 167) (same := true) rfl (hb hby at_164) rfl (decide_eq_true rfl) (by decide) (by decide) k) ?_
    refine own_st (T' := T52) (g' := (mkF m 168 #[.val (.int i), .val (.int j), .val (.int (3 : Int32)), .val (.int (j.toInt8.toInt32)), .val (.int ((j >>> ((8 : Int32) &&& 31)).toInt8.toInt32)), .val (.int ((j >>> ((16 : Int32) &&& 31)).toInt8.toInt32)), .val (.ref b34), .val (.ref b35), .val (.ref b42), .val (.int (1 : Int32)), .val (.int (1 : Int32)), .unset] [(.int (1 : Int32))])) (fun _ k => XS.iconst X52.here hx rfl (hb hby at_167) k) ?_
    refine own_st (T' := T52) (g' := (mkF m 172 #[.val (.int i), .val (.int j), .val (.int (3 : Int32)), .val (.int (j.toInt8.toInt32)), .val (.int ((j >>> ((8 : Int32) &&& 31)).toInt8.toInt32)), .val (.int ((j >>> ((16 : Int32) &&& 31)).toInt8.toInt32)), .val (.ref b34), .val (.ref b35), .val (.ref b42), .val (.int (1 : Int32)), .val (.int (1 : Int32)), .unset] [(.int (1 : Int32))])) (fun _ k => XS.goto X52.here hx rfl (pc0 := 168) (pc' := 172) rfl (hb hby at_168) (by decide) (by decide) k) ?_
    refine own_st (T' := T52) (g' := (mkF m 174 #[.val (.int i), .val (.int j), .val (.int (3 : Int32)), .val (.int (j.toInt8.toInt32)), .val (.int ((j >>> ((8 : Int32) &&& 31)).toInt8.toInt32)), .val (.int ((j >>> ((16 : Int32) &&& 31)).toInt8.toInt32)), .val (.ref b34), .val (.ref b35), .val (.ref b42), .val (.int (1 : Int32)), .val (.int (1 : Int32)), .val (.int (1 : Int32))] [])) (fun _ k => XS.istore X52.here hx rfl (hb hby at_172) rfl (l' := #[.val (.int i), .val (.int j), .val (.int (3 : Int32)), .val (.int (j.toInt8.toInt32)), .val (.int ((j >>> ((8 : Int32) &&& 31)).toInt8.toInt32)), .val (.int ((j >>> ((16 : Int32) &&& 31)).toInt8.toInt32)), .val (.ref b34), .val (.ref b35), .val (.ref b42), .val (.int (1 : Int32)), .val (.int (1 : Int32)), .val (.int (1 : Int32))]) rfl k) ?_
    refine own_st (T' := T52) (g' := (mkF m 176 #[.val (.int i), .val (.int j), .val (.int (3 : Int32)), .val (.int (j.toInt8.toInt32)), .val (.int ((j >>> ((8 : Int32) &&& 31)).toInt8.toInt32)), .val (.int ((j >>> ((16 : Int32) &&& 31)).toInt8.toInt32)), .val (.ref b34), .val (.ref b35), .val (.ref b42), .val (.int (1 : Int32)), .val (.int (1 : Int32)), .val (.int (1 : Int32))] [(.int (1 : Int32))])) (fun _ k => XS.iload X52.here hx rfl (hb hby at_174) rfl k) ?_
    refine own_st (T' := T52) (g' := (mkF m 179 #[.val (.int i), .val (.int j), .val (.int (3 : Int32)), .val (.int (j.toInt8.toInt32)), .val (.int ((j >>> ((8 : Int32) &&& 31)).toInt8.toInt32)), .val (.int ((j >>> ((16 : Int32) &&& 31)).toInt8.toInt32)), .val (.ref b34), .val (.ref b35), .val (.ref b42), .val (.int (1 : Int32)), .val (.int (1 : Int32)), .val (.int (1 : Int32))] [])) (fun _ k => XS.ifNo X52.here hx rfl (hb hby at_176) rfl (by decide) k) ?_
    refine own_st (T' := T52) (g' := (mkF m 181 #[.val (.int i), .val (.int j), .val (.int (3 : Int32)), .val (.int (j.toInt8.toInt32)), .val (.int ((j >>> ((8 : Int32) &&& 31)).toInt8.toInt32)), .val (.int ((j >>> ((16 : Int32) &&& 31)).toInt8.toInt32)), .val (.ref b34), .val (.ref b35), .val (.ref b42), .val (.int (1 : Int32)), .val (.int (1 : Int32)), .val (.int (1 : Int32))] [(.int (1 : Int32))])) (fun _ k => XS.iload X52.here hx rfl (hb hby at_179) rfl k) ?_
    refine own_st (T' := T52) (g' := (mkF m 184 #[.val (.int i), .val (.int j), .val (.int (3 : Int32)), .val (.int (j.toInt8.toInt32)), .val (.int ((j >>> ((8 : Int32) &&& 31)).toInt8.toInt32)), .val (.int ((j >>> ((16 : Int32) &&& 31)).toInt8.toInt32)), .val (.ref b34), .val (.ref b35), .val (.ref b42), .val (.int (1 : Int32)), .val (.int (1 : Int32)), .val (.int (1 : Int32))] [])) (fun _ k => XS.ifNo X52.here hx rfl (hb hby at_181) rfl (by decide) k) ?_
    refine own_st (T' := T52) (g' := (mkF m 186 #[.val (.int i), .val (.int j), .val (.int (3 : Int32)), .val (.int (j.toInt8.toInt32)), .val (.int ((j >>> ((8 : Int32) &&& 31)).toInt8.toInt32)), .val (.int ((j >>> ((16 : Int32) &&& 31)).toInt8.toInt32)), .val (.ref b34), .val (.ref b35), .val (.ref b42), .val (.int (1 : Int32)), .val (.int (1 : Int32)), .val (.int (1 : Int32))] [(.int (1 : Int32))])) (fun _ k => XS.iload X52.here hx rfl (hb hby at_184) rfl k) ?_
    refine own_st (T' := T52) (g' := (mkF m 189 #[.val (.int i), .val (.int j), .val (.int (3 : Int32)), .val (.int (j.toInt8.toInt32)), .val (.int ((j >>> ((8 : Int32) &&& 31)).toInt8.toInt32)), .val (.int ((j >>> ((16 : Int32) &&& 31)).toInt8.toInt32)), .val (.ref b34), .val (.ref b35), .val (.ref b42), .val (.int (1 : Int32)), .val (.int (1 : Int32)), .val (.int (1 : Int32))] [])) (fun _ k => XS.ifNo X52.here hx rfl (hb hby at_186) rfl (by decide) k) ?_
    refine own_st (T' := T52) (g' := (mkF m 190 #[.val (.int i), .val (.int j), .val (.int (3 : Int32)), .val (.int (j.toInt8.toInt32)), .val (.int ((j >>> ((8 : Int32) &&& 31)).toInt8.toInt32)), .val (.int ((j >>> ((16 : Int32) &&& 31)).toInt8.toInt32)), .val (.ref b34), .val (.ref b35), .val (.ref b42), .val (.int (1 : Int32)), .val (.int (1 : Int32)), .val (.int (1 : Int32))] [(.int (1 : Int32))])) (fun _ k => XS.iconst X52.here hx rfl (hb hby at_189) k) ?_
    refine own_st (T' := T52) (g' := (mkF m 194 #[.val (.int i), .val (.int j), .val (.int (3 : Int32)), .val (.int (j.toInt8.toInt32)), .val (.int ((j >>> ((8 : Int32) &&& 31)).toInt8.toInt32)), .val (.int ((j >>> ((16 : Int32) &&& 31)).toInt8.toInt32)), .val (.ref b34), .val (.ref b35), .val (.ref b42), .val (.int (1 : Int32)), .val (.int (1 : Int32)), .val (.int (1 : Int32))] [(.int (1 : Int32))])) (fun _ k => XS.goto X52.here hx rfl (pc0 := 190) (pc' := 194) rfl (hb hby at_190) (by decide) (by decide) k) ?_
    exact own_retW X52 hx hlk hS (by rw [e52]; exact hk) hret rfl (Or.inl ⟨rfl, Or.inr (Or.inl rfl), _, rfl⟩) (hb hby at_194) (by decide) (by decide) ⟨rfl, Nf⟩
/-! ### from the case's words to the owed theorems -/
theorem own_comes (H : ∀ (l : Launch) (s : State) (args : Array Value), Fit s → (∀ d ∈ tables_1, d.before args s = true) → given_1.value args s none s [] = some true → narrow_1.value args s none s [] = some true → own_MetW l s s.heap tables_1 room_1 x code maxLocals ret args (fun v h L => v = some (.int 1) ∧ Fr s.heap.size L))
    {Post : Tables → Env → Array Value → State → Outcome → State → Prop} (hpost : ∀ tb e args s v u, (limb_1_1.after args s (.returned v) u = true ∧ limb_1_2.after args s (.returned v) u = true) → ReturnedEndW s (.returned v) u (Jvm.fieldLocs frame_1_writes args s ++ Jvm.arrayLocs frame_1_arrays args s ++ Jvm.staticLocs frame_1_statics s) 24 1152 → Post tb e args s (.returned v) u) :
    ArmFor flags0 classFile x code maxLocals ret World_1 tables_1 room_1 Calls_1 rest_1 Pre_1 Post := by
  intro l hfl _ _ p e ha hc hk s m args below hf hA hF happ hP
  obtain ⟨hcalls, hrest, hpre⟩ := hP
  obtain ⟨-, -, -, hnamed, -, -, -, hat⟩ := (Spec.applies_iff hf).mp happ
  obtain ⟨hg, hn⟩ := and_e (Cond.before_iff.mp (show (Jvm.Cond.and given_1 narrow_1).before args s = true from hpre))
  have hw := fun d (hd : d ∈ tables_1) => atoms_spec (ws := Jvm.Cond.code x code maxLocals ret :: tables_1) hat d (List.mem_cons_of_mem _ hd)
  have hfit : Fit s := fun {y c} hc i hi => by
    obtain ⟨ha, rfl⟩ := Array.getElem?_eq_some_iff.mp hc
    have q := List.all_eq_true.mp ((Array.all_eq_true_iff_forall_mem.mp hF) _ (Array.getElem_mem ha)) i (List.mem_range.mpr hi)
    simpa [Array.getElem?_eq_getElem hi] using q
  obtain ⟨n, o, h1, h2, h3, _, L, rfl, ⟨rfl, N⟩, hq⟩ := H l s args hfit hw hg hn p e ha hc hk s m args below hf ((Spec.applies_iff_loose hf).mp happ).1 ⟨rfl, State.Warmed39.refl s, rfl⟩ trivial
  exact ⟨n, _, h1, h2, h3, hpost _ _ _ _ _ _ ⟨Cond.after_iff.mpr rfl, Cond.after_iff.mpr (eq_i res_at (Term.int_eval (1)) rfl)⟩ ⟨hq.1, hq.2.1, hq.2.2.1, (hq.2.2.2.sift fun y hy => Or.inr (N y hy)).mono (by decide) (by decide)⟩⟩
set_option maxRecDepth 65536 in
theorem own_law (l : Launch) (s : State) (args : Array Value) (hfit : Fit s) (hw : ∀ d ∈ tables_1, d.before args s = true) (hg : given_1.value args s none s [] = some true) (hn : narrow_1.value args s none s [] = some true) :
    own_MetW l s s.heap tables_1 room_1 x code maxLocals ret args (fun v h L => v = some (.int 1) ∧ Fr s.heap.size L) := by
  obtain ⟨i, j, rfl⟩ := own_args2 (k := 0) hg
  obtain ⟨a_SUCCEEDED, V_SUCCEEDED, E_SUCCEEDED, S_SUCCEEDED⟩ := own_sx hn (hw _ (List.mem_of_getElem? (i := 57) rfl)) (hw _ (List.mem_of_getElem? (i := 58) rfl))
  exact (own_lawP l s _ hw s.heap a_SUCCEEDED S_SUCCEEDED E_SUCCEEDED i j)
theorem main_1_1 : Claimed_1_1 := own_comes own_law fun _ _ _ _ _ _ h hF => ⟨h.1, hF⟩
theorem main_1_2 : Claimed_1_2 := own_comes own_law fun _ _ _ _ _ _ h hF => ⟨h.2, hF⟩
end Jvm.Pilot.@@N@@
namespace Jvm.Pilot.@@N@@
open Jvm Jvm.ClassFile Sem Op Lib Jvm.Free Jvm.Stand Jvm.Pilot.@@N@@.Jvm.D
/-! MADE BY PROGRAM (witnessworld.py) out of the Statement's table words and the real class files: 17 classes; the members and pool entries that the words name. The judged class is class 1, her method 2. -/
namespace start1
open Jvm.ClassFile
def u (s : String) : CpInfo := .utf8 (stringToUtf16 s)
/-- a pool by its gaps: so many unusable entries, then the entry; so many at the end -/
def gap : Nat → List CpInfo → List CpInfo
  | 0, r => r
  | n + 1, r => .unusable :: gap n r
def poolList (es : List (Nat × CpInfo)) (last : Nat) : List CpInfo := es.foldr (fun e r => gap e.1 (e.2 :: r)) (gap last [])
def pool (es : List (Nat × CpInfo)) (last : Nat) : Array CpInfo := ⟨poolList es last⟩
def fileOf (pool : Array CpInfo) (this : Nat) (attrs : Array Attribute := #[]) (ms : Array MethodInfo := #[]) (fl : Nat := 33) (sup : Nat := 0) (ifs : Array Nat := #[]) (fds : Array FieldInfo := #[]) : ClassFile where
  minorVersion := 0
  majorVersion := 65
  constantPool := pool
  accessFlags := fl
  thisClass := this
  superClass := sup
  interfaces := ifs
  fields := fds
  methods := ms
  attributes := attrs
def plain (name : String) (sup : Option ClassId) : Class where
  name := name
  kind := .ordinary
  loader := none
  accessFlags := 33
  super := sup
  interfaces := #[]
  cf := none
  fields := #[]
  methods := #[]
  instanceTypes := #[]
  staticTypes := #[]
  resolved := #[]
  callSites := []
  init := .initialized
  statics := none
  mirror := none

def pool0 : Array CpInfo := pool [(5, u "<init>"), (0, u "()V"), (1, .class_ 10), (1, u "java/lang/Object"), (85, u "clone"), (0, u "()Ljava/lang/Object;")] 26

def k0c0 : Code := { maxStack := 0, maxLocals := 1, code := object_method_1_code, exceptionTable := #[], attributes := #[] }
def k0m0 : Method := { name := "<init>", desc := "()V", sig := { parameters := [], returnType := none }, accessFlags := 1, code := some k0c0 }
def k0m1 : Method := { name := "clone", desc := "()Ljava/lang/Object;", sig := { parameters := [], returnType := some (.object "java/lang/Object") }, accessFlags := 260, code := none }
/-- java/lang/Object -/
def k0 : Class := { plain "java/lang/Object" none with
  accessFlags := 33
  interfaces := #[]
  cf := some (fileOf pool0 8 #[] #[{ accessFlags := 1, nameIndex := 5, descriptorIndex := 6, attributes := #[] }, { accessFlags := 260, nameIndex := 96, descriptorIndex := 97, attributes := #[] }] 33 0 #[] #[])
  fields := #[]
  methods := #[k0m0, k0m1]
  instanceTypes := #[]
  staticTypes := #[]
  resolved := Array.replicate 124 none
  statics := none }

def pool1 : Array CpInfo := pool [(2, .class_ 4), (1, u "java/lang/Object"), (0, u "<init>"), (0, u "()V"), (0, .methodref 8 9), (0, .class_ 10), (0, .nameAndType 11 12), (0, u "com/example/earnest_key/earnestkey/OutcomeSuccessPinLaw"), (0, u "make"), (0, u "(IBBB)[B"), (0, .methodref 14 15), (0, .class_ 16), (0, .nameAndType 17 18), (0, u "com/example/earnest_key/earnestkey/Outcome"), (0, u "success"), (0, u "([B)Lcom/example/earnest_key/earnestkey/Outcome;"), (0, .methodref 14 20), (0, .nameAndType 21 22), (0, u "bytes"), (0, u "()[B"), (0, .methodref 14 24), (0, .nameAndType 25 26), (0, u "isFailure"), (0, u "()Z"), (0, .methodref 14 28), (0, .nameAndType 29 30), (0, u "state"), (0, u "()Lcom/example/earnest_key/earnestkey/RecordState;"), (0, .fieldref 32 33), (0, .class_ 34), (0, .nameAndType 35 36), (0, u "com/example/earnest_key/earnestkey/RecordState"), (0, u "SUCCEEDED"), (0, u "Lcom/example/earnest_key/earnestkey/RecordState;"), (3, u "law"), (0, u "(II)Z")] 4

def k1m0 : Method := { name := "<init>", desc := "()V", sig := { parameters := [], returnType := none }, accessFlags := 1, code := none }
def k1c1 : Code := { maxStack := 4, maxLocals := 4, code := method_2_code, exceptionTable := #[], attributes := #[] }
def k1m1 : Method := { name := "make", desc := "(IBBB)[B", sig := { parameters := [.int, .byte, .byte, .byte], returnType := some (.array .byte) }, accessFlags := 10, code := some k1c1 }
def k1c2 : Code := { maxStack := 4, maxLocals := 12, code := code, exceptionTable := #[], attributes := #[] }
def k1m2 : Method := { name := "law", desc := "(II)Z", sig := { parameters := [.int, .int], returnType := some .boolean }, accessFlags := 9, code := some k1c2 }
/-- com/example/earnest_key/earnestkey/OutcomeSuccessPinLaw -/
def k1 : Class := { plain "com/example/earnest_key/earnestkey/OutcomeSuccessPinLaw" (some 0) with
  accessFlags := 49
  interfaces := #[]
  cf := some (fileOf pool1 8 #[] #[{ accessFlags := 1, nameIndex := 5, descriptorIndex := 6, attributes := #[] }, { accessFlags := 10, nameIndex := 11, descriptorIndex := 12, attributes := #[] }, { accessFlags := 9, nameIndex := 40, descriptorIndex := 41, attributes := #[] }] 49 2 #[] #[])
  fields := #[]
  methods := #[k1m0, k1m1, k1m2]
  instanceTypes := #[]
  staticTypes := #[]
  resolved := Array.replicate 46 none
  statics := none }

def pool2 : Array CpInfo := pool [(1, .methodref 2 3), (0, .class_ 4), (0, .nameAndType 5 6), (0, u "java/lang/Object"), (0, u "<init>"), (0, u "()V"), (0, .fieldref 8 9), (0, .class_ 10), (0, .nameAndType 11 12), (0, u "com/example/earnest_key/earnestkey/Outcome"), (0, u "bytes"), (0, u "[B"), (0, .fieldref 8 14), (0, .nameAndType 15 16), (0, u "failure"), (0, u "Z"), (0, .string 11), (0, .methodref 19 20), (0, .class_ 21), (0, .nameAndType 22 23), (0, u "java/util/Objects"), (0, u "requireNonNull"), (0, u "(Ljava/lang/Object;Ljava/lang/String;)Ljava/lang/Object;"), (0, .class_ 12), (0, .methodref 24 26), (0, .nameAndType 27 28), (0, u "clone"), (0, u "()Ljava/lang/Object;"), (0, .methodref 8 30), (0, .nameAndType 5 31), (0, u "([BZ)V"), (5, u "()[B"), (2, u "state"), (0, u "()Lcom/example/earnest_key/earnestkey/RecordState;"), (1, .class_ 45), (1, u "com/example/earnest_key/earnestkey/RecordState"), (1, u "Lcom/example/earnest_key/earnestkey/RecordState;"), (0, .fieldref 43 49), (0, .nameAndType 50 47), (0, u "SUCCEEDED"), (13, u "success"), (0, u "([B)Lcom/example/earnest_key/earnestkey/Outcome;"), (3, u "isFailure"), (0, u "()Z")] 19

def k2c0 : Code := { maxStack := 2, maxLocals := 3, code := prog_11_method_1_code, exceptionTable := #[], attributes := #[] }
def k2m0 : Method := { name := "<init>", desc := "([BZ)V", sig := { parameters := [(.array .byte), .boolean], returnType := none }, accessFlags := 2, code := some k2c0 }
def k2c1 : Code := { maxStack := 4, maxLocals := 1, code := prog_11_method_2_code, exceptionTable := #[], attributes := #[] }
def k2m1 : Method := { name := "success", desc := "([B)Lcom/example/earnest_key/earnestkey/Outcome;", sig := { parameters := [(.array .byte)], returnType := some (.object "com/example/earnest_key/earnestkey/Outcome") }, accessFlags := 9, code := some k2c1 }
def k2c2 : Code := { maxStack := 1, maxLocals := 1, code := prog_11_method_5_code, exceptionTable := #[], attributes := #[] }
def k2m2 : Method := { name := "bytes", desc := "()[B", sig := { parameters := [], returnType := some (.array .byte) }, accessFlags := 1, code := some k2c2 }
def k2c3 : Code := { maxStack := 1, maxLocals := 1, code := prog_11_method_6_code, exceptionTable := #[], attributes := #[] }
def k2m3 : Method := { name := "isFailure", desc := "()Z", sig := { parameters := [], returnType := some .boolean }, accessFlags := 1, code := some k2c3 }
def k2c4 : Code := { maxStack := 1, maxLocals := 1, code := prog_11_method_7_code, exceptionTable := #[], attributes := #[] }
def k2m4 : Method := { name := "state", desc := "()Lcom/example/earnest_key/earnestkey/RecordState;", sig := { parameters := [], returnType := some (.object "com/example/earnest_key/earnestkey/RecordState") }, accessFlags := 1, code := some k2c4 }
/-- com/example/earnest_key/earnestkey/Outcome -/
def k2 : Class := { plain "com/example/earnest_key/earnestkey/Outcome" (some 0) with
  accessFlags := 33
  interfaces := #[]
  cf := some (fileOf pool2 8 #[] #[{ accessFlags := 2, nameIndex := 5, descriptorIndex := 31, attributes := #[] }, { accessFlags := 9, nameIndex := 64, descriptorIndex := 65, attributes := #[] }, { accessFlags := 1, nameIndex := 11, descriptorIndex := 37, attributes := #[] }, { accessFlags := 1, nameIndex := 69, descriptorIndex := 70, attributes := #[] }, { accessFlags := 1, nameIndex := 40, descriptorIndex := 41, attributes := #[] }] 33 2 #[] #[{ accessFlags := 18, nameIndex := 11, descriptorIndex := 12, attributes := #[] }, { accessFlags := 18, nameIndex := 15, descriptorIndex := 16, attributes := #[] }])
  fields := #[{ name := "bytes", type := (.array .byte), accessFlags := 18, slot := 0, constantValue := 0 }, { name := "failure", type := .boolean, accessFlags := 18, slot := 1, constantValue := 0 }]
  methods := #[k2m0, k2m1, k2m2, k2m3, k2m4]
  instanceTypes := #[(.array .byte), .boolean]
  staticTypes := #[]
  resolved := Array.replicate 90 none
  statics := none }

def pool3 : Array CpInfo := pool [(1, .class_ 2), (0, u "java/io/Serializable"), (0, .class_ 4), (0, u "java/lang/Object")] 2

/-- java/io/Serializable -/
def k3 : Class := { plain "java/io/Serializable" (some 0) with
  accessFlags := 1537
  interfaces := #[]
  cf := some (fileOf pool3 1 #[] #[] 1537 3 #[] #[])
  fields := #[]
  methods := #[]
  instanceTypes := #[]
  staticTypes := #[]
  resolved := Array.replicate 7 none
  statics := none }

def pool4 : Array CpInfo := pool [(1, .class_ 2), (0, u "java/lang/Comparable"), (0, .class_ 4), (0, u "java/lang/Object")] 7

/-- java/lang/Comparable -/
def k4 : Class := { plain "java/lang/Comparable" (some 0) with
  accessFlags := 1537
  interfaces := #[]
  cf := some (fileOf pool4 1 #[] #[] 1537 3 #[] #[])
  fields := #[]
  methods := #[]
  instanceTypes := #[]
  staticTypes := #[]
  resolved := Array.replicate 12 none
  statics := none }

def pool5 : Array CpInfo := pool [(2, .class_ 4), (1, u "java/lang/CharSequence"), (42, .class_ 48), (0, u "java/lang/CharSequence$1CodePointIterator"), (10, .class_ 60), (0, u "java/lang/CharSequence$1CharIterator"), (5, .class_ 67), (0, u "java/lang/Object")] 63

/-- java/lang/CharSequence -/
def k5 : Class := { plain "java/lang/CharSequence" (some 0) with
  accessFlags := 1537
  interfaces := #[]
  cf := some (fileOf pool5 2 #[.nestMembers #[47, 59]] #[] 1537 66 #[] #[])
  fields := #[]
  methods := #[]
  instanceTypes := #[]
  staticTypes := #[]
  resolved := Array.replicate 131 none
  statics := none }

def pool6 : Array CpInfo := pool [(1, .class_ 2), (0, u "java/lang/constant/Constable"), (0, .class_ 4), (0, u "java/lang/Object")] 6

/-- java/lang/constant/Constable -/
def k6 : Class := { plain "java/lang/constant/Constable" (some 0) with
  accessFlags := 1537
  interfaces := #[]
  cf := some (fileOf pool6 1 #[] #[] 1537 3 #[] #[])
  fields := #[]
  methods := #[]
  instanceTypes := #[]
  staticTypes := #[]
  resolved := Array.replicate 11 none
  statics := none }

def pool7 : Array CpInfo := pool [(1, .class_ 2), (0, u "java/lang/constant/ConstantDesc"), (0, .class_ 4), (0, u "java/lang/Object")] 32

/-- java/lang/constant/ConstantDesc -/
def k7 : Class := { plain "java/lang/constant/ConstantDesc" (some 0) with
  accessFlags := 1537
  interfaces := #[]
  cf := some (fileOf pool7 1 #[] #[] 1537 3 #[] #[])
  fields := #[]
  methods := #[]
  instanceTypes := #[]
  staticTypes := #[]
  resolved := Array.replicate 37 none
  statics := none }

def pool8 : Array CpInfo := pool [(2, .class_ 4), (1, u "java/lang/Object"), (0, u "<init>"), (0, u "()V"), (3, .class_ 12), (1, u "java/lang/String"), (0, u "value"), (0, u "[B"), (2, u "coder"), (0, u "B"), (2, u "hash"), (0, u "I"), (2, u "hashIsZero"), (0, u "Z"), (13, u "COMPACT_STRINGS"), (534, .class_ 576), (0, u "java/lang/CharSequence"), (22, u "CASE_INSENSITIVE_ORDER"), (0, u "Ljava/util/Comparator;"), (500, u "serialPersistentFields"), (0, u "[Ljava/io/ObjectStreamField;"), (0, .class_ 1104), (0, u "java/lang/String$CaseInsensitiveComparator"), (1, .class_ 1107), (0, u "java/io/Serializable"), (0, .class_ 1109), (0, u "java/lang/Comparable"), (0, .class_ 1111), (0, u "java/lang/constant/Constable"), (0, .class_ 1113), (0, u "java/lang/constant/ConstantDesc"), (2, u "serialVersionUID"), (0, u "J"), (3, u "REPL"), (0, u "C"), (2, u "LATIN1"), (1, u "UTF16")] 323

def k8m0 : Method := { name := "<init>", desc := "()V", sig := { parameters := [], returnType := none }, accessFlags := 1, code := none }
/-- java/lang/String -/
def k8 : Class := { plain "java/lang/String" (some 0) with
  accessFlags := 49
  interfaces := #[3, 4, 5, 6, 7]
  cf := some (fileOf pool8 10 #[.nestMembers #[1103]] #[{ accessFlags := 1, nameIndex := 5, descriptorIndex := 6, attributes := #[] }] 49 2 #[1106, 1108, 575, 1110, 1112] #[{ accessFlags := 18, nameIndex := 13, descriptorIndex := 14, attributes := #[] }, { accessFlags := 18, nameIndex := 17, descriptorIndex := 18, attributes := #[] }, { accessFlags := 2, nameIndex := 21, descriptorIndex := 22, attributes := #[] }, { accessFlags := 2, nameIndex := 25, descriptorIndex := 26, attributes := #[] }, { accessFlags := 26, nameIndex := 1116, descriptorIndex := 1117, attributes := #[] }, { accessFlags := 24, nameIndex := 40, descriptorIndex := 26, attributes := #[] }, { accessFlags := 26, nameIndex := 1101, descriptorIndex := 1102, attributes := #[] }, { accessFlags := 26, nameIndex := 1121, descriptorIndex := 1122, attributes := #[] }, { accessFlags := 25, nameIndex := 599, descriptorIndex := 600, attributes := #[] }, { accessFlags := 24, nameIndex := 1125, descriptorIndex := 18, attributes := #[] }, { accessFlags := 24, nameIndex := 1127, descriptorIndex := 18, attributes := #[] }])
  fields := #[{ name := "value", type := (.array .byte), accessFlags := 18, slot := 0, constantValue := 0 }, { name := "coder", type := .byte, accessFlags := 18, slot := 1, constantValue := 0 }, { name := "hash", type := .int, accessFlags := 2, slot := 2, constantValue := 0 }, { name := "hashIsZero", type := .boolean, accessFlags := 2, slot := 3, constantValue := 0 }, { name := "serialVersionUID", type := .long, accessFlags := 26, slot := 0, constantValue := 0 }, { name := "COMPACT_STRINGS", type := .boolean, accessFlags := 24, slot := 1, constantValue := 0 }, { name := "serialPersistentFields", type := (.array (.object "java/io/ObjectStreamField")), accessFlags := 26, slot := 2, constantValue := 0 }, { name := "REPL", type := .char, accessFlags := 26, slot := 3, constantValue := 0 }, { name := "CASE_INSENSITIVE_ORDER", type := (.object "java/util/Comparator"), accessFlags := 25, slot := 4, constantValue := 0 }, { name := "LATIN1", type := .byte, accessFlags := 24, slot := 5, constantValue := 0 }, { name := "UTF16", type := .byte, accessFlags := 24, slot := 6, constantValue := 0 }]
  methods := #[k8m0]
  instanceTypes := #[(.array .byte), .byte, .int, .boolean]
  staticTypes := #[.long, .boolean, (.array (.object "java/io/ObjectStreamField")), .char, (.object "java/util/Comparator"), .byte, .byte]
  resolved := Array.replicate 1451 none
  statics := none }

def pool9 : Array CpInfo := pool [(2, .class_ 4), (1, u "java/lang/Object"), (0, u "<init>"), (0, u "()V"), (35, .class_ 44), (1, u "java/util/Objects"), (0, u "requireNonNull"), (48, u "(Ljava/lang/Object;Ljava/lang/String;)Ljava/lang/Object;")] 89

def k9m0 : Method := { name := "<init>", desc := "()V", sig := { parameters := [], returnType := none }, accessFlags := 2, code := none }
def k9c1 : Code := { maxStack := 3, maxLocals := 2, code := jdk_31_method_11_code, exceptionTable := #[], attributes := #[] }
def k9m1 : Method := { name := "requireNonNull", desc := "(Ljava/lang/Object;Ljava/lang/String;)Ljava/lang/Object;", sig := { parameters := [(.object "java/lang/Object"), (.object "java/lang/String")], returnType := some (.object "java/lang/Object") }, accessFlags := 9, code := some k9c1 }
/-- java/util/Objects -/
def k9 : Class := { plain "java/util/Objects" (some 0) with
  accessFlags := 49
  interfaces := #[]
  cf := some (fileOf pool9 42 #[] #[{ accessFlags := 2, nameIndex := 5, descriptorIndex := 6, attributes := #[] }, { accessFlags := 9, nameIndex := 45, descriptorIndex := 94, attributes := #[] }] 49 2 #[] #[])
  fields := #[]
  methods := #[k9m0, k9m1]
  instanceTypes := #[]
  staticTypes := #[]
  resolved := Array.replicate 184 none
  statics := none }

def pool10 : Array CpInfo := pool [(1, .class_ 2), (0, u "java/lang/Cloneable"), (0, .class_ 4), (0, u "java/lang/Object")] 2

/-- java/lang/Cloneable -/
def k10 : Class := { plain "java/lang/Cloneable" (some 0) with
  accessFlags := 1537
  interfaces := #[]
  cf := some (fileOf pool10 1 #[] #[] 1537 3 #[] #[])
  fields := #[]
  methods := #[]
  instanceTypes := #[]
  staticTypes := #[]
  resolved := Array.replicate 7 none
  statics := none }

def pool11 : Array CpInfo := pool [(2, .class_ 4), (1, u "java/lang/Enum"), (0, u "name"), (0, u "Ljava/lang/String;"), (2, u "ordinal"), (0, u "I"), (1, .class_ 14), (1, u "java/lang/Object"), (4, u "hash"), (86, .class_ 108), (1, u "java/lang/Enum$EnumDesc"), (2, .class_ 112), (0, u "java/lang/constant/Constable"), (0, .class_ 114), (0, u "java/lang/Comparable"), (0, .class_ 116), (0, u "java/io/Serializable")] 87

/-- java/lang/Enum -/
def k11 : Class := { plain "java/lang/Enum" (some 0) with
  accessFlags := 1057
  interfaces := #[6, 4, 3]
  cf := some (fileOf pool11 2 #[.nestMembers #[106]] #[] 1057 12 #[111, 113, 115] #[{ accessFlags := 18, nameIndex := 5, descriptorIndex := 6, attributes := #[] }, { accessFlags := 18, nameIndex := 9, descriptorIndex := 10, attributes := #[] }, { accessFlags := 2, nameIndex := 19, descriptorIndex := 10, attributes := #[] }])
  fields := #[{ name := "name", type := (.object "java/lang/String"), accessFlags := 18, slot := 0, constantValue := 0 }, { name := "ordinal", type := .int, accessFlags := 18, slot := 1, constantValue := 0 }, { name := "hash", type := .int, accessFlags := 2, slot := 2, constantValue := 0 }]
  methods := #[]
  instanceTypes := #[(.object "java/lang/String"), .int, .int]
  staticTypes := #[]
  resolved := Array.replicate 204 none
  statics := none }

def pool12 : Array CpInfo := pool [(1, .class_ 2), (0, u "com/example/earnest_key/earnestkey/RecordState"), (2, u "PROCESSING"), (0, u "Lcom/example/earnest_key/earnestkey/RecordState;"), (2, u "SUCCEEDED"), (2, u "FAILED"), (2, u "$VALUES"), (0, u "[Lcom/example/earnest_key/earnestkey/RecordState;"), (6, .class_ 25), (1, u "java/lang/Enum")] 25

/-- com/example/earnest_key/earnestkey/RecordState -/
def k12 : Class := { plain "com/example/earnest_key/earnestkey/RecordState" (some 11) with
  accessFlags := 16433
  interfaces := #[]
  cf := some (fileOf pool12 1 #[] #[] 16433 23 #[] #[{ accessFlags := 16409, nameIndex := 5, descriptorIndex := 6, attributes := #[] }, { accessFlags := 16409, nameIndex := 9, descriptorIndex := 6, attributes := #[] }, { accessFlags := 16409, nameIndex := 12, descriptorIndex := 6, attributes := #[] }, { accessFlags := 4122, nameIndex := 15, descriptorIndex := 16, attributes := #[] }])
  fields := #[{ name := "PROCESSING", type := (.object "com/example/earnest_key/earnestkey/RecordState"), accessFlags := 16409, slot := 0, constantValue := 0 }, { name := "SUCCEEDED", type := (.object "com/example/earnest_key/earnestkey/RecordState"), accessFlags := 16409, slot := 1, constantValue := 0 }, { name := "FAILED", type := (.object "com/example/earnest_key/earnestkey/RecordState"), accessFlags := 16409, slot := 2, constantValue := 0 }, { name := "$VALUES", type := (.array (.object "com/example/earnest_key/earnestkey/RecordState")), accessFlags := 4122, slot := 3, constantValue := 0 }]
  methods := #[]
  instanceTypes := #[(.object "java/lang/String"), .int, .int]
  staticTypes := #[(.object "com/example/earnest_key/earnestkey/RecordState"), (.object "com/example/earnest_key/earnestkey/RecordState"), (.object "com/example/earnest_key/earnestkey/RecordState"), (.array (.object "com/example/earnest_key/earnestkey/RecordState"))]
  resolved := Array.replicate 51 none
  statics := some 0 }

/-- the primitive byte -/
def k13 : Class := { plain "byte" none with kind := .primitive 'B', accessFlags := 0x411 }
/-- [B -/
def k14 : Class := { plain "[B" (some 0) with kind := .array 13 .byte, interfaces := #[10, 3], accessFlags := 1041 }

/-- the primitive int -/
def k15 : Class := { plain "int" none with kind := .primitive 'I', accessFlags := 0x411 }
/-- [I -/
def k16 : Class := { plain "[I" (some 0) with kind := .array 15 .int, interfaces := #[10, 3], accessFlags := 1041 }

def heap : Heap := #[{ cls := 12, slots := #[.null, .ref 1, .null, .null], vm := .statics 12 },
  { cls := 12, slots := #[.null, .int 0, .int 0], vm := .none }]
def classes : Array Class := #[k0, k1, k2, k3, k4, k5, k6, k7, k8, k9, k10, k11, k12, k13, k14, k15, k16]
def interned : List (Array UInt16 × Addr) := []
def slotsUsed : Nat := 7
def theMethod : MethodId := ⟨1, 2⟩
def args0 : Array Value := #[.int 5, .int 6]
def aboutOver (below : List Frame) : State where
  vm := { classes := classes, interned := interned.toArray }
  heap := heap
  slotsUsed := slotsUsed
  threads := #[{ frames := .invoking theMethod args0 :: below }]
def below0 : List Frame := [.native { method := ⟨0, 0⟩, args := #[] }]
def about1 : State := aboutOver below0
def p0 : Program := .bare "" "" ""
def e0 : Env := launch0.env 0 0 0
theorem w_frames : about1.frames = Frame.invoking theMethod args0 :: below0 := rfl
set_option maxRecDepth 65536 in
theorem w_args : argsFit about1.vm theMethod args0 = true := by decide +kernel
set_option maxRecDepth 65536 in
theorem w_heap : heapFits about1 = true := by decide +kernel
set_option maxRecDepth 65536 in
theorem w_runnable : about1.curStatus? = some .runnable := by decide +kernel
set_option maxRecDepth 65536 in
theorem w_alone : about1.alone = true := by decide +kernel
set_option maxRecDepth 65536 in
theorem w_named : about1.methodNamed? x = some theMethod := by decide +kernel
set_option maxRecDepth 65536 in
theorem w_hears : about1.hears theMethod below0 = true := by decide +kernel
set_option maxRecDepth 65536 in
theorem w_ripe : about1.ripe theMethod args0 below0 = true := by decide +kernel
theorem w_running : about1.status = .running := rfl
set_option maxRecDepth 65536 in
theorem w_room : about1.hasRoom e0.platform room_1 = true :=
  launch0.hasRoom_least _ room_1 (by decide +kernel) (by decide +kernel) (by decide +kernel) (by decide +kernel) (by decide +kernel) (by decide +kernel)
theorem allAtoms_all (ts : List Jvm.Cond) (a : Array Jvm.Value) (st : Jvm.State) : (allAtoms ts).before a st = ts.all (fun c => c.before a st) := by
  induction ts with
  | nil => rfl
  | cons c t ih =>
    show (Jvm.Cond.and c (allAtoms t)).before a st = _
    rw [Jvm.Cond.before_and, ih, List.all_cons]
def words1 : List Jvm.Cond := Jvm.Cond.code x code maxLocals ret :: tables_1
/-- a 'code' word, met by the world's own term for the bytes: nothing is compared byte by byte -/
theorem code_word {y : MethodName} {bytes : ByteArray} {mx : Nat} {rt : Option FieldType} {a : Array Value} {s : State} {m : MethodId} {meth : Method} {c : Code} (h1 : s.methodNamed? y = some m) (h2 : s.vm.method? m = some meth) (h3 : meth.code = some c) (h4 : c.code = bytes)
    (h5 : (c.maxLocals == mx && c.exceptionTable.isEmpty && decide (c.maxStack ≤ mostOperands) && decide (meth.sig.returnType = rt) && !meth.locks && decide (parseMethodDescriptor y.desc = some meth.sig)) = true) : (Jvm.Cond.code y bytes mx rt).before a s = true := by
  simp only [Bool.and_eq_true, beq_iff_eq, Bool.not_eq_true', decide_eq_true_eq] at h5
  obtain ⟨⟨⟨⟨⟨g1, g2⟩, g3⟩, g4⟩, g5⟩, g6⟩ := h5
  simp [Cond.before, Cond.holds, Cond.value, h1, h2, h3, h4, g1, g2, g3, g4, g5, g6]
def isCode : Jvm.Cond → Bool
  | .code _ _ _ _ => true
  | _ => false
theorem all_split {L : List Jvm.Cond} {P : Jvm.Cond → Bool} (h1 : L.all (fun c => isCode c || P c) = true) (h2 : ∀ c ∈ L.filter isCode, P c = true) : L.all P = true := by
  refine List.all_eq_true.mpr fun c hc => ?_
  have h := List.all_eq_true.mp h1 c hc
  rcases Bool.eq_false_or_eq_true (isCode c) with hi | hi
  · exact h2 c (List.mem_filter.mpr ⟨hc, hi⟩)
  · simpa [hi] using h
set_option maxRecDepth 65536 in
theorem w_c0 : (Jvm.Cond.code x code maxLocals ret).before args0 about1 = true := code_word (m := ⟨1, 2⟩) (meth := k1m2) (c := k1c2) (by decide +kernel) rfl rfl rfl (by decide +kernel)
set_option maxRecDepth 65536 in
theorem w_c1 : (Jvm.Cond.code ({ cls := "com/example/earnest_key/earnestkey/OutcomeSuccessPinLaw", name := "make", desc := "(IBBB)[B" } : Jvm.MethodName) method_2_code (4 : Nat) (Option.some (Jvm.ClassFile.FieldType.array Jvm.ClassFile.FieldType.byte))).before args0 about1 = true := code_word (m := ⟨1, 1⟩) (meth := k1m1) (c := k1c1) (by decide +kernel) rfl rfl rfl (by decide +kernel)
set_option maxRecDepth 65536 in
theorem w_c2 : (Jvm.Cond.code ({ cls := "com/example/earnest_key/earnestkey/Outcome", name := "success", desc := "([B)Lcom/example/earnest_key/earnestkey/Outcome;" } : Jvm.MethodName) prog_11_method_2_code (1 : Nat) (Option.some (Jvm.ClassFile.FieldType.object "com/example/earnest_key/earnestkey/Outcome"))).before args0 about1 = true := code_word (m := ⟨2, 1⟩) (meth := k2m1) (c := k2c1) (by decide +kernel) rfl rfl rfl (by decide +kernel)
set_option maxRecDepth 65536 in
theorem w_c3 : (Jvm.Cond.code ({ cls := "java/util/Objects", name := "requireNonNull", desc := "(Ljava/lang/Object;Ljava/lang/String;)Ljava/lang/Object;" } : Jvm.MethodName) jdk_31_method_11_code (2 : Nat) (Option.some (Jvm.ClassFile.FieldType.object "java/lang/Object"))).before args0 about1 = true := code_word (m := ⟨9, 1⟩) (meth := k9m1) (c := k9c1) (by decide +kernel) rfl rfl rfl (by decide +kernel)
set_option maxRecDepth 65536 in
theorem w_c4 : (Jvm.Cond.code ({ cls := "com/example/earnest_key/earnestkey/Outcome", name := "<init>", desc := "([BZ)V" } : Jvm.MethodName) prog_11_method_1_code (3 : Nat) (Option.none : Option Jvm.ClassFile.FieldType)).before args0 about1 = true := code_word (m := ⟨2, 0⟩) (meth := k2m0) (c := k2c0) (by decide +kernel) rfl rfl rfl (by decide +kernel)
set_option maxRecDepth 65536 in
theorem w_c5 : (Jvm.Cond.code ({ cls := "java/lang/Object", name := "<init>", desc := "()V" } : Jvm.MethodName) object_method_1_code (1 : Nat) (Option.none : Option Jvm.ClassFile.FieldType)).before args0 about1 = true := code_word (m := ⟨0, 0⟩) (meth := k0m0) (c := k0c0) (by decide +kernel) rfl rfl rfl (by decide +kernel)
set_option maxRecDepth 65536 in
theorem w_c6 : (Jvm.Cond.code ({ cls := "com/example/earnest_key/earnestkey/Outcome", name := "bytes", desc := "()[B" } : Jvm.MethodName) prog_11_method_5_code (1 : Nat) (Option.some (Jvm.ClassFile.FieldType.array Jvm.ClassFile.FieldType.byte))).before args0 about1 = true := code_word (m := ⟨2, 2⟩) (meth := k2m2) (c := k2c2) (by decide +kernel) rfl rfl rfl (by decide +kernel)
set_option maxRecDepth 65536 in
theorem w_c7 : (Jvm.Cond.code ({ cls := "com/example/earnest_key/earnestkey/Outcome", name := "isFailure", desc := "()Z" } : Jvm.MethodName) prog_11_method_6_code (1 : Nat) (Option.some Jvm.ClassFile.FieldType.boolean)).before args0 about1 = true := code_word (m := ⟨2, 3⟩) (meth := k2m3) (c := k2c3) (by decide +kernel) rfl rfl rfl (by decide +kernel)
set_option maxRecDepth 65536 in
theorem w_c8 : (Jvm.Cond.code ({ cls := "com/example/earnest_key/earnestkey/Outcome", name := "state", desc := "()Lcom/example/earnest_key/earnestkey/RecordState;" } : Jvm.MethodName) prog_11_method_7_code (1 : Nat) (Option.some (Jvm.ClassFile.FieldType.object "com/example/earnest_key/earnestkey/RecordState"))).before args0 about1 = true := code_word (m := ⟨2, 4⟩) (meth := k2m4) (c := k2c4) (by decide +kernel) rfl rfl rfl (by decide +kernel)
def codes1 : List Jvm.Cond := [Jvm.Cond.code x code maxLocals ret, Jvm.Cond.code ({ cls := "com/example/earnest_key/earnestkey/OutcomeSuccessPinLaw", name := "make", desc := "(IBBB)[B" } : Jvm.MethodName) method_2_code (4 : Nat) (Option.some (Jvm.ClassFile.FieldType.array Jvm.ClassFile.FieldType.byte)), Jvm.Cond.code ({ cls := "com/example/earnest_key/earnestkey/Outcome", name := "success", desc := "([B)Lcom/example/earnest_key/earnestkey/Outcome;" } : Jvm.MethodName) prog_11_method_2_code (1 : Nat) (Option.some (Jvm.ClassFile.FieldType.object "com/example/earnest_key/earnestkey/Outcome")), Jvm.Cond.code ({ cls := "java/util/Objects", name := "requireNonNull", desc := "(Ljava/lang/Object;Ljava/lang/String;)Ljava/lang/Object;" } : Jvm.MethodName) jdk_31_method_11_code (2 : Nat) (Option.some (Jvm.ClassFile.FieldType.object "java/lang/Object")), Jvm.Cond.code ({ cls := "com/example/earnest_key/earnestkey/Outcome", name := "<init>", desc := "([BZ)V" } : Jvm.MethodName) prog_11_method_1_code (3 : Nat) (Option.none : Option Jvm.ClassFile.FieldType), Jvm.Cond.code ({ cls := "java/lang/Object", name := "<init>", desc := "()V" } : Jvm.MethodName) object_method_1_code (1 : Nat) (Option.none : Option Jvm.ClassFile.FieldType), Jvm.Cond.code ({ cls := "com/example/earnest_key/earnestkey/Outcome", name := "bytes", desc := "()[B" } : Jvm.MethodName) prog_11_method_5_code (1 : Nat) (Option.some (Jvm.ClassFile.FieldType.array Jvm.ClassFile.FieldType.byte)), Jvm.Cond.code ({ cls := "com/example/earnest_key/earnestkey/Outcome", name := "isFailure", desc := "()Z" } : Jvm.MethodName) prog_11_method_6_code (1 : Nat) (Option.some Jvm.ClassFile.FieldType.boolean), Jvm.Cond.code ({ cls := "com/example/earnest_key/earnestkey/Outcome", name := "state", desc := "()Lcom/example/earnest_key/earnestkey/RecordState;" } : Jvm.MethodName) prog_11_method_7_code (1 : Nat) (Option.some (Jvm.ClassFile.FieldType.object "com/example/earnest_key/earnestkey/RecordState"))]
set_option maxRecDepth 65536 in
theorem codes_eq : words1.filter isCode = codes1 := rfl
theorem w_codes : ∀ c ∈ words1.filter isCode, c.before args0 about1 = true := by
  rw [codes_eq]
  intro c hc
  simp only [codes1, List.mem_cons, List.not_mem_nil, or_false] at hc
  rcases hc with rfl | rfl | rfl | rfl | rfl | rfl | rfl | rfl | rfl
  · exact w_c0
  · exact w_c1
  · exact w_c2
  · exact w_c3
  · exact w_c4
  · exact w_c5
  · exact w_c6
  · exact w_c7
  · exact w_c8
set_option maxRecDepth 65536 in
theorem w_t1 : (words1.take 24).all (fun c => isCode c || c.before args0 about1) = true := by decide +kernel
set_option maxRecDepth 65536 in
theorem w_t2 : ((words1.drop 24).take 24).all (fun c => isCode c || c.before args0 about1) = true := by decide +kernel
set_option maxRecDepth 65536 in
theorem w_t3 : ((words1.drop 24).drop 24).all (fun c => isCode c || c.before args0 about1) = true := by decide +kernel
theorem w_tables : (allAtoms (Jvm.Cond.code x code maxLocals ret :: tables_1)).before args0 about1 = true := by
  rw [allAtoms_all]
  show words1.all (fun c => c.before args0 about1) = true
  refine all_split ?_ w_codes
  rw [← List.take_append_drop 24 words1, List.all_append, w_t1, ← List.take_append_drop 24 (words1.drop 24), List.all_append, w_t2, w_t3]
  rfl
set_option maxRecDepth 65536 in
theorem w_case : (Jvm.Cond.and given_1 narrow_1).before args0 about1 = true := by decide +kernel
theorem w_applies : (headSpec (Jvm.Cond.code x code maxLocals ret :: tables_1) room_1).applies x e0.platform about1 = true :=
  (Spec.applies_iff w_frames).mpr ⟨w_running, w_runnable, w_alone, w_named, w_hears, w_ripe, w_room, w_tables⟩
theorem atStart : AtStart classFile x code maxLocals ret World_1 tables_1 room_1 Calls_1 rest_1 Pre_1 launch0 p0 e0 about1 theMethod args0 below0 :=
  ⟨lists_1, trivial, launch0.admits_env _ _ _, launch0.least_env, fairChoices_fair.cas, fairChoices_fair.clock, w_frames, w_args, w_heap, w_applies, trivial, trivial, w_case⟩
end start1
theorem witness_1 : WitnessClaimed_1 := ⟨start1.p0, start1.e0, start1.about1, start1.theMethod, start1.args0, start1.below0, start1.atStart⟩
end Jvm.Pilot.@@N@@
