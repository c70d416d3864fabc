import JvmDerived
import JvmDerived.Pilot.@@N@@Statement
import JvmDerived.Pilot.@@N@@Code
set_option linter.unusedVariables false
set_option linter.unusedSimpArgs false
namespace Jvm.Pilot.@@N@@
open Jvm Jvm.ClassFile Sem Op Lib Jvm.Free Jvm.Stand Jvm.LawKit Jvm.RoadKit Bundle Jvm.Pilot.@@N@@.Jvm.D
/-! ### how a walk is told: 'own_Go' says that from here the body comes to its end, and what holds there -/
section OwnKit
variable {p : Program} {l : Launch} {e : Env} {R : Room} {s : State} {m : MethodId} {args : Array Value} {below : List Frame} {meth : Method} {c : Code} {T T' : State} {locs : List Loc} {cells slots kc ks : Nat} {F : Option Value → State → Prop} {Q : Option Value → Heap → List Loc → Prop} {g g' : JFrame} {Z : State} {a0 : Array Value} {h0 : Heap}
def own_Go (p : Program) (e : Env) (below : List Frame) (F : Option Value → State → Prop) (T : State) (g : JFrame) : Prop :=
  ∃ U v, Steps p.tables e below (T.setTop g) U ∧ U.status = .running ∧ Ended U below (.returned v) ∧ F v U
def own_N (s : State) (kc ks : Nat) (Q : Option Value → Heap → List Loc → Prop) : Option Value → State → Prop := fun v U => ∃ L, Q v U.heap L ∧ FrameEnd s (.returned v) U L kc ks
def own_W (s : State) (kc ks : Nat) (Q : Option Value → Heap → List Loc → Prop) : Option Value → State → Prop := fun v U => ∃ L, Q v U.heap L ∧ ReturnedEndW s (.returned v) U L kc ks
theorem own_st (h : ∀ t, Steps p.tables e below (T'.setTop g') t → Steps p.tables e below (T.setTop g) t) (G : own_Go p e below F T' g') : own_Go p e below F T g := by
  obtain ⟨U, v, h1, r⟩ := G
  exact ⟨U, v, h _ h1, r⟩
theorem own_ret (X : Stand p l e R s m args below meth c T locs cells slots) (hx : p.tables.exec = Jvm.exec) (hlk : meth.locks = false) {pc : Nat} {Ls : Array Slot} {w : Value} {t : FieldType} {i : Instr} {rest : List Value} (hret : meth.sig.returnType = some t) (hn : narrow t w = w)
    (hi : (i = .ireturn ∧ (t = .int ∨ t = .boolean ∨ t = .byte ∨ t = .char ∨ t = .short) ∧ ∃ z, w = .int z) ∨ (i = .lreturn ∧ t = .long ∧ ∃ z, w = .long z) ∨ (i = .dreturn ∧ t = .double ∧ ∃ z, w = .double z) ∨ (i = .freturn ∧ t = .float ∧ ∃ z, w = .float z) ∨ (i = .areturn ∧ t.isReference = true ∧ w.isRef = true))
    (hd : decode c.code pc = .ok (i, 1)) (hc : cells ≤ kc) (hs : slots ≤ ks) (q : Q (some w) T.heap locs) : own_Go p e below (own_N s kc ks Q) T (mkF m pc Ls (w :: rest)) := by
  obtain ⟨fs, hr, hrun, hended, hW, hsame⟩ := X.leave (v := some w) (fun h => by rw [hret] at h; cases h) hlk
  exact ⟨_, _, retOut X hx hret hn hi hd hr, hrun, hended, _, q, ⟨_, rfl⟩, hW, hsame.mono hc hs⟩
theorem own_retV (X : Stand p l e R s m args below meth c T locs cells slots) (hx : p.tables.exec = Jvm.exec) (hlk : meth.locks = false) {pc : Nat} {Ls : Array Slot} (hret : meth.sig.returnType = none) (hd : decode c.code pc = .ok (.return_, 1)) (hc : cells ≤ kc) (hs : slots ≤ ks) (q : Q none T.heap locs) : own_Go p e below (own_N s kc ks Q) T (mkF m pc Ls []) := by
  obtain ⟨fs, hr, hrun, hended, hW, hsame⟩ := X.leave (v := none) (fun _ => rfl) hlk
  exact ⟨_, _, X.returnOut hx hret hd hr, hrun, hended, _, q, ⟨_, rfl⟩, hW, hsame.mono hc hs⟩
theorem own_he {h h' : Heap} {a : Addr} {c : Cell} (e : h' = h) (q : h[a]? = some c) : h'[a]? = some c := by rw [e]; exact q
theorem own_cat1 {w : Value} (h : w.isRef = true) : w.category = 1 := by
  rcases ref_cases h with rfl | ⟨a, rfl⟩ <;> rfl
/-- what a body does, begun at the heap h0 with these arguments -/
def own_Met (l : Launch) (Z : State) (h0 : Heap) (ws : List Jvm.Cond) (rm : Room) (y : MethodName) (bytes : ByteArray) (maxL : Nat) (ret : Option FieldType) (as' : Array Value) (Q : Option Value → Heap → List Loc → Prop) : Prop :=
  MetFree l y (head1 (Jvm.Cond.code y bytes maxL ret :: ws) rm) (fun a U => a = as' ∧ Z.Warmed39 U.vm ∧ U.heap = h0) (fun _ _ _ _ _ => True) (fun _ U o U' => ∃ v L, o = .returned v ∧ Q v U'.heap L ∧ FrameEnd U o U' L rm.cells rm.slots)
/-- it returns w and writes nothing -/
def own_Pure (l : Launch) (Z : State) (h0 : Heap) (ws : List Jvm.Cond) (rm : Room) (y : MethodName) (bytes : ByteArray) (maxL : Nat) (ret : Option FieldType) (as' : Array Value) (w : Option Value) : Prop :=
  own_Met l Z h0 ws rm y bytes maxL ret as' (fun v h L => v = w ∧ L = [] ∧ h = h0)
theorem own_body {ws : List Jvm.Cond} {rm : Room} {y : MethodName} {bytes : ByteArray} {maxL : Nat} {ret : Option FieldType} {as' : Array Value} (hpl : plainFor y = true)
    (H : ∀ (p : Program) (e : Env) (s : State) (m : MethodId) (below : List Frame) (meth : Method) (c : Code) (T : State), Stand p l e rm s m as' below meth c T [] 0 0 → p.tables.exec = Jvm.exec → c.code = bytes → c.maxLocals = maxL → s.vm.findClass y.cls = some m.cls → Z.Warmed39 s.vm → T.heap = h0 → meth.sig.returnType = ret → meth.locks = false → meth.name = y.name → s.methodNamed? y = some m →
      own_Go p e below (own_N s rm.cells rm.slots Q) T (entryFrame m as' maxL)) : own_Met l Z h0 ws rm y bytes maxL ret as' Q := by
  refine MetFree.of_bodySF hpl hisR ?_
  intro p e s m args below meth c s₁ Bd hml0 hP hK
  obtain ⟨rfl, hZ, hh⟩ := hP
  obtain ⟨U, v, h1, h2, h3, L, h4, h5⟩ := H p e s m below meth c s₁ (Stand.of_body Bd) Bd.exec Bd.bytes hml0 (findClass_of_methodNamed Bd.named) hZ (by rw [← hh, Bd.state]; rfl) Bd.returns Bd.notSynchronized (name_of_methodNamed Bd.named Bd.method).1 Bd.named
  exact ⟨U, _, h1, h2, h3, v, L, rfl, h4, h5⟩
theorem own_gS {rm : Room} {y : MethodName} {bytes : ByteArray} {maxL W index : Nat} {ret : Option FieldType} {own : String} {argsL rest : List Value} (X : Stand p l e R s m args below meth c T locs cells slots) (hx : p.tables.exec = Jvm.exec) (hZ : Z.Warmed39 s.vm) (hown : s.vm.findClass own = some m.cls)
    (w1 : (Jvm.Cond.methodLink own index y).before a0 Z = true) (w2 : (Jvm.Cond.static y).before a0 Z = true) (w3 : (Jvm.Cond.initialized y.cls).before a0 Z = true) (w4 : (Jvm.Cond.code y bytes maxL ret).before a0 Z = true) (hy : y.cls ≠ "java/lang/invoke/MethodHandle" ∧ y.cls ≠ "java/lang/invoke/VarHandle") (eT : T.heap = h0)
    (hM : own_Met l Z h0 [] rm y bytes maxL ret argsL.toArray Q) (hf : rm.frames + 1 ≤ R.frames) (hl : W + (maxL + 11) + rm.locals ≤ R.locals) (hc1 : cells + rm.cells ≤ R.cells) (hs1 : slots + rm.slots ≤ R.slots)
    (hg : g.method = m) (hsize : g.locals.size = c.maxLocals) (hlen : ∀ sig, parseMethodDescriptor y.desc = some sig → argsL.length = sig.parameters.length) (hstack : g.stack = argsL.reverse ++ rest) (hW : 2 * g.monitorRoom + (rest.map fun v => v.category).sum ≤ W) (hdg : decode c.code g.pc = .ok (.invokestatic index, 3)) :
    ∃ (v : Option Value) (T' : State) (L : List Loc), Stand p l e R s m args below meth c T' (locs ++ L) (cells + rm.cells) (slots + rm.slots) ∧ Q v T'.heap L ∧ ∀ target, Steps p.tables e below (T'.setTop { g with pc := g.pc + 3, stack := v.toList ++ rest }) target → Steps p.tables e below (T.setTop g) target := by
  obtain ⟨v, _, ⟨T1, L1, k1, n1⟩, -, X1, ⟨Lc, hq, l1, y1, z1⟩, st⟩ := Jvm.LawKit.callS X hx (y := y) hown (mvT hZ w1) (mvT hZ w2) (mvT hZ w3) (mvT hZ w4) hy (backOf (W := W) (Q := Q) hM hZ w4 w3 hf hl) (g := g) hg hsize (argsL := argsL) (rest := rest) hlen hstack hW hdg (fun _ _ => ⟨rfl, eT, hc1, hs1⟩)
  dsimp only [Pt.U, Pt.locs, Pt.cells, Pt.slots] at X1 l1 y1 z1 st hq
  subst l1 y1 z1
  exact ⟨v, T1, Lc, X1, hq, st⟩
theorem own_gV {rm : Room} {y z : MethodName} {bytes : ByteArray} {maxL W index : Nat} {ret : Option FieldType} {own C : String} {argsL rest : List Value} {b : Addr} (X : Stand p l e R s m args below meth c T locs cells slots) (hx : p.tables.exec = Jvm.exec) (hZ : Z.Warmed39 s.vm) (hown : s.vm.findClass own = some m.cls)
    (w1 : (Jvm.Cond.methodLink own index y).before a0 Z = true) (w2 : (Jvm.Cond.declares y).before a0 Z = true) (hnf : NotFace s y) (w5 : (Jvm.Cond.selects C y z).before a0 Z = true) (w6 : (Jvm.Cond.instanceMethod z).before a0 Z = true) (w3 : (Jvm.Cond.initialized z.cls).before a0 Z = true) (w4 : (Jvm.Cond.code z bytes maxL ret).before a0 Z = true) (hy : y.cls ≠ "java/lang/invoke/MethodHandle" ∧ y.cls ≠ "java/lang/invoke/VarHandle") (eT : T.heap = h0) (E : Exa Z h0 b C)
    (hM : own_Met l Z h0 [] rm z bytes maxL ret (.ref b :: argsL).toArray Q) (hf : rm.frames + 1 ≤ R.frames) (hl : W + (maxL + 11) + rm.locals ≤ R.locals) (hc1 : cells + rm.cells ≤ R.cells) (hs1 : slots + rm.slots ≤ R.slots)
    (hg : g.method = m) (hsize : g.locals.size = c.maxLocals) (hlen : ∀ sig, parseMethodDescriptor y.desc = some sig → argsL.length = sig.parameters.length) (hstack : g.stack = argsL.reverse ++ .ref b :: rest) (hW : 2 * g.monitorRoom + (rest.map fun v => v.category).sum ≤ W) (hdg : decode c.code g.pc = .ok (.invokevirtual index, 3)) :
    ∃ (v : Option Value) (T' : State) (L : List Loc), Stand p l e R s m args below meth c T' (locs ++ L) (cells + rm.cells) (slots + rm.slots) ∧ Q v T'.heap L ∧ ∀ target, Steps p.tables e below (T'.setTop { g with pc := g.pc + 3, stack := v.toList ++ rest }) target → Steps p.tables e below (T.setTop g) target := by
  obtain ⟨cq, kq, qa, qb, qc⟩ := isOf hZ eT E
  obtain ⟨v, _, ⟨T1, L1, k1, n1⟩, -, X1, ⟨Lc, hq, l1, y1, z1⟩, st⟩ := X.virtualBack hx (y := y) (z := z) hown (mvT hZ w1) (mvT hZ w2) hnf (mvT hZ w5) (mvT hZ w6) hy (backOf (W := W) (Q := Q) hM hZ w4 w3 hf hl) qa qc (g := g) hg hsize (Steps.refl _) (argsL := argsL) (rest := rest) hlen hstack hW hdg (fun _ _ => ⟨rfl, eT, hc1, hs1⟩)
  dsimp only [Pt.U, Pt.locs, Pt.cells, Pt.slots] at X1 l1 y1 z1 st hq
  subst l1 y1 z1
  exact ⟨v, T1, Lc, X1, hq, fun _ k => st.trans k⟩
theorem own_gVU {rm : Room} {y z : MethodName} {owner : String} {bytes : ByteArray} {maxL W index : Nat} {ret : Option FieldType} {own C : String} {argsL rest : List Value} {b : Addr} (X : Stand p l e R s m args below meth c T locs cells slots) (hx : p.tables.exec = Jvm.exec) (hZ : Z.Warmed39 s.vm) (hown : s.vm.findClass own = some m.cls)
    (w1 : (Jvm.Cond.methodLink own index y).before a0 Z = true) (wsm : (Jvm.Cond.sameMethod y.cls owner y.name y.desc).before a0 Z = true) (w2 : (Jvm.Cond.declares ⟨owner, y.name, y.desc⟩).before a0 Z = true) (ho : owner ≠ "java/lang/invoke/MethodHandle" ∧ owner ≠ "java/lang/invoke/VarHandle") (w5 : (Jvm.Cond.selects C y z).before a0 Z = true) (w6 : (Jvm.Cond.instanceMethod z).before a0 Z = true) (w3 : (Jvm.Cond.initialized z.cls).before a0 Z = true) (w4 : (Jvm.Cond.code z bytes maxL ret).before a0 Z = true) (eT : T.heap = h0) (E : Exa Z h0 b C)
    (hM : own_Met l Z h0 [] rm z bytes maxL ret (.ref b :: argsL).toArray Q) (hf : rm.frames + 1 ≤ R.frames) (hl : W + (maxL + 11) + rm.locals ≤ R.locals) (hc1 : cells + rm.cells ≤ R.cells) (hs1 : slots + rm.slots ≤ R.slots)
    (hg : g.method = m) (hsize : g.locals.size = c.maxLocals) (hlen : ∀ sig, parseMethodDescriptor y.desc = some sig → argsL.length = sig.parameters.length) (hstack : g.stack = argsL.reverse ++ .ref b :: rest) (hW : 2 * g.monitorRoom + (rest.map fun v => v.category).sum ≤ W) (hdg : decode c.code g.pc = .ok (.invokevirtual index, 3)) :
    ∃ (v : Option Value) (T' : State) (L : List Loc), Stand p l e R s m args below meth c T' (locs ++ L) (cells + rm.cells) (slots + rm.slots) ∧ Q v T'.heap L ∧ ∀ target, Steps p.tables e below (T'.setTop { g with pc := g.pc + 3, stack := v.toList ++ rest }) target → Steps p.tables e below (T.setTop g) target := by
  obtain ⟨cq, kq, qa, qb, qc⟩ := isOf hZ eT E
  obtain ⟨v, _, ⟨T1, L1, k1, n1⟩, -, X1, ⟨Lc, hq, l1, y1, z1⟩, st⟩ := X.virtualBackUp hx (x := y) (y := z) (owner := owner) hown (mvT hZ w1) (mvT hZ wsm) (mvT hZ w2) ho (mvT hZ w5) (mvT hZ w6) (backOf (W := W) (Q := Q) hM hZ w4 w3 hf hl) qa qc (g := g) hg hsize (Steps.refl _) (argsL := argsL) (rest := rest) hlen hstack hW hdg (fun _ _ => ⟨rfl, eT, hc1, hs1⟩)
  dsimp only [Pt.U, Pt.locs, Pt.cells, Pt.slots] at X1 l1 y1 z1 st hq
  subst l1 y1 z1
  exact ⟨v, T1, Lc, X1, hq, fun _ k => st.trans k⟩
/-- behind a call that writes nothing -/
theorem own_pure {w : Value} {rm : Room} {rest : List Value} (hc0 : rm.cells = 0) (hs0 : rm.slots = 0)
    (H : ∃ (v : Option Value) (T' : State) (L : List Loc), Stand p l e R s m args below meth c T' (locs ++ L) (cells + rm.cells) (slots + rm.slots) ∧ (v = some w ∧ L = [] ∧ T'.heap = h0) ∧ ∀ target, Steps p.tables e below (T'.setTop { g with pc := g.pc + 3, stack := v.toList ++ rest }) target → Steps p.tables e below (T.setTop g) target) :
    ∃ T', Stand p l e R s m args below meth c T' locs cells slots ∧ T'.heap = h0 ∧ ∀ target, Steps p.tables e below (T'.setTop { g with pc := g.pc + 3, stack := w :: rest }) target → Steps p.tables e below (T.setTop g) target := by
  obtain ⟨_, T', _, X', ⟨rfl, rfl, hh⟩, st⟩ := H
  rw [hc0, hs0, List.append_nil] at X'
  exact ⟨T', X', hh, st⟩
/-- what the case says of statics and fields, as facts of the start -/
theorem own_sx {C n d K : String} (h : (Jvm.Cond.exactly (Term.static C n d) K).value args s none s [] = some true) (wi : (Jvm.Cond.initialized C).before args s = true) (wl : (Jvm.Cond.laysStatic C n d).before args s = true) :
    ∃ a, (Term.static C n d).eval args s none [] s = some (.ref a) ∧ Exa s s.heap a K ∧ Sta s s.heap C n d (.ref a) := by
  obtain ⟨a, ev⟩ := exa_v h
  exact ⟨a, ev, Exa.start ev h, Sta.start ev (Or.inr ⟨wi, wl⟩)⟩
theorem own_fi {t : Term} {a : Addr} {C n d : String} {k : Int32} (ev : t.eval args s none [] s = some (.ref a)) (h : (Jvm.Cond.eq (Term.field t C n d) (Term.int k)).value args s none s [] = some true) : Fld s s.heap a C n d (.int k) := by
  have q := eqv_i (Term.int_eval k) h
  rw [fld_at ev] at q
  exact Fld.start q
theorem own_fn {t : Term} {a : Addr} {C n d : String} (ev : t.eval args s none [] s = some (.ref a)) (h : (Jvm.Cond.eq (Term.field t C n d) Term.null).value args s none s [] = some true) : Fld s s.heap a C n d .null := by
  have q := null_v h
  rw [fld_at ev] at q
  exact Fld.start q
theorem own_fx {t : Term} {a : Addr} {C n d K : String} (ev : t.eval args s none [] s = some (.ref a)) (h : (Jvm.Cond.exactly (Term.field t C n d) K).value args s none s [] = some true) : ∃ b, Fld s s.heap a C n d (.ref b) ∧ Exa s s.heap b K := by
  obtain ⟨b, q⟩ := exa_v h
  have E := Exa.start q h
  rw [fld_at ev] at q
  exact ⟨b, Fld.start q, E⟩
theorem own_eqr {t u : Term} {b : Addr} (eu : u.eval args s none [] s = some (.ref b)) (h : (Jvm.Cond.eq t u).value args s none s [] = some true) : t.eval args s none [] s = some (.ref b) := by
  obtain ⟨x, y, h1, h2, -⟩ := cmp_v (Or.inl h)
  rw [eu] at h2
  cases h2
  simp only [Cond.value, h1, eu] at h
  cases x <;> simp_all
theorem own_fs {t u : Term} {a b : Addr} {C n d : String} (ev : t.eval args s none [] s = some (.ref a)) (eu : u.eval args s none [] s = some (.ref b)) (h : (Jvm.Cond.eq (Term.field t C n d) u).value args s none s [] = some true) : Fld s s.heap a C n d (.ref b) := by
  have q := own_eqr eu h
  rw [fld_at ev] at q
  exact Fld.start q
theorem own_ax {C n d : String} {ty : FieldType} (h : (Jvm.Cond.arrayOf (Term.static C n d) ty).value args s none s [] = some true) (wi : (Jvm.Cond.initialized C).before args s = true) (wl : (Jvm.Cond.laysStatic C n d).before args s = true) :
    ∃ b cl, (Term.static C n d).eval args s none [] s = some (.ref b) ∧ Arr s s.heap b cl ty ∧ Sta s s.heap C n d (.ref b) := by
  obtain ⟨b, ev⟩ := arr_v h
  obtain ⟨cl, A⟩ := Arr.start ev h
  exact ⟨b, cl, ev, A, Sta.start ev (Or.inr ⟨wi, wl⟩)⟩
theorem own_len {t : Term} {b : Addr} {cl : Cell} {ty : FieldType} {k : Int32} (ev : t.eval args s none [] s = some (.ref b)) (A : Arr s s.heap b cl ty) (h : (Jvm.Cond.eq (Term.length t) (Term.int k)).value args s none s [] = some true) : cl.slots.size = k.toNatClampNeg := by
  have q := eqv_i (Term.int_eval k) h
  have ha : s.arrayAt? b = some cl := A.fin (Vm.Alike.refl _)
  by_cases hl : cl.slots.size < 2 ^ 31
  · rw [len_f ev ha hl] at q
    have e : cl.slots.size.toInt32 = k := Value.int.inj (Option.some.inj q)
    have e1 := len_toInt hl
    rw [← e]
    simp only [Int32.toNatClampNeg, e1]
    rfl
  · simp [Term.eval, ev, ha, hl] at q
theorem own_elr {t u : Term} {b x : Addr} {cl : Cell} {ty : FieldType} {k : Int32} (ev : t.eval args s none [] s = some (.ref b)) (A : Arr s s.heap b cl ty) (eu : u.eval args s none [] s = some (.ref x)) (h : (Jvm.Cond.eq (Term.elem t (Term.int k)) u).value args s none s [] = some true) : cl.slots[k.toNatClampNeg]? = some (.ref x) :=
  (elem_in (own_eqr eu h) ev (Term.int_eval k) A.1).2
theorem own_eln {t : Term} {b : Addr} {cl : Cell} {ty : FieldType} {k : Int32} (ev : t.eval args s none [] s = some (.ref b)) (A : Arr s s.heap b cl ty) (h : (Jvm.Cond.eq (Term.elem t (Term.int k)) Term.null).value args s none s [] = some true) : cl.slots[k.toNatClampNeg]? = some .null :=
  (elem_in (null_v h) ev (Term.int_eval k) A.1).2
theorem own_eli {t : Term} {b : Addr} {cl : Cell} {ty : FieldType} {k v : Int32} (ev : t.eval args s none [] s = some (.ref b)) (A : Arr s s.heap b cl ty) (h : (Jvm.Cond.eq (Term.elem t (Term.int k)) (Term.int v)).value args s none s [] = some true) : cl.slots[k.toNatClampNeg]? = some (.int v) :=
  (elem_in (eqv_i (Term.int_eval v) h) ev (Term.int_eval k) A.1).2
theorem own_args1 {k : Nat} (h : (Jvm.Cond.and (Jvm.Cond.count 1) (Jvm.Cond.isInt (Term.arg 0))).value args s none s [] = some true) : ∃ a : Int32, args = #[.int a] := by
  obtain ⟨h1, h2⟩ := and_e h
  have hs : args.size = 1 := by simpa [Cond.value] using h1
  obtain ⟨L⟩ := args
  match L, hs with
  | [w0], _ =>
    obtain ⟨i, e0⟩ := is_v h2
    obtain rfl : w0 = (.int i) := Option.some.inj e0
    exact ⟨i, rfl⟩
theorem own_args2 {k : Nat} (h : (Jvm.Cond.and (Jvm.Cond.count 2) (Jvm.Cond.and (Jvm.Cond.isInt (Term.arg 0)) (Jvm.Cond.isInt (Term.arg 1)))).value args s none s [] = some true) : ∃ a b : Int32, args = #[.int a, .int b] := by
  obtain ⟨h1, h2⟩ := and_e h
  obtain ⟨h2, h3⟩ := and_e h2
  have hs : args.size = 2 := by simpa [Cond.value] using h1
  obtain ⟨L⟩ := args
  match L, hs with
  | [w0, w1], _ =>
    obtain ⟨i, e0⟩ := is_v h2
    obtain ⟨j, e1⟩ := is_v h3
    obtain rfl : w0 = (.int i) := Option.some.inj e0
    obtain rfl : w1 = (.int j) := Option.some.inj e1
    exact ⟨i, j, rfl⟩
theorem own_weaken {ws : List Jvm.Cond} {rm : Room} {y : MethodName} {bytes : ByteArray} {maxL : Nat} {ret : Option FieldType} {as' : Array Value} {w : Value} {n0 : Nat} (M : own_Pure l Z h0 ws rm y bytes maxL ret as' (some w)) : own_Met l Z h0 ws rm y bytes maxL ret as' (fun v h L => v = some w ∧ Fr n0 L) := by
  intro p e ha hc hk s m args below hf happ hP hK
  obtain ⟨n, o, h1, h2, h3, v, L, h4, ⟨h5, h6, h7⟩, h8⟩ := M p e ha hc hk s m args below hf happ hP hK
  exact ⟨n, o, h1, h2, h3, v, L, h4, ⟨h5, by rw [h6]; exact Fr.nil n0⟩, h8⟩
end OwnKit
section OwnWide
variable {p : Program} {l : Launch} {e : Env} {R : Room} {s : State} {m : MethodId} {args : Array Value} {below : List Frame} {meth : Method} {c : Code} {T T' : State} {locs : List Loc} {cells slots kc ks k0 : Nat} {F : Option Value → State → Prop} {Q : Option Value → Heap → List Loc → Prop} {g g' : JFrame} {Z : State} {a0 : Array Value} {h0 : Heap} {vm0 : Vm}
theorem own_retW (X : Stand p l e R (s.setVm vm0) m args below meth c T locs cells slots) (hx : p.tables.exec = Jvm.exec) (hlk : meth.locks = false) (hS : s.Since vm0 k0) (hk : k0 ≤ T.heap.size) {pc : Nat} {Ls : Array Slot} {w : Value} {t : FieldType} {i : Instr} {rest : List Value} (hret : meth.sig.returnType = some t) (hn : narrow t w = w)
    (hi : (i = .ireturn ∧ (t = .int ∨ t = .boolean ∨ t = .byte ∨ t = .char ∨ t = .short) ∧ ∃ z, w = .int z) ∨ (i = .lreturn ∧ t = .long ∧ ∃ z, w = .long z) ∨ (i = .dreturn ∧ t = .double ∧ ∃ z, w = .double z) ∨ (i = .freturn ∧ t = .float ∧ ∃ z, w = .float z) ∨ (i = .areturn ∧ t.isReference = true ∧ w.isRef = true))
    (hd : decode c.code pc = .ok (i, 1)) (hc : cells ≤ kc) (hs : slots ≤ ks) (q : Q (some w) T.heap locs) : own_Go p e below (own_W s kc ks Q) T (mkF m pc Ls (w :: rest)) := by
  obtain ⟨fs, hr, hrun, hended, h1, h2, h3, h4⟩ := X.leaveW hS hk (v := some w) (fun h => by rw [hret] at h; cases h) hlk
  exact ⟨_, _, retOut X hx hret hn hi hd hr, hrun, hended, _, q, h1, h2, h3, h4.mono hc hs⟩
theorem own_retVW (X : Stand p l e R (s.setVm vm0) m args below meth c T locs cells slots) (hx : p.tables.exec = Jvm.exec) (hlk : meth.locks = false) (hS : s.Since vm0 k0) (hk : k0 ≤ T.heap.size) {pc : Nat} {Ls : Array Slot} (hret : meth.sig.returnType = none) (hd : decode c.code pc = .ok (.return_, 1)) (hc : cells ≤ kc) (hs : slots ≤ ks) (q : Q none T.heap locs) : own_Go p e below (own_W s kc ks Q) T (mkF m pc Ls []) := by
  obtain ⟨fs, hr, hrun, hended, h1, h2, h3, h4⟩ := X.leaveW hS hk (v := none) (fun _ => rfl) hlk
  exact ⟨_, _, X.returnOut hx hret hd hr, hrun, hended, _, q, h1, h2, h3, h4.mono hc hs⟩
def own_MetW (l : Launch) (Z : State) (h0 : Heap) (ws : List Jvm.Cond) (rm : Room) (y : MethodName) (bytes : ByteArray) (maxL : Nat) (ret : Option FieldType) (as' : Array Value) (Q : Option Value → Heap → List Loc → Prop) : Prop :=
  MetFree l y (head1 (Jvm.Cond.code y bytes maxL ret :: ws) rm) (fun a U => a = as' ∧ Z.Warmed39 U.vm ∧ U.heap = h0) (fun _ _ _ _ _ => True) (fun _ U o U' => ∃ v L, o = .returned v ∧ Q v U'.heap L ∧ ReturnedEndW U o U' L rm.cells rm.slots)
theorem own_bodyW {ws : List Jvm.Cond} {rm : Room} {y : MethodName} {bytes : ByteArray} {maxL : Nat} {ret : Option FieldType} {as' : Array Value} (hpl : plainFor y = true)
    (H : ∀ (p : Program) (e : Env) (s : State) (m : MethodId) (below : List Frame) (meth : Method) (c : Code) (T : State) (vm0 : Vm) (k0 : Nat), Stand p l e rm (s.setVm vm0) m as' below meth c T [] 0 0 → s.Since vm0 k0 → k0 ≤ h0.size → p.tables.exec = Jvm.exec → c.code = bytes → c.maxLocals = maxL → (s.setVm vm0).vm.findClass y.cls = some m.cls → Z.Warmed39 (s.setVm vm0).vm → T.heap = h0 → meth.sig.returnType = ret → meth.locks = false → meth.name = y.name → s.methodNamed? y = some m →
      own_Go p e below (own_W s rm.cells rm.slots Q) T (entryFrame m as' maxL)) : own_MetW l Z h0 ws rm y bytes maxL ret as' Q := by
  refine MetFree.of_bodySF hpl hisR ?_
  intro p e s m args below meth c s₁ Bd hml0 hP hK
  obtain ⟨rfl, hZ, hh⟩ := hP
  obtain ⟨U, v, h1, h2, h3, L, h4, h5⟩ := H p e s m below meth c s₁ s.vm 0 (Stand.of_body Bd) ((State.WarmedH.refl s).since 0) (Nat.zero_le _) Bd.exec Bd.bytes hml0 (findClass_of_methodNamed Bd.named) hZ (by rw [← hh, Bd.state]; rfl) Bd.returns Bd.notSynchronized (name_of_methodNamed Bd.named Bd.method).1 Bd.named
  exact ⟨U, _, h1, h2, h3, v, L, rfl, h4, h5⟩
theorem own_gSW {rm : Room} {y : MethodName} {bytes : ByteArray} {maxL W index : Nat} {ret : Option FieldType} {own : String} {argsL rest : List Value} (X : Stand p l e R (s.setVm vm0) m args below meth c T locs cells slots) (hS : s.Since vm0 k0) (hk : k0 ≤ h0.size) (hx : p.tables.exec = Jvm.exec) (hZ : Z.Warmed39 (s.setVm vm0).vm) (hown : (s.setVm vm0).vm.findClass own = some m.cls)
    (w1 : (Jvm.Cond.methodLink own index y).before a0 Z = true) (w2 : (Jvm.Cond.static y).before a0 Z = true) (w3 : (Jvm.Cond.initialized y.cls).before a0 Z = true) (w4 : (Jvm.Cond.code y bytes maxL ret).before a0 Z = true) (hy : y.cls ≠ "java/lang/invoke/MethodHandle" ∧ y.cls ≠ "java/lang/invoke/VarHandle") (eT : T.heap = h0)
    (hM : own_MetW l Z h0 [] rm y bytes maxL ret argsL.toArray Q) (hf : rm.frames + 1 ≤ R.frames) (hl : W + (maxL + 11) + rm.locals ≤ R.locals) (hc1 : cells + rm.cells ≤ R.cells) (hs1 : slots + rm.slots ≤ R.slots)
    (hg : g.method = m) (hsize : g.locals.size = c.maxLocals) (hlen : ∀ sig, parseMethodDescriptor y.desc = some sig → argsL.length = sig.parameters.length) (hstack : g.stack = argsL.reverse ++ rest) (hW : 2 * g.monitorRoom + (rest.map fun v => v.category).sum ≤ W) (hdg : decode c.code g.pc = .ok (.invokestatic index, 3)) :
    ∃ (v : Option Value) (T' : State) (L : List Loc) (k1 : Nat), Stand p l e R (s.setVm T'.vm) m args below meth c T' (locs ++ L) (cells + rm.cells) (slots + rm.slots) ∧ Q v T'.heap L ∧ s.Since T'.vm k1 ∧ k1 ≤ T'.heap.size ∧ Z.Warmed39 (s.setVm T'.vm).vm ∧ (s.setVm T'.vm).vm.findClass own = some m.cls ∧
      ∀ target, Steps p.tables e below (T'.setTop { g with pc := g.pc + 3, stack := v.toList ++ rest }) target → Steps p.tables e below (T.setTop g) target := by
  obtain ⟨v, _, ⟨T1, L1, n1, n2⟩, -, X1, hS1, hgr, ⟨Lc, hq, l1, y1, z1⟩, st⟩ := callSS X hx (y := y) hown (mvT hZ w1) (mvT hZ w2) (mvT hZ w3) (mvT hZ w4) hy (backOfS (W := W) (Q := Q) hM hZ w4 w3 hf hl) (g := g) hg hsize (argsL := argsL) (rest := rest) hlen hstack hW hdg (fun _ _ => ⟨rfl, eT, hc1, hs1⟩)
  dsimp only [Pt.U, Pt.locs, Pt.cells, Pt.slots] at X1 l1 y1 z1 st hq hS1 hgr
  subst l1 y1 z1
  exact ⟨v, T1, Lc, T1.heap.size, X1, hq, hS.trans hS1 (Nat.le_trans hk (by rw [← eT]; exact hgr)), Nat.le_refl _, State.Warmed39.trans (t := s.setVm vm0) hZ hS1.1, by rw [show (s.setVm T1.vm).vm = T1.vm from rfl, hS1.1.alike.findClass]; exact hown, fun _ k => st.trans k⟩
theorem own_gI {rm : Room} {y : MethodName} {bytes : ByteArray} {maxL W index : Nat} {own : String} {argsL rest : List Value} {b : Addr} (X : Stand p l e R s m args below meth c T locs cells slots) (hx : p.tables.exec = Jvm.exec) (hZ : Z.Warmed39 s.vm) (hy1 : y.name = "<init>") (hown : s.vm.findClass own = some m.cls)
    (w1 : (Jvm.Cond.methodLink own index y).before a0 Z = true) (w2 : (Jvm.Cond.instanceMethod y).before a0 Z = true) (w3 : (Jvm.Cond.initialized y.cls).before a0 Z = true) (w4 : (Jvm.Cond.code y bytes maxL none).before a0 Z = true) (hy : y.cls ≠ "java/lang/invoke/MethodHandle" ∧ y.cls ≠ "java/lang/invoke/VarHandle") (eT : T.heap = h0)
    (hM : own_Met l Z h0 [] rm y bytes maxL none (.ref b :: argsL).toArray Q) (hf : rm.frames + 1 ≤ R.frames) (hl : W + (maxL + 11) + rm.locals ≤ R.locals) (hc1 : cells + rm.cells ≤ R.cells) (hs1 : slots + rm.slots ≤ R.slots)
    (hg : g.method = m) (hsize : g.locals.size = c.maxLocals) (hlen : ∀ sig, parseMethodDescriptor y.desc = some sig → argsL.length = sig.parameters.length) (hstack : g.stack = argsL.reverse ++ .ref b :: rest) (hW : 2 * g.monitorRoom + (rest.map fun v => v.category).sum ≤ W) (hdg : decode c.code g.pc = .ok (.invokespecial index, 3)) :
    ∃ (v : Option Value) (T' : State) (L : List Loc), Stand p l e R s m args below meth c T' (locs ++ L) (cells + rm.cells) (slots + rm.slots) ∧ Q v T'.heap L ∧ ∀ target, Steps p.tables e below (T'.setTop { g with pc := g.pc + 3, stack := v.toList ++ rest }) target → Steps p.tables e below (T.setTop g) target := by
  obtain ⟨v, _, ⟨T1, L1, k1, n1⟩, -, X1, ⟨Lc, hq, l1, y1, z1⟩, st⟩ := X.specialBack hx (y := y) hy1 hown (mvT hZ w1) (mvT hZ w2) (mvT hZ w4) hy (backOf (W := W) (Q := Q) hM hZ w4 w3 hf hl) (g := g) hg hsize (Steps.refl _) (a := b) (argsL := argsL) (rest := rest) hlen hstack hW hdg (fun _ _ => ⟨rfl, eT, hc1, hs1⟩)
  dsimp only [Pt.U, Pt.locs, Pt.cells, Pt.slots] at X1 l1 y1 z1 st hq
  subst l1 y1 z1
  exact ⟨v, T1, Lc, X1, hq, fun _ k => st.trans k⟩
theorem own_gIW {rm : Room} {y : MethodName} {bytes : ByteArray} {maxL W index : Nat} {own : String} {argsL rest : List Value} {b : Addr} (X : Stand p l e R (s.setVm vm0) m args below meth c T locs cells slots) (hS : s.Since vm0 k0) (hk : k0 ≤ h0.size) (hx : p.tables.exec = Jvm.exec) (hZ : Z.Warmed39 (s.setVm vm0).vm) (hy1 : y.name = "<init>") (hown : (s.setVm vm0).vm.findClass own = some m.cls)
    (w1 : (Jvm.Cond.methodLink own index y).before a0 Z = true) (w2 : (Jvm.Cond.instanceMethod y).before a0 Z = true) (w3 : (Jvm.Cond.initialized y.cls).before a0 Z = true) (w4 : (Jvm.Cond.code y bytes maxL none).before a0 Z = true) (hy : y.cls ≠ "java/lang/invoke/MethodHandle" ∧ y.cls ≠ "java/lang/invoke/VarHandle") (eT : T.heap = h0)
    (hM : own_MetW l Z h0 [] rm y bytes maxL none (.ref b :: argsL).toArray Q) (hf : rm.frames + 1 ≤ R.frames) (hl : W + (maxL + 11) + rm.locals ≤ R.locals) (hc1 : cells + rm.cells ≤ R.cells) (hs1 : slots + rm.slots ≤ R.slots)
    (hg : g.method = m) (hsize : g.locals.size = c.maxLocals) (hlen : ∀ sig, parseMethodDescriptor y.desc = some sig → argsL.length = sig.parameters.length) (hstack : g.stack = argsL.reverse ++ .ref b :: rest) (hW : 2 * g.monitorRoom + (rest.map fun v => v.category).sum ≤ W) (hdg : decode c.code g.pc = .ok (.invokespecial index, 3)) :
    ∃ (v : Option Value) (T' : State) (L : List Loc) (k1 : Nat), Stand p l e R (s.setVm T'.vm) m args below meth c T' (locs ++ L) (cells + rm.cells) (slots + rm.slots) ∧ Q v T'.heap L ∧ s.Since T'.vm k1 ∧ k1 ≤ T'.heap.size ∧ Z.Warmed39 (s.setVm T'.vm).vm ∧ (s.setVm T'.vm).vm.findClass own = some m.cls ∧
      ∀ target, Steps p.tables e below (T'.setTop { g with pc := g.pc + 3, stack := v.toList ++ rest }) target → Steps p.tables e below (T.setTop g) target := by
  obtain ⟨v, _, ⟨T1, L1, n1, n2⟩, -, X1, hS1, hgr, ⟨Lc, hq, l1, y1, z1⟩, st⟩ := X.specialBackS hx (y := y) hy1 hown (mvT hZ w1) (mvT hZ w2) (mvT hZ w4) hy (backOfS (W := W) (Q := Q) hM hZ w4 w3 hf hl) (g := g) hg hsize (Steps.refl _) (a := b) (argsL := argsL) (rest := rest) hlen hstack hW hdg (fun _ _ => ⟨rfl, eT, hc1, hs1⟩)
  dsimp only [Pt.U, Pt.locs, Pt.cells, Pt.slots] at X1 l1 y1 z1 st hq hS1 hgr
  subst l1 y1 z1
  exact ⟨v, T1, Lc, T1.heap.size, X1, hq, hS.trans hS1 (Nat.le_trans hk (by rw [← eT]; exact hgr)), Nat.le_refl _, State.Warmed39.trans (t := s.setVm vm0) hZ hS1.1, by rw [show (s.setVm T1.vm).vm = T1.vm from rfl, hS1.1.alike.findClass]; exact hown, fun _ k => st.trans k⟩
theorem own_ext_wr {h h' h1 : Heap} {a : Addr} {sl : Nat} {v : Value} (E : Ext h h1) (W : Wr h1 h' a sl v) (q : h.size ≤ a) : Ext h h' := by
  obtain ⟨cell, c1, -, -, rfl⟩ := W
  refine ⟨by simpa using E.1, fun x c hx => ?_⟩
  have hlt : x < h.size := (Array.getElem?_eq_some_iff.mp hx).1
  have hne : a ≠ x := Nat.ne_of_gt (Nat.lt_of_lt_of_le hlt q)
  rw [Array.getElem?_setIfInBounds_ne hne]
  exact E.2 _ _ hx
theorem own_ext_keep {h h' h1 : Heap} {ws : List Addr} (E : Ext h h1) (K : Keep h1 h' ws) (q : ∀ x ∈ ws, h.size ≤ x) : Ext h h' :=
  ⟨Nat.le_trans E.1 K.1, fun x c hx => K.2.1 x c (E.2 _ _ hx) fun z => absurd (Array.getElem?_eq_some_iff.mp hx).1 (Nat.not_lt.mpr (q x z))⟩
theorem own_ext_tr {h h1 h2 : Heap} (E : Ext h h1) (E' : Ext h1 h2) : Ext h h2 := ⟨Nat.le_trans E.1 E'.1, fun x c hx => E'.2 _ _ (E.2 _ _ hx)⟩
theorem own_ext_rf (h : Heap) : Ext h h := ⟨Nat.le_refl _, fun _ _ q => q⟩
theorem own_fr_mono {n0 k : Nat} {L : List Loc} (h : n0 ≤ k) (N : Fr k L) : Fr n0 L := fun y hy => Nat.le_trans h (N y hy)
theorem own_i8 (x : Int32) : x.toInt8.toInt32.toInt8.toInt32 = x.toInt8.toInt32 := by simp
end OwnWide

theorem own_pn_0 : plainName "java/lang/Integer" = true := by first | (simp [plainName, overriddenIn]; done) | decide +kernel
theorem own_pn_1 : plainName "java/lang/Long" = true := by first | (simp [plainName, overriddenIn]; done) | decide +kernel
theorem own_pn_2 : plainName "java/util/Objects" = true := by first | (simp [plainName, overriddenIn]; done) | decide +kernel
theorem own_pn_3 : plainName "java/lang/Enum" = true := by first | (simp [plainName, overriddenIn]; done) | decide +kernel
theorem own_pn_4 : plainName "com/example/residuum/residuum/QuotientRounding" = true := by first | (simp [plainName, overriddenIn]; done) | decide +kernel
theorem own_pn_5 : plainName "com/example/residuum/residuum/Remainder" = true := by first | (simp [plainName, overriddenIn]; done) | decide +kernel
theorem own_pn_6 : plainName "com/example/residuum/residuum/RemainderEuclideanPinLaw" = true := by first | (simp [plainName, overriddenIn]; done) | decide +kernel
theorem own_pd_0 : parseMethodDescriptor "(I)I" = some ⟨[.int], some .int⟩ := by decide +kernel
theorem own_pd_1 : parseMethodDescriptor "(Ljava/lang/Object;Ljava/lang/String;)Ljava/lang/Object;" = some ⟨[(.object "java/lang/Object"), (.object "java/lang/String")], some (.object "java/lang/Object")⟩ := by decide +kernel
theorem own_pd_2 : parseMethodDescriptor "(J)J" = some ⟨[.long], some .long⟩ := by decide +kernel
theorem own_pd_3 : parseMethodDescriptor "(JJ)I" = some ⟨[.long, .long], some .int⟩ := by decide +kernel
theorem own_pd_4 : parseMethodDescriptor "(J)I" = some ⟨[.long], some .int⟩ := by decide +kernel
theorem own_pd_5 : parseMethodDescriptor "()I" = some ⟨[], some .int⟩ := by decide +kernel
theorem own_pd_6 : parseMethodDescriptor "(Ljava/math/RoundingMode;ZIZ)Z" = some ⟨[(.object "java/math/RoundingMode"), .boolean, .int, .boolean], some .boolean⟩ := by decide +kernel
theorem own_pd_7 : parseMethodDescriptor "(JJLjava/math/RoundingMode;)J" = some ⟨[.long, .long, (.object "java/math/RoundingMode")], some .long⟩ := by decide +kernel
theorem own_pd_8 : parseMethodDescriptor "(Z)Ljava/math/RoundingMode;" = some ⟨[.boolean], some (.object "java/math/RoundingMode")⟩ := by decide +kernel
theorem own_pd_9 : parseMethodDescriptor "(IILjava/math/RoundingMode;)I" = some ⟨[.int, .int, (.object "java/math/RoundingMode")], some .int⟩ := by decide +kernel
theorem own_pd_10 : parseMethodDescriptor "(II)I" = some ⟨[.int, .int], some .int⟩ := by decide +kernel
theorem own_d_jdk_33_method_48_code_0 : decode jdk_33_method_48_code 0 = .ok (.iload_n 0, 1) := by decide +kernel
theorem own_d_jdk_33_method_48_code_1 : decode jdk_33_method_48_code 1 = .ok (.iconst (-1), 1) := by decide +kernel
theorem own_d_jdk_33_method_48_code_2 : decode jdk_33_method_48_code 2 = .ok (.ixor, 1) := by decide +kernel
theorem own_d_jdk_33_method_48_code_3 : decode jdk_33_method_48_code 3 = .ok (.iload_n 0, 1) := by decide +kernel
theorem own_d_jdk_33_method_48_code_4 : decode jdk_33_method_48_code 4 = .ok (.iconst 1, 1) := by decide +kernel
theorem own_d_jdk_33_method_48_code_5 : decode jdk_33_method_48_code 5 = .ok (.isub, 1) := by decide +kernel
theorem own_d_jdk_33_method_48_code_6 : decode jdk_33_method_48_code 6 = .ok (.iand, 1) := by decide +kernel
theorem own_d_jdk_33_method_48_code_7 : decode jdk_33_method_48_code 7 = .ok (.istore_n 0, 1) := by decide +kernel
theorem own_d_jdk_33_method_48_code_8 : decode jdk_33_method_48_code 8 = .ok (.iload_n 0, 1) := by decide +kernel
theorem own_d_jdk_33_method_48_code_9 : decode jdk_33_method_48_code 9 = .ok (.ifCond .gt 8, 3) := by decide +kernel
theorem own_d_jdk_33_method_48_code_12 : decode jdk_33_method_48_code 12 = .ok (.iload_n 0, 1) := by decide +kernel
theorem own_d_jdk_33_method_48_code_13 : decode jdk_33_method_48_code 13 = .ok (.bipush 32, 2) := by decide +kernel
theorem own_d_jdk_33_method_48_code_15 : decode jdk_33_method_48_code 15 = .ok (.iand, 1) := by decide +kernel
theorem own_d_jdk_33_method_48_code_16 : decode jdk_33_method_48_code 16 = .ok (.ireturn, 1) := by decide +kernel
theorem own_d_jdk_33_method_48_code_17 : decode jdk_33_method_48_code 17 = .ok (.iconst 1, 1) := by decide +kernel
theorem own_d_jdk_33_method_48_code_18 : decode jdk_33_method_48_code 18 = .ok (.istore_n 1, 1) := by decide +kernel
theorem own_d_jdk_33_method_48_code_19 : decode jdk_33_method_48_code 19 = .ok (.iload_n 0, 1) := by decide +kernel
theorem own_d_jdk_33_method_48_code_20 : decode jdk_33_method_48_code 20 = .ok (.ldc_w 264, 3) := by decide +kernel
theorem own_d_jdk_33_method_48_code_23 : decode jdk_33_method_48_code 23 = .ok (.if_icmp .le 11, 3) := by decide +kernel
theorem own_d_jdk_33_method_48_code_26 : decode jdk_33_method_48_code 26 = .ok (.iinc 1 16, 3) := by decide +kernel
theorem own_d_jdk_33_method_48_code_29 : decode jdk_33_method_48_code 29 = .ok (.iload_n 0, 1) := by decide +kernel
theorem own_d_jdk_33_method_48_code_30 : decode jdk_33_method_48_code 30 = .ok (.bipush 16, 2) := by decide +kernel
theorem own_d_jdk_33_method_48_code_32 : decode jdk_33_method_48_code 32 = .ok (.iushr, 1) := by decide +kernel
theorem own_d_jdk_33_method_48_code_33 : decode jdk_33_method_48_code 33 = .ok (.istore_n 0, 1) := by decide +kernel
theorem own_d_jdk_33_method_48_code_34 : decode jdk_33_method_48_code 34 = .ok (.iload_n 0, 1) := by decide +kernel
theorem own_d_jdk_33_method_48_code_35 : decode jdk_33_method_48_code 35 = .ok (.sipush 256, 3) := by decide +kernel
theorem own_d_jdk_33_method_48_code_38 : decode jdk_33_method_48_code 38 = .ok (.if_icmp .le 11, 3) := by decide +kernel
theorem own_d_jdk_33_method_48_code_41 : decode jdk_33_method_48_code 41 = .ok (.iinc 1 8, 3) := by decide +kernel
theorem own_d_jdk_33_method_48_code_44 : decode jdk_33_method_48_code 44 = .ok (.iload_n 0, 1) := by decide +kernel
theorem own_d_jdk_33_method_48_code_45 : decode jdk_33_method_48_code 45 = .ok (.bipush 8, 2) := by decide +kernel
theorem own_d_jdk_33_method_48_code_47 : decode jdk_33_method_48_code 47 = .ok (.iushr, 1) := by decide +kernel
theorem own_d_jdk_33_method_48_code_48 : decode jdk_33_method_48_code 48 = .ok (.istore_n 0, 1) := by decide +kernel
theorem own_d_jdk_33_method_48_code_49 : decode jdk_33_method_48_code 49 = .ok (.iload_n 0, 1) := by decide +kernel
theorem own_d_jdk_33_method_48_code_50 : decode jdk_33_method_48_code 50 = .ok (.bipush 16, 2) := by decide +kernel
theorem own_d_jdk_33_method_48_code_52 : decode jdk_33_method_48_code 52 = .ok (.if_icmp .le 10, 3) := by decide +kernel
theorem own_d_jdk_33_method_48_code_55 : decode jdk_33_method_48_code 55 = .ok (.iinc 1 4, 3) := by decide +kernel
theorem own_d_jdk_33_method_48_code_58 : decode jdk_33_method_48_code 58 = .ok (.iload_n 0, 1) := by decide +kernel
theorem own_d_jdk_33_method_48_code_59 : decode jdk_33_method_48_code 59 = .ok (.iconst 4, 1) := by decide +kernel
theorem own_d_jdk_33_method_48_code_60 : decode jdk_33_method_48_code 60 = .ok (.iushr, 1) := by decide +kernel
theorem own_d_jdk_33_method_48_code_61 : decode jdk_33_method_48_code 61 = .ok (.istore_n 0, 1) := by decide +kernel
theorem own_d_jdk_33_method_48_code_62 : decode jdk_33_method_48_code 62 = .ok (.iload_n 0, 1) := by decide +kernel
theorem own_d_jdk_33_method_48_code_63 : decode jdk_33_method_48_code 63 = .ok (.iconst 4, 1) := by decide +kernel
theorem own_d_jdk_33_method_48_code_64 : decode jdk_33_method_48_code 64 = .ok (.if_icmp .le 10, 3) := by decide +kernel
theorem own_d_jdk_33_method_48_code_67 : decode jdk_33_method_48_code 67 = .ok (.iinc 1 2, 3) := by decide +kernel
theorem own_d_jdk_33_method_48_code_70 : decode jdk_33_method_48_code 70 = .ok (.iload_n 0, 1) := by decide +kernel
theorem own_d_jdk_33_method_48_code_71 : decode jdk_33_method_48_code 71 = .ok (.iconst 2, 1) := by decide +kernel
theorem own_d_jdk_33_method_48_code_72 : decode jdk_33_method_48_code 72 = .ok (.iushr, 1) := by decide +kernel
theorem own_d_jdk_33_method_48_code_73 : decode jdk_33_method_48_code 73 = .ok (.istore_n 0, 1) := by decide +kernel
theorem own_d_jdk_33_method_48_code_74 : decode jdk_33_method_48_code 74 = .ok (.iload_n 1, 1) := by decide +kernel
theorem own_d_jdk_33_method_48_code_75 : decode jdk_33_method_48_code 75 = .ok (.iload_n 0, 1) := by decide +kernel
theorem own_d_jdk_33_method_48_code_76 : decode jdk_33_method_48_code 76 = .ok (.iconst 1, 1) := by decide +kernel
theorem own_d_jdk_33_method_48_code_77 : decode jdk_33_method_48_code 77 = .ok (.iushr, 1) := by decide +kernel
theorem own_d_jdk_33_method_48_code_78 : decode jdk_33_method_48_code 78 = .ok (.iadd, 1) := by decide +kernel
theorem own_d_jdk_33_method_48_code_79 : decode jdk_33_method_48_code 79 = .ok (.ireturn, 1) := by decide +kernel
theorem own_d_jdk_35_method_49_code_0 : decode jdk_35_method_49_code 0 = .ok (.lload_n 0, 1) := by decide +kernel
theorem own_d_jdk_35_method_49_code_1 : decode jdk_35_method_49_code 1 = .ok (.l2i, 1) := by decide +kernel
theorem own_d_jdk_35_method_49_code_2 : decode jdk_35_method_49_code 2 = .ok (.istore_n 2, 1) := by decide +kernel
theorem own_d_jdk_35_method_49_code_3 : decode jdk_35_method_49_code 3 = .ok (.iload_n 2, 1) := by decide +kernel
theorem own_d_jdk_35_method_49_code_4 : decode jdk_35_method_49_code 4 = .ok (.ifCond .ne 17, 3) := by decide +kernel
theorem own_d_jdk_35_method_49_code_7 : decode jdk_35_method_49_code 7 = .ok (.bipush 32, 2) := by decide +kernel
theorem own_d_jdk_35_method_49_code_9 : decode jdk_35_method_49_code 9 = .ok (.lload_n 0, 1) := by decide +kernel
theorem own_d_jdk_35_method_49_code_10 : decode jdk_35_method_49_code 10 = .ok (.bipush 32, 2) := by decide +kernel
theorem own_d_jdk_35_method_49_code_12 : decode jdk_35_method_49_code 12 = .ok (.lushr, 1) := by decide +kernel
theorem own_d_jdk_35_method_49_code_13 : decode jdk_35_method_49_code 13 = .ok (.l2i, 1) := by decide +kernel
theorem own_d_jdk_35_method_49_code_14 : decode jdk_35_method_49_code 14 = .ok (.invokestatic 311, 3) := by decide +kernel
theorem own_d_jdk_35_method_49_code_17 : decode jdk_35_method_49_code 17 = .ok (.iadd, 1) := by decide +kernel
theorem own_d_jdk_35_method_49_code_18 : decode jdk_35_method_49_code 18 = .ok (.goto 7, 3) := by decide +kernel
theorem own_d_jdk_35_method_49_code_21 : decode jdk_35_method_49_code 21 = .ok (.iload_n 2, 1) := by decide +kernel
theorem own_d_jdk_35_method_49_code_22 : decode jdk_35_method_49_code 22 = .ok (.invokestatic 311, 3) := by decide +kernel
theorem own_d_jdk_35_method_49_code_25 : decode jdk_35_method_49_code 25 = .ok (.ireturn, 1) := by decide +kernel
theorem own_d_jdk_35_method_42_code_0 : decode jdk_35_method_42_code 0 = .ok (.lload_n 0, 1) := by decide +kernel
theorem own_d_jdk_35_method_42_code_1 : decode jdk_35_method_42_code 1 = .ok (.lload_n 2, 1) := by decide +kernel
theorem own_d_jdk_35_method_42_code_2 : decode jdk_35_method_42_code 2 = .ok (.lcmp, 1) := by decide +kernel
theorem own_d_jdk_35_method_42_code_3 : decode jdk_35_method_42_code 3 = .ok (.ifCond .ge 7, 3) := by decide +kernel
theorem own_d_jdk_35_method_42_code_6 : decode jdk_35_method_42_code 6 = .ok (.iconst (-1), 1) := by decide +kernel
theorem own_d_jdk_35_method_42_code_7 : decode jdk_35_method_42_code 7 = .ok (.goto 14, 3) := by decide +kernel
theorem own_d_jdk_35_method_42_code_10 : decode jdk_35_method_42_code 10 = .ok (.lload_n 0, 1) := by decide +kernel
theorem own_d_jdk_35_method_42_code_11 : decode jdk_35_method_42_code 11 = .ok (.lload_n 2, 1) := by decide +kernel
theorem own_d_jdk_35_method_42_code_12 : decode jdk_35_method_42_code 12 = .ok (.lcmp, 1) := by decide +kernel
theorem own_d_jdk_35_method_42_code_13 : decode jdk_35_method_42_code 13 = .ok (.ifCond .ne 7, 3) := by decide +kernel
theorem own_d_jdk_35_method_42_code_16 : decode jdk_35_method_42_code 16 = .ok (.iconst 0, 1) := by decide +kernel
theorem own_d_jdk_35_method_42_code_17 : decode jdk_35_method_42_code 17 = .ok (.goto 4, 3) := by decide +kernel
theorem own_d_jdk_35_method_42_code_20 : decode jdk_35_method_42_code 20 = .ok (.iconst 1, 1) := by decide +kernel
theorem own_d_jdk_35_method_42_code_21 : decode jdk_35_method_42_code 21 = .ok (.ireturn, 1) := by decide +kernel
theorem own_d_jdk_31_method_11_code_0 : decode jdk_31_method_11_code 0 = .ok (.aload_n 0, 1) := by decide +kernel
theorem own_d_jdk_31_method_11_code_1 : decode jdk_31_method_11_code 1 = .ok (.ifnonnull 12, 3) := by decide +kernel
theorem own_d_jdk_31_method_11_code_13 : decode jdk_31_method_11_code 13 = .ok (.aload_n 0, 1) := by decide +kernel
theorem own_d_jdk_31_method_11_code_14 : decode jdk_31_method_11_code 14 = .ok (.areturn, 1) := by decide +kernel
theorem own_d_jdk_29_method_61_code_0 : decode jdk_29_method_61_code 0 = .ok (.lload_n 0, 1) := by decide +kernel
theorem own_d_jdk_29_method_61_code_1 : decode jdk_29_method_61_code 1 = .ok (.lconst 0, 1) := by decide +kernel
theorem own_d_jdk_29_method_61_code_2 : decode jdk_29_method_61_code 2 = .ok (.lcmp, 1) := by decide +kernel
theorem own_d_jdk_29_method_61_code_3 : decode jdk_29_method_61_code 3 = .ok (.ifCond .ge 8, 3) := by decide +kernel
theorem own_d_jdk_29_method_61_code_6 : decode jdk_29_method_61_code 6 = .ok (.lload_n 0, 1) := by decide +kernel
theorem own_d_jdk_29_method_61_code_7 : decode jdk_29_method_61_code 7 = .ok (.lneg, 1) := by decide +kernel
theorem own_d_jdk_29_method_61_code_8 : decode jdk_29_method_61_code 8 = .ok (.goto 4, 3) := by decide +kernel
theorem own_d_jdk_29_method_61_code_12 : decode jdk_29_method_61_code 12 = .ok (.lreturn, 1) := by decide +kernel
theorem own_d_jdk_29_method_61_code_11 : decode jdk_29_method_61_code 11 = .ok (.lload_n 0, 1) := by decide +kernel
theorem own_d_jdk_37_method_2_code_0 : decode jdk_37_method_2_code 0 = .ok (.aload_n 0, 1) := by decide +kernel
theorem own_d_jdk_37_method_2_code_1 : decode jdk_37_method_2_code 1 = .ok (.getfield 7, 3) := by decide +kernel
theorem own_d_jdk_37_method_2_code_4 : decode jdk_37_method_2_code 4 = .ok (.ireturn, 1) := by decide +kernel
theorem own_d_prog_7_method_2_code_0 : decode prog_7_method_2_code 0 = .ok (.getstatic 7, 3) := by decide +kernel
theorem own_d_prog_7_method_2_code_3 : decode prog_7_method_2_code 3 = .ok (.aload_n 0, 1) := by decide +kernel
theorem own_d_prog_7_method_2_code_4 : decode prog_7_method_2_code 4 = .ok (.invokevirtual 13, 3) := by decide +kernel
theorem own_d_prog_7_method_2_code_7 : decode prog_7_method_2_code 7 = .ok (.iaload, 1) := by decide +kernel
theorem own_d_prog_7_method_2_code_8 : decode prog_7_method_2_code 8 = .ok (.tableswitch 48 1 8 #[58, 62, 66, 78, 82, 94, 106, 130], 48) := by decide +kernel
theorem own_d_prog_7_method_2_code_86 : decode prog_7_method_2_code 86 = .ok (.iload_n 1, 1) := by decide +kernel
theorem own_d_prog_7_method_2_code_87 : decode prog_7_method_2_code 87 = .ok (.goto 55, 3) := by decide +kernel
theorem own_d_prog_7_method_2_code_142 : decode prog_7_method_2_code 142 = .ok (.istore 4, 2) := by decide +kernel
theorem own_d_prog_7_method_2_code_144 : decode prog_7_method_2_code 144 = .ok (.iload 4, 2) := by decide +kernel
theorem own_d_prog_7_method_2_code_146 : decode prog_7_method_2_code 146 = .ok (.ireturn, 1) := by decide +kernel
theorem own_d_prog_9_method_3_code_0 : decode prog_9_method_3_code 0 = .ok (.lload_n 2, 1) := by decide +kernel
theorem own_d_prog_9_method_3_code_1 : decode prog_9_method_3_code 1 = .ok (.lconst 0, 1) := by decide +kernel
theorem own_d_prog_9_method_3_code_2 : decode prog_9_method_3_code 2 = .ok (.lcmp, 1) := by decide +kernel
theorem own_d_prog_9_method_3_code_3 : decode prog_9_method_3_code 3 = .ok (.ifCond .ne 7, 3) := by decide +kernel
theorem own_d_prog_9_method_3_code_10 : decode prog_9_method_3_code 10 = .ok (.aload 4, 2) := by decide +kernel
theorem own_d_prog_9_method_3_code_12 : decode prog_9_method_3_code 12 = .ok (.ldc 19, 2) := by decide +kernel
theorem own_d_prog_9_method_3_code_14 : decode prog_9_method_3_code 14 = .ok (.invokestatic 21, 3) := by decide +kernel
theorem own_d_prog_9_method_3_code_17 : decode prog_9_method_3_code 17 = .ok (.pop, 1) := by decide +kernel
theorem own_d_prog_9_method_3_code_18 : decode prog_9_method_3_code 18 = .ok (.lload_n 0, 1) := by decide +kernel
theorem own_d_prog_9_method_3_code_19 : decode prog_9_method_3_code 19 = .ok (.lload_n 2, 1) := by decide +kernel
theorem own_d_prog_9_method_3_code_20 : decode prog_9_method_3_code 20 = .ok (.lrem, 1) := by decide +kernel
theorem own_d_prog_9_method_3_code_21 : decode prog_9_method_3_code 21 = .ok (.lstore 5, 2) := by decide +kernel
theorem own_d_prog_9_method_3_code_23 : decode prog_9_method_3_code 23 = .ok (.lload 5, 2) := by decide +kernel
theorem own_d_prog_9_method_3_code_25 : decode prog_9_method_3_code 25 = .ok (.lconst 0, 1) := by decide +kernel
theorem own_d_prog_9_method_3_code_26 : decode prog_9_method_3_code 26 = .ok (.lcmp, 1) := by decide +kernel
theorem own_d_prog_9_method_3_code_27 : decode prog_9_method_3_code 27 = .ok (.ifCond .ne 9, 3) := by decide +kernel
theorem own_d_prog_9_method_3_code_30 : decode prog_9_method_3_code 30 = .ok (.lconst 0, 1) := by decide +kernel
theorem own_d_prog_9_method_3_code_31 : decode prog_9_method_3_code 31 = .ok (.lstore 7, 2) := by decide +kernel
theorem own_d_prog_9_method_3_code_33 : decode prog_9_method_3_code 33 = .ok (.goto 102, 3) := by decide +kernel
theorem own_d_prog_9_method_3_code_36 : decode prog_9_method_3_code 36 = .ok (.lload 5, 2) := by decide +kernel
theorem own_d_prog_9_method_3_code_38 : decode prog_9_method_3_code 38 = .ok (.lload_n 2, 1) := by decide +kernel
theorem own_d_prog_9_method_3_code_39 : decode prog_9_method_3_code 39 = .ok (.lxor, 1) := by decide +kernel
theorem own_d_prog_9_method_3_code_40 : decode prog_9_method_3_code 40 = .ok (.lconst 0, 1) := by decide +kernel
theorem own_d_prog_9_method_3_code_41 : decode prog_9_method_3_code 41 = .ok (.lcmp, 1) := by decide +kernel
theorem own_d_prog_9_method_3_code_42 : decode prog_9_method_3_code 42 = .ok (.ifCond .ge 7, 3) := by decide +kernel
theorem own_d_prog_9_method_3_code_45 : decode prog_9_method_3_code 45 = .ok (.iconst 1, 1) := by decide +kernel
theorem own_d_prog_9_method_3_code_46 : decode prog_9_method_3_code 46 = .ok (.goto 4, 3) := by decide +kernel
theorem own_d_prog_9_method_3_code_49 : decode prog_9_method_3_code 49 = .ok (.iconst 0, 1) := by decide +kernel
theorem own_d_prog_9_method_3_code_50 : decode prog_9_method_3_code 50 = .ok (.istore 9, 2) := by decide +kernel
theorem own_d_prog_9_method_3_code_52 : decode prog_9_method_3_code 52 = .ok (.iload 9, 2) := by decide +kernel
theorem own_d_prog_9_method_3_code_54 : decode prog_9_method_3_code 54 = .ok (.ifCond .eq 12, 3) := by decide +kernel
theorem own_d_prog_9_method_3_code_57 : decode prog_9_method_3_code 57 = .ok (.lload 5, 2) := by decide +kernel
theorem own_d_prog_9_method_3_code_59 : decode prog_9_method_3_code 59 = .ok (.lload_n 2, 1) := by decide +kernel
theorem own_d_prog_9_method_3_code_60 : decode prog_9_method_3_code 60 = .ok (.ladd, 1) := by decide +kernel
theorem own_d_prog_9_method_3_code_61 : decode prog_9_method_3_code 61 = .ok (.lstore 10, 2) := by decide +kernel
theorem own_d_prog_9_method_3_code_63 : decode prog_9_method_3_code 63 = .ok (.goto 9, 3) := by decide +kernel
theorem own_d_prog_9_method_3_code_66 : decode prog_9_method_3_code 66 = .ok (.lload 5, 2) := by decide +kernel
theorem own_d_prog_9_method_3_code_68 : decode prog_9_method_3_code 68 = .ok (.lload_n 2, 1) := by decide +kernel
theorem own_d_prog_9_method_3_code_69 : decode prog_9_method_3_code 69 = .ok (.lsub, 1) := by decide +kernel
theorem own_d_prog_9_method_3_code_70 : decode prog_9_method_3_code 70 = .ok (.lstore 10, 2) := by decide +kernel
theorem own_d_prog_9_method_3_code_72 : decode prog_9_method_3_code 72 = .ok (.lload 5, 2) := by decide +kernel
theorem own_d_prog_9_method_3_code_74 : decode prog_9_method_3_code 74 = .ok (.invokestatic 27, 3) := by decide +kernel
theorem own_d_prog_9_method_3_code_77 : decode prog_9_method_3_code 77 = .ok (.lload 10, 2) := by decide +kernel
theorem own_d_prog_9_method_3_code_79 : decode prog_9_method_3_code 79 = .ok (.invokestatic 27, 3) := by decide +kernel
theorem own_d_prog_9_method_3_code_82 : decode prog_9_method_3_code 82 = .ok (.invokestatic 33, 3) := by decide +kernel
theorem own_d_prog_9_method_3_code_85 : decode prog_9_method_3_code 85 = .ok (.istore 12, 2) := by decide +kernel
theorem own_d_prog_9_method_3_code_87 : decode prog_9_method_3_code 87 = .ok (.lload_n 0, 1) := by decide +kernel
theorem own_d_prog_9_method_3_code_88 : decode prog_9_method_3_code 88 = .ok (.lload 5, 2) := by decide +kernel
theorem own_d_prog_9_method_3_code_90 : decode prog_9_method_3_code 90 = .ok (.lsub, 1) := by decide +kernel
theorem own_d_prog_9_method_3_code_91 : decode prog_9_method_3_code 91 = .ok (.lload_n 2, 1) := by decide +kernel
theorem own_d_prog_9_method_3_code_92 : decode prog_9_method_3_code 92 = .ok (.invokestatic 39, 3) := by decide +kernel
theorem own_d_prog_9_method_3_code_95 : decode prog_9_method_3_code 95 = .ok (.lshr, 1) := by decide +kernel
theorem own_d_prog_9_method_3_code_96 : decode prog_9_method_3_code 96 = .ok (.lconst 1, 1) := by decide +kernel
theorem own_d_prog_9_method_3_code_97 : decode prog_9_method_3_code 97 = .ok (.land, 1) := by decide +kernel
theorem own_d_prog_9_method_3_code_98 : decode prog_9_method_3_code 98 = .ok (.lconst 0, 1) := by decide +kernel
theorem own_d_prog_9_method_3_code_99 : decode prog_9_method_3_code 99 = .ok (.lcmp, 1) := by decide +kernel
theorem own_d_prog_9_method_3_code_100 : decode prog_9_method_3_code 100 = .ok (.ifCond .eq 7, 3) := by decide +kernel
theorem own_d_prog_9_method_3_code_103 : decode prog_9_method_3_code 103 = .ok (.iconst 1, 1) := by decide +kernel
theorem own_d_prog_9_method_3_code_104 : decode prog_9_method_3_code 104 = .ok (.goto 4, 3) := by decide +kernel
theorem own_d_prog_9_method_3_code_107 : decode prog_9_method_3_code 107 = .ok (.iconst 0, 1) := by decide +kernel
theorem own_d_prog_9_method_3_code_108 : decode prog_9_method_3_code 108 = .ok (.istore 13, 2) := by decide +kernel
theorem own_d_prog_9_method_3_code_110 : decode prog_9_method_3_code 110 = .ok (.aload 4, 2) := by decide +kernel
theorem own_d_prog_9_method_3_code_112 : decode prog_9_method_3_code 112 = .ok (.iload 9, 2) := by decide +kernel
theorem own_d_prog_9_method_3_code_114 : decode prog_9_method_3_code 114 = .ok (.iload 12, 2) := by decide +kernel
theorem own_d_prog_9_method_3_code_116 : decode prog_9_method_3_code 116 = .ok (.iload 13, 2) := by decide +kernel
theorem own_d_prog_9_method_3_code_118 : decode prog_9_method_3_code 118 = .ok (.invokestatic 43, 3) := by decide +kernel
theorem own_d_prog_9_method_3_code_121 : decode prog_9_method_3_code 121 = .ok (.ifCond .eq 10, 3) := by decide +kernel
theorem own_d_prog_9_method_3_code_124 : decode prog_9_method_3_code 124 = .ok (.lload 10, 2) := by decide +kernel
theorem own_d_prog_9_method_3_code_126 : decode prog_9_method_3_code 126 = .ok (.lstore 7, 2) := by decide +kernel
theorem own_d_prog_9_method_3_code_128 : decode prog_9_method_3_code 128 = .ok (.goto 7, 3) := by decide +kernel
theorem own_d_prog_9_method_3_code_131 : decode prog_9_method_3_code 131 = .ok (.lload 5, 2) := by decide +kernel
theorem own_d_prog_9_method_3_code_133 : decode prog_9_method_3_code 133 = .ok (.lstore 7, 2) := by decide +kernel
theorem own_d_prog_9_method_3_code_135 : decode prog_9_method_3_code 135 = .ok (.lload 7, 2) := by decide +kernel
theorem own_d_prog_9_method_3_code_137 : decode prog_9_method_3_code 137 = .ok (.lreturn, 1) := by decide +kernel
theorem own_d_prog_7_method_2_code_74 : decode prog_7_method_2_code 74 = .ok (.iload_n 1, 1) := by decide +kernel
theorem own_d_prog_7_method_2_code_75 : decode prog_7_method_2_code 75 = .ok (.ifCond .ne 7, 3) := by decide +kernel
theorem own_d_prog_7_method_2_code_78 : decode prog_7_method_2_code 78 = .ok (.iconst 1, 1) := by decide +kernel
theorem own_d_prog_7_method_2_code_79 : decode prog_7_method_2_code 79 = .ok (.goto 63, 3) := by decide +kernel
theorem own_d_prog_7_method_2_code_82 : decode prog_7_method_2_code 82 = .ok (.iconst 0, 1) := by decide +kernel
theorem own_d_prog_7_method_2_code_83 : decode prog_7_method_2_code 83 = .ok (.goto 59, 3) := by decide +kernel
theorem own_d_prog_9_method_2_code_0 : decode prog_9_method_2_code 0 = .ok (.iload_n 0, 1) := by decide +kernel
theorem own_d_prog_9_method_2_code_1 : decode prog_9_method_2_code 1 = .ok (.i2l, 1) := by decide +kernel
theorem own_d_prog_9_method_2_code_2 : decode prog_9_method_2_code 2 = .ok (.iload_n 1, 1) := by decide +kernel
theorem own_d_prog_9_method_2_code_3 : decode prog_9_method_2_code 3 = .ok (.i2l, 1) := by decide +kernel
theorem own_d_prog_9_method_2_code_4 : decode prog_9_method_2_code 4 = .ok (.aload_n 2, 1) := by decide +kernel
theorem own_d_prog_9_method_2_code_5 : decode prog_9_method_2_code 5 = .ok (.invokestatic 7, 3) := by decide +kernel
theorem own_d_prog_9_method_2_code_8 : decode prog_9_method_2_code 8 = .ok (.l2i, 1) := by decide +kernel
theorem own_d_prog_9_method_2_code_9 : decode prog_9_method_2_code 9 = .ok (.ireturn, 1) := by decide +kernel
theorem own_d_prog_7_method_3_code_0 : decode prog_7_method_3_code 0 = .ok (.iload_n 0, 1) := by decide +kernel
theorem own_d_prog_7_method_3_code_1 : decode prog_7_method_3_code 1 = .ok (.ifCond .eq 10, 3) := by decide +kernel
theorem own_d_prog_7_method_3_code_11 : decode prog_7_method_3_code 11 = .ok (.getstatic 34, 3) := by decide +kernel
theorem own_d_prog_7_method_3_code_14 : decode prog_7_method_3_code 14 = .ok (.astore_n 1, 1) := by decide +kernel
theorem own_d_prog_7_method_3_code_15 : decode prog_7_method_3_code 15 = .ok (.aload_n 1, 1) := by decide +kernel
theorem own_d_prog_7_method_3_code_16 : decode prog_7_method_3_code 16 = .ok (.areturn, 1) := by decide +kernel
theorem own_d_prog_9_method_4_code_0 : decode prog_9_method_4_code 0 = .ok (.iload_n 0, 1) := by decide +kernel
theorem own_d_prog_9_method_4_code_1 : decode prog_9_method_4_code 1 = .ok (.iload_n 1, 1) := by decide +kernel
theorem own_d_prog_9_method_4_code_2 : decode prog_9_method_4_code 2 = .ok (.iload_n 1, 1) := by decide +kernel
theorem own_d_prog_9_method_4_code_3 : decode prog_9_method_4_code 3 = .ok (.ifCond .ge 7, 3) := by decide +kernel
theorem own_d_prog_9_method_4_code_10 : decode prog_9_method_4_code 10 = .ok (.iconst 0, 1) := by decide +kernel
theorem own_d_prog_9_method_4_code_11 : decode prog_9_method_4_code 11 = .ok (.invokestatic 47, 3) := by decide +kernel
theorem own_d_prog_9_method_4_code_14 : decode prog_9_method_4_code 14 = .ok (.invokestatic 51, 3) := by decide +kernel
theorem own_d_prog_9_method_4_code_17 : decode prog_9_method_4_code 17 = .ok (.ireturn, 1) := by decide +kernel
theorem own_d_prog_7_method_3_code_4 : decode prog_7_method_3_code 4 = .ok (.getstatic 30, 3) := by decide +kernel
theorem own_d_prog_7_method_3_code_7 : decode prog_7_method_3_code 7 = .ok (.astore_n 1, 1) := by decide +kernel
theorem own_d_prog_7_method_3_code_8 : decode prog_7_method_3_code 8 = .ok (.goto 7, 3) := by decide +kernel
theorem own_d_prog_9_method_4_code_6 : decode prog_9_method_4_code 6 = .ok (.iconst 1, 1) := by decide +kernel
theorem own_d_prog_9_method_4_code_7 : decode prog_9_method_4_code 7 = .ok (.goto 4, 3) := by decide +kernel
theorem own_rem {A D r : Int64} (h : r = A - (A / D) * D) : r.toInt = A.toInt.tmod D.toInt := by
  rw [h, lrem_mod, Int64.toInt_mod]
theorem own_rem_b (a d : Int) (h : d ≠ 0) : (0 ≤ a → 0 ≤ a.tmod d) ∧ (a < 0 → a.tmod d ≤ 0) ∧ (0 < d → -d < a.tmod d ∧ a.tmod d < d) ∧ (d < 0 → d < a.tmod d ∧ a.tmod d < -d) := by
  refine ⟨fun q => Int.tmod_nonneg d q, fun q => ?_, fun q => tmod_bounds q, fun q => ?_⟩
  · have := Int.tmod_nonneg d (show 0 ≤ -a by omega)
    rw [Int.neg_tmod] at this
    omega
  · have := tmod_bounds (a := a) (M := -d) (by omega)
    rw [Int.tmod_neg] at this
    omega
theorem own_m1 (A q D : Int64) : A - (q - 1) * D = (A - q * D) + D := by
  rw [Int64.sub_mul, Int64.one_mul]
  apply Int64.toInt_inj.mp
  have h1 := c_lsub A (q * D - D)
  have h2 := c_lsub (q * D) D
  have h3 := c_ladd (A - q * D) D
  have h4 := c_lsub A (q * D)
  have r1 := rng64 (A - (q * D - D))
  have r2 := rng64 (A - q * D + D)
  omega
theorem own_p1 (A q D : Int64) : A - (q + 1) * D = (A - q * D) - D := by
  rw [Int64.add_mul, Int64.one_mul]
  apply Int64.toInt_inj.mp
  have h1 := c_lsub A (q * D + D)
  have h2 := c_ladd (q * D) D
  have h3 := c_lsub (A - q * D) D
  have h4 := c_lsub A (q * D)
  have r1 := rng64 (A - (q * D + D))
  have r2 := rng64 (A - q * D - D)
  omega
theorem own_add64 {a b : Int64} (h1 : -9223372036854775808 ≤ a.toInt + b.toInt) (h2 : a.toInt + b.toInt < 9223372036854775808) : (a + b).toInt = a.toInt + b.toInt := by
  have q := c_ladd a b
  have r := rng64 (a + b)
  omega
theorem own_sub64 {a b : Int64} (h1 : -9223372036854775808 ≤ a.toInt - b.toInt) (h2 : a.toInt - b.toInt < 9223372036854775808) : (a - b).toInt = a.toInt - b.toInt := by
  have q := c_lsub a b
  have r := rng64 (a - b)
  omega
theorem own_neg64 {a : Int64} (h : -9223372036854775808 < a.toInt) : (-a).toInt = -a.toInt := by
  have q := c_lneg a
  have r := rng64 (-a)
  have r2 := rng64 a
  omega
theorem own_or {a X : Jvm.Cond} {args : Array Value} {s : State} {idx : List Nat} {P : Prop} [Decidable P] (h : a.value args s none s idx = some (decide P)) (hp : ¬ P) : (Jvm.Cond.or a X).value args s none s idx = X.value args s none s idx := by
  have h' : a.value args s none s idx = some false := by rw [h]; simp [hp]
  simp only [Cond.value, h']
theorem own_all {args : Array Value} {s : State} {t : Term} {b : Addr} {cl : Cell} {k v : Int32} (ev : ∀ idx, t.eval args s none idx s = some (.ref b)) (A : Arr s s.heap b cl .int) (Z : cl.slots.size = (8 : Int32).toNatClampNeg)
    (h : (Jvm.Cond.all t (Jvm.Cond.or (Jvm.Cond.lt (Term.index 0) (Term.int 2)) (Jvm.Cond.eq (Term.op1 .i2l (Term.elem t (Term.index 0))) (Term.op2 .ladd (Term.op1 .i2l (Term.index 0)) (Term.long 1))))).value args s none s [] = some true)
    (hk0 : ¬ k < 0) (hk2 : ¬ k < 2) (hk8 : k.toNatClampNeg < (8 : Int32).toNatClampNeg) (hv : k.toInt64 + 1 = v.toInt64) : cl.slots[k.toNatClampNeg]? = some (.int v) := by
  have q := Cond.all_elim (ev []) (A.fin (Vm.Alike.refl _)) h k.toNatClampNeg (by rw [Z]; exact hk8)
  have ei : (Term.index 0).eval args s none [k.toNatClampNeg] s = some (.int k) := idx_at hk0
  have hlt : (Jvm.Cond.lt (Term.index 0) (Term.int 2)).value args s none s [k.toNatClampNeg] = some (decide (k < 2)) := Cond.lt_ints ei (Term.int_eval 2)
  have q2 : (Jvm.Cond.eq (Term.op1 .i2l (Term.elem t (Term.index 0))) (Term.op2 .ladd (Term.op1 .i2l (Term.index 0)) (Term.long 1))).value args s none s [k.toNatClampNeg] = some true := by
    generalize hx : (Jvm.Cond.eq (Term.op1 .i2l (Term.elem t (Term.index 0))) (Term.op2 .ladd (Term.op1 .i2l (Term.index 0)) (Term.long 1))) = X at q
    have z : (Jvm.Cond.or (Jvm.Cond.lt (Term.index 0) (Term.int 2)) X).value args s none s [k.toNatClampNeg] = some true := q
    rw [own_or hlt hk2] at z
    exact z
  have ey : (Term.op2 .ladd (Term.op1 .i2l (Term.index 0)) (Term.long 1)).eval args s none [k.toNatClampNeg] s = some (.long (k.toInt64 + 1)) := by
    rw [op2_f (i2l_at ei) (show (Term.long 1).eval args s none [k.toNatClampNeg] s = some (.long 1) from rfl)]
    rfl
  have ex := eqv_l ey q2
  obtain ⟨x, h1, h2⟩ := op1_v ex
  have h3 := (elem_f (ev _) ei (A.fin (Vm.Alike.refl _)) hk0).symm.trans h1
  rw [h3]
  cases x <;> simp [Unary.apply] at h2
  rename_i w
  rw [hv] at h2
  have := congrArg Int64.toInt h2
  rw [c_i2l, c_i2l] at this
  rw [Int32.toInt_inj.mp this]
def own_R (A D : Int64) : Int64 := if (A - (A / D) * D) < 0 then (if D < 0 then (A - (A / D) * D) - D else (A - (A / D) * D) + D) else (A - (A / D) * D)
theorem own_R_z {A D r : Int64} (hr : r = A - (A / D) * D) (h : r = 0) : own_R A D = 0 := by
  unfold own_R
  rw [← hr, h]
  rfl
theorem own_R_p {A D r : Int64} (hr : r = A - (A / D) * D) (h : ¬ r < 0) : own_R A D = r := by
  unfold own_R
  rw [← hr, if_neg h]
theorem own_R_nn {A D r : Int64} (hr : r = A - (A / D) * D) (h : r < 0) (hD : D < 0) : own_R A D = r - D := by
  unfold own_R
  rw [← hr, if_pos h, if_pos hD]
theorem own_R_np {A D r : Int64} (hr : r = A - (A / D) * D) (h : r < 0) (hD : ¬ D < 0) : own_R A D = r + D := by
  unfold own_R
  rw [← hr, if_pos h, if_neg hD]
theorem own_xor (r D : Int64) : (r ^^^ D) < 0 ↔ ((r.toInt < 0) ↔ ¬ (D.toInt < 0)) := by
  have e0 : (0 : Int64).toInt = 0 := rfl
  rw [Int64.lt_iff_toInt_lt, e0]
  have h1 : (r ^^^ D).toBitVec.msb = decide ((r ^^^ D).toInt < 0) := BitVec.msb_eq_toInt
  have h2 : r.toBitVec.msb = decide (r.toInt < 0) := BitVec.msb_eq_toInt
  have h3 : D.toBitVec.msb = decide (D.toInt < 0) := BitVec.msb_eq_toInt
  have h4 : (r ^^^ D).toBitVec.msb = (r.toBitVec.msb ^^ D.toBitVec.msb) := BitVec.msb_xor
  rw [h1, h2, h3] at h4
  by_cases p1 : r.toInt < 0 <;> by_cases p2 : D.toInt < 0 <;> simp [p1, p2] at h4 ⊢ <;> omega
theorem own_c1 {j : Int32} (h : ¬ j = (0 : Int32)) : (j.toInt64).toInt ≠ 0 := fun q => h (Int32.toInt_inj.mp (by rw [c_i2l] at q; exact q))
theorem own_c2 (i : Int32) : -2147483648 ≤ (i.toInt64).toInt := by rw [c_i2l]; exact (rng32 i).1
theorem own_c3 (i : Int32) : (i.toInt64).toInt < 2147483648 := by rw [c_i2l]; exact (rng32 i).2
theorem own_c4n {j : Int32} (h : j < (0 : Int32)) : j.toInt64 < 0 := by
  have e0 : (0 : Int64).toInt = 0 := rfl
  have e1 : (0 : Int32).toInt = 0 := rfl
  rw [Int64.lt_iff_toInt_lt, c_i2l, e0]
  rw [Int32.lt_iff_toInt_lt, e1] at h
  exact h
theorem own_c4p {j : Int32} (h : ¬ j < (0 : Int32)) : ¬ j.toInt64 < 0 := by
  have e0 : (0 : Int64).toInt = 0 := rfl
  have e1 : (0 : Int32).toInt = 0 := rfl
  rw [Int64.lt_iff_toInt_lt, c_i2l, e0]
  rw [Int32.lt_iff_toInt_lt, e1] at h
  exact h
/-- what the remainder is worth -/
theorem own_val {A D r : Int64} (hr : r = A - (A / D) * D) (hD0 : D.toInt ≠ 0) (hD1 : -2147483648 ≤ D.toInt) (hD2 : D.toInt < 2147483648) :
    (own_R A D).toInt = (if r.toInt < 0 then (if D.toInt < 0 then r.toInt - D.toInt else r.toInt + D.toInt) else r.toInt) ∧ 0 ≤ (own_R A D).toInt ∧ (D.toInt < 0 → (own_R A D).toInt < - D.toInt) ∧ (0 < D.toInt → (own_R A D).toInt < D.toInt) := by
  have e0 : (0 : Int64).toInt = 0 := rfl
  have er := own_rem hr
  have br := own_rem_b A.toInt D.toInt hD0
  rw [← er] at br
  by_cases h1 : r < 0
  · have g1 := h1
    rw [Int64.lt_iff_toInt_lt, e0] at g1
    by_cases h2 : D < 0
    · have g2 := h2
      rw [Int64.lt_iff_toInt_lt, e0] at g2
      have q : (own_R A D).toInt = r.toInt - D.toInt := by rw [own_R_nn hr h1 h2]; exact own_sub64 (by omega) (by omega)
      rw [q, if_pos g1, if_pos g2]
      omega
    · have g2 := h2
      rw [Int64.lt_iff_toInt_lt, e0] at g2
      have q : (own_R A D).toInt = r.toInt + D.toInt := by rw [own_R_np hr h1 h2]; exact own_add64 (by omega) (by omega)
      rw [q, if_pos g1, if_neg g2]
      omega
  · have g1 := h1
    rw [Int64.lt_iff_toInt_lt, e0] at g1
    rw [own_R_p hr h1, if_neg g1]
    by_cases h0 : 0 ≤ A.toInt <;> omega
theorem own_back {x : Int64} (h1 : 0 ≤ x.toInt) (h2 : x.toInt ≤ 2147483647) : x.toInt32.toInt = x.toInt := by
  have q := c_l2i x
  have r := rng32 x.toInt32
  omega
theorem own_rt (i : Int32) {j : Int32} (hj0 : ¬ j = (0 : Int32)) : 0 ≤ ((own_R (i.toInt64) (j.toInt64)).toInt32).toInt ∧ ((own_R (i.toInt64) (j.toInt64)).toInt32).toInt = (own_R (i.toInt64) (j.toInt64)).toInt ∧ ((j.toInt64).toInt < 0 → (own_R (i.toInt64) (j.toInt64)).toInt < - (j.toInt64).toInt) ∧ (0 < (j.toInt64).toInt → (own_R (i.toInt64) (j.toInt64)).toInt < (j.toInt64).toInt) := by
  have v := own_val (A := i.toInt64) (D := j.toInt64) rfl (own_c1 hj0) (own_c2 j) (own_c3 j)
  have c0 := own_c1 hj0
  have c2 := own_c2 j
  have c3 := own_c3 j
  have b := own_back v.2.1 (by omega)
  rw [b]
  exact ⟨v.2.1, rfl, v.2.2.1, v.2.2.2⟩
theorem own_f2 (i j : Int32) (hj0 : ¬ j = (0 : Int32)) : ¬ (((own_R (i.toInt64) (j.toInt64)).toInt32) < (0 : Int32)) := by
  have e1 : (0 : Int32).toInt = 0 := rfl
  rw [Int32.lt_iff_toInt_lt, e1]
  have := (own_rt i hj0).1
  omega
theorem own_f3n (i : Int32) {j : Int32} (hj0 : ¬ j = (0 : Int32)) (hjn : j < (0 : Int32)) : (lcmpW (((own_R (i.toInt64) (j.toInt64)).toInt32).toInt64) ((-(j.toInt64)))) < (0 : Int32) := by
  have e0 : (0 : Int64).toInt = 0 := rfl
  have h := own_rt i hj0
  have d := own_c4n hjn
  rw [Int64.lt_iff_toInt_lt, e0] at d
  have c2 := own_c2 j
  rw [lw_lt, Int64.lt_iff_toInt_lt, c_i2l, own_neg64 (by omega), h.2.1]
  exact h.2.2.1 d
theorem own_f3p (i : Int32) {j : Int32} (hj0 : ¬ j = (0 : Int32)) (hjn : ¬ j < (0 : Int32)) : (lcmpW (((own_R (i.toInt64) (j.toInt64)).toInt32).toInt64) (j.toInt64)) < (0 : Int32) := by
  have e0 : (0 : Int64).toInt = 0 := rfl
  have h := own_rt i hj0
  have d := own_c4p hjn
  rw [Int64.lt_iff_toInt_lt, e0] at d
  have c0 := own_c1 hj0
  rw [lw_lt, Int64.lt_iff_toInt_lt, c_i2l (((own_R (i.toInt64) (j.toInt64)).toInt32)), h.2.1]
  exact h.2.2.2 (by omega)
theorem own_f1 {i j : Int32} {x : Int64} (hj0 : ¬ j = (0 : Int32)) (h : (own_R (i.toInt64) (j.toInt64)).toInt = x.toInt) : (lcmpW (((own_R (i.toInt64) (j.toInt64)).toInt32).toInt64) x) = (0 : Int32) := by
  rw [lw_eq]
  apply Int64.toInt_inj.mp
  rw [c_i2l, (own_rt i hj0).2.1, h]
theorem own_f1nn {i j : Int32} {r : Int64} (hr : r = i.toInt64 - (i.toInt64 / j.toInt64) * j.toInt64) (hj0 : ¬ j = (0 : Int32)) (hjn : j < (0 : Int32)) (hn : (lcmpW r (0 : Int64)) < (0 : Int32)) : (lcmpW (((own_R (i.toInt64) (j.toInt64)).toInt32).toInt64) (r + ((-(j.toInt64))))) = (0 : Int32) := by
  rw [lw_lt] at hn
  refine own_f1 hj0 ?_
  have e0 : (0 : Int64).toInt = 0 := rfl
  have er := own_rem hr
  have br := own_rem_b (i.toInt64).toInt (j.toInt64).toInt (own_c1 hj0)
  rw [← er] at br
  have d := own_c4n hjn
  have g2 := d
  have g1 := hn
  rw [Int64.lt_iff_toInt_lt, e0] at g1 g2
  have c2 := own_c2 j
  have n1 : (-(j.toInt64)).toInt = - (j.toInt64).toInt := own_neg64 (by omega)
  rw [own_R_nn hr hn d, own_sub64 (by omega) (by omega), own_add64 (by omega) (by omega), n1]
  omega
theorem own_f1np {i j : Int32} {r : Int64} (hr : r = i.toInt64 - (i.toInt64 / j.toInt64) * j.toInt64) (hj0 : ¬ j = (0 : Int32)) (hjn : j < (0 : Int32)) (hn : ¬ (lcmpW r (0 : Int64)) < (0 : Int32)) : (lcmpW (((own_R (i.toInt64) (j.toInt64)).toInt32).toInt64) r) = (0 : Int32) := by
  rw [lw_lt] at hn
  exact own_f1 hj0 (by rw [own_R_p hr hn])
theorem own_f1pn {i j : Int32} {r : Int64} (hr : r = i.toInt64 - (i.toInt64 / j.toInt64) * j.toInt64) (hj0 : ¬ j = (0 : Int32)) (hjn : ¬ j < (0 : Int32)) (hn : (lcmpW r (0 : Int64)) < (0 : Int32)) : (lcmpW (((own_R (i.toInt64) (j.toInt64)).toInt32).toInt64) (r + (j.toInt64))) = (0 : Int32) := by
  rw [lw_lt] at hn
  exact own_f1 hj0 (by rw [own_R_np hr hn (own_c4p hjn)])
theorem own_f1pp {i j : Int32} {r : Int64} (hr : r = i.toInt64 - (i.toInt64 / j.toInt64) * j.toInt64) (hj0 : ¬ j = (0 : Int32)) (hjn : ¬ j < (0 : Int32)) (hn : ¬ (lcmpW r (0 : Int64)) < (0 : Int32)) : (lcmpW (((own_R (i.toInt64) (j.toInt64)).toInt32).toInt64) r) = (0 : Int32) := by
  rw [lw_lt] at hn
  exact own_f1 hj0 (by rw [own_R_p hr hn])
theorem own_wS {Z : State} {a0 : Array Value} (hw : ∀ d ∈ tables_1, d.before a0 Z = true) : ∀ a ∈ Bundle.stringAtoms, a.before a0 Z = true := by
  intro a ha
  simp only [Bundle.stringAtoms, List.mem_cons, List.not_mem_nil, or_false] at ha
  rcases ha with rfl | rfl | rfl | rfl | rfl | rfl | rfl
  · exact hw _ (List.mem_of_getElem? (i := 21) rfl)
  · exact hw _ (List.mem_of_getElem? (i := 22) rfl)
  · exact hw _ (List.mem_of_getElem? (i := 23) rfl)
  · exact hw _ (List.mem_of_getElem? (i := 24) rfl)
  · exact hw _ (List.mem_of_getElem? (i := 25) rfl)
  · exact hw _ (List.mem_of_getElem? (i := 26) rfl)
  · exact hw _ (List.mem_of_getElem? (i := 27) rfl)
def own_E (Z : State) (h0 : Heap) (a_SM : Addr) (cl_SM : Cell) (a_FLOOR : Addr) (a_CEILING : Addr) : Prop :=
  (Sta Z h0 "com/example/residuum/residuum/QuotientRounding$1" "$SwitchMap$java$math$RoundingMode" "[I" (.ref a_SM)) ∧
  (Arr Z h0 a_SM cl_SM .int) ∧
  (cl_SM.slots.size = (8 : Int32).toNatClampNeg) ∧
  (cl_SM.slots[(0 : Int32).toNatClampNeg]? = some (.int (2 : Int32))) ∧
  (cl_SM.slots[(1 : Int32).toNatClampNeg]? = some (.int (1 : Int32))) ∧
  (cl_SM.slots[(2 : Int32).toNatClampNeg]? = some (.int (3 : Int32))) ∧
  (cl_SM.slots[(3 : Int32).toNatClampNeg]? = some (.int (4 : Int32))) ∧
  (Sta Z h0 "java/math/RoundingMode" "FLOOR" "Ljava/math/RoundingMode;" (.ref a_FLOOR)) ∧
  (Exa Z h0 a_FLOOR "java/math/RoundingMode") ∧
  (Fld Z h0 a_FLOOR "java/lang/Enum" "ordinal" "I" (.int (3 : Int32))) ∧
  (Sta Z h0 "java/math/RoundingMode" "CEILING" "Ljava/math/RoundingMode;" (.ref a_CEILING)) ∧
  (Exa Z h0 a_CEILING "java/math/RoundingMode") ∧
  (Fld Z h0 a_CEILING "java/lang/Enum" "ordinal" "I" (.int (2 : Int32))) ∧ True
theorem own_p_S_SM {Z : State} {h0 : Heap} {a_SM : Addr} {cl_SM : Cell} {a_FLOOR : Addr} {a_CEILING : Addr} (hE : own_E Z h0 a_SM cl_SM a_FLOOR a_CEILING) : Sta Z h0 "com/example/residuum/residuum/QuotientRounding$1" "$SwitchMap$java$math$RoundingMode" "[I" (.ref a_SM) := hE.1
theorem own_p_A_SM {Z : State} {h0 : Heap} {a_SM : Addr} {cl_SM : Cell} {a_FLOOR : Addr} {a_CEILING : Addr} (hE : own_E Z h0 a_SM cl_SM a_FLOOR a_CEILING) : Arr Z h0 a_SM cl_SM .int := hE.2.1
theorem own_p_Z_SM {Z : State} {h0 : Heap} {a_SM : Addr} {cl_SM : Cell} {a_FLOOR : Addr} {a_CEILING : Addr} (hE : own_E Z h0 a_SM cl_SM a_FLOOR a_CEILING) : cl_SM.slots.size = (8 : Int32).toNatClampNeg := hE.2.2.1
theorem own_p_Y_SM_0 {Z : State} {h0 : Heap} {a_SM : Addr} {cl_SM : Cell} {a_FLOOR : Addr} {a_CEILING : Addr} (hE : own_E Z h0 a_SM cl_SM a_FLOOR a_CEILING) : cl_SM.slots[(0 : Int32).toNatClampNeg]? = some (.int (2 : Int32)) := hE.2.2.2.1
theorem own_p_Y_SM_1 {Z : State} {h0 : Heap} {a_SM : Addr} {cl_SM : Cell} {a_FLOOR : Addr} {a_CEILING : Addr} (hE : own_E Z h0 a_SM cl_SM a_FLOOR a_CEILING) : cl_SM.slots[(1 : Int32).toNatClampNeg]? = some (.int (1 : Int32)) := hE.2.2.2.2.1
theorem own_p_Y_SM_2 {Z : State} {h0 : Heap} {a_SM : Addr} {cl_SM : Cell} {a_FLOOR : Addr} {a_CEILING : Addr} (hE : own_E Z h0 a_SM cl_SM a_FLOOR a_CEILING) : cl_SM.slots[(2 : Int32).toNatClampNeg]? = some (.int (3 : Int32)) := hE.2.2.2.2.2.1
theorem own_p_Y_SM_3 {Z : State} {h0 : Heap} {a_SM : Addr} {cl_SM : Cell} {a_FLOOR : Addr} {a_CEILING : Addr} (hE : own_E Z h0 a_SM cl_SM a_FLOOR a_CEILING) : cl_SM.slots[(3 : Int32).toNatClampNeg]? = some (.int (4 : Int32)) := hE.2.2.2.2.2.2.1
theorem own_p_S_FLOOR {Z : State} {h0 : Heap} {a_SM : Addr} {cl_SM : Cell} {a_FLOOR : Addr} {a_CEILING : Addr} (hE : own_E Z h0 a_SM cl_SM a_FLOOR a_CEILING) : Sta Z h0 "java/math/RoundingMode" "FLOOR" "Ljava/math/RoundingMode;" (.ref a_FLOOR) := hE.2.2.2.2.2.2.2.1
theorem own_p_E_FLOOR {Z : State} {h0 : Heap} {a_SM : Addr} {cl_SM : Cell} {a_FLOOR : Addr} {a_CEILING : Addr} (hE : own_E Z h0 a_SM cl_SM a_FLOOR a_CEILING) : Exa Z h0 a_FLOOR "java/math/RoundingMode" := hE.2.2.2.2.2.2.2.2.1
theorem own_p_F_FLOOR_ordinal {Z : State} {h0 : Heap} {a_SM : Addr} {cl_SM : Cell} {a_FLOOR : Addr} {a_CEILING : Addr} (hE : own_E Z h0 a_SM cl_SM a_FLOOR a_CEILING) : Fld Z h0 a_FLOOR "java/lang/Enum" "ordinal" "I" (.int (3 : Int32)) := hE.2.2.2.2.2.2.2.2.2.1
theorem own_p_S_CEILING {Z : State} {h0 : Heap} {a_SM : Addr} {cl_SM : Cell} {a_FLOOR : Addr} {a_CEILING : Addr} (hE : own_E Z h0 a_SM cl_SM a_FLOOR a_CEILING) : Sta Z h0 "java/math/RoundingMode" "CEILING" "Ljava/math/RoundingMode;" (.ref a_CEILING) := hE.2.2.2.2.2.2.2.2.2.2.1
theorem own_p_E_CEILING {Z : State} {h0 : Heap} {a_SM : Addr} {cl_SM : Cell} {a_FLOOR : Addr} {a_CEILING : Addr} (hE : own_E Z h0 a_SM cl_SM a_FLOOR a_CEILING) : Exa Z h0 a_CEILING "java/math/RoundingMode" := hE.2.2.2.2.2.2.2.2.2.2.2.1
theorem own_p_F_CEILING_ordinal {Z : State} {h0 : Heap} {a_SM : Addr} {cl_SM : Cell} {a_FLOOR : Addr} {a_CEILING : Addr} (hE : own_E Z h0 a_SM cl_SM a_FLOOR a_CEILING) : Fld Z h0 a_CEILING "java/lang/Enum" "ordinal" "I" (.int (2 : Int32)) := hE.2.2.2.2.2.2.2.2.2.2.2.2.1
theorem own_E_ext {Z : State} {h0 h' : Heap} {a_SM : Addr} {cl_SM : Cell} {a_FLOOR : Addr} {a_CEILING : Addr} (hE : own_E Z h0 a_SM cl_SM a_FLOOR a_CEILING) (E : Ext h0 h') : own_E Z h' a_SM cl_SM a_FLOOR a_CEILING := ⟨(own_p_S_SM hE).ext E, (own_p_A_SM hE).ext E, own_p_Z_SM hE, own_p_Y_SM_0 hE, own_p_Y_SM_1 hE, own_p_Y_SM_2 hE, own_p_Y_SM_3 hE, (own_p_S_FLOOR hE).ext E, (own_p_E_FLOOR hE).ext E, (own_p_F_FLOOR_ordinal hE).ext E, (own_p_S_CEILING hE).ext E, (own_p_E_CEILING hE).ext E, (own_p_F_CEILING_ordinal hE).ext E, trivial⟩
set_option maxRecDepth 65536 in
set_option maxHeartbeats 40000000 in
theorem own_itz (l : Launch) (Z : State) (a0 : Array Value) (hw : ∀ d ∈ tables_1, d.before a0 Z = true) (h0 : Heap) (x : Int32) :
    own_Met l Z h0 [] ({ frames := 0, cells := 0, slots := 0, locals := 0 } : Room) (⟨"java/lang/Integer", "numberOfTrailingZeros", "(I)I"⟩ : MethodName) jdk_33_method_48_code 2 (some .int) #[(.int x)] (fun v h L => (∃ z : Int32, v = some (.int z)) ∧ L = [] ∧ h = h0) := by
  refine own_body (plainFor_of_name own_pn_0) ?_
  intro p e s m below meth c T0 X0 hx hby hml hown hZ e0 hret hlk hnm hnamed
  replace hown : s.vm.findClass "java/lang/Integer" = some m.cls := hown
  replace hml : c.maxLocals = 2 := hml
  have ef : entryFrame m #[(.int x)] 2 = mkF m 0 #[.val (.int x), .unset] [] := by first | (simp [entryFrame, mkF, argsToLocals, Value.category]; done) | rfl
  rw [ef]
  refine own_st (T' := T0) (g' := (mkF m 1 #[.val (.int x), .unset] [(.int x)])) (fun _ k => XS.iloadN X0.here hx rfl (hb hby own_d_jdk_33_method_48_code_0) rfl k) ?_
  refine own_st (T' := T0) (g' := (mkF m 2 #[.val (.int x), .unset] [(.int (-1 : Int32)), (.int x)])) (fun _ k => XS.iconst X0.here hx rfl (hb hby own_d_jdk_33_method_48_code_1) k) ?_
  refine own_st (T' := T0) (g' := (mkF m 3 #[.val (.int x), .unset] [(.int (x ^^^ (-1 : Int32)))])) (fun _ k => XS.ixor X0.here hx rfl (hb hby own_d_jdk_33_method_48_code_2) rfl k) ?_
  refine own_st (T' := T0) (g' := (mkF m 4 #[.val (.int x), .unset] [(.int x), (.int (x ^^^ (-1 : Int32)))])) (fun _ k => XS.iloadN X0.here hx rfl (hb hby own_d_jdk_33_method_48_code_3) rfl k) ?_
  refine own_st (T' := T0) (g' := (mkF m 5 #[.val (.int x), .unset] [(.int (1 : Int32)), (.int x), (.int (x ^^^ (-1 : Int32)))])) (fun _ k => XS.iconst X0.here hx rfl (hb hby own_d_jdk_33_method_48_code_4) k) ?_
  refine own_st (T' := T0) (g' := (mkF m 6 #[.val (.int x), .unset] [(.int (x - (1 : Int32))), (.int (x ^^^ (-1 : Int32)))])) (fun _ k => XS.isub X0.here hx rfl (hb hby own_d_jdk_33_method_48_code_5) rfl k) ?_
  refine own_st (T' := T0) (g' := (mkF m 7 #[.val (.int x), .unset] [(.int ((x ^^^ (-1 : Int32)) &&& (x - (1 : Int32))))])) (fun _ k => XS.iand X0.here hx rfl (hb hby own_d_jdk_33_method_48_code_6) rfl k) ?_
  refine own_st (T' := T0) (g' := (mkF m 8 #[.val (.int ((x ^^^ (-1 : Int32)) &&& (x - (1 : Int32)))), .unset] [])) (fun _ k => XS.istoreN X0.here hx rfl (hb hby own_d_jdk_33_method_48_code_7) rfl (l' := #[.val (.int ((x ^^^ (-1 : Int32)) &&& (x - (1 : Int32)))), .unset]) rfl k) ?_
  refine own_st (T' := T0) (g' := (mkF m 9 #[.val (.int ((x ^^^ (-1 : Int32)) &&& (x - (1 : Int32)))), .unset] [(.int ((x ^^^ (-1 : Int32)) &&& (x - (1 : Int32))))])) (fun _ k => XS.iloadN X0.here hx rfl (hb hby own_d_jdk_33_method_48_code_8) rfl k) ?_
  by_cases hc9_1 : (0 : Int32) < ((x ^^^ (-1 : Int32)) &&& (x - (1 : Int32)))
  ·
    refine own_st (T' := T0) (g' := (mkF m 17 #[.val (.int ((x ^^^ (-1 : Int32)) &&& (x - (1 : Int32)))), .unset] [])) (fun _ k => XS.ifYes X0.here hx rfl (pc0 := 9) (pc' := 17) rfl (hb hby own_d_jdk_33_method_48_code_9) rfl ((if0 _ _).trans (tlt hc9_1).2.2.1) (by decide) (by decide) k) ?_
    refine own_st (T' := T0) (g' := (mkF m 18 #[.val (.int ((x ^^^ (-1 : Int32)) &&& (x - (1 : Int32)))), .unset] [(.int (1 : Int32))])) (fun _ k => XS.iconst X0.here hx rfl (hb hby own_d_jdk_33_method_48_code_17) k) ?_
    refine own_st (T' := T0) (g' := (mkF m 19 #[.val (.int ((x ^^^ (-1 : Int32)) &&& (x - (1 : Int32)))), .val (.int (1 : Int32))] [])) (fun _ k => XS.istoreN X0.here hx rfl (hb hby own_d_jdk_33_method_48_code_18) rfl (l' := #[.val (.int ((x ^^^ (-1 : Int32)) &&& (x - (1 : Int32)))), .val (.int (1 : Int32))]) rfl k) ?_
    refine own_st (T' := T0) (g' := (mkF m 20 #[.val (.int ((x ^^^ (-1 : Int32)) &&& (x - (1 : Int32)))), .val (.int (1 : Int32))] [(.int ((x ^^^ (-1 : Int32)) &&& (x - (1 : Int32))))])) (fun _ k => XS.iloadN X0.here hx rfl (hb hby own_d_jdk_33_method_48_code_19) rfl k) ?_
    refine own_st (T' := T0) (g' := (mkF m 23 #[.val (.int ((x ^^^ (-1 : Int32)) &&& (x - (1 : Int32)))), .val (.int (1 : Int32))] [(.int (65536 : Int32)), (.int ((x ^^^ (-1 : Int32)) &&& (x - (1 : Int32))))])) (fun _ k => X0.ldcwInt hx hown (mvT hZ (hw _ (List.mem_of_getElem? (i := 60) rfl))) (g := (mkF m 20 #[.val (.int ((x ^^^ (-1 : Int32)) &&& (x - (1 : Int32)))), .val (.int (1 : Int32))] [(.int ((x ^^^ (-1 : Int32)) &&& (x - (1 : Int32))))])) rfl (hb hby own_d_jdk_33_method_48_code_20) _ k) ?_
    by_cases hc23_2 : (65536 : Int32) < ((x ^^^ (-1 : Int32)) &&& (x - (1 : Int32)))
    ·
      refine own_st (T' := T0) (g' := (mkF m 26 #[.val (.int ((x ^^^ (-1 : Int32)) &&& (x - (1 : Int32)))), .val (.int (1 : Int32))] [])) (fun _ k => XS.icmpNo X0.here hx rfl (hb hby own_d_jdk_33_method_48_code_23) rfl (tlt hc23_2).2.2.2 k) ?_
      refine own_st (T' := T0) (g' := (mkF m 29 #[.val (.int ((x ^^^ (-1 : Int32)) &&& (x - (1 : Int32)))), .val (.int ((1 : Int32) + (16 : Int32)))] [])) (fun _ k => XS.iinc X0.here hx rfl (hb hby own_d_jdk_33_method_48_code_26) rfl (l' := #[.val (.int ((x ^^^ (-1 : Int32)) &&& (x - (1 : Int32)))), .val (.int ((1 : Int32) + (16 : Int32)))]) rfl k) ?_
      refine own_st (T' := T0) (g' := (mkF m 30 #[.val (.int ((x ^^^ (-1 : Int32)) &&& (x - (1 : Int32)))), .val (.int ((1 : Int32) + (16 : Int32)))] [(.int ((x ^^^ (-1 : Int32)) &&& (x - (1 : Int32))))])) (fun _ k => XS.iloadN X0.here hx rfl (hb hby own_d_jdk_33_method_48_code_29) rfl k) ?_
      refine own_st (T' := T0) (g' := (mkF m 32 #[.val (.int ((x ^^^ (-1 : Int32)) &&& (x - (1 : Int32)))), .val (.int ((1 : Int32) + (16 : Int32)))] [(.int (16 : Int32)), (.int ((x ^^^ (-1 : Int32)) &&& (x - (1 : Int32))))])) (fun _ k => XS.bipush X0.here hx rfl (hb hby own_d_jdk_33_method_48_code_30) k) ?_
      refine own_st (T' := T0) (g' := (mkF m 33 #[.val (.int ((x ^^^ (-1 : Int32)) &&& (x - (1 : Int32)))), .val (.int ((1 : Int32) + (16 : Int32)))] [(.int ((((x ^^^ (-1 : Int32)) &&& (x - (1 : Int32))).toUInt32 >>> ((16 : Int32) &&& 31).toUInt32).toInt32))])) (fun _ k => XS.iushr X0.here hx rfl (hb hby own_d_jdk_33_method_48_code_32) rfl k) ?_
      refine own_st (T' := T0) (g' := (mkF m 34 #[.val (.int ((((x ^^^ (-1 : Int32)) &&& (x - (1 : Int32))).toUInt32 >>> ((16 : Int32) &&& 31).toUInt32).toInt32)), .val (.int ((1 : Int32) + (16 : Int32)))] [])) (fun _ k => XS.istoreN X0.here hx rfl (hb hby own_d_jdk_33_method_48_code_33) rfl (l' := #[.val (.int ((((x ^^^ (-1 : Int32)) &&& (x - (1 : Int32))).toUInt32 >>> ((16 : Int32) &&& 31).toUInt32).toInt32)), .val (.int ((1 : Int32) + (16 : Int32)))]) rfl k) ?_
      refine own_st (T' := T0) (g' := (mkF m 35 #[.val (.int ((((x ^^^ (-1 : Int32)) &&& (x - (1 : Int32))).toUInt32 >>> ((16 : Int32) &&& 31).toUInt32).toInt32)), .val (.int ((1 : Int32) + (16 : Int32)))] [(.int ((((x ^^^ (-1 : Int32)) &&& (x - (1 : Int32))).toUInt32 >>> ((16 : Int32) &&& 31).toUInt32).toInt32))])) (fun _ k => XS.iloadN X0.here hx rfl (hb hby own_d_jdk_33_method_48_code_34) rfl k) ?_
      refine own_st (T' := T0) (g' := (mkF m 38 #[.val (.int ((((x ^^^ (-1 : Int32)) &&& (x - (1 : Int32))).toUInt32 >>> ((16 : Int32) &&& 31).toUInt32).toInt32)), .val (.int ((1 : Int32) + (16 : Int32)))] [(.int (256 : Int32)), (.int ((((x ^^^ (-1 : Int32)) &&& (x - (1 : Int32))).toUInt32 >>> ((16 : Int32) &&& 31).toUInt32).toInt32))])) (fun _ k => XS.sipush X0.here hx rfl (hb hby own_d_jdk_33_method_48_code_35) k) ?_
      by_cases hc38_3 : (256 : Int32) < ((((x ^^^ (-1 : Int32)) &&& (x - (1 : Int32))).toUInt32 >>> ((16 : Int32) &&& 31).toUInt32).toInt32)
      ·
        refine own_st (T' := T0) (g' := (mkF m 41 #[.val (.int ((((x ^^^ (-1 : Int32)) &&& (x - (1 : Int32))).toUInt32 >>> ((16 : Int32) &&& 31).toUInt32).toInt32)), .val (.int ((1 : Int32) + (16 : Int32)))] [])) (fun _ k => XS.icmpNo X0.here hx rfl (hb hby own_d_jdk_33_method_48_code_38) rfl (tlt hc38_3).2.2.2 k) ?_
        refine own_st (T' := T0) (g' := (mkF m 44 #[.val (.int ((((x ^^^ (-1 : Int32)) &&& (x - (1 : Int32))).toUInt32 >>> ((16 : Int32) &&& 31).toUInt32).toInt32)), .val (.int (((1 : Int32) + (16 : Int32)) + (8 : Int32)))] [])) (fun _ k => XS.iinc X0.here hx rfl (hb hby own_d_jdk_33_method_48_code_41) rfl (l' := #[.val (.int ((((x ^^^ (-1 : Int32)) &&& (x - (1 : Int32))).toUInt32 >>> ((16 : Int32) &&& 31).toUInt32).toInt32)), .val (.int (((1 : Int32) + (16 : Int32)) + (8 : Int32)))]) rfl k) ?_
        refine own_st (T' := T0) (g' := (mkF m 45 #[.val (.int ((((x ^^^ (-1 : Int32)) &&& (x - (1 : Int32))).toUInt32 >>> ((16 : Int32) &&& 31).toUInt32).toInt32)), .val (.int (((1 : Int32) + (16 : Int32)) + (8 : Int32)))] [(.int ((((x ^^^ (-1 : Int32)) &&& (x - (1 : Int32))).toUInt32 >>> ((16 : Int32) &&& 31).toUInt32).toInt32))])) (fun _ k => XS.iloadN X0.here hx rfl (hb hby own_d_jdk_33_method_48_code_44) rfl k) ?_
        refine own_st (T' := T0) (g' := (mkF m 47 #[.val (.int ((((x ^^^ (-1 : Int32)) &&& (x - (1 : Int32))).toUInt32 >>> ((16 : Int32) &&& 31).toUInt32).toInt32)), .val (.int (((1 : Int32) + (16 : Int32)) + (8 : Int32)))] [(.int (8 : Int32)), (.int ((((x ^^^ (-1 : Int32)) &&& (x - (1 : Int32))).toUInt32 >>> ((16 : Int32) &&& 31).toUInt32).toInt32))])) (fun _ k => XS.bipush X0.here hx rfl (hb hby own_d_jdk_33_method_48_code_45) k) ?_
        refine own_st (T' := T0) (g' := (mkF m 48 #[.val (.int ((((x ^^^ (-1 : Int32)) &&& (x - (1 : Int32))).toUInt32 >>> ((16 : Int32) &&& 31).toUInt32).toInt32)), .val (.int (((1 : Int32) + (16 : Int32)) + (8 : Int32)))] [(.int ((((((x ^^^ (-1 : Int32)) &&& (x - (1 : Int32))).toUInt32 >>> ((16 : Int32) &&& 31).toUInt32).toInt32).toUInt32 >>> ((8 : Int32) &&& 31).toUInt32).toInt32))])) (fun _ k => XS.iushr X0.here hx rfl (hb hby own_d_jdk_33_method_48_code_47) rfl k) ?_
        refine own_st (T' := T0) (g' := (mkF m 49 #[.val (.int ((((((x ^^^ (-1 : Int32)) &&& (x - (1 : Int32))).toUInt32 >>> ((16 : Int32) &&& 31).toUInt32).toInt32).toUInt32 >>> ((8 : Int32) &&& 31).toUInt32).toInt32)), .val (.int (((1 : Int32) + (16 : Int32)) + (8 : Int32)))] [])) (fun _ k => XS.istoreN X0.here hx rfl (hb hby own_d_jdk_33_method_48_code_48) rfl (l' := #[.val (.int ((((((x ^^^ (-1 : Int32)) &&& (x - (1 : Int32))).toUInt32 >>> ((16 : Int32) &&& 31).toUInt32).toInt32).toUInt32 >>> ((8 : Int32) &&& 31).toUInt32).toInt32)), .val (.int (((1 : Int32) + (16 : Int32)) + (8 : Int32)))]) rfl k) ?_
        refine own_st (T' := T0) (g' := (mkF m 50 #[.val (.int ((((((x ^^^ (-1 : Int32)) &&& (x - (1 : Int32))).toUInt32 >>> ((16 : Int32) &&& 31).toUInt32).toInt32).toUInt32 >>> ((8 : Int32) &&& 31).toUInt32).toInt32)), .val (.int (((1 : Int32) + (16 : Int32)) + (8 : Int32)))] [(.int ((((((x ^^^ (-1 : Int32)) &&& (x - (1 : Int32))).toUInt32 >>> ((16 : Int32) &&& 31).toUInt32).toInt32).toUInt32 >>> ((8 : Int32) &&& 31).toUInt32).toInt32))])) (fun _ k => XS.iloadN X0.here hx rfl (hb hby own_d_jdk_33_method_48_code_49) rfl k) ?_
        refine own_st (T' := T0) (g' := (mkF m 52 #[.val (.int ((((((x ^^^ (-1 : Int32)) &&& (x - (1 : Int32))).toUInt32 >>> ((16 : Int32) &&& 31).toUInt32).toInt32).toUInt32 >>> ((8 : Int32) &&& 31).toUInt32).toInt32)), .val (.int (((1 : Int32) + (16 : Int32)) + (8 : Int32)))] [(.int (16 : Int32)), (.int ((((((x ^^^ (-1 : Int32)) &&& (x - (1 : Int32))).toUInt32 >>> ((16 : Int32) &&& 31).toUInt32).toInt32).toUInt32 >>> ((8 : Int32) &&& 31).toUInt32).toInt32))])) (fun _ k => XS.bipush X0.here hx rfl (hb hby own_d_jdk_33_method_48_code_50) k) ?_
        by_cases hc52_4 : (16 : Int32) < ((((((x ^^^ (-1 : Int32)) &&& (x - (1 : Int32))).toUInt32 >>> ((16 : Int32) &&& 31).toUInt32).toInt32).toUInt32 >>> ((8 : Int32) &&& 31).toUInt32).toInt32)
        ·
          refine own_st (T' := T0) (g' := (mkF m 55 #[.val (.int ((((((x ^^^ (-1 : Int32)) &&& (x - (1 : Int32))).toUInt32 >>> ((16 : Int32) &&& 31).toUInt32).toInt32).toUInt32 >>> ((8 : Int32) &&& 31).toUInt32).toInt32)), .val (.int (((1 : Int32) + (16 : Int32)) + (8 : Int32)))] [])) (fun _ k => XS.icmpNo X0.here hx rfl (hb hby own_d_jdk_33_method_48_code_52) rfl (tlt hc52_4).2.2.2 k) ?_
          refine own_st (T' := T0) (g' := (mkF m 58 #[.val (.int ((((((x ^^^ (-1 : Int32)) &&& (x - (1 : Int32))).toUInt32 >>> ((16 : Int32) &&& 31).toUInt32).toInt32).toUInt32 >>> ((8 : Int32) &&& 31).toUInt32).toInt32)), .val (.int ((((1 : Int32) + (16 : Int32)) + (8 : Int32)) + (4 : Int32)))] [])) (fun _ k => XS.iinc X0.here hx rfl (hb hby own_d_jdk_33_method_48_code_55) rfl (l' := #[.val (.int ((((((x ^^^ (-1 : Int32)) &&& (x - (1 : Int32))).toUInt32 >>> ((16 : Int32) &&& 31).toUInt32).toInt32).toUInt32 >>> ((8 : Int32) &&& 31).toUInt32).toInt32)), .val (.int ((((1 : Int32) + (16 : Int32)) + (8 : Int32)) + (4 : Int32)))]) rfl k) ?_
          refine own_st (T' := T0) (g' := (mkF m 59 #[.val (.int ((((((x ^^^ (-1 : Int32)) &&& (x - (1 : Int32))).toUInt32 >>> ((16 : Int32) &&& 31).toUInt32).toInt32).toUInt32 >>> ((8 : Int32) &&& 31).toUInt32).toInt32)), .val (.int ((((1 : Int32) + (16 : Int32)) + (8 : Int32)) + (4 : Int32)))] [(.int ((((((x ^^^ (-1 : Int32)) &&& (x - (1 : Int32))).toUInt32 >>> ((16 : Int32) &&& 31).toUInt32).toInt32).toUInt32 >>> ((8 : Int32) &&& 31).toUInt32).toInt32))])) (fun _ k => XS.iloadN X0.here hx rfl (hb hby own_d_jdk_33_method_48_code_58) rfl k) ?_
          refine own_st (T' := T0) (g' := (mkF m 60 #[.val (.int ((((((x ^^^ (-1 : Int32)) &&& (x - (1 : Int32))).toUInt32 >>> ((16 : Int32) &&& 31).toUInt32).toInt32).toUInt32 >>> ((8 : Int32) &&& 31).toUInt32).toInt32)), .val (.int ((((1 : Int32) + (16 : Int32)) + (8 : Int32)) + (4 : Int32)))] [(.int (4 : Int32)), (.int ((((((x ^^^ (-1 : Int32)) &&& (x - (1 : Int32))).toUInt32 >>> ((16 : Int32) &&& 31).toUInt32).toInt32).toUInt32 >>> ((8 : Int32) &&& 31).toUInt32).toInt32))])) (fun _ k => XS.iconst X0.here hx rfl (hb hby own_d_jdk_33_method_48_code_59) k) ?_
          refine own_st (T' := T0) (g' := (mkF m 61 #[.val (.int ((((((x ^^^ (-1 : Int32)) &&& (x - (1 : Int32))).toUInt32 >>> ((16 : Int32) &&& 31).toUInt32).toInt32).toUInt32 >>> ((8 : Int32) &&& 31).toUInt32).toInt32)), .val (.int ((((1 : Int32) + (16 : Int32)) + (8 : Int32)) + (4 : Int32)))] [(.int ((((((((x ^^^ (-1 : Int32)) &&& (x - (1 : Int32))).toUInt32 >>> ((16 : Int32) &&& 31).toUInt32).toInt32).toUInt32 >>> ((8 : Int32) &&& 31).toUInt32).toInt32).toUInt32 >>> ((4 : Int32) &&& 31).toUInt32).toInt32))])) (fun _ k => XS.iushr X0.here hx rfl (hb hby own_d_jdk_33_method_48_code_60) rfl k) ?_
          refine own_st (T' := T0) (g' := (mkF m 62 #[.val (.int ((((((((x ^^^ (-1 : Int32)) &&& (x - (1 : Int32))).toUInt32 >>> ((16 : Int32) &&& 31).toUInt32).toInt32).toUInt32 >>> ((8 : Int32) &&& 31).toUInt32).toInt32).toUInt32 >>> ((4 : Int32) &&& 31).toUInt32).toInt32)), .val (.int ((((1 : Int32) + (16 : Int32)) + (8 : Int32)) + (4 : Int32)))] [])) (fun _ k => XS.istoreN X0.here hx rfl (hb hby own_d_jdk_33_method_48_code_61) rfl (l' := #[.val (.int ((((((((x ^^^ (-1 : Int32)) &&& (x - (1 : Int32))).toUInt32 >>> ((16 : Int32) &&& 31).toUInt32).toInt32).toUInt32 >>> ((8 : Int32) &&& 31).toUInt32).toInt32).toUInt32 >>> ((4 : Int32) &&& 31).toUInt32).toInt32)), .val (.int ((((1 : Int32) + (16 : Int32)) + (8 : Int32)) + (4 : Int32)))]) rfl k) ?_
          refine own_st (T' := T0) (g' := (mkF m 63 #[.val (.int ((((((((x ^^^ (-1 : Int32)) &&& (x - (1 : Int32))).toUInt32 >>> ((16 : Int32) &&& 31).toUInt32).toInt32).toUInt32 >>> ((8 : Int32) &&& 31).toUInt32).toInt32).toUInt32 >>> ((4 : Int32) &&& 31).toUInt32).toInt32)), .val (.int ((((1 : Int32) + (16 : Int32)) + (8 : Int32)) + (4 : Int32)))] [(.int ((((((((x ^^^ (-1 : Int32)) &&& (x - (1 : Int32))).toUInt32 >>> ((16 : Int32) &&& 31).toUInt32).toInt32).toUInt32 >>> ((8 : Int32) &&& 31).toUInt32).toInt32).toUInt32 >>> ((4 : Int32) &&& 31).toUInt32).toInt32))])) (fun _ k => XS.iloadN X0.here hx rfl (hb hby own_d_jdk_33_method_48_code_62) rfl k) ?_
          refine own_st (T' := T0) (g' := (mkF m 64 #[.val (.int ((((((((x ^^^ (-1 : Int32)) &&& (x - (1 : Int32))).toUInt32 >>> ((16 : Int32) &&& 31).toUInt32).toInt32).toUInt32 >>> ((8 : Int32) &&& 31).toUInt32).toInt32).toUInt32 >>> ((4 : Int32) &&& 31).toUInt32).toInt32)), .val (.int ((((1 : Int32) + (16 : Int32)) + (8 : Int32)) + (4 : Int32)))] [(.int (4 : Int32)), (.int ((((((((x ^^^ (-1 : Int32)) &&& (x - (1 : Int32))).toUInt32 >>> ((16 : Int32) &&& 31).toUInt32).toInt32).toUInt32 >>> ((8 : Int32) &&& 31).toUInt32).toInt32).toUInt32 >>> ((4 : Int32) &&& 31).toUInt32).toInt32))])) (fun _ k => XS.iconst X0.here hx rfl (hb hby own_d_jdk_33_method_48_code_63) k) ?_
          by_cases hc64_5 : (4 : Int32) < ((((((((x ^^^ (-1 : Int32)) &&& (x - (1 : Int32))).toUInt32 >>> ((16 : Int32) &&& 31).toUInt32).toInt32).toUInt32 >>> ((8 : Int32) &&& 31).toUInt32).toInt32).toUInt32 >>> ((4 : Int32) &&& 31).toUInt32).toInt32)
          ·
            refine own_st (T' := T0) (g' := (mkF m 67 #[.val (.int ((((((((x ^^^ (-1 : Int32)) &&& (x - (1 : Int32))).toUInt32 >>> ((16 : Int32) &&& 31).toUInt32).toInt32).toUInt32 >>> ((8 : Int32) &&& 31).toUInt32).toInt32).toUInt32 >>> ((4 : Int32) &&& 31).toUInt32).toInt32)), .val (.int ((((1 : Int32) + (16 : Int32)) + (8 : Int32)) + (4 : Int32)))] [])) (fun _ k => XS.icmpNo X0.here hx rfl (hb hby own_d_jdk_33_method_48_code_64) rfl (tlt hc64_5).2.2.2 k) ?_
            refine own_st (T' := T0) (g' := (mkF m 70 #[.val (.int ((((((((x ^^^ (-1 : Int32)) &&& (x - (1 : Int32))).toUInt32 >>> ((16 : Int32) &&& 31).toUInt32).toInt32).toUInt32 >>> ((8 : Int32) &&& 31).toUInt32).toInt32).toUInt32 >>> ((4 : Int32) &&& 31).toUInt32).toInt32)), .val (.int (((((1 : Int32) + (16 : Int32)) + (8 : Int32)) + (4 : Int32)) + (2 : Int32)))] [])) (fun _ k => XS.iinc X0.here hx rfl (hb hby own_d_jdk_33_method_48_code_67) rfl (l' := #[.val (.int ((((((((x ^^^ (-1 : Int32)) &&& (x - (1 : Int32))).toUInt32 >>> ((16 : Int32) &&& 31).toUInt32).toInt32).toUInt32 >>> ((8 : Int32) &&& 31).toUInt32).toInt32).toUInt32 >>> ((4 : Int32) &&& 31).toUInt32).toInt32)), .val (.int (((((1 : Int32) + (16 : Int32)) + (8 : Int32)) + (4 : Int32)) + (2 : Int32)))]) rfl k) ?_
            refine own_st (T' := T0) (g' := (mkF m 71 #[.val (.int ((((((((x ^^^ (-1 : Int32)) &&& (x - (1 : Int32))).toUInt32 >>> ((16 : Int32) &&& 31).toUInt32).toInt32).toUInt32 >>> ((8 : Int32) &&& 31).toUInt32).toInt32).toUInt32 >>> ((4 : Int32) &&& 31).toUInt32).toInt32)), .val (.int (((((1 : Int32) + (16 : Int32)) + (8 : Int32)) + (4 : Int32)) + (2 : Int32)))] [(.int ((((((((x ^^^ (-1 : Int32)) &&& (x - (1 : Int32))).toUInt32 >>> ((16 : Int32) &&& 31).toUInt32).toInt32).toUInt32 >>> ((8 : Int32) &&& 31).toUInt32).toInt32).toUInt32 >>> ((4 : Int32) &&& 31).toUInt32).toInt32))])) (fun _ k => XS.iloadN X0.here hx rfl (hb hby own_d_jdk_33_method_48_code_70) rfl k) ?_
            refine own_st (T' := T0) (g' := (mkF m 72 #[.val (.int ((((((((x ^^^ (-1 : Int32)) &&& (x - (1 : Int32))).toUInt32 >>> ((16 : Int32) &&& 31).toUInt32).toInt32).toUInt32 >>> ((8 : Int32) &&& 31).toUInt32).toInt32).toUInt32 >>> ((4 : Int32) &&& 31).toUInt32).toInt32)), .val (.int (((((1 : Int32) + (16 : Int32)) + (8 : Int32)) + (4 : Int32)) + (2 : Int32)))] [(.int (2 : Int32)), (.int ((((((((x ^^^ (-1 : Int32)) &&& (x - (1 : Int32))).toUInt32 >>> ((16 : Int32) &&& 31).toUInt32).toInt32).toUInt32 >>> ((8 : Int32) &&& 31).toUInt32).toInt32).toUInt32 >>> ((4 : Int32) &&& 31).toUInt32).toInt32))])) (fun _ k => XS.iconst X0.here hx rfl (hb hby own_d_jdk_33_method_48_code_71) k) ?_
            refine own_st (T' := T0) (g' := (mkF m 73 #[.val (.int ((((((((x ^^^ (-1 : Int32)) &&& (x - (1 : Int32))).toUInt32 >>> ((16 : Int32) &&& 31).toUInt32).toInt32).toUInt32 >>> ((8 : Int32) &&& 31).toUInt32).toInt32).toUInt32 >>> ((4 : Int32) &&& 31).toUInt32).toInt32)), .val (.int (((((1 : Int32) + (16 : Int32)) + (8 : Int32)) + (4 : Int32)) + (2 : Int32)))] [(.int ((((((((((x ^^^ (-1 : Int32)) &&& (x - (1 : Int32))).toUInt32 >>> ((16 : Int32) &&& 31).toUInt32).toInt32).toUInt32 >>> ((8 : Int32) &&& 31).toUInt32).toInt32).toUInt32 >>> ((4 : Int32) &&& 31).toUInt32).toInt32).toUInt32 >>> ((2 : Int32) &&& 31).toUInt32).toInt32))])) (fun _ k => XS.iushr X0.here hx rfl (hb hby own_d_jdk_33_method_48_code_72) rfl k) ?_
            refine own_st (T' := T0) (g' := (mkF m 74 #[.val (.int ((((((((((x ^^^ (-1 : Int32)) &&& (x - (1 : Int32))).toUInt32 >>> ((16 : Int32) &&& 31).toUInt32).toInt32).toUInt32 >>> ((8 : Int32) &&& 31).toUInt32).toInt32).toUInt32 >>> ((4 : Int32) &&& 31).toUInt32).toInt32).toUInt32 >>> ((2 : Int32) &&& 31).toUInt32).toInt32)), .val (.int (((((1 : Int32) + (16 : Int32)) + (8 : Int32)) + (4 : Int32)) + (2 : Int32)))] [])) (fun _ k => XS.istoreN X0.here hx rfl (hb hby own_d_jdk_33_method_48_code_73) rfl (l' := #[.val (.int ((((((((((x ^^^ (-1 : Int32)) &&& (x - (1 : Int32))).toUInt32 >>> ((16 : Int32) &&& 31).toUInt32).toInt32).toUInt32 >>> ((8 : Int32) &&& 31).toUInt32).toInt32).toUInt32 >>> ((4 : Int32) &&& 31).toUInt32).toInt32).toUInt32 >>> ((2 : Int32) &&& 31).toUInt32).toInt32)), .val (.int (((((1 : Int32) + (16 : Int32)) + (8 : Int32)) + (4 : Int32)) + (2 : Int32)))]) rfl k) ?_
            refine own_st (T' := T0) (g' := (mkF m 75 #[.val (.int ((((((((((x ^^^ (-1 : Int32)) &&& (x - (1 : Int32))).toUInt32 >>> ((16 : Int32) &&& 31).toUInt32).toInt32).toUInt32 >>> ((8 : Int32) &&& 31).toUInt32).toInt32).toUInt32 >>> ((4 : Int32) &&& 31).toUInt32).toInt32).toUInt32 >>> ((2 : Int32) &&& 31).toUInt32).toInt32)), .val (.int (((((1 : Int32) + (16 : Int32)) + (8 : Int32)) + (4 : Int32)) + (2 : Int32)))] [(.int (((((1 : Int32) + (16 : Int32)) + (8 : Int32)) + (4 : Int32)) + (2 : Int32)))])) (fun _ k => XS.iloadN X0.here hx rfl (hb hby own_d_jdk_33_method_48_code_74) rfl k) ?_
            refine own_st (T' := T0) (g' := (mkF m 76 #[.val (.int ((((((((((x ^^^ (-1 : Int32)) &&& (x - (1 : Int32))).toUInt32 >>> ((16 : Int32) &&& 31).toUInt32).toInt32).toUInt32 >>> ((8 : Int32) &&& 31).toUInt32).toInt32).toUInt32 >>> ((4 : Int32) &&& 31).toUInt32).toInt32).toUInt32 >>> ((2 : Int32) &&& 31).toUInt32).toInt32)), .val (.int (((((1 : Int32) + (16 : Int32)) + (8 : Int32)) + (4 : Int32)) + (2 : Int32)))] [(.int ((((((((((x ^^^ (-1 : Int32)) &&& (x - (1 : Int32))).toUInt32 >>> ((16 : Int32) &&& 31).toUInt32).toInt32).toUInt32 >>> ((8 : Int32) &&& 31).toUInt32).toInt32).toUInt32 >>> ((4 : Int32) &&& 31).toUInt32).toInt32).toUInt32 >>> ((2 : Int32) &&& 31).toUInt32).toInt32)), (.int (((((1 : Int32) + (16 : Int32)) + (8 : Int32)) + (4 : Int32)) + (2 : Int32)))])) (fun _ k => XS.iloadN X0.here hx rfl (hb hby own_d_jdk_33_method_48_code_75) rfl k) ?_
            refine own_st (T' := T0) (g' := (mkF m 77 #[.val (.int ((((((((((x ^^^ (-1 : Int32)) &&& (x - (1 : Int32))).toUInt32 >>> ((16 : Int32) &&& 31).toUInt32).toInt32).toUInt32 >>> ((8 : Int32) &&& 31).toUInt32).toInt32).toUInt32 >>> ((4 : Int32) &&& 31).toUInt32).toInt32).toUInt32 >>> ((2 : Int32) &&& 31).toUInt32).toInt32)), .val (.int (((((1 : Int32) + (16 : Int32)) + (8 : Int32)) + (4 : Int32)) + (2 : Int32)))] [(.int (1 : Int32)), (.int ((((((((((x ^^^ (-1 : Int32)) &&& (x - (1 : Int32))).toUInt32 >>> ((16 : Int32) &&& 31).toUInt32).toInt32).toUInt32 >>> ((8 : Int32) &&& 31).toUInt32).toInt32).toUInt32 >>> ((4 : Int32) &&& 31).toUInt32).toInt32).toUInt32 >>> ((2 : Int32) &&& 31).toUInt32).toInt32)), (.int (((((1 : Int32) + (16 : Int32)) + (8 : Int32)) + (4 : Int32)) + (2 : Int32)))])) (fun _ k => XS.iconst X0.here hx rfl (hb hby own_d_jdk_33_method_48_code_76) k) ?_
            refine own_st (T' := T0) (g' := (mkF m 78 #[.val (.int ((((((((((x ^^^ (-1 : Int32)) &&& (x - (1 : Int32))).toUInt32 >>> ((16 : Int32) &&& 31).toUInt32).toInt32).toUInt32 >>> ((8 : Int32) &&& 31).toUInt32).toInt32).toUInt32 >>> ((4 : Int32) &&& 31).toUInt32).toInt32).toUInt32 >>> ((2 : Int32) &&& 31).toUInt32).toInt32)), .val (.int (((((1 : Int32) + (16 : Int32)) + (8 : Int32)) + (4 : Int32)) + (2 : Int32)))] [(.int ((((((((((((x ^^^ (-1 : Int32)) &&& (x - (1 : Int32))).toUInt32 >>> ((16 : Int32) &&& 31).toUInt32).toInt32).toUInt32 >>> ((8 : Int32) &&& 31).toUInt32).toInt32).toUInt32 >>> ((4 : Int32) &&& 31).toUInt32).toInt32).toUInt32 >>> ((2 : Int32) &&& 31).toUInt32).toInt32).toUInt32 >>> ((1 : Int32) &&& 31).toUInt32).toInt32)), (.int (((((1 : Int32) + (16 : Int32)) + (8 : Int32)) + (4 : Int32)) + (2 : Int32)))])) (fun _ k => XS.iushr X0.here hx rfl (hb hby own_d_jdk_33_method_48_code_77) rfl k) ?_
            refine own_st (T' := T0) (g' := (mkF m 79 #[.val (.int ((((((((((x ^^^ (-1 : Int32)) &&& (x - (1 : Int32))).toUInt32 >>> ((16 : Int32) &&& 31).toUInt32).toInt32).toUInt32 >>> ((8 : Int32) &&& 31).toUInt32).toInt32).toUInt32 >>> ((4 : Int32) &&& 31).toUInt32).toInt32).toUInt32 >>> ((2 : Int32) &&& 31).toUInt32).toInt32)), .val (.int (((((1 : Int32) + (16 : Int32)) + (8 : Int32)) + (4 : Int32)) + (2 : Int32)))] [(.int ((((((1 : Int32) + (16 : Int32)) + (8 : Int32)) + (4 : Int32)) + (2 : Int32)) + ((((((((((((x ^^^ (-1 : Int32)) &&& (x - (1 : Int32))).toUInt32 >>> ((16 : Int32) &&& 31).toUInt32).toInt32).toUInt32 >>> ((8 : Int32) &&& 31).toUInt32).toInt32).toUInt32 >>> ((4 : Int32) &&& 31).toUInt32).toInt32).toUInt32 >>> ((2 : Int32) &&& 31).toUInt32).toInt32).toUInt32 >>> ((1 : Int32) &&& 31).toUInt32).toInt32)))])) (fun _ k => XS.iadd X0.here hx rfl (hb hby own_d_jdk_33_method_48_code_78) rfl k) ?_
            exact own_ret X0 hx hlk hret rfl (Or.inl ⟨rfl, Or.inl rfl, _, rfl⟩) (hb hby own_d_jdk_33_method_48_code_79) (by decide) (by decide) ⟨⟨_, rfl⟩, rfl, e0⟩
          ·
            refine own_st (T' := T0) (g' := (mkF m 74 #[.val (.int ((((((((x ^^^ (-1 : Int32)) &&& (x - (1 : Int32))).toUInt32 >>> ((16 : Int32) &&& 31).toUInt32).toInt32).toUInt32 >>> ((8 : Int32) &&& 31).toUInt32).toInt32).toUInt32 >>> ((4 : Int32) &&& 31).toUInt32).toInt32)), .val (.int ((((1 : Int32) + (16 : Int32)) + (8 : Int32)) + (4 : Int32)))] [])) (fun _ k => XS.icmpYes X0.here hx rfl (pc0 := 64) (pc' := 74) rfl (hb hby own_d_jdk_33_method_48_code_64) rfl (flt hc64_5).2.2.2 (by decide) (by decide) k) ?_
            refine own_st (T' := T0) (g' := (mkF m 75 #[.val (.int ((((((((x ^^^ (-1 : Int32)) &&& (x - (1 : Int32))).toUInt32 >>> ((16 : Int32) &&& 31).toUInt32).toInt32).toUInt32 >>> ((8 : Int32) &&& 31).toUInt32).toInt32).toUInt32 >>> ((4 : Int32) &&& 31).toUInt32).toInt32)), .val (.int ((((1 : Int32) + (16 : Int32)) + (8 : Int32)) + (4 : Int32)))] [(.int ((((1 : Int32) + (16 : Int32)) + (8 : Int32)) + (4 : Int32)))])) (fun _ k => XS.iloadN X0.here hx rfl (hb hby own_d_jdk_33_method_48_code_74) rfl k) ?_
            refine own_st (T' := T0) (g' := (mkF m 76 #[.val (.int ((((((((x ^^^ (-1 : Int32)) &&& (x - (1 : Int32))).toUInt32 >>> ((16 : Int32) &&& 31).toUInt32).toInt32).toUInt32 >>> ((8 : Int32) &&& 31).toUInt32).toInt32).toUInt32 >>> ((4 : Int32) &&& 31).toUInt32).toInt32)), .val (.int ((((1 : Int32) + (16 : Int32)) + (8 : Int32)) + (4 : Int32)))] [(.int ((((((((x ^^^ (-1 : Int32)) &&& (x - (1 : Int32))).toUInt32 >>> ((16 : Int32) &&& 31).toUInt32).toInt32).toUInt32 >>> ((8 : Int32) &&& 31).toUInt32).toInt32).toUInt32 >>> ((4 : Int32) &&& 31).toUInt32).toInt32)), (.int ((((1 : Int32) + (16 : Int32)) + (8 : Int32)) + (4 : Int32)))])) (fun _ k => XS.iloadN X0.here hx rfl (hb hby own_d_jdk_33_method_48_code_75) rfl k) ?_
            refine own_st (T' := T0) (g' := (mkF m 77 #[.val (.int ((((((((x ^^^ (-1 : Int32)) &&& (x - (1 : Int32))).toUInt32 >>> ((16 : Int32) &&& 31).toUInt32).toInt32).toUInt32 >>> ((8 : Int32) &&& 31).toUInt32).toInt32).toUInt32 >>> ((4 : Int32) &&& 31).toUInt32).toInt32)), .val (.int ((((1 : Int32) + (16 : Int32)) + (8 : Int32)) + (4 : Int32)))] [(.int (1 : Int32)), (.int ((((((((x ^^^ (-1 : Int32)) &&& (x - (1 : Int32))).toUInt32 >>> ((16 : Int32) &&& 31).toUInt32).toInt32).toUInt32 >>> ((8 : Int32) &&& 31).toUInt32).toInt32).toUInt32 >>> ((4 : Int32) &&& 31).toUInt32).toInt32)), (.int ((((1 : Int32) + (16 : Int32)) + (8 : Int32)) + (4 : Int32)))])) (fun _ k => XS.iconst X0.here hx rfl (hb hby own_d_jdk_33_method_48_code_76) k) ?_
            refine own_st (T' := T0) (g' := (mkF m 78 #[.val (.int ((((((((x ^^^ (-1 : Int32)) &&& (x - (1 : Int32))).toUInt32 >>> ((16 : Int32) &&& 31).toUInt32).toInt32).toUInt32 >>> ((8 : Int32) &&& 31).toUInt32).toInt32).toUInt32 >>> ((4 : Int32) &&& 31).toUInt32).toInt32)), .val (.int ((((1 : Int32) + (16 : Int32)) + (8 : Int32)) + (4 : Int32)))] [(.int ((((((((((x ^^^ (-1 : Int32)) &&& (x - (1 : Int32))).toUInt32 >>> ((16 : Int32) &&& 31).toUInt32).toInt32).toUInt32 >>> ((8 : Int32) &&& 31).toUInt32).toInt32).toUInt32 >>> ((4 : Int32) &&& 31).toUInt32).toInt32).toUInt32 >>> ((1 : Int32) &&& 31).toUInt32).toInt32)), (.int ((((1 : Int32) + (16 : Int32)) + (8 : Int32)) + (4 : Int32)))])) (fun _ k => XS.iushr X0.here hx rfl (hb hby own_d_jdk_33_method_48_code_77) rfl k) ?_
            refine own_st (T' := T0) (g' := (mkF m 79 #[.val (.int ((((((((x ^^^ (-1 : Int32)) &&& (x - (1 : Int32))).toUInt32 >>> ((16 : Int32) &&& 31).toUInt32).toInt32).toUInt32 >>> ((8 : Int32) &&& 31).toUInt32).toInt32).toUInt32 >>> ((4 : Int32) &&& 31).toUInt32).toInt32)), .val (.int ((((1 : Int32) + (16 : Int32)) + (8 : Int32)) + (4 : Int32)))] [(.int (((((1 : Int32) + (16 : Int32)) + (8 : Int32)) + (4 : Int32)) + ((((((((((x ^^^ (-1 : Int32)) &&& (x - (1 : Int32))).toUInt32 >>> ((16 : Int32) &&& 31).toUInt32).toInt32).toUInt32 >>> ((8 : Int32) &&& 31).toUInt32).toInt32).toUInt32 >>> ((4 : Int32) &&& 31).toUInt32).toInt32).toUInt32 >>> ((1 : Int32) &&& 31).toUInt32).toInt32)))])) (fun _ k => XS.iadd X0.here hx rfl (hb hby own_d_jdk_33_method_48_code_78) rfl k) ?_
            exact own_ret X0 hx hlk hret rfl (Or.inl ⟨rfl, Or.inl rfl, _, rfl⟩) (hb hby own_d_jdk_33_method_48_code_79) (by decide) (by decide) ⟨⟨_, rfl⟩, rfl, e0⟩
        ·
          refine own_st (T' := T0) (g' := (mkF m 62 #[.val (.int ((((((x ^^^ (-1 : Int32)) &&& (x - (1 : Int32))).toUInt32 >>> ((16 : Int32) &&& 31).toUInt32).toInt32).toUInt32 >>> ((8 : Int32) &&& 31).toUInt32).toInt32)), .val (.int (((1 : Int32) + (16 : Int32)) + (8 : Int32)))] [])) (fun _ k => XS.icmpYes X0.here hx rfl (pc0 := 52) (pc' := 62) rfl (hb hby own_d_jdk_33_method_48_code_52) rfl (flt hc52_4).2.2.2 (by decide) (by decide) k) ?_
          refine own_st (T' := T0) (g' := (mkF m 63 #[.val (.int ((((((x ^^^ (-1 : Int32)) &&& (x - (1 : Int32))).toUInt32 >>> ((16 : Int32) &&& 31).toUInt32).toInt32).toUInt32 >>> ((8 : Int32) &&& 31).toUInt32).toInt32)), .val (.int (((1 : Int32) + (16 : Int32)) + (8 : Int32)))] [(.int ((((((x ^^^ (-1 : Int32)) &&& (x - (1 : Int32))).toUInt32 >>> ((16 : Int32) &&& 31).toUInt32).toInt32).toUInt32 >>> ((8 : Int32) &&& 31).toUInt32).toInt32))])) (fun _ k => XS.iloadN X0.here hx rfl (hb hby own_d_jdk_33_method_48_code_62) rfl k) ?_
          refine own_st (T' := T0) (g' := (mkF m 64 #[.val (.int ((((((x ^^^ (-1 : Int32)) &&& (x - (1 : Int32))).toUInt32 >>> ((16 : Int32) &&& 31).toUInt32).toInt32).toUInt32 >>> ((8 : Int32) &&& 31).toUInt32).toInt32)), .val (.int (((1 : Int32) + (16 : Int32)) + (8 : Int32)))] [(.int (4 : Int32)), (.int ((((((x ^^^ (-1 : Int32)) &&& (x - (1 : Int32))).toUInt32 >>> ((16 : Int32) &&& 31).toUInt32).toInt32).toUInt32 >>> ((8 : Int32) &&& 31).toUInt32).toInt32))])) (fun _ k => XS.iconst X0.here hx rfl (hb hby own_d_jdk_33_method_48_code_63) k) ?_
          by_cases hc64_6 : (4 : Int32) < ((((((x ^^^ (-1 : Int32)) &&& (x - (1 : Int32))).toUInt32 >>> ((16 : Int32) &&& 31).toUInt32).toInt32).toUInt32 >>> ((8 : Int32) &&& 31).toUInt32).toInt32)
          ·
            refine own_st (T' := T0) (g' := (mkF m 67 #[.val (.int ((((((x ^^^ (-1 : Int32)) &&& (x - (1 : Int32))).toUInt32 >>> ((16 : Int32) &&& 31).toUInt32).toInt32).toUInt32 >>> ((8 : Int32) &&& 31).toUInt32).toInt32)), .val (.int (((1 : Int32) + (16 : Int32)) + (8 : Int32)))] [])) (fun _ k => XS.icmpNo X0.here hx rfl (hb hby own_d_jdk_33_method_48_code_64) rfl (tlt hc64_6).2.2.2 k) ?_
            refine own_st (T' := T0) (g' := (mkF m 70 #[.val (.int ((((((x ^^^ (-1 : Int32)) &&& (x - (1 : Int32))).toUInt32 >>> ((16 : Int32) &&& 31).toUInt32).toInt32).toUInt32 >>> ((8 : Int32) &&& 31).toUInt32).toInt32)), .val (.int ((((1 : Int32) + (16 : Int32)) + (8 : Int32)) + (2 : Int32)))] [])) (fun _ k => XS.iinc X0.here hx rfl (hb hby own_d_jdk_33_method_48_code_67) rfl (l' := #[.val (.int ((((((x ^^^ (-1 : Int32)) &&& (x - (1 : Int32))).toUInt32 >>> ((16 : Int32) &&& 31).toUInt32).toInt32).toUInt32 >>> ((8 : Int32) &&& 31).toUInt32).toInt32)), .val (.int ((((1 : Int32) + (16 : Int32)) + (8 : Int32)) + (2 : Int32)))]) rfl k) ?_
            refine own_st (T' := T0) (g' := (mkF m 71 #[.val (.int ((((((x ^^^ (-1 : Int32)) &&& (x - (1 : Int32))).toUInt32 >>> ((16 : Int32) &&& 31).toUInt32).toInt32).toUInt32 >>> ((8 : Int32) &&& 31).toUInt32).toInt32)), .val (.int ((((1 : Int32) + (16 : Int32)) + (8 : Int32)) + (2 : Int32)))] [(.int ((((((x ^^^ (-1 : Int32)) &&& (x - (1 : Int32))).toUInt32 >>> ((16 : Int32) &&& 31).toUInt32).toInt32).toUInt32 >>> ((8 : Int32) &&& 31).toUInt32).toInt32))])) (fun _ k => XS.iloadN X0.here hx rfl (hb hby own_d_jdk_33_method_48_code_70) rfl k) ?_
            refine own_st (T' := T0) (g' := (mkF m 72 #[.val (.int ((((((x ^^^ (-1 : Int32)) &&& (x - (1 : Int32))).toUInt32 >>> ((16 : Int32) &&& 31).toUInt32).toInt32).toUInt32 >>> ((8 : Int32) &&& 31).toUInt32).toInt32)), .val (.int ((((1 : Int32) + (16 : Int32)) + (8 : Int32)) + (2 : Int32)))] [(.int (2 : Int32)), (.int ((((((x ^^^ (-1 : Int32)) &&& (x - (1 : Int32))).toUInt32 >>> ((16 : Int32) &&& 31).toUInt32).toInt32).toUInt32 >>> ((8 : Int32) &&& 31).toUInt32).toInt32))])) (fun _ k => XS.iconst X0.here hx rfl (hb hby own_d_jdk_33_method_48_code_71) k) ?_
            refine own_st (T' := T0) (g' := (mkF m 73 #[.val (.int ((((((x ^^^ (-1 : Int32)) &&& (x - (1 : Int32))).toUInt32 >>> ((16 : Int32) &&& 31).toUInt32).toInt32).toUInt32 >>> ((8 : Int32) &&& 31).toUInt32).toInt32)), .val (.int ((((1 : Int32) + (16 : Int32)) + (8 : Int32)) + (2 : Int32)))] [(.int ((((((((x ^^^ (-1 : Int32)) &&& (x - (1 : Int32))).toUInt32 >>> ((16 : Int32) &&& 31).toUInt32).toInt32).toUInt32 >>> ((8 : Int32) &&& 31).toUInt32).toInt32).toUInt32 >>> ((2 : Int32) &&& 31).toUInt32).toInt32))])) (fun _ k => XS.iushr X0.here hx rfl (hb hby own_d_jdk_33_method_48_code_72) rfl k) ?_
            refine own_st (T' := T0) (g' := (mkF m 74 #[.val (.int ((((((((x ^^^ (-1 : Int32)) &&& (x - (1 : Int32))).toUInt32 >>> ((16 : Int32) &&& 31).toUInt32).toInt32).toUInt32 >>> ((8 : Int32) &&& 31).toUInt32).toInt32).toUInt32 >>> ((2 : Int32) &&& 31).toUInt32).toInt32)), .val (.int ((((1 : Int32) + (16 : Int32)) + (8 : Int32)) + (2 : Int32)))] [])) (fun _ k => XS.istoreN X0.here hx rfl (hb hby own_d_jdk_33_method_48_code_73) rfl (l' := #[.val (.int ((((((((x ^^^ (-1 : Int32)) &&& (x - (1 : Int32))).toUInt32 >>> ((16 : Int32) &&& 31).toUInt32).toInt32).toUInt32 >>> ((8 : Int32) &&& 31).toUInt32).toInt32).toUInt32 >>> ((2 : Int32) &&& 31).toUInt32).toInt32)), .val (.int ((((1 : Int32) + (16 : Int32)) + (8 : Int32)) + (2 : Int32)))]) rfl k) ?_
            refine own_st (T' := T0) (g' := (mkF m 75 #[.val (.int ((((((((x ^^^ (-1 : Int32)) &&& (x - (1 : Int32))).toUInt32 >>> ((16 : Int32) &&& 31).toUInt32).toInt32).toUInt32 >>> ((8 : Int32) &&& 31).toUInt32).toInt32).toUInt32 >>> ((2 : Int32) &&& 31).toUInt32).toInt32)), .val (.int ((((1 : Int32) + (16 : Int32)) + (8 : Int32)) + (2 : Int32)))] [(.int ((((1 : Int32) + (16 : Int32)) + (8 : Int32)) + (2 : Int32)))])) (fun _ k => XS.iloadN X0.here hx rfl (hb hby own_d_jdk_33_method_48_code_74) rfl k) ?_
            refine own_st (T' := T0) (g' := (mkF m 76 #[.val (.int ((((((((x ^^^ (-1 : Int32)) &&& (x - (1 : Int32))).toUInt32 >>> ((16 : Int32) &&& 31).toUInt32).toInt32).toUInt32 >>> ((8 : Int32) &&& 31).toUInt32).toInt32).toUInt32 >>> ((2 : Int32) &&& 31).toUInt32).toInt32)), .val (.int ((((1 : Int32) + (16 : Int32)) + (8 : Int32)) + (2 : Int32)))] [(.int ((((((((x ^^^ (-1 : Int32)) &&& (x - (1 : Int32))).toUInt32 >>> ((16 : Int32) &&& 31).toUInt32).toInt32).toUInt32 >>> ((8 : Int32) &&& 31).toUInt32).toInt32).toUInt32 >>> ((2 : Int32) &&& 31).toUInt32).toInt32)), (.int ((((1 : Int32) + (16 : Int32)) + (8 : Int32)) + (2 : Int32)))])) (fun _ k => XS.iloadN X0.here hx rfl (hb hby own_d_jdk_33_method_48_code_75) rfl k) ?_
            refine own_st (T' := T0) (g' := (mkF m 77 #[.val (.int ((((((((x ^^^ (-1 : Int32)) &&& (x - (1 : Int32))).toUInt32 >>> ((16 : Int32) &&& 31).toUInt32).toInt32).toUInt32 >>> ((8 : Int32) &&& 31).toUInt32).toInt32).toUInt32 >>> ((2 : Int32) &&& 31).toUInt32).toInt32)), .val (.int ((((1 : Int32) + (16 : Int32)) + (8 : Int32)) + (2 : Int32)))] [(.int (1 : Int32)), (.int ((((((((x ^^^ (-1 : Int32)) &&& (x - (1 : Int32))).toUInt32 >>> ((16 : Int32) &&& 31).toUInt32).toInt32).toUInt32 >>> ((8 : Int32) &&& 31).toUInt32).toInt32).toUInt32 >>> ((2 : Int32) &&& 31).toUInt32).toInt32)), (.int ((((1 : Int32) + (16 : Int32)) + (8 : Int32)) + (2 : Int32)))])) (fun _ k => XS.iconst X0.here hx rfl (hb hby own_d_jdk_33_method_48_code_76) k) ?_
            refine own_st (T' := T0) (g' := (mkF m 78 #[.val (.int ((((((((x ^^^ (-1 : Int32)) &&& (x - (1 : Int32))).toUInt32 >>> ((16 : Int32) &&& 31).toUInt32).toInt32).toUInt32 >>> ((8 : Int32) &&& 31).toUInt32).toInt32).toUInt32 >>> ((2 : Int32) &&& 31).toUInt32).toInt32)), .val (.int ((((1 : Int32) + (16 : Int32)) + (8 : Int32)) + (2 : Int32)))] [(.int ((((((((((x ^^^ (-1 : Int32)) &&& (x - (1 : Int32))).toUInt32 >>> ((16 : Int32) &&& 31).toUInt32).toInt32).toUInt32 >>> ((8 : Int32) &&& 31).toUInt32).toInt32).toUInt32 >>> ((2 : Int32) &&& 31).toUInt32).toInt32).toUInt32 >>> ((1 : Int32) &&& 31).toUInt32).toInt32)), (.int ((((1 : Int32) + (16 : Int32)) + (8 : Int32)) + (2 : Int32)))])) (fun _ k => XS.iushr X0.here hx rfl (hb hby own_d_jdk_33_method_48_code_77) rfl k) ?_
            refine own_st (T' := T0) (g' := (mkF m 79 #[.val (.int ((((((((x ^^^ (-1 : Int32)) &&& (x - (1 : Int32))).toUInt32 >>> ((16 : Int32) &&& 31).toUInt32).toInt32).toUInt32 >>> ((8 : Int32) &&& 31).toUInt32).toInt32).toUInt32 >>> ((2 : Int32) &&& 31).toUInt32).toInt32)), .val (.int ((((1 : Int32) + (16 : Int32)) + (8 : Int32)) + (2 : Int32)))] [(.int (((((1 : Int32) + (16 : Int32)) + (8 : Int32)) + (2 : Int32)) + ((((((((((x ^^^ (-1 : Int32)) &&& (x - (1 : Int32))).toUInt32 >>> ((16 : Int32) &&& 31).toUInt32).toInt32).toUInt32 >>> ((8 : Int32) &&& 31).toUInt32).toInt32).toUInt32 >>> ((2 : Int32) &&& 31).toUInt32).toInt32).toUInt32 >>> ((1 : Int32) &&& 31).toUInt32).toInt32)))])) (fun _ k => XS.iadd X0.here hx rfl (hb hby own_d_jdk_33_method_48_code_78) rfl k) ?_
            exact own_ret X0 hx hlk hret rfl (Or.inl ⟨rfl, Or.inl rfl, _, rfl⟩) (hb hby own_d_jdk_33_method_48_code_79) (by decide) (by decide) ⟨⟨_, rfl⟩, rfl, e0⟩
          ·
            refine own_st (T' := T0) (g' := (mkF m 74 #[.val (.int ((((((x ^^^ (-1 : Int32)) &&& (x - (1 : Int32))).toUInt32 >>> ((16 : Int32) &&& 31).toUInt32).toInt32).toUInt32 >>> ((8 : Int32) &&& 31).toUInt32).toInt32)), .val (.int (((1 : Int32) + (16 : Int32)) + (8 : Int32)))] [])) (fun _ k => XS.icmpYes X0.here hx rfl (pc0 := 64) (pc' := 74) rfl (hb hby own_d_jdk_33_method_48_code_64) rfl (flt hc64_6).2.2.2 (by decide) (by decide) k) ?_
            refine own_st (T' := T0) (g' := (mkF m 75 #[.val (.int ((((((x ^^^ (-1 : Int32)) &&& (x - (1 : Int32))).toUInt32 >>> ((16 : Int32) &&& 31).toUInt32).toInt32).toUInt32 >>> ((8 : Int32) &&& 31).toUInt32).toInt32)), .val (.int (((1 : Int32) + (16 : Int32)) + (8 : Int32)))] [(.int (((1 : Int32) + (16 : Int32)) + (8 : Int32)))])) (fun _ k => XS.iloadN X0.here hx rfl (hb hby own_d_jdk_33_method_48_code_74) rfl k) ?_
            refine own_st (T' := T0) (g' := (mkF m 76 #[.val (.int ((((((x ^^^ (-1 : Int32)) &&& (x - (1 : Int32))).toUInt32 >>> ((16 : Int32) &&& 31).toUInt32).toInt32).toUInt32 >>> ((8 : Int32) &&& 31).toUInt32).toInt32)), .val (.int (((1 : Int32) + (16 : Int32)) + (8 : Int32)))] [(.int ((((((x ^^^ (-1 : Int32)) &&& (x - (1 : Int32))).toUInt32 >>> ((16 : Int32) &&& 31).toUInt32).toInt32).toUInt32 >>> ((8 : Int32) &&& 31).toUInt32).toInt32)), (.int (((1 : Int32) + (16 : Int32)) + (8 : Int32)))])) (fun _ k => XS.iloadN X0.here hx rfl (hb hby own_d_jdk_33_method_48_code_75) rfl k) ?_
            refine own_st (T' := T0) (g' := (mkF m 77 #[.val (.int ((((((x ^^^ (-1 : Int32)) &&& (x - (1 : Int32))).toUInt32 >>> ((16 : Int32) &&& 31).toUInt32).toInt32).toUInt32 >>> ((8 : Int32) &&& 31).toUInt32).toInt32)), .val (.int (((1 : Int32) + (16 : Int32)) + (8 : Int32)))] [(.int (1 : Int32)), (.int ((((((x ^^^ (-1 : Int32)) &&& (x - (1 : Int32))).toUInt32 >>> ((16 : Int32) &&& 31).toUInt32).toInt32).toUInt32 >>> ((8 : Int32) &&& 31).toUInt32).toInt32)), (.int (((1 : Int32) + (16 : Int32)) + (8 : Int32)))])) (fun _ k => XS.iconst X0.here hx rfl (hb hby own_d_jdk_33_method_48_code_76) k) ?_
            refine own_st (T' := T0) (g' := (mkF m 78 #[.val (.int ((((((x ^^^ (-1 : Int32)) &&& (x - (1 : Int32))).toUInt32 >>> ((16 : Int32) &&& 31).toUInt32).toInt32).toUInt32 >>> ((8 : Int32) &&& 31).toUInt32).toInt32)), .val (.int (((1 : Int32) + (16 : Int32)) + (8 : Int32)))] [(.int ((((((((x ^^^ (-1 : Int32)) &&& (x - (1 : Int32))).toUInt32 >>> ((16 : Int32) &&& 31).toUInt32).toInt32).toUInt32 >>> ((8 : Int32) &&& 31).toUInt32).toInt32).toUInt32 >>> ((1 : Int32) &&& 31).toUInt32).toInt32)), (.int (((1 : Int32) + (16 : Int32)) + (8 : Int32)))])) (fun _ k => XS.iushr X0.here hx rfl (hb hby own_d_jdk_33_method_48_code_77) rfl k) ?_
            refine own_st (T' := T0) (g' := (mkF m 79 #[.val (.int ((((((x ^^^ (-1 : Int32)) &&& (x - (1 : Int32))).toUInt32 >>> ((16 : Int32) &&& 31).toUInt32).toInt32).toUInt32 >>> ((8 : Int32) &&& 31).toUInt32).toInt32)), .val (.int (((1 : Int32) + (16 : Int32)) + (8 : Int32)))] [(.int ((((1 : Int32) + (16 : Int32)) + (8 : Int32)) + ((((((((x ^^^ (-1 : Int32)) &&& (x - (1 : Int32))).toUInt32 >>> ((16 : Int32) &&& 31).toUInt32).toInt32).toUInt32 >>> ((8 : Int32) &&& 31).toUInt32).toInt32).toUInt32 >>> ((1 : Int32) &&& 31).toUInt32).toInt32)))])) (fun _ k => XS.iadd X0.here hx rfl (hb hby own_d_jdk_33_method_48_code_78) rfl k) ?_
            exact own_ret X0 hx hlk hret rfl (Or.inl ⟨rfl, Or.inl rfl, _, rfl⟩) (hb hby own_d_jdk_33_method_48_code_79) (by decide) (by decide) ⟨⟨_, rfl⟩, rfl, e0⟩
      ·
        refine own_st (T' := T0) (g' := (mkF m 49 #[.val (.int ((((x ^^^ (-1 : Int32)) &&& (x - (1 : Int32))).toUInt32 >>> ((16 : Int32) &&& 31).toUInt32).toInt32)), .val (.int ((1 : Int32) + (16 : Int32)))] [])) (fun _ k => XS.icmpYes X0.here hx rfl (pc0 := 38) (pc' := 49) rfl (hb hby own_d_jdk_33_method_48_code_38) rfl (flt hc38_3).2.2.2 (by decide) (by decide) k) ?_
        refine own_st (T' := T0) (g' := (mkF m 50 #[.val (.int ((((x ^^^ (-1 : Int32)) &&& (x - (1 : Int32))).toUInt32 >>> ((16 : Int32) &&& 31).toUInt32).toInt32)), .val (.int ((1 : Int32) + (16 : Int32)))] [(.int ((((x ^^^ (-1 : Int32)) &&& (x - (1 : Int32))).toUInt32 >>> ((16 : Int32) &&& 31).toUInt32).toInt32))])) (fun _ k => XS.iloadN X0.here hx rfl (hb hby own_d_jdk_33_method_48_code_49) rfl k) ?_
        refine own_st (T' := T0) (g' := (mkF m 52 #[.val (.int ((((x ^^^ (-1 : Int32)) &&& (x - (1 : Int32))).toUInt32 >>> ((16 : Int32) &&& 31).toUInt32).toInt32)), .val (.int ((1 : Int32) + (16 : Int32)))] [(.int (16 : Int32)), (.int ((((x ^^^ (-1 : Int32)) &&& (x - (1 : Int32))).toUInt32 >>> ((16 : Int32) &&& 31).toUInt32).toInt32))])) (fun _ k => XS.bipush X0.here hx rfl (hb hby own_d_jdk_33_method_48_code_50) k) ?_
        by_cases hc52_7 : (16 : Int32) < ((((x ^^^ (-1 : Int32)) &&& (x - (1 : Int32))).toUInt32 >>> ((16 : Int32) &&& 31).toUInt32).toInt32)
        ·
          refine own_st (T' := T0) (g' := (mkF m 55 #[.val (.int ((((x ^^^ (-1 : Int32)) &&& (x - (1 : Int32))).toUInt32 >>> ((16 : Int32) &&& 31).toUInt32).toInt32)), .val (.int ((1 : Int32) + (16 : Int32)))] [])) (fun _ k => XS.icmpNo X0.here hx rfl (hb hby own_d_jdk_33_method_48_code_52) rfl (tlt hc52_7).2.2.2 k) ?_
          refine own_st (T' := T0) (g' := (mkF m 58 #[.val (.int ((((x ^^^ (-1 : Int32)) &&& (x - (1 : Int32))).toUInt32 >>> ((16 : Int32) &&& 31).toUInt32).toInt32)), .val (.int (((1 : Int32) + (16 : Int32)) + (4 : Int32)))] [])) (fun _ k => XS.iinc X0.here hx rfl (hb hby own_d_jdk_33_method_48_code_55) rfl (l' := #[.val (.int ((((x ^^^ (-1 : Int32)) &&& (x - (1 : Int32))).toUInt32 >>> ((16 : Int32) &&& 31).toUInt32).toInt32)), .val (.int (((1 : Int32) + (16 : Int32)) + (4 : Int32)))]) rfl k) ?_
          refine own_st (T' := T0) (g' := (mkF m 59 #[.val (.int ((((x ^^^ (-1 : Int32)) &&& (x - (1 : Int32))).toUInt32 >>> ((16 : Int32) &&& 31).toUInt32).toInt32)), .val (.int (((1 : Int32) + (16 : Int32)) + (4 : Int32)))] [(.int ((((x ^^^ (-1 : Int32)) &&& (x - (1 : Int32))).toUInt32 >>> ((16 : Int32) &&& 31).toUInt32).toInt32))])) (fun _ k => XS.iloadN X0.here hx rfl (hb hby own_d_jdk_33_method_48_code_58) rfl k) ?_
          refine own_st (T' := T0) (g' := (mkF m 60 #[.val (.int ((((x ^^^ (-1 : Int32)) &&& (x - (1 : Int32))).toUInt32 >>> ((16 : Int32) &&& 31).toUInt32).toInt32)), .val (.int (((1 : Int32) + (16 : Int32)) + (4 : Int32)))] [(.int (4 : Int32)), (.int ((((x ^^^ (-1 : Int32)) &&& (x - (1 : Int32))).toUInt32 >>> ((16 : Int32) &&& 31).toUInt32).toInt32))])) (fun _ k => XS.iconst X0.here hx rfl (hb hby own_d_jdk_33_method_48_code_59) k) ?_
          refine own_st (T' := T0) (g' := (mkF m 61 #[.val (.int ((((x ^^^ (-1 : Int32)) &&& (x - (1 : Int32))).toUInt32 >>> ((16 : Int32) &&& 31).toUInt32).toInt32)), .val (.int (((1 : Int32) + (16 : Int32)) + (4 : Int32)))] [(.int ((((((x ^^^ (-1 : Int32)) &&& (x - (1 : Int32))).toUInt32 >>> ((16 : Int32) &&& 31).toUInt32).toInt32).toUInt32 >>> ((4 : Int32) &&& 31).toUInt32).toInt32))])) (fun _ k => XS.iushr X0.here hx rfl (hb hby own_d_jdk_33_method_48_code_60) rfl k) ?_
          refine own_st (T' := T0) (g' := (mkF m 62 #[.val (.int ((((((x ^^^ (-1 : Int32)) &&& (x - (1 : Int32))).toUInt32 >>> ((16 : Int32) &&& 31).toUInt32).toInt32).toUInt32 >>> ((4 : Int32) &&& 31).toUInt32).toInt32)), .val (.int (((1 : Int32) + (16 : Int32)) + (4 : Int32)))] [])) (fun _ k => XS.istoreN X0.here hx rfl (hb hby own_d_jdk_33_method_48_code_61) rfl (l' := #[.val (.int ((((((x ^^^ (-1 : Int32)) &&& (x - (1 : Int32))).toUInt32 >>> ((16 : Int32) &&& 31).toUInt32).toInt32).toUInt32 >>> ((4 : Int32) &&& 31).toUInt32).toInt32)), .val (.int (((1 : Int32) + (16 : Int32)) + (4 : Int32)))]) rfl k) ?_
          refine own_st (T' := T0) (g' := (mkF m 63 #[.val (.int ((((((x ^^^ (-1 : Int32)) &&& (x - (1 : Int32))).toUInt32 >>> ((16 : Int32) &&& 31).toUInt32).toInt32).toUInt32 >>> ((4 : Int32) &&& 31).toUInt32).toInt32)), .val (.int (((1 : Int32) + (16 : Int32)) + (4 : Int32)))] [(.int ((((((x ^^^ (-1 : Int32)) &&& (x - (1 : Int32))).toUInt32 >>> ((16 : Int32) &&& 31).toUInt32).toInt32).toUInt32 >>> ((4 : Int32) &&& 31).toUInt32).toInt32))])) (fun _ k => XS.iloadN X0.here hx rfl (hb hby own_d_jdk_33_method_48_code_62) rfl k) ?_
          refine own_st (T' := T0) (g' := (mkF m 64 #[.val (.int ((((((x ^^^ (-1 : Int32)) &&& (x - (1 : Int32))).toUInt32 >>> ((16 : Int32) &&& 31).toUInt32).toInt32).toUInt32 >>> ((4 : Int32) &&& 31).toUInt32).toInt32)), .val (.int (((1 : Int32) + (16 : Int32)) + (4 : Int32)))] [(.int (4 : Int32)), (.int ((((((x ^^^ (-1 : Int32)) &&& (x - (1 : Int32))).toUInt32 >>> ((16 : Int32) &&& 31).toUInt32).toInt32).toUInt32 >>> ((4 : Int32) &&& 31).toUInt32).toInt32))])) (fun _ k => XS.iconst X0.here hx rfl (hb hby own_d_jdk_33_method_48_code_63) k) ?_
          by_cases hc64_8 : (4 : Int32) < ((((((x ^^^ (-1 : Int32)) &&& (x - (1 : Int32))).toUInt32 >>> ((16 : Int32) &&& 31).toUInt32).toInt32).toUInt32 >>> ((4 : Int32) &&& 31).toUInt32).toInt32)
          ·
            refine own_st (T' := T0) (g' := (mkF m 67 #[.val (.int ((((((x ^^^ (-1 : Int32)) &&& (x - (1 : Int32))).toUInt32 >>> ((16 : Int32) &&& 31).toUInt32).toInt32).toUInt32 >>> ((4 : Int32) &&& 31).toUInt32).toInt32)), .val (.int (((1 : Int32) + (16 : Int32)) + (4 : Int32)))] [])) (fun _ k => XS.icmpNo X0.here hx rfl (hb hby own_d_jdk_33_method_48_code_64) rfl (tlt hc64_8).2.2.2 k) ?_
            refine own_st (T' := T0) (g' := (mkF m 70 #[.val (.int ((((((x ^^^ (-1 : Int32)) &&& (x - (1 : Int32))).toUInt32 >>> ((16 : Int32) &&& 31).toUInt32).toInt32).toUInt32 >>> ((4 : Int32) &&& 31).toUInt32).toInt32)), .val (.int ((((1 : Int32) + (16 : Int32)) + (4 : Int32)) + (2 : Int32)))] [])) (fun _ k => XS.iinc X0.here hx rfl (hb hby own_d_jdk_33_method_48_code_67) rfl (l' := #[.val (.int ((((((x ^^^ (-1 : Int32)) &&& (x - (1 : Int32))).toUInt32 >>> ((16 : Int32) &&& 31).toUInt32).toInt32).toUInt32 >>> ((4 : Int32) &&& 31).toUInt32).toInt32)), .val (.int ((((1 : Int32) + (16 : Int32)) + (4 : Int32)) + (2 : Int32)))]) rfl k) ?_
            refine own_st (T' := T0) (g' := (mkF m 71 #[.val (.int ((((((x ^^^ (-1 : Int32)) &&& (x - (1 : Int32))).toUInt32 >>> ((16 : Int32) &&& 31).toUInt32).toInt32).toUInt32 >>> ((4 : Int32) &&& 31).toUInt32).toInt32)), .val (.int ((((1 : Int32) + (16 : Int32)) + (4 : Int32)) + (2 : Int32)))] [(.int ((((((x ^^^ (-1 : Int32)) &&& (x - (1 : Int32))).toUInt32 >>> ((16 : Int32) &&& 31).toUInt32).toInt32).toUInt32 >>> ((4 : Int32) &&& 31).toUInt32).toInt32))])) (fun _ k => XS.iloadN X0.here hx rfl (hb hby own_d_jdk_33_method_48_code_70) rfl k) ?_
            refine own_st (T' := T0) (g' := (mkF m 72 #[.val (.int ((((((x ^^^ (-1 : Int32)) &&& (x - (1 : Int32))).toUInt32 >>> ((16 : Int32) &&& 31).toUInt32).toInt32).toUInt32 >>> ((4 : Int32) &&& 31).toUInt32).toInt32)), .val (.int ((((1 : Int32) + (16 : Int32)) + (4 : Int32)) + (2 : Int32)))] [(.int (2 : Int32)), (.int ((((((x ^^^ (-1 : Int32)) &&& (x - (1 : Int32))).toUInt32 >>> ((16 : Int32) &&& 31).toUInt32).toInt32).toUInt32 >>> ((4 : Int32) &&& 31).toUInt32).toInt32))])) (fun _ k => XS.iconst X0.here hx rfl (hb hby own_d_jdk_33_method_48_code_71) k) ?_
            refine own_st (T' := T0) (g' := (mkF m 73 #[.val (.int ((((((x ^^^ (-1 : Int32)) &&& (x - (1 : Int32))).toUInt32 >>> ((16 : Int32) &&& 31).toUInt32).toInt32).toUInt32 >>> ((4 : Int32) &&& 31).toUInt32).toInt32)), .val (.int ((((1 : Int32) + (16 : Int32)) + (4 : Int32)) + (2 : Int32)))] [(.int ((((((((x ^^^ (-1 : Int32)) &&& (x - (1 : Int32))).toUInt32 >>> ((16 : Int32) &&& 31).toUInt32).toInt32).toUInt32 >>> ((4 : Int32) &&& 31).toUInt32).toInt32).toUInt32 >>> ((2 : Int32) &&& 31).toUInt32).toInt32))])) (fun _ k => XS.iushr X0.here hx rfl (hb hby own_d_jdk_33_method_48_code_72) rfl k) ?_
            refine own_st (T' := T0) (g' := (mkF m 74 #[.val (.int ((((((((x ^^^ (-1 : Int32)) &&& (x - (1 : Int32))).toUInt32 >>> ((16 : Int32) &&& 31).toUInt32).toInt32).toUInt32 >>> ((4 : Int32) &&& 31).toUInt32).toInt32).toUInt32 >>> ((2 : Int32) &&& 31).toUInt32).toInt32)), .val (.int ((((1 : Int32) + (16 : Int32)) + (4 : Int32)) + (2 : Int32)))] [])) (fun _ k => XS.istoreN X0.here hx rfl (hb hby own_d_jdk_33_method_48_code_73) rfl (l' := #[.val (.int ((((((((x ^^^ (-1 : Int32)) &&& (x - (1 : Int32))).toUInt32 >>> ((16 : Int32) &&& 31).toUInt32).toInt32).toUInt32 >>> ((4 : Int32) &&& 31).toUInt32).toInt32).toUInt32 >>> ((2 : Int32) &&& 31).toUInt32).toInt32)), .val (.int ((((1 : Int32) + (16 : Int32)) + (4 : Int32)) + (2 : Int32)))]) rfl k) ?_
            refine own_st (T' := T0) (g' := (mkF m 75 #[.val (.int ((((((((x ^^^ (-1 : Int32)) &&& (x - (1 : Int32))).toUInt32 >>> ((16 : Int32) &&& 31).toUInt32).toInt32).toUInt32 >>> ((4 : Int32) &&& 31).toUInt32).toInt32).toUInt32 >>> ((2 : Int32) &&& 31).toUInt32).toInt32)), .val (.int ((((1 : Int32) + (16 : Int32)) + (4 : Int32)) + (2 : Int32)))] [(.int ((((1 : Int32) + (16 : Int32)) + (4 : Int32)) + (2 : Int32)))])) (fun _ k => XS.iloadN X0.here hx rfl (hb hby own_d_jdk_33_method_48_code_74) rfl k) ?_
            refine own_st (T' := T0) (g' := (mkF m 76 #[.val (.int ((((((((x ^^^ (-1 : Int32)) &&& (x - (1 : Int32))).toUInt32 >>> ((16 : Int32) &&& 31).toUInt32).toInt32).toUInt32 >>> ((4 : Int32) &&& 31).toUInt32).toInt32).toUInt32 >>> ((2 : Int32) &&& 31).toUInt32).toInt32)), .val (.int ((((1 : Int32) + (16 : Int32)) + (4 : Int32)) + (2 : Int32)))] [(.int ((((((((x ^^^ (-1 : Int32)) &&& (x - (1 : Int32))).toUInt32 >>> ((16 : Int32) &&& 31).toUInt32).toInt32).toUInt32 >>> ((4 : Int32) &&& 31).toUInt32).toInt32).toUInt32 >>> ((2 : Int32) &&& 31).toUInt32).toInt32)), (.int ((((1 : Int32) + (16 : Int32)) + (4 : Int32)) + (2 : Int32)))])) (fun _ k => XS.iloadN X0.here hx rfl (hb hby own_d_jdk_33_method_48_code_75) rfl k) ?_
            refine own_st (T' := T0) (g' := (mkF m 77 #[.val (.int ((((((((x ^^^ (-1 : Int32)) &&& (x - (1 : Int32))).toUInt32 >>> ((16 : Int32) &&& 31).toUInt32).toInt32).toUInt32 >>> ((4 : Int32) &&& 31).toUInt32).toInt32).toUInt32 >>> ((2 : Int32) &&& 31).toUInt32).toInt32)), .val (.int ((((1 : Int32) + (16 : Int32)) + (4 : Int32)) + (2 : Int32)))] [(.int (1 : Int32)), (.int ((((((((x ^^^ (-1 : Int32)) &&& (x - (1 : Int32))).toUInt32 >>> ((16 : Int32) &&& 31).toUInt32).toInt32).toUInt32 >>> ((4 : Int32) &&& 31).toUInt32).toInt32).toUInt32 >>> ((2 : Int32) &&& 31).toUInt32).toInt32)), (.int ((((1 : Int32) + (16 : Int32)) + (4 : Int32)) + (2 : Int32)))])) (fun _ k => XS.iconst X0.here hx rfl (hb hby own_d_jdk_33_method_48_code_76) k) ?_
            refine own_st (T' := T0) (g' := (mkF m 78 #[.val (.int ((((((((x ^^^ (-1 : Int32)) &&& (x - (1 : Int32))).toUInt32 >>> ((16 : Int32) &&& 31).toUInt32).toInt32).toUInt32 >>> ((4 : Int32) &&& 31).toUInt32).toInt32).toUInt32 >>> ((2 : Int32) &&& 31).toUInt32).toInt32)), .val (.int ((((1 : Int32) + (16 : Int32)) + (4 : Int32)) + (2 : Int32)))] [(.int ((((((((((x ^^^ (-1 : Int32)) &&& (x - (1 : Int32))).toUInt32 >>> ((16 : Int32) &&& 31).toUInt32).toInt32).toUInt32 >>> ((4 : Int32) &&& 31).toUInt32).toInt32).toUInt32 >>> ((2 : Int32) &&& 31).toUInt32).toInt32).toUInt32 >>> ((1 : Int32) &&& 31).toUInt32).toInt32)), (.int ((((1 : Int32) + (16 : Int32)) + (4 : Int32)) + (2 : Int32)))])) (fun _ k => XS.iushr X0.here hx rfl (hb hby own_d_jdk_33_method_48_code_77) rfl k) ?_
            refine own_st (T' := T0) (g' := (mkF m 79 #[.val (.int ((((((((x ^^^ (-1 : Int32)) &&& (x - (1 : Int32))).toUInt32 >>> ((16 : Int32) &&& 31).toUInt32).toInt32).toUInt32 >>> ((4 : Int32) &&& 31).toUInt32).toInt32).toUInt32 >>> ((2 : Int32) &&& 31).toUInt32).toInt32)), .val (.int ((((1 : Int32) + (16 : Int32)) + (4 : Int32)) + (2 : Int32)))] [(.int (((((1 : Int32) + (16 : Int32)) + (4 : Int32)) + (2 : Int32)) + ((((((((((x ^^^ (-1 : Int32)) &&& (x - (1 : Int32))).toUInt32 >>> ((16 : Int32) &&& 31).toUInt32).toInt32).toUInt32 >>> ((4 : Int32) &&& 31).toUInt32).toInt32).toUInt32 >>> ((2 : Int32) &&& 31).toUInt32).toInt32).toUInt32 >>> ((1 : Int32) &&& 31).toUInt32).toInt32)))])) (fun _ k => XS.iadd X0.here hx rfl (hb hby own_d_jdk_33_method_48_code_78) rfl k) ?_
            exact own_ret X0 hx hlk hret rfl (Or.inl ⟨rfl, Or.inl rfl, _, rfl⟩) (hb hby own_d_jdk_33_method_48_code_79) (by decide) (by decide) ⟨⟨_, rfl⟩, rfl, e0⟩
          ·
            refine own_st (T' := T0) (g' := (mkF m 74 #[.val (.int ((((((x ^^^ (-1 : Int32)) &&& (x - (1 : Int32))).toUInt32 >>> ((16 : Int32) &&& 31).toUInt32).toInt32).toUInt32 >>> ((4 : Int32) &&& 31).toUInt32).toInt32)), .val (.int (((1 : Int32) + (16 : Int32)) + (4 : Int32)))] [])) (fun _ k => XS.icmpYes X0.here hx rfl (pc0 := 64) (pc' := 74) rfl (hb hby own_d_jdk_33_method_48_code_64) rfl (flt hc64_8).2.2.2 (by decide) (by decide) k) ?_
            refine own_st (T' := T0) (g' := (mkF m 75 #[.val (.int ((((((x ^^^ (-1 : Int32)) &&& (x - (1 : Int32))).toUInt32 >>> ((16 : Int32) &&& 31).toUInt32).toInt32).toUInt32 >>> ((4 : Int32) &&& 31).toUInt32).toInt32)), .val (.int (((1 : Int32) + (16 : Int32)) + (4 : Int32)))] [(.int (((1 : Int32) + (16 : Int32)) + (4 : Int32)))])) (fun _ k => XS.iloadN X0.here hx rfl (hb hby own_d_jdk_33_method_48_code_74) rfl k) ?_
            refine own_st (T' := T0) (g' := (mkF m 76 #[.val (.int ((((((x ^^^ (-1 : Int32)) &&& (x - (1 : Int32))).toUInt32 >>> ((16 : Int32) &&& 31).toUInt32).toInt32).toUInt32 >>> ((4 : Int32) &&& 31).toUInt32).toInt32)), .val (.int (((1 : Int32) + (16 : Int32)) + (4 : Int32)))] [(.int ((((((x ^^^ (-1 : Int32)) &&& (x - (1 : Int32))).toUInt32 >>> ((16 : Int32) &&& 31).toUInt32).toInt32).toUInt32 >>> ((4 : Int32) &&& 31).toUInt32).toInt32)), (.int (((1 : Int32) + (16 : Int32)) + (4 : Int32)))])) (fun _ k => XS.iloadN X0.here hx rfl (hb hby own_d_jdk_33_method_48_code_75) rfl k) ?_
            refine own_st (T' := T0) (g' := (mkF m 77 #[.val (.int ((((((x ^^^ (-1 : Int32)) &&& (x - (1 : Int32))).toUInt32 >>> ((16 : Int32) &&& 31).toUInt32).toInt32).toUInt32 >>> ((4 : Int32) &&& 31).toUInt32).toInt32)), .val (.int (((1 : Int32) + (16 : Int32)) + (4 : Int32)))] [(.int (1 : Int32)), (.int ((((((x ^^^ (-1 : Int32)) &&& (x - (1 : Int32))).toUInt32 >>> ((16 : Int32) &&& 31).toUInt32).toInt32).toUInt32 >>> ((4 : Int32) &&& 31).toUInt32).toInt32)), (.int (((1 : Int32) + (16 : Int32)) + (4 : Int32)))])) (fun _ k => XS.iconst X0.here hx rfl (hb hby own_d_jdk_33_method_48_code_76) k) ?_
            refine own_st (T' := T0) (g' := (mkF m 78 #[.val (.int ((((((x ^^^ (-1 : Int32)) &&& (x - (1 : Int32))).toUInt32 >>> ((16 : Int32) &&& 31).toUInt32).toInt32).toUInt32 >>> ((4 : Int32) &&& 31).toUInt32).toInt32)), .val (.int (((1 : Int32) + (16 : Int32)) + (4 : Int32)))] [(.int ((((((((x ^^^ (-1 : Int32)) &&& (x - (1 : Int32))).toUInt32 >>> ((16 : Int32) &&& 31).toUInt32).toInt32).toUInt32 >>> ((4 : Int32) &&& 31).toUInt32).toInt32).toUInt32 >>> ((1 : Int32) &&& 31).toUInt32).toInt32)), (.int (((1 : Int32) + (16 : Int32)) + (4 : Int32)))])) (fun _ k => XS.iushr X0.here hx rfl (hb hby own_d_jdk_33_method_48_code_77) rfl k) ?_
            refine own_st (T' := T0) (g' := (mkF m 79 #[.val (.int ((((((x ^^^ (-1 : Int32)) &&& (x - (1 : Int32))).toUInt32 >>> ((16 : Int32) &&& 31).toUInt32).toInt32).toUInt32 >>> ((4 : Int32) &&& 31).toUInt32).toInt32)), .val (.int (((1 : Int32) + (16 : Int32)) + (4 : Int32)))] [(.int ((((1 : Int32) + (16 : Int32)) + (4 : Int32)) + ((((((((x ^^^ (-1 : Int32)) &&& (x - (1 : Int32))).toUInt32 >>> ((16 : Int32) &&& 31).toUInt32).toInt32).toUInt32 >>> ((4 : Int32) &&& 31).toUInt32).toInt32).toUInt32 >>> ((1 : Int32) &&& 31).toUInt32).toInt32)))])) (fun _ k => XS.iadd X0.here hx rfl (hb hby own_d_jdk_33_method_48_code_78) rfl k) ?_
            exact own_ret X0 hx hlk hret rfl (Or.inl ⟨rfl, Or.inl rfl, _, rfl⟩) (hb hby own_d_jdk_33_method_48_code_79) (by decide) (by decide) ⟨⟨_, rfl⟩, rfl, e0⟩
        ·
          refine own_st (T' := T0) (g' := (mkF m 62 #[.val (.int ((((x ^^^ (-1 : Int32)) &&& (x - (1 : Int32))).toUInt32 >>> ((16 : Int32) &&& 31).toUInt32).toInt32)), .val (.int ((1 : Int32) + (16 : Int32)))] [])) (fun _ k => XS.icmpYes X0.here hx rfl (pc0 := 52) (pc' := 62) rfl (hb hby own_d_jdk_33_method_48_code_52) rfl (flt hc52_7).2.2.2 (by decide) (by decide) k) ?_
          refine own_st (T' := T0) (g' := (mkF m 63 #[.val (.int ((((x ^^^ (-1 : Int32)) &&& (x - (1 : Int32))).toUInt32 >>> ((16 : Int32) &&& 31).toUInt32).toInt32)), .val (.int ((1 : Int32) + (16 : Int32)))] [(.int ((((x ^^^ (-1 : Int32)) &&& (x - (1 : Int32))).toUInt32 >>> ((16 : Int32) &&& 31).toUInt32).toInt32))])) (fun _ k => XS.iloadN X0.here hx rfl (hb hby own_d_jdk_33_method_48_code_62) rfl k) ?_
          refine own_st (T' := T0) (g' := (mkF m 64 #[.val (.int ((((x ^^^ (-1 : Int32)) &&& (x - (1 : Int32))).toUInt32 >>> ((16 : Int32) &&& 31).toUInt32).toInt32)), .val (.int ((1 : Int32) + (16 : Int32)))] [(.int (4 : Int32)), (.int ((((x ^^^ (-1 : Int32)) &&& (x - (1 : Int32))).toUInt32 >>> ((16 : Int32) &&& 31).toUInt32).toInt32))])) (fun _ k => XS.iconst X0.here hx rfl (hb hby own_d_jdk_33_method_48_code_63) k) ?_
          by_cases hc64_9 : (4 : Int32) < ((((x ^^^ (-1 : Int32)) &&& (x - (1 : Int32))).toUInt32 >>> ((16 : Int32) &&& 31).toUInt32).toInt32)
          ·
            refine own_st (T' := T0) (g' := (mkF m 67 #[.val (.int ((((x ^^^ (-1 : Int32)) &&& (x - (1 : Int32))).toUInt32 >>> ((16 : Int32) &&& 31).toUInt32).toInt32)), .val (.int ((1 : Int32) + (16 : Int32)))] [])) (fun _ k => XS.icmpNo X0.here hx rfl (hb hby own_d_jdk_33_method_48_code_64) rfl (tlt hc64_9).2.2.2 k) ?_
            refine own_st (T' := T0) (g' := (mkF m 70 #[.val (.int ((((x ^^^ (-1 : Int32)) &&& (x - (1 : Int32))).toUInt32 >>> ((16 : Int32) &&& 31).toUInt32).toInt32)), .val (.int (((1 : Int32) + (16 : Int32)) + (2 : Int32)))] [])) (fun _ k => XS.iinc X0.here hx rfl (hb hby own_d_jdk_33_method_48_code_67) rfl (l' := #[.val (.int ((((x ^^^ (-1 : Int32)) &&& (x - (1 : Int32))).toUInt32 >>> ((16 : Int32) &&& 31).toUInt32).toInt32)), .val (.int (((1 : Int32) + (16 : Int32)) + (2 : Int32)))]) rfl k) ?_
            refine own_st (T' := T0) (g' := (mkF m 71 #[.val (.int ((((x ^^^ (-1 : Int32)) &&& (x - (1 : Int32))).toUInt32 >>> ((16 : Int32) &&& 31).toUInt32).toInt32)), .val (.int (((1 : Int32) + (16 : Int32)) + (2 : Int32)))] [(.int ((((x ^^^ (-1 : Int32)) &&& (x - (1 : Int32))).toUInt32 >>> ((16 : Int32) &&& 31).toUInt32).toInt32))])) (fun _ k => XS.iloadN X0.here hx rfl (hb hby own_d_jdk_33_method_48_code_70) rfl k) ?_
            refine own_st (T' := T0) (g' := (mkF m 72 #[.val (.int ((((x ^^^ (-1 : Int32)) &&& (x - (1 : Int32))).toUInt32 >>> ((16 : Int32) &&& 31).toUInt32).toInt32)), .val (.int (((1 : Int32) + (16 : Int32)) + (2 : Int32)))] [(.int (2 : Int32)), (.int ((((x ^^^ (-1 : Int32)) &&& (x - (1 : Int32))).toUInt32 >>> ((16 : Int32) &&& 31).toUInt32).toInt32))])) (fun _ k => XS.iconst X0.here hx rfl (hb hby own_d_jdk_33_method_48_code_71) k) ?_
            refine own_st (T' := T0) (g' := (mkF m 73 #[.val (.int ((((x ^^^ (-1 : Int32)) &&& (x - (1 : Int32))).toUInt32 >>> ((16 : Int32) &&& 31).toUInt32).toInt32)), .val (.int (((1 : Int32) + (16 : Int32)) + (2 : Int32)))] [(.int ((((((x ^^^ (-1 : Int32)) &&& (x - (1 : Int32))).toUInt32 >>> ((16 : Int32) &&& 31).toUInt32).toInt32).toUInt32 >>> ((2 : Int32) &&& 31).toUInt32).toInt32))])) (fun _ k => XS.iushr X0.here hx rfl (hb hby own_d_jdk_33_method_48_code_72) rfl k) ?_
            refine own_st (T' := T0) (g' := (mkF m 74 #[.val (.int ((((((x ^^^ (-1 : Int32)) &&& (x - (1 : Int32))).toUInt32 >>> ((16 : Int32) &&& 31).toUInt32).toInt32).toUInt32 >>> ((2 : Int32) &&& 31).toUInt32).toInt32)), .val (.int (((1 : Int32) + (16 : Int32)) + (2 : Int32)))] [])) (fun _ k => XS.istoreN X0.here hx rfl (hb hby own_d_jdk_33_method_48_code_73) rfl (l' := #[.val (.int ((((((x ^^^ (-1 : Int32)) &&& (x - (1 : Int32))).toUInt32 >>> ((16 : Int32) &&& 31).toUInt32).toInt32).toUInt32 >>> ((2 : Int32) &&& 31).toUInt32).toInt32)), .val (.int (((1 : Int32) + (16 : Int32)) + (2 : Int32)))]) rfl k) ?_
            refine own_st (T' := T0) (g' := (mkF m 75 #[.val (.int ((((((x ^^^ (-1 : Int32)) &&& (x - (1 : Int32))).toUInt32 >>> ((16 : Int32) &&& 31).toUInt32).toInt32).toUInt32 >>> ((2 : Int32) &&& 31).toUInt32).toInt32)), .val (.int (((1 : Int32) + (16 : Int32)) + (2 : Int32)))] [(.int (((1 : Int32) + (16 : Int32)) + (2 : Int32)))])) (fun _ k => XS.iloadN X0.here hx rfl (hb hby own_d_jdk_33_method_48_code_74) rfl k) ?_
            refine own_st (T' := T0) (g' := (mkF m 76 #[.val (.int ((((((x ^^^ (-1 : Int32)) &&& (x - (1 : Int32))).toUInt32 >>> ((16 : Int32) &&& 31).toUInt32).toInt32).toUInt32 >>> ((2 : Int32) &&& 31).toUInt32).toInt32)), .val (.int (((1 : Int32) + (16 : Int32)) + (2 : Int32)))] [(.int ((((((x ^^^ (-1 : Int32)) &&& (x - (1 : Int32))).toUInt32 >>> ((16 : Int32) &&& 31).toUInt32).toInt32).toUInt32 >>> ((2 : Int32) &&& 31).toUInt32).toInt32)), (.int (((1 : Int32) + (16 : Int32)) + (2 : Int32)))])) (fun _ k => XS.iloadN X0.here hx rfl (hb hby own_d_jdk_33_method_48_code_75) rfl k) ?_
            refine own_st (T' := T0) (g' := (mkF m 77 #[.val (.int ((((((x ^^^ (-1 : Int32)) &&& (x - (1 : Int32))).toUInt32 >>> ((16 : Int32) &&& 31).toUInt32).toInt32).toUInt32 >>> ((2 : Int32) &&& 31).toUInt32).toInt32)), .val (.int (((1 : Int32) + (16 : Int32)) + (2 : Int32)))] [(.int (1 : Int32)), (.int ((((((x ^^^ (-1 : Int32)) &&& (x - (1 : Int32))).toUInt32 >>> ((16 : Int32) &&& 31).toUInt32).toInt32).toUInt32 >>> ((2 : Int32) &&& 31).toUInt32).toInt32)), (.int (((1 : Int32) + (16 : Int32)) + (2 : Int32)))])) (fun _ k => XS.iconst X0.here hx rfl (hb hby own_d_jdk_33_method_48_code_76) k) ?_
            refine own_st (T' := T0) (g' := (mkF m 78 #[.val (.int ((((((x ^^^ (-1 : Int32)) &&& (x - (1 : Int32))).toUInt32 >>> ((16 : Int32) &&& 31).toUInt32).toInt32).toUInt32 >>> ((2 : Int32) &&& 31).toUInt32).toInt32)), .val (.int (((1 : Int32) + (16 : Int32)) + (2 : Int32)))] [(.int ((((((((x ^^^ (-1 : Int32)) &&& (x - (1 : Int32))).toUInt32 >>> ((16 : Int32) &&& 31).toUInt32).toInt32).toUInt32 >>> ((2 : Int32) &&& 31).toUInt32).toInt32).toUInt32 >>> ((1 : Int32) &&& 31).toUInt32).toInt32)), (.int (((1 : Int32) + (16 : Int32)) + (2 : Int32)))])) (fun _ k => XS.iushr X0.here hx rfl (hb hby own_d_jdk_33_method_48_code_77) rfl k) ?_
            refine own_st (T' := T0) (g' := (mkF m 79 #[.val (.int ((((((x ^^^ (-1 : Int32)) &&& (x - (1 : Int32))).toUInt32 >>> ((16 : Int32) &&& 31).toUInt32).toInt32).toUInt32 >>> ((2 : Int32) &&& 31).toUInt32).toInt32)), .val (.int (((1 : Int32) + (16 : Int32)) + (2 : Int32)))] [(.int ((((1 : Int32) + (16 : Int32)) + (2 : Int32)) + ((((((((x ^^^ (-1 : Int32)) &&& (x - (1 : Int32))).toUInt32 >>> ((16 : Int32) &&& 31).toUInt32).toInt32).toUInt32 >>> ((2 : Int32) &&& 31).toUInt32).toInt32).toUInt32 >>> ((1 : Int32) &&& 31).toUInt32).toInt32)))])) (fun _ k => XS.iadd X0.here hx rfl (hb hby own_d_jdk_33_method_48_code_78) rfl k) ?_
            exact own_ret X0 hx hlk hret rfl (Or.inl ⟨rfl, Or.inl rfl, _, rfl⟩) (hb hby own_d_jdk_33_method_48_code_79) (by decide) (by decide) ⟨⟨_, rfl⟩, rfl, e0⟩
          ·
            refine own_st (T' := T0) (g' := (mkF m 74 #[.val (.int ((((x ^^^ (-1 : Int32)) &&& (x - (1 : Int32))).toUInt32 >>> ((16 : Int32) &&& 31).toUInt32).toInt32)), .val (.int ((1 : Int32) + (16 : Int32)))] [])) (fun _ k => XS.icmpYes X0.here hx rfl (pc0 := 64) (pc' := 74) rfl (hb hby own_d_jdk_33_method_48_code_64) rfl (flt hc64_9).2.2.2 (by decide) (by decide) k) ?_
            refine own_st (T' := T0) (g' := (mkF m 75 #[.val (.int ((((x ^^^ (-1 : Int32)) &&& (x - (1 : Int32))).toUInt32 >>> ((16 : Int32) &&& 31).toUInt32).toInt32)), .val (.int ((1 : Int32) + (16 : Int32)))] [(.int ((1 : Int32) + (16 : Int32)))])) (fun _ k => XS.iloadN X0.here hx rfl (hb hby own_d_jdk_33_method_48_code_74) rfl k) ?_
            refine own_st (T' := T0) (g' := (mkF m 76 #[.val (.int ((((x ^^^ (-1 : Int32)) &&& (x - (1 : Int32))).toUInt32 >>> ((16 : Int32) &&& 31).toUInt32).toInt32)), .val (.int ((1 : Int32) + (16 : Int32)))] [(.int ((((x ^^^ (-1 : Int32)) &&& (x - (1 : Int32))).toUInt32 >>> ((16 : Int32) &&& 31).toUInt32).toInt32)), (.int ((1 : Int32) + (16 : Int32)))])) (fun _ k => XS.iloadN X0.here hx rfl (hb hby own_d_jdk_33_method_48_code_75) rfl k) ?_
            refine own_st (T' := T0) (g' := (mkF m 77 #[.val (.int ((((x ^^^ (-1 : Int32)) &&& (x - (1 : Int32))).toUInt32 >>> ((16 : Int32) &&& 31).toUInt32).toInt32)), .val (.int ((1 : Int32) + (16 : Int32)))] [(.int (1 : Int32)), (.int ((((x ^^^ (-1 : Int32)) &&& (x - (1 : Int32))).toUInt32 >>> ((16 : Int32) &&& 31).toUInt32).toInt32)), (.int ((1 : Int32) + (16 : Int32)))])) (fun _ k => XS.iconst X0.here hx rfl (hb hby own_d_jdk_33_method_48_code_76) k) ?_
            refine own_st (T' := T0) (g' := (mkF m 78 #[.val (.int ((((x ^^^ (-1 : Int32)) &&& (x - (1 : Int32))).toUInt32 >>> ((16 : Int32) &&& 31).toUInt32).toInt32)), .val (.int ((1 : Int32) + (16 : Int32)))] [(.int ((((((x ^^^ (-1 : Int32)) &&& (x - (1 : Int32))).toUInt32 >>> ((16 : Int32) &&& 31).toUInt32).toInt32).toUInt32 >>> ((1 : Int32) &&& 31).toUInt32).toInt32)), (.int ((1 : Int32) + (16 : Int32)))])) (fun _ k => XS.iushr X0.here hx rfl (hb hby own_d_jdk_33_method_48_code_77) rfl k) ?_
            refine own_st (T' := T0) (g' := (mkF m 79 #[.val (.int ((((x ^^^ (-1 : Int32)) &&& (x - (1 : Int32))).toUInt32 >>> ((16 : Int32) &&& 31).toUInt32).toInt32)), .val (.int ((1 : Int32) + (16 : Int32)))] [(.int (((1 : Int32) + (16 : Int32)) + ((((((x ^^^ (-1 : Int32)) &&& (x - (1 : Int32))).toUInt32 >>> ((16 : Int32) &&& 31).toUInt32).toInt32).toUInt32 >>> ((1 : Int32) &&& 31).toUInt32).toInt32)))])) (fun _ k => XS.iadd X0.here hx rfl (hb hby own_d_jdk_33_method_48_code_78) rfl k) ?_
            exact own_ret X0 hx hlk hret rfl (Or.inl ⟨rfl, Or.inl rfl, _, rfl⟩) (hb hby own_d_jdk_33_method_48_code_79) (by decide) (by decide) ⟨⟨_, rfl⟩, rfl, e0⟩
    ·
      refine own_st (T' := T0) (g' := (mkF m 34 #[.val (.int ((x ^^^ (-1 : Int32)) &&& (x - (1 : Int32)))), .val (.int (1 : Int32))] [])) (fun _ k => XS.icmpYes X0.here hx rfl (pc0 := 23) (pc' := 34) rfl (hb hby own_d_jdk_33_method_48_code_23) rfl (flt hc23_2).2.2.2 (by decide) (by decide) k) ?_
      refine own_st (T' := T0) (g' := (mkF m 35 #[.val (.int ((x ^^^ (-1 : Int32)) &&& (x - (1 : Int32)))), .val (.int (1 : Int32))] [(.int ((x ^^^ (-1 : Int32)) &&& (x - (1 : Int32))))])) (fun _ k => XS.iloadN X0.here hx rfl (hb hby own_d_jdk_33_method_48_code_34) rfl k) ?_
      refine own_st (T' := T0) (g' := (mkF m 38 #[.val (.int ((x ^^^ (-1 : Int32)) &&& (x - (1 : Int32)))), .val (.int (1 : Int32))] [(.int (256 : Int32)), (.int ((x ^^^ (-1 : Int32)) &&& (x - (1 : Int32))))])) (fun _ k => XS.sipush X0.here hx rfl (hb hby own_d_jdk_33_method_48_code_35) k) ?_
      by_cases hc38_10 : (256 : Int32) < ((x ^^^ (-1 : Int32)) &&& (x - (1 : Int32)))
      ·
        refine own_st (T' := T0) (g' := (mkF m 41 #[.val (.int ((x ^^^ (-1 : Int32)) &&& (x - (1 : Int32)))), .val (.int (1 : Int32))] [])) (fun _ k => XS.icmpNo X0.here hx rfl (hb hby own_d_jdk_33_method_48_code_38) rfl (tlt hc38_10).2.2.2 k) ?_
        refine own_st (T' := T0) (g' := (mkF m 44 #[.val (.int ((x ^^^ (-1 : Int32)) &&& (x - (1 : Int32)))), .val (.int ((1 : Int32) + (8 : Int32)))] [])) (fun _ k => XS.iinc X0.here hx rfl (hb hby own_d_jdk_33_method_48_code_41) rfl (l' := #[.val (.int ((x ^^^ (-1 : Int32)) &&& (x - (1 : Int32)))), .val (.int ((1 : Int32) + (8 : Int32)))]) rfl k) ?_
        refine own_st (T' := T0) (g' := (mkF m 45 #[.val (.int ((x ^^^ (-1 : Int32)) &&& (x - (1 : Int32)))), .val (.int ((1 : Int32) + (8 : Int32)))] [(.int ((x ^^^ (-1 : Int32)) &&& (x - (1 : Int32))))])) (fun _ k => XS.iloadN X0.here hx rfl (hb hby own_d_jdk_33_method_48_code_44) rfl k) ?_
        refine own_st (T' := T0) (g' := (mkF m 47 #[.val (.int ((x ^^^ (-1 : Int32)) &&& (x - (1 : Int32)))), .val (.int ((1 : Int32) + (8 : Int32)))] [(.int (8 : Int32)), (.int ((x ^^^ (-1 : Int32)) &&& (x - (1 : Int32))))])) (fun _ k => XS.bipush X0.here hx rfl (hb hby own_d_jdk_33_method_48_code_45) k) ?_
        refine own_st (T' := T0) (g' := (mkF m 48 #[.val (.int ((x ^^^ (-1 : Int32)) &&& (x - (1 : Int32)))), .val (.int ((1 : Int32) + (8 : Int32)))] [(.int ((((x ^^^ (-1 : Int32)) &&& (x - (1 : Int32))).toUInt32 >>> ((8 : Int32) &&& 31).toUInt32).toInt32))])) (fun _ k => XS.iushr X0.here hx rfl (hb hby own_d_jdk_33_method_48_code_47) rfl k) ?_
        refine own_st (T' := T0) (g' := (mkF m 49 #[.val (.int ((((x ^^^ (-1 : Int32)) &&& (x - (1 : Int32))).toUInt32 >>> ((8 : Int32) &&& 31).toUInt32).toInt32)), .val (.int ((1 : Int32) + (8 : Int32)))] [])) (fun _ k => XS.istoreN X0.here hx rfl (hb hby own_d_jdk_33_method_48_code_48) rfl (l' := #[.val (.int ((((x ^^^ (-1 : Int32)) &&& (x - (1 : Int32))).toUInt32 >>> ((8 : Int32) &&& 31).toUInt32).toInt32)), .val (.int ((1 : Int32) + (8 : Int32)))]) rfl k) ?_
        refine own_st (T' := T0) (g' := (mkF m 50 #[.val (.int ((((x ^^^ (-1 : Int32)) &&& (x - (1 : Int32))).toUInt32 >>> ((8 : Int32) &&& 31).toUInt32).toInt32)), .val (.int ((1 : Int32) + (8 : Int32)))] [(.int ((((x ^^^ (-1 : Int32)) &&& (x - (1 : Int32))).toUInt32 >>> ((8 : Int32) &&& 31).toUInt32).toInt32))])) (fun _ k => XS.iloadN X0.here hx rfl (hb hby own_d_jdk_33_method_48_code_49) rfl k) ?_
        refine own_st (T' := T0) (g' := (mkF m 52 #[.val (.int ((((x ^^^ (-1 : Int32)) &&& (x - (1 : Int32))).toUInt32 >>> ((8 : Int32) &&& 31).toUInt32).toInt32)), .val (.int ((1 : Int32) + (8 : Int32)))] [(.int (16 : Int32)), (.int ((((x ^^^ (-1 : Int32)) &&& (x - (1 : Int32))).toUInt32 >>> ((8 : Int32) &&& 31).toUInt32).toInt32))])) (fun _ k => XS.bipush X0.here hx rfl (hb hby own_d_jdk_33_method_48_code_50) k) ?_
        by_cases hc52_11 : (16 : Int32) < ((((x ^^^ (-1 : Int32)) &&& (x - (1 : Int32))).toUInt32 >>> ((8 : Int32) &&& 31).toUInt32).toInt32)
        ·
          refine own_st (T' := T0) (g' := (mkF m 55 #[.val (.int ((((x ^^^ (-1 : Int32)) &&& (x - (1 : Int32))).toUInt32 >>> ((8 : Int32) &&& 31).toUInt32).toInt32)), .val (.int ((1 : Int32) + (8 : Int32)))] [])) (fun _ k => XS.icmpNo X0.here hx rfl (hb hby own_d_jdk_33_method_48_code_52) rfl (tlt hc52_11).2.2.2 k) ?_
          refine own_st (T' := T0) (g' := (mkF m 58 #[.val (.int ((((x ^^^ (-1 : Int32)) &&& (x - (1 : Int32))).toUInt32 >>> ((8 : Int32) &&& 31).toUInt32).toInt32)), .val (.int (((1 : Int32) + (8 : Int32)) + (4 : Int32)))] [])) (fun _ k => XS.iinc X0.here hx rfl (hb hby own_d_jdk_33_method_48_code_55) rfl (l' := #[.val (.int ((((x ^^^ (-1 : Int32)) &&& (x - (1 : Int32))).toUInt32 >>> ((8 : Int32) &&& 31).toUInt32).toInt32)), .val (.int (((1 : Int32) + (8 : Int32)) + (4 : Int32)))]) rfl k) ?_
          refine own_st (T' := T0) (g' := (mkF m 59 #[.val (.int ((((x ^^^ (-1 : Int32)) &&& (x - (1 : Int32))).toUInt32 >>> ((8 : Int32) &&& 31).toUInt32).toInt32)), .val (.int (((1 : Int32) + (8 : Int32)) + (4 : Int32)))] [(.int ((((x ^^^ (-1 : Int32)) &&& (x - (1 : Int32))).toUInt32 >>> ((8 : Int32) &&& 31).toUInt32).toInt32))])) (fun _ k => XS.iloadN X0.here hx rfl (hb hby own_d_jdk_33_method_48_code_58) rfl k) ?_
          refine own_st (T' := T0) (g' := (mkF m 60 #[.val (.int ((((x ^^^ (-1 : Int32)) &&& (x - (1 : Int32))).toUInt32 >>> ((8 : Int32) &&& 31).toUInt32).toInt32)), .val (.int (((1 : Int32) + (8 : Int32)) + (4 : Int32)))] [(.int (4 : Int32)), (.int ((((x ^^^ (-1 : Int32)) &&& (x - (1 : Int32))).toUInt32 >>> ((8 : Int32) &&& 31).toUInt32).toInt32))])) (fun _ k => XS.iconst X0.here hx rfl (hb hby own_d_jdk_33_method_48_code_59) k) ?_
          refine own_st (T' := T0) (g' := (mkF m 61 #[.val (.int ((((x ^^^ (-1 : Int32)) &&& (x - (1 : Int32))).toUInt32 >>> ((8 : Int32) &&& 31).toUInt32).toInt32)), .val (.int (((1 : Int32) + (8 : Int32)) + (4 : Int32)))] [(.int ((((((x ^^^ (-1 : Int32)) &&& (x - (1 : Int32))).toUInt32 >>> ((8 : Int32) &&& 31).toUInt32).toInt32).toUInt32 >>> ((4 : Int32) &&& 31).toUInt32).toInt32))])) (fun _ k => XS.iushr X0.here hx rfl (hb hby own_d_jdk_33_method_48_code_60) rfl k) ?_
          refine own_st (T' := T0) (g' := (mkF m 62 #[.val (.int ((((((x ^^^ (-1 : Int32)) &&& (x - (1 : Int32))).toUInt32 >>> ((8 : Int32) &&& 31).toUInt32).toInt32).toUInt32 >>> ((4 : Int32) &&& 31).toUInt32).toInt32)), .val (.int (((1 : Int32) + (8 : Int32)) + (4 : Int32)))] [])) (fun _ k => XS.istoreN X0.here hx rfl (hb hby own_d_jdk_33_method_48_code_61) rfl (l' := #[.val (.int ((((((x ^^^ (-1 : Int32)) &&& (x - (1 : Int32))).toUInt32 >>> ((8 : Int32) &&& 31).toUInt32).toInt32).toUInt32 >>> ((4 : Int32) &&& 31).toUInt32).toInt32)), .val (.int (((1 : Int32) + (8 : Int32)) + (4 : Int32)))]) rfl k) ?_
          refine own_st (T' := T0) (g' := (mkF m 63 #[.val (.int ((((((x ^^^ (-1 : Int32)) &&& (x - (1 : Int32))).toUInt32 >>> ((8 : Int32) &&& 31).toUInt32).toInt32).toUInt32 >>> ((4 : Int32) &&& 31).toUInt32).toInt32)), .val (.int (((1 : Int32) + (8 : Int32)) + (4 : Int32)))] [(.int ((((((x ^^^ (-1 : Int32)) &&& (x - (1 : Int32))).toUInt32 >>> ((8 : Int32) &&& 31).toUInt32).toInt32).toUInt32 >>> ((4 : Int32) &&& 31).toUInt32).toInt32))])) (fun _ k => XS.iloadN X0.here hx rfl (hb hby own_d_jdk_33_method_48_code_62) rfl k) ?_
          refine own_st (T' := T0) (g' := (mkF m 64 #[.val (.int ((((((x ^^^ (-1 : Int32)) &&& (x - (1 : Int32))).toUInt32 >>> ((8 : Int32) &&& 31).toUInt32).toInt32).toUInt32 >>> ((4 : Int32) &&& 31).toUInt32).toInt32)), .val (.int (((1 : Int32) + (8 : Int32)) + (4 : Int32)))] [(.int (4 : Int32)), (.int ((((((x ^^^ (-1 : Int32)) &&& (x - (1 : Int32))).toUInt32 >>> ((8 : Int32) &&& 31).toUInt32).toInt32).toUInt32 >>> ((4 : Int32) &&& 31).toUInt32).toInt32))])) (fun _ k => XS.iconst X0.here hx rfl (hb hby own_d_jdk_33_method_48_code_63) k) ?_
          by_cases hc64_12 : (4 : Int32) < ((((((x ^^^ (-1 : Int32)) &&& (x - (1 : Int32))).toUInt32 >>> ((8 : Int32) &&& 31).toUInt32).toInt32).toUInt32 >>> ((4 : Int32) &&& 31).toUInt32).toInt32)
          ·
            refine own_st (T' := T0) (g' := (mkF m 67 #[.val (.int ((((((x ^^^ (-1 : Int32)) &&& (x - (1 : Int32))).toUInt32 >>> ((8 : Int32) &&& 31).toUInt32).toInt32).toUInt32 >>> ((4 : Int32) &&& 31).toUInt32).toInt32)), .val (.int (((1 : Int32) + (8 : Int32)) + (4 : Int32)))] [])) (fun _ k => XS.icmpNo X0.here hx rfl (hb hby own_d_jdk_33_method_48_code_64) rfl (tlt hc64_12).2.2.2 k) ?_
            refine own_st (T' := T0) (g' := (mkF m 70 #[.val (.int ((((((x ^^^ (-1 : Int32)) &&& (x - (1 : Int32))).toUInt32 >>> ((8 : Int32) &&& 31).toUInt32).toInt32).toUInt32 >>> ((4 : Int32) &&& 31).toUInt32).toInt32)), .val (.int ((((1 : Int32) + (8 : Int32)) + (4 : Int32)) + (2 : Int32)))] [])) (fun _ k => XS.iinc X0.here hx rfl (hb hby own_d_jdk_33_method_48_code_67) rfl (l' := #[.val (.int ((((((x ^^^ (-1 : Int32)) &&& (x - (1 : Int32))).toUInt32 >>> ((8 : Int32) &&& 31).toUInt32).toInt32).toUInt32 >>> ((4 : Int32) &&& 31).toUInt32).toInt32)), .val (.int ((((1 : Int32) + (8 : Int32)) + (4 : Int32)) + (2 : Int32)))]) rfl k) ?_
            refine own_st (T' := T0) (g' := (mkF m 71 #[.val (.int ((((((x ^^^ (-1 : Int32)) &&& (x - (1 : Int32))).toUInt32 >>> ((8 : Int32) &&& 31).toUInt32).toInt32).toUInt32 >>> ((4 : Int32) &&& 31).toUInt32).toInt32)), .val (.int ((((1 : Int32) + (8 : Int32)) + (4 : Int32)) + (2 : Int32)))] [(.int ((((((x ^^^ (-1 : Int32)) &&& (x - (1 : Int32))).toUInt32 >>> ((8 : Int32) &&& 31).toUInt32).toInt32).toUInt32 >>> ((4 : Int32) &&& 31).toUInt32).toInt32))])) (fun _ k => XS.iloadN X0.here hx rfl (hb hby own_d_jdk_33_method_48_code_70) rfl k) ?_
            refine own_st (T' := T0) (g' := (mkF m 72 #[.val (.int ((((((x ^^^ (-1 : Int32)) &&& (x - (1 : Int32))).toUInt32 >>> ((8 : Int32) &&& 31).toUInt32).toInt32).toUInt32 >>> ((4 : Int32) &&& 31).toUInt32).toInt32)), .val (.int ((((1 : Int32) + (8 : Int32)) + (4 : Int32)) + (2 : Int32)))] [(.int (2 : Int32)), (.int ((((((x ^^^ (-1 : Int32)) &&& (x - (1 : Int32))).toUInt32 >>> ((8 : Int32) &&& 31).toUInt32).toInt32).toUInt32 >>> ((4 : Int32) &&& 31).toUInt32).toInt32))])) (fun _ k => XS.iconst X0.here hx rfl (hb hby own_d_jdk_33_method_48_code_71) k) ?_
            refine own_st (T' := T0) (g' := (mkF m 73 #[.val (.int ((((((x ^^^ (-1 : Int32)) &&& (x - (1 : Int32))).toUInt32 >>> ((8 : Int32) &&& 31).toUInt32).toInt32).toUInt32 >>> ((4 : Int32) &&& 31).toUInt32).toInt32)), .val (.int ((((1 : Int32) + (8 : Int32)) + (4 : Int32)) + (2 : Int32)))] [(.int ((((((((x ^^^ (-1 : Int32)) &&& (x - (1 : Int32))).toUInt32 >>> ((8 : Int32) &&& 31).toUInt32).toInt32).toUInt32 >>> ((4 : Int32) &&& 31).toUInt32).toInt32).toUInt32 >>> ((2 : Int32) &&& 31).toUInt32).toInt32))])) (fun _ k => XS.iushr X0.here hx rfl (hb hby own_d_jdk_33_method_48_code_72) rfl k) ?_
            refine own_st (T' := T0) (g' := (mkF m 74 #[.val (.int ((((((((x ^^^ (-1 : Int32)) &&& (x - (1 : Int32))).toUInt32 >>> ((8 : Int32) &&& 31).toUInt32).toInt32).toUInt32 >>> ((4 : Int32) &&& 31).toUInt32).toInt32).toUInt32 >>> ((2 : Int32) &&& 31).toUInt32).toInt32)), .val (.int ((((1 : Int32) + (8 : Int32)) + (4 : Int32)) + (2 : Int32)))] [])) (fun _ k => XS.istoreN X0.here hx rfl (hb hby own_d_jdk_33_method_48_code_73) rfl (l' := #[.val (.int ((((((((x ^^^ (-1 : Int32)) &&& (x - (1 : Int32))).toUInt32 >>> ((8 : Int32) &&& 31).toUInt32).toInt32).toUInt32 >>> ((4 : Int32) &&& 31).toUInt32).toInt32).toUInt32 >>> ((2 : Int32) &&& 31).toUInt32).toInt32)), .val (.int ((((1 : Int32) + (8 : Int32)) + (4 : Int32)) + (2 : Int32)))]) rfl k) ?_
            refine own_st (T' := T0) (g' := (mkF m 75 #[.val (.int ((((((((x ^^^ (-1 : Int32)) &&& (x - (1 : Int32))).toUInt32 >>> ((8 : Int32) &&& 31).toUInt32).toInt32).toUInt32 >>> ((4 : Int32) &&& 31).toUInt32).toInt32).toUInt32 >>> ((2 : Int32) &&& 31).toUInt32).toInt32)), .val (.int ((((1 : Int32) + (8 : Int32)) + (4 : Int32)) + (2 : Int32)))] [(.int ((((1 : Int32) + (8 : Int32)) + (4 : Int32)) + (2 : Int32)))])) (fun _ k => XS.iloadN X0.here hx rfl (hb hby own_d_jdk_33_method_48_code_74) rfl k) ?_
            refine own_st (T' := T0) (g' := (mkF m 76 #[.val (.int ((((((((x ^^^ (-1 : Int32)) &&& (x - (1 : Int32))).toUInt32 >>> ((8 : Int32) &&& 31).toUInt32).toInt32).toUInt32 >>> ((4 : Int32) &&& 31).toUInt32).toInt32).toUInt32 >>> ((2 : Int32) &&& 31).toUInt32).toInt32)), .val (.int ((((1 : Int32) + (8 : Int32)) + (4 : Int32)) + (2 : Int32)))] [(.int ((((((((x ^^^ (-1 : Int32)) &&& (x - (1 : Int32))).toUInt32 >>> ((8 : Int32) &&& 31).toUInt32).toInt32).toUInt32 >>> ((4 : Int32) &&& 31).toUInt32).toInt32).toUInt32 >>> ((2 : Int32) &&& 31).toUInt32).toInt32)), (.int ((((1 : Int32) + (8 : Int32)) + (4 : Int32)) + (2 : Int32)))])) (fun _ k => XS.iloadN X0.here hx rfl (hb hby own_d_jdk_33_method_48_code_75) rfl k) ?_
            refine own_st (T' := T0) (g' := (mkF m 77 #[.val (.int ((((((((x ^^^ (-1 : Int32)) &&& (x - (1 : Int32))).toUInt32 >>> ((8 : Int32) &&& 31).toUInt32).toInt32).toUInt32 >>> ((4 : Int32) &&& 31).toUInt32).toInt32).toUInt32 >>> ((2 : Int32) &&& 31).toUInt32).toInt32)), .val (.int ((((1 : Int32) + (8 : Int32)) + (4 : Int32)) + (2 : Int32)))] [(.int (1 : Int32)), (.int ((((((((x ^^^ (-1 : Int32)) &&& (x - (1 : Int32))).toUInt32 >>> ((8 : Int32) &&& 31).toUInt32).toInt32).toUInt32 >>> ((4 : Int32) &&& 31).toUInt32).toInt32).toUInt32 >>> ((2 : Int32) &&& 31).toUInt32).toInt32)), (.int ((((1 : Int32) + (8 : Int32)) + (4 : Int32)) + (2 : Int32)))])) (fun _ k => XS.iconst X0.here hx rfl (hb hby own_d_jdk_33_method_48_code_76) k) ?_
            refine own_st (T' := T0) (g' := (mkF m 78 #[.val (.int ((((((((x ^^^ (-1 : Int32)) &&& (x - (1 : Int32))).toUInt32 >>> ((8 : Int32) &&& 31).toUInt32).toInt32).toUInt32 >>> ((4 : Int32) &&& 31).toUInt32).toInt32).toUInt32 >>> ((2 : Int32) &&& 31).toUInt32).toInt32)), .val (.int ((((1 : Int32) + (8 : Int32)) + (4 : Int32)) + (2 : Int32)))] [(.int ((((((((((x ^^^ (-1 : Int32)) &&& (x - (1 : Int32))).toUInt32 >>> ((8 : Int32) &&& 31).toUInt32).toInt32).toUInt32 >>> ((4 : Int32) &&& 31).toUInt32).toInt32).toUInt32 >>> ((2 : Int32) &&& 31).toUInt32).toInt32).toUInt32 >>> ((1 : Int32) &&& 31).toUInt32).toInt32)), (.int ((((1 : Int32) + (8 : Int32)) + (4 : Int32)) + (2 : Int32)))])) (fun _ k => XS.iushr X0.here hx rfl (hb hby own_d_jdk_33_method_48_code_77) rfl k) ?_
            refine own_st (T' := T0) (g' := (mkF m 79 #[.val (.int ((((((((x ^^^ (-1 : Int32)) &&& (x - (1 : Int32))).toUInt32 >>> ((8 : Int32) &&& 31).toUInt32).toInt32).toUInt32 >>> ((4 : Int32) &&& 31).toUInt32).toInt32).toUInt32 >>> ((2 : Int32) &&& 31).toUInt32).toInt32)), .val (.int ((((1 : Int32) + (8 : Int32)) + (4 : Int32)) + (2 : Int32)))] [(.int (((((1 : Int32) + (8 : Int32)) + (4 : Int32)) + (2 : Int32)) + ((((((((((x ^^^ (-1 : Int32)) &&& (x - (1 : Int32))).toUInt32 >>> ((8 : Int32) &&& 31).toUInt32).toInt32).toUInt32 >>> ((4 : Int32) &&& 31).toUInt32).toInt32).toUInt32 >>> ((2 : Int32) &&& 31).toUInt32).toInt32).toUInt32 >>> ((1 : Int32) &&& 31).toUInt32).toInt32)))])) (fun _ k => XS.iadd X0.here hx rfl (hb hby own_d_jdk_33_method_48_code_78) rfl k) ?_
            exact own_ret X0 hx hlk hret rfl (Or.inl ⟨rfl, Or.inl rfl, _, rfl⟩) (hb hby own_d_jdk_33_method_48_code_79) (by decide) (by decide) ⟨⟨_, rfl⟩, rfl, e0⟩
          ·
            refine own_st (T' := T0) (g' := (mkF m 74 #[.val (.int ((((((x ^^^ (-1 : Int32)) &&& (x - (1 : Int32))).toUInt32 >>> ((8 : Int32) &&& 31).toUInt32).toInt32).toUInt32 >>> ((4 : Int32) &&& 31).toUInt32).toInt32)), .val (.int (((1 : Int32) + (8 : Int32)) + (4 : Int32)))] [])) (fun _ k => XS.icmpYes X0.here hx rfl (pc0 := 64) (pc' := 74) rfl (hb hby own_d_jdk_33_method_48_code_64) rfl (flt hc64_12).2.2.2 (by decide) (by decide) k) ?_
            refine own_st (T' := T0) (g' := (mkF m 75 #[.val (.int ((((((x ^^^ (-1 : Int32)) &&& (x - (1 : Int32))).toUInt32 >>> ((8 : Int32) &&& 31).toUInt32).toInt32).toUInt32 >>> ((4 : Int32) &&& 31).toUInt32).toInt32)), .val (.int (((1 : Int32) + (8 : Int32)) + (4 : Int32)))] [(.int (((1 : Int32) + (8 : Int32)) + (4 : Int32)))])) (fun _ k => XS.iloadN X0.here hx rfl (hb hby own_d_jdk_33_method_48_code_74) rfl k) ?_
            refine own_st (T' := T0) (g' := (mkF m 76 #[.val (.int ((((((x ^^^ (-1 : Int32)) &&& (x - (1 : Int32))).toUInt32 >>> ((8 : Int32) &&& 31).toUInt32).toInt32).toUInt32 >>> ((4 : Int32) &&& 31).toUInt32).toInt32)), .val (.int (((1 : Int32) + (8 : Int32)) + (4 : Int32)))] [(.int ((((((x ^^^ (-1 : Int32)) &&& (x - (1 : Int32))).toUInt32 >>> ((8 : Int32) &&& 31).toUInt32).toInt32).toUInt32 >>> ((4 : Int32) &&& 31).toUInt32).toInt32)), (.int (((1 : Int32) + (8 : Int32)) + (4 : Int32)))])) (fun _ k => XS.iloadN X0.here hx rfl (hb hby own_d_jdk_33_method_48_code_75) rfl k) ?_
            refine own_st (T' := T0) (g' := (mkF m 77 #[.val (.int ((((((x ^^^ (-1 : Int32)) &&& (x - (1 : Int32))).toUInt32 >>> ((8 : Int32) &&& 31).toUInt32).toInt32).toUInt32 >>> ((4 : Int32) &&& 31).toUInt32).toInt32)), .val (.int (((1 : Int32) + (8 : Int32)) + (4 : Int32)))] [(.int (1 : Int32)), (.int ((((((x ^^^ (-1 : Int32)) &&& (x - (1 : Int32))).toUInt32 >>> ((8 : Int32) &&& 31).toUInt32).toInt32).toUInt32 >>> ((4 : Int32) &&& 31).toUInt32).toInt32)), (.int (((1 : Int32) + (8 : Int32)) + (4 : Int32)))])) (fun _ k => XS.iconst X0.here hx rfl (hb hby own_d_jdk_33_method_48_code_76) k) ?_
            refine own_st (T' := T0) (g' := (mkF m 78 #[.val (.int ((((((x ^^^ (-1 : Int32)) &&& (x - (1 : Int32))).toUInt32 >>> ((8 : Int32) &&& 31).toUInt32).toInt32).toUInt32 >>> ((4 : Int32) &&& 31).toUInt32).toInt32)), .val (.int (((1 : Int32) + (8 : Int32)) + (4 : Int32)))] [(.int ((((((((x ^^^ (-1 : Int32)) &&& (x - (1 : Int32))).toUInt32 >>> ((8 : Int32) &&& 31).toUInt32).toInt32).toUInt32 >>> ((4 : Int32) &&& 31).toUInt32).toInt32).toUInt32 >>> ((1 : Int32) &&& 31).toUInt32).toInt32)), (.int (((1 : Int32) + (8 : Int32)) + (4 : Int32)))])) (fun _ k => XS.iushr X0.here hx rfl (hb hby own_d_jdk_33_method_48_code_77) rfl k) ?_
            refine own_st (T' := T0) (g' := (mkF m 79 #[.val (.int ((((((x ^^^ (-1 : Int32)) &&& (x - (1 : Int32))).toUInt32 >>> ((8 : Int32) &&& 31).toUInt32).toInt32).toUInt32 >>> ((4 : Int32) &&& 31).toUInt32).toInt32)), .val (.int (((1 : Int32) + (8 : Int32)) + (4 : Int32)))] [(.int ((((1 : Int32) + (8 : Int32)) + (4 : Int32)) + ((((((((x ^^^ (-1 : Int32)) &&& (x - (1 : Int32))).toUInt32 >>> ((8 : Int32) &&& 31).toUInt32).toInt32).toUInt32 >>> ((4 : Int32) &&& 31).toUInt32).toInt32).toUInt32 >>> ((1 : Int32) &&& 31).toUInt32).toInt32)))])) (fun _ k => XS.iadd X0.here hx rfl (hb hby own_d_jdk_33_method_48_code_78) rfl k) ?_
            exact own_ret X0 hx hlk hret rfl (Or.inl ⟨rfl, Or.inl rfl, _, rfl⟩) (hb hby own_d_jdk_33_method_48_code_79) (by decide) (by decide) ⟨⟨_, rfl⟩, rfl, e0⟩
        ·
          refine own_st (T' := T0) (g' := (mkF m 62 #[.val (.int ((((x ^^^ (-1 : Int32)) &&& (x - (1 : Int32))).toUInt32 >>> ((8 : Int32) &&& 31).toUInt32).toInt32)), .val (.int ((1 : Int32) + (8 : Int32)))] [])) (fun _ k => XS.icmpYes X0.here hx rfl (pc0 := 52) (pc' := 62) rfl (hb hby own_d_jdk_33_method_48_code_52) rfl (flt hc52_11).2.2.2 (by decide) (by decide) k) ?_
          refine own_st (T' := T0) (g' := (mkF m 63 #[.val (.int ((((x ^^^ (-1 : Int32)) &&& (x - (1 : Int32))).toUInt32 >>> ((8 : Int32) &&& 31).toUInt32).toInt32)), .val (.int ((1 : Int32) + (8 : Int32)))] [(.int ((((x ^^^ (-1 : Int32)) &&& (x - (1 : Int32))).toUInt32 >>> ((8 : Int32) &&& 31).toUInt32).toInt32))])) (fun _ k => XS.iloadN X0.here hx rfl (hb hby own_d_jdk_33_method_48_code_62) rfl k) ?_
          refine own_st (T' := T0) (g' := (mkF m 64 #[.val (.int ((((x ^^^ (-1 : Int32)) &&& (x - (1 : Int32))).toUInt32 >>> ((8 : Int32) &&& 31).toUInt32).toInt32)), .val (.int ((1 : Int32) + (8 : Int32)))] [(.int (4 : Int32)), (.int ((((x ^^^ (-1 : Int32)) &&& (x - (1 : Int32))).toUInt32 >>> ((8 : Int32) &&& 31).toUInt32).toInt32))])) (fun _ k => XS.iconst X0.here hx rfl (hb hby own_d_jdk_33_method_48_code_63) k) ?_
          by_cases hc64_13 : (4 : Int32) < ((((x ^^^ (-1 : Int32)) &&& (x - (1 : Int32))).toUInt32 >>> ((8 : Int32) &&& 31).toUInt32).toInt32)
          ·
            refine own_st (T' := T0) (g' := (mkF m 67 #[.val (.int ((((x ^^^ (-1 : Int32)) &&& (x - (1 : Int32))).toUInt32 >>> ((8 : Int32) &&& 31).toUInt32).toInt32)), .val (.int ((1 : Int32) + (8 : Int32)))] [])) (fun _ k => XS.icmpNo X0.here hx rfl (hb hby own_d_jdk_33_method_48_code_64) rfl (tlt hc64_13).2.2.2 k) ?_
            refine own_st (T' := T0) (g' := (mkF m 70 #[.val (.int ((((x ^^^ (-1 : Int32)) &&& (x - (1 : Int32))).toUInt32 >>> ((8 : Int32) &&& 31).toUInt32).toInt32)), .val (.int (((1 : Int32) + (8 : Int32)) + (2 : Int32)))] [])) (fun _ k => XS.iinc X0.here hx rfl (hb hby own_d_jdk_33_method_48_code_67) rfl (l' := #[.val (.int ((((x ^^^ (-1 : Int32)) &&& (x - (1 : Int32))).toUInt32 >>> ((8 : Int32) &&& 31).toUInt32).toInt32)), .val (.int (((1 : Int32) + (8 : Int32)) + (2 : Int32)))]) rfl k) ?_
            refine own_st (T' := T0) (g' := (mkF m 71 #[.val (.int ((((x ^^^ (-1 : Int32)) &&& (x - (1 : Int32))).toUInt32 >>> ((8 : Int32) &&& 31).toUInt32).toInt32)), .val (.int (((1 : Int32) + (8 : Int32)) + (2 : Int32)))] [(.int ((((x ^^^ (-1 : Int32)) &&& (x - (1 : Int32))).toUInt32 >>> ((8 : Int32) &&& 31).toUInt32).toInt32))])) (fun _ k => XS.iloadN X0.here hx rfl (hb hby own_d_jdk_33_method_48_code_70) rfl k) ?_
            refine own_st (T' := T0) (g' := (mkF m 72 #[.val (.int ((((x ^^^ (-1 : Int32)) &&& (x - (1 : Int32))).toUInt32 >>> ((8 : Int32) &&& 31).toUInt32).toInt32)), .val (.int (((1 : Int32) + (8 : Int32)) + (2 : Int32)))] [(.int (2 : Int32)), (.int ((((x ^^^ (-1 : Int32)) &&& (x - (1 : Int32))).toUInt32 >>> ((8 : Int32) &&& 31).toUInt32).toInt32))])) (fun _ k => XS.iconst X0.here hx rfl (hb hby own_d_jdk_33_method_48_code_71) k) ?_
            refine own_st (T' := T0) (g' := (mkF m 73 #[.val (.int ((((x ^^^ (-1 : Int32)) &&& (x - (1 : Int32))).toUInt32 >>> ((8 : Int32) &&& 31).toUInt32).toInt32)), .val (.int (((1 : Int32) + (8 : Int32)) + (2 : Int32)))] [(.int ((((((x ^^^ (-1 : Int32)) &&& (x - (1 : Int32))).toUInt32 >>> ((8 : Int32) &&& 31).toUInt32).toInt32).toUInt32 >>> ((2 : Int32) &&& 31).toUInt32).toInt32))])) (fun _ k => XS.iushr X0.here hx rfl (hb hby own_d_jdk_33_method_48_code_72) rfl k) ?_
            refine own_st (T' := T0) (g' := (mkF m 74 #[.val (.int ((((((x ^^^ (-1 : Int32)) &&& (x - (1 : Int32))).toUInt32 >>> ((8 : Int32) &&& 31).toUInt32).toInt32).toUInt32 >>> ((2 : Int32) &&& 31).toUInt32).toInt32)), .val (.int (((1 : Int32) + (8 : Int32)) + (2 : Int32)))] [])) (fun _ k => XS.istoreN X0.here hx rfl (hb hby own_d_jdk_33_method_48_code_73) rfl (l' := #[.val (.int ((((((x ^^^ (-1 : Int32)) &&& (x - (1 : Int32))).toUInt32 >>> ((8 : Int32) &&& 31).toUInt32).toInt32).toUInt32 >>> ((2 : Int32) &&& 31).toUInt32).toInt32)), .val (.int (((1 : Int32) + (8 : Int32)) + (2 : Int32)))]) rfl k) ?_
            refine own_st (T' := T0) (g' := (mkF m 75 #[.val (.int ((((((x ^^^ (-1 : Int32)) &&& (x - (1 : Int32))).toUInt32 >>> ((8 : Int32) &&& 31).toUInt32).toInt32).toUInt32 >>> ((2 : Int32) &&& 31).toUInt32).toInt32)), .val (.int (((1 : Int32) + (8 : Int32)) + (2 : Int32)))] [(.int (((1 : Int32) + (8 : Int32)) + (2 : Int32)))])) (fun _ k => XS.iloadN X0.here hx rfl (hb hby own_d_jdk_33_method_48_code_74) rfl k) ?_
            refine own_st (T' := T0) (g' := (mkF m 76 #[.val (.int ((((((x ^^^ (-1 : Int32)) &&& (x - (1 : Int32))).toUInt32 >>> ((8 : Int32) &&& 31).toUInt32).toInt32).toUInt32 >>> ((2 : Int32) &&& 31).toUInt32).toInt32)), .val (.int (((1 : Int32) + (8 : Int32)) + (2 : Int32)))] [(.int ((((((x ^^^ (-1 : Int32)) &&& (x - (1 : Int32))).toUInt32 >>> ((8 : Int32) &&& 31).toUInt32).toInt32).toUInt32 >>> ((2 : Int32) &&& 31).toUInt32).toInt32)), (.int (((1 : Int32) + (8 : Int32)) + (2 : Int32)))])) (fun _ k => XS.iloadN X0.here hx rfl (hb hby own_d_jdk_33_method_48_code_75) rfl k) ?_
            refine own_st (T' := T0) (g' := (mkF m 77 #[.val (.int ((((((x ^^^ (-1 : Int32)) &&& (x - (1 : Int32))).toUInt32 >>> ((8 : Int32) &&& 31).toUInt32).toInt32).toUInt32 >>> ((2 : Int32) &&& 31).toUInt32).toInt32)), .val (.int (((1 : Int32) + (8 : Int32)) + (2 : Int32)))] [(.int (1 : Int32)), (.int ((((((x ^^^ (-1 : Int32)) &&& (x - (1 : Int32))).toUInt32 >>> ((8 : Int32) &&& 31).toUInt32).toInt32).toUInt32 >>> ((2 : Int32) &&& 31).toUInt32).toInt32)), (.int (((1 : Int32) + (8 : Int32)) + (2 : Int32)))])) (fun _ k => XS.iconst X0.here hx rfl (hb hby own_d_jdk_33_method_48_code_76) k) ?_
            refine own_st (T' := T0) (g' := (mkF m 78 #[.val (.int ((((((x ^^^ (-1 : Int32)) &&& (x - (1 : Int32))).toUInt32 >>> ((8 : Int32) &&& 31).toUInt32).toInt32).toUInt32 >>> ((2 : Int32) &&& 31).toUInt32).toInt32)), .val (.int (((1 : Int32) + (8 : Int32)) + (2 : Int32)))] [(.int ((((((((x ^^^ (-1 : Int32)) &&& (x - (1 : Int32))).toUInt32 >>> ((8 : Int32) &&& 31).toUInt32).toInt32).toUInt32 >>> ((2 : Int32) &&& 31).toUInt32).toInt32).toUInt32 >>> ((1 : Int32) &&& 31).toUInt32).toInt32)), (.int (((1 : Int32) + (8 : Int32)) + (2 : Int32)))])) (fun _ k => XS.iushr X0.here hx rfl (hb hby own_d_jdk_33_method_48_code_77) rfl k) ?_
            refine own_st (T' := T0) (g' := (mkF m 79 #[.val (.int ((((((x ^^^ (-1 : Int32)) &&& (x - (1 : Int32))).toUInt32 >>> ((8 : Int32) &&& 31).toUInt32).toInt32).toUInt32 >>> ((2 : Int32) &&& 31).toUInt32).toInt32)), .val (.int (((1 : Int32) + (8 : Int32)) + (2 : Int32)))] [(.int ((((1 : Int32) + (8 : Int32)) + (2 : Int32)) + ((((((((x ^^^ (-1 : Int32)) &&& (x - (1 : Int32))).toUInt32 >>> ((8 : Int32) &&& 31).toUInt32).toInt32).toUInt32 >>> ((2 : Int32) &&& 31).toUInt32).toInt32).toUInt32 >>> ((1 : Int32) &&& 31).toUInt32).toInt32)))])) (fun _ k => XS.iadd X0.here hx rfl (hb hby own_d_jdk_33_method_48_code_78) rfl k) ?_
            exact own_ret X0 hx hlk hret rfl (Or.inl ⟨rfl, Or.inl rfl, _, rfl⟩) (hb hby own_d_jdk_33_method_48_code_79) (by decide) (by decide) ⟨⟨_, rfl⟩, rfl, e0⟩
          ·
            refine own_st (T' := T0) (g' := (mkF m 74 #[.val (.int ((((x ^^^ (-1 : Int32)) &&& (x - (1 : Int32))).toUInt32 >>> ((8 : Int32) &&& 31).toUInt32).toInt32)), .val (.int ((1 : Int32) + (8 : Int32)))] [])) (fun _ k => XS.icmpYes X0.here hx rfl (pc0 := 64) (pc' := 74) rfl (hb hby own_d_jdk_33_method_48_code_64) rfl (flt hc64_13).2.2.2 (by decide) (by decide) k) ?_
            refine own_st (T' := T0) (g' := (mkF m 75 #[.val (.int ((((x ^^^ (-1 : Int32)) &&& (x - (1 : Int32))).toUInt32 >>> ((8 : Int32) &&& 31).toUInt32).toInt32)), .val (.int ((1 : Int32) + (8 : Int32)))] [(.int ((1 : Int32) + (8 : Int32)))])) (fun _ k => XS.iloadN X0.here hx rfl (hb hby own_d_jdk_33_method_48_code_74) rfl k) ?_
            refine own_st (T' := T0) (g' := (mkF m 76 #[.val (.int ((((x ^^^ (-1 : Int32)) &&& (x - (1 : Int32))).toUInt32 >>> ((8 : Int32) &&& 31).toUInt32).toInt32)), .val (.int ((1 : Int32) + (8 : Int32)))] [(.int ((((x ^^^ (-1 : Int32)) &&& (x - (1 : Int32))).toUInt32 >>> ((8 : Int32) &&& 31).toUInt32).toInt32)), (.int ((1 : Int32) + (8 : Int32)))])) (fun _ k => XS.iloadN X0.here hx rfl (hb hby own_d_jdk_33_method_48_code_75) rfl k) ?_
            refine own_st (T' := T0) (g' := (mkF m 77 #[.val (.int ((((x ^^^ (-1 : Int32)) &&& (x - (1 : Int32))).toUInt32 >>> ((8 : Int32) &&& 31).toUInt32).toInt32)), .val (.int ((1 : Int32) + (8 : Int32)))] [(.int (1 : Int32)), (.int ((((x ^^^ (-1 : Int32)) &&& (x - (1 : Int32))).toUInt32 >>> ((8 : Int32) &&& 31).toUInt32).toInt32)), (.int ((1 : Int32) + (8 : Int32)))])) (fun _ k => XS.iconst X0.here hx rfl (hb hby own_d_jdk_33_method_48_code_76) k) ?_
            refine own_st (T' := T0) (g' := (mkF m 78 #[.val (.int ((((x ^^^ (-1 : Int32)) &&& (x - (1 : Int32))).toUInt32 >>> ((8 : Int32) &&& 31).toUInt32).toInt32)), .val (.int ((1 : Int32) + (8 : Int32)))] [(.int ((((((x ^^^ (-1 : Int32)) &&& (x - (1 : Int32))).toUInt32 >>> ((8 : Int32) &&& 31).toUInt32).toInt32).toUInt32 >>> ((1 : Int32) &&& 31).toUInt32).toInt32)), (.int ((1 : Int32) + (8 : Int32)))])) (fun _ k => XS.iushr X0.here hx rfl (hb hby own_d_jdk_33_method_48_code_77) rfl k) ?_
            refine own_st (T' := T0) (g' := (mkF m 79 #[.val (.int ((((x ^^^ (-1 : Int32)) &&& (x - (1 : Int32))).toUInt32 >>> ((8 : Int32) &&& 31).toUInt32).toInt32)), .val (.int ((1 : Int32) + (8 : Int32)))] [(.int (((1 : Int32) + (8 : Int32)) + ((((((x ^^^ (-1 : Int32)) &&& (x - (1 : Int32))).toUInt32 >>> ((8 : Int32) &&& 31).toUInt32).toInt32).toUInt32 >>> ((1 : Int32) &&& 31).toUInt32).toInt32)))])) (fun _ k => XS.iadd X0.here hx rfl (hb hby own_d_jdk_33_method_48_code_78) rfl k) ?_
            exact own_ret X0 hx hlk hret rfl (Or.inl ⟨rfl, Or.inl rfl, _, rfl⟩) (hb hby own_d_jdk_33_method_48_code_79) (by decide) (by decide) ⟨⟨_, rfl⟩, rfl, e0⟩
      ·
        refine own_st (T' := T0) (g' := (mkF m 49 #[.val (.int ((x ^^^ (-1 : Int32)) &&& (x - (1 : Int32)))), .val (.int (1 : Int32))] [])) (fun _ k => XS.icmpYes X0.here hx rfl (pc0 := 38) (pc' := 49) rfl (hb hby own_d_jdk_33_method_48_code_38) rfl (flt hc38_10).2.2.2 (by decide) (by decide) k) ?_
        refine own_st (T' := T0) (g' := (mkF m 50 #[.val (.int ((x ^^^ (-1 : Int32)) &&& (x - (1 : Int32)))), .val (.int (1 : Int32))] [(.int ((x ^^^ (-1 : Int32)) &&& (x - (1 : Int32))))])) (fun _ k => XS.iloadN X0.here hx rfl (hb hby own_d_jdk_33_method_48_code_49) rfl k) ?_
        refine own_st (T' := T0) (g' := (mkF m 52 #[.val (.int ((x ^^^ (-1 : Int32)) &&& (x - (1 : Int32)))), .val (.int (1 : Int32))] [(.int (16 : Int32)), (.int ((x ^^^ (-1 : Int32)) &&& (x - (1 : Int32))))])) (fun _ k => XS.bipush X0.here hx rfl (hb hby own_d_jdk_33_method_48_code_50) k) ?_
        by_cases hc52_14 : (16 : Int32) < ((x ^^^ (-1 : Int32)) &&& (x - (1 : Int32)))
        ·
          refine own_st (T' := T0) (g' := (mkF m 55 #[.val (.int ((x ^^^ (-1 : Int32)) &&& (x - (1 : Int32)))), .val (.int (1 : Int32))] [])) (fun _ k => XS.icmpNo X0.here hx rfl (hb hby own_d_jdk_33_method_48_code_52) rfl (tlt hc52_14).2.2.2 k) ?_
          refine own_st (T' := T0) (g' := (mkF m 58 #[.val (.int ((x ^^^ (-1 : Int32)) &&& (x - (1 : Int32)))), .val (.int ((1 : Int32) + (4 : Int32)))] [])) (fun _ k => XS.iinc X0.here hx rfl (hb hby own_d_jdk_33_method_48_code_55) rfl (l' := #[.val (.int ((x ^^^ (-1 : Int32)) &&& (x - (1 : Int32)))), .val (.int ((1 : Int32) + (4 : Int32)))]) rfl k) ?_
          refine own_st (T' := T0) (g' := (mkF m 59 #[.val (.int ((x ^^^ (-1 : Int32)) &&& (x - (1 : Int32)))), .val (.int ((1 : Int32) + (4 : Int32)))] [(.int ((x ^^^ (-1 : Int32)) &&& (x - (1 : Int32))))])) (fun _ k => XS.iloadN X0.here hx rfl (hb hby own_d_jdk_33_method_48_code_58) rfl k) ?_
          refine own_st (T' := T0) (g' := (mkF m 60 #[.val (.int ((x ^^^ (-1 : Int32)) &&& (x - (1 : Int32)))), .val (.int ((1 : Int32) + (4 : Int32)))] [(.int (4 : Int32)), (.int ((x ^^^ (-1 : Int32)) &&& (x - (1 : Int32))))])) (fun _ k => XS.iconst X0.here hx rfl (hb hby own_d_jdk_33_method_48_code_59) k) ?_
          refine own_st (T' := T0) (g' := (mkF m 61 #[.val (.int ((x ^^^ (-1 : Int32)) &&& (x - (1 : Int32)))), .val (.int ((1 : Int32) + (4 : Int32)))] [(.int ((((x ^^^ (-1 : Int32)) &&& (x - (1 : Int32))).toUInt32 >>> ((4 : Int32) &&& 31).toUInt32).toInt32))])) (fun _ k => XS.iushr X0.here hx rfl (hb hby own_d_jdk_33_method_48_code_60) rfl k) ?_
          refine own_st (T' := T0) (g' := (mkF m 62 #[.val (.int ((((x ^^^ (-1 : Int32)) &&& (x - (1 : Int32))).toUInt32 >>> ((4 : Int32) &&& 31).toUInt32).toInt32)), .val (.int ((1 : Int32) + (4 : Int32)))] [])) (fun _ k => XS.istoreN X0.here hx rfl (hb hby own_d_jdk_33_method_48_code_61) rfl (l' := #[.val (.int ((((x ^^^ (-1 : Int32)) &&& (x - (1 : Int32))).toUInt32 >>> ((4 : Int32) &&& 31).toUInt32).toInt32)), .val (.int ((1 : Int32) + (4 : Int32)))]) rfl k) ?_
          refine own_st (T' := T0) (g' := (mkF m 63 #[.val (.int ((((x ^^^ (-1 : Int32)) &&& (x - (1 : Int32))).toUInt32 >>> ((4 : Int32) &&& 31).toUInt32).toInt32)), .val (.int ((1 : Int32) + (4 : Int32)))] [(.int ((((x ^^^ (-1 : Int32)) &&& (x - (1 : Int32))).toUInt32 >>> ((4 : Int32) &&& 31).toUInt32).toInt32))])) (fun _ k => XS.iloadN X0.here hx rfl (hb hby own_d_jdk_33_method_48_code_62) rfl k) ?_
          refine own_st (T' := T0) (g' := (mkF m 64 #[.val (.int ((((x ^^^ (-1 : Int32)) &&& (x - (1 : Int32))).toUInt32 >>> ((4 : Int32) &&& 31).toUInt32).toInt32)), .val (.int ((1 : Int32) + (4 : Int32)))] [(.int (4 : Int32)), (.int ((((x ^^^ (-1 : Int32)) &&& (x - (1 : Int32))).toUInt32 >>> ((4 : Int32) &&& 31).toUInt32).toInt32))])) (fun _ k => XS.iconst X0.here hx rfl (hb hby own_d_jdk_33_method_48_code_63) k) ?_
          by_cases hc64_15 : (4 : Int32) < ((((x ^^^ (-1 : Int32)) &&& (x - (1 : Int32))).toUInt32 >>> ((4 : Int32) &&& 31).toUInt32).toInt32)
          ·
            refine own_st (T' := T0) (g' := (mkF m 67 #[.val (.int ((((x ^^^ (-1 : Int32)) &&& (x - (1 : Int32))).toUInt32 >>> ((4 : Int32) &&& 31).toUInt32).toInt32)), .val (.int ((1 : Int32) + (4 : Int32)))] [])) (fun _ k => XS.icmpNo X0.here hx rfl (hb hby own_d_jdk_33_method_48_code_64) rfl (tlt hc64_15).2.2.2 k) ?_
            refine own_st (T' := T0) (g' := (mkF m 70 #[.val (.int ((((x ^^^ (-1 : Int32)) &&& (x - (1 : Int32))).toUInt32 >>> ((4 : Int32) &&& 31).toUInt32).toInt32)), .val (.int (((1 : Int32) + (4 : Int32)) + (2 : Int32)))] [])) (fun _ k => XS.iinc X0.here hx rfl (hb hby own_d_jdk_33_method_48_code_67) rfl (l' := #[.val (.int ((((x ^^^ (-1 : Int32)) &&& (x - (1 : Int32))).toUInt32 >>> ((4 : Int32) &&& 31).toUInt32).toInt32)), .val (.int (((1 : Int32) + (4 : Int32)) + (2 : Int32)))]) rfl k) ?_
            refine own_st (T' := T0) (g' := (mkF m 71 #[.val (.int ((((x ^^^ (-1 : Int32)) &&& (x - (1 : Int32))).toUInt32 >>> ((4 : Int32) &&& 31).toUInt32).toInt32)), .val (.int (((1 : Int32) + (4 : Int32)) + (2 : Int32)))] [(.int ((((x ^^^ (-1 : Int32)) &&& (x - (1 : Int32))).toUInt32 >>> ((4 : Int32) &&& 31).toUInt32).toInt32))])) (fun _ k => XS.iloadN X0.here hx rfl (hb hby own_d_jdk_33_method_48_code_70) rfl k) ?_
            refine own_st (T' := T0) (g' := (mkF m 72 #[.val (.int ((((x ^^^ (-1 : Int32)) &&& (x - (1 : Int32))).toUInt32 >>> ((4 : Int32) &&& 31).toUInt32).toInt32)), .val (.int (((1 : Int32) + (4 : Int32)) + (2 : Int32)))] [(.int (2 : Int32)), (.int ((((x ^^^ (-1 : Int32)) &&& (x - (1 : Int32))).toUInt32 >>> ((4 : Int32) &&& 31).toUInt32).toInt32))])) (fun _ k => XS.iconst X0.here hx rfl (hb hby own_d_jdk_33_method_48_code_71) k) ?_
            refine own_st (T' := T0) (g' := (mkF m 73 #[.val (.int ((((x ^^^ (-1 : Int32)) &&& (x - (1 : Int32))).toUInt32 >>> ((4 : Int32) &&& 31).toUInt32).toInt32)), .val (.int (((1 : Int32) + (4 : Int32)) + (2 : Int32)))] [(.int ((((((x ^^^ (-1 : Int32)) &&& (x - (1 : Int32))).toUInt32 >>> ((4 : Int32) &&& 31).toUInt32).toInt32).toUInt32 >>> ((2 : Int32) &&& 31).toUInt32).toInt32))])) (fun _ k => XS.iushr X0.here hx rfl (hb hby own_d_jdk_33_method_48_code_72) rfl k) ?_
            refine own_st (T' := T0) (g' := (mkF m 74 #[.val (.int ((((((x ^^^ (-1 : Int32)) &&& (x - (1 : Int32))).toUInt32 >>> ((4 : Int32) &&& 31).toUInt32).toInt32).toUInt32 >>> ((2 : Int32) &&& 31).toUInt32).toInt32)), .val (.int (((1 : Int32) + (4 : Int32)) + (2 : Int32)))] [])) (fun _ k => XS.istoreN X0.here hx rfl (hb hby own_d_jdk_33_method_48_code_73) rfl (l' := #[.val (.int ((((((x ^^^ (-1 : Int32)) &&& (x - (1 : Int32))).toUInt32 >>> ((4 : Int32) &&& 31).toUInt32).toInt32).toUInt32 >>> ((2 : Int32) &&& 31).toUInt32).toInt32)), .val (.int (((1 : Int32) + (4 : Int32)) + (2 : Int32)))]) rfl k) ?_
            refine own_st (T' := T0) (g' := (mkF m 75 #[.val (.int ((((((x ^^^ (-1 : Int32)) &&& (x - (1 : Int32))).toUInt32 >>> ((4 : Int32) &&& 31).toUInt32).toInt32).toUInt32 >>> ((2 : Int32) &&& 31).toUInt32).toInt32)), .val (.int (((1 : Int32) + (4 : Int32)) + (2 : Int32)))] [(.int (((1 : Int32) + (4 : Int32)) + (2 : Int32)))])) (fun _ k => XS.iloadN X0.here hx rfl (hb hby own_d_jdk_33_method_48_code_74) rfl k) ?_
            refine own_st (T' := T0) (g' := (mkF m 76 #[.val (.int ((((((x ^^^ (-1 : Int32)) &&& (x - (1 : Int32))).toUInt32 >>> ((4 : Int32) &&& 31).toUInt32).toInt32).toUInt32 >>> ((2 : Int32) &&& 31).toUInt32).toInt32)), .val (.int (((1 : Int32) + (4 : Int32)) + (2 : Int32)))] [(.int ((((((x ^^^ (-1 : Int32)) &&& (x - (1 : Int32))).toUInt32 >>> ((4 : Int32) &&& 31).toUInt32).toInt32).toUInt32 >>> ((2 : Int32) &&& 31).toUInt32).toInt32)), (.int (((1 : Int32) + (4 : Int32)) + (2 : Int32)))])) (fun _ k => XS.iloadN X0.here hx rfl (hb hby own_d_jdk_33_method_48_code_75) rfl k) ?_
            refine own_st (T' := T0) (g' := (mkF m 77 #[.val (.int ((((((x ^^^ (-1 : Int32)) &&& (x - (1 : Int32))).toUInt32 >>> ((4 : Int32) &&& 31).toUInt32).toInt32).toUInt32 >>> ((2 : Int32) &&& 31).toUInt32).toInt32)), .val (.int (((1 : Int32) + (4 : Int32)) + (2 : Int32)))] [(.int (1 : Int32)), (.int ((((((x ^^^ (-1 : Int32)) &&& (x - (1 : Int32))).toUInt32 >>> ((4 : Int32) &&& 31).toUInt32).toInt32).toUInt32 >>> ((2 : Int32) &&& 31).toUInt32).toInt32)), (.int (((1 : Int32) + (4 : Int32)) + (2 : Int32)))])) (fun _ k => XS.iconst X0.here hx rfl (hb hby own_d_jdk_33_method_48_code_76) k) ?_
            refine own_st (T' := T0) (g' := (mkF m 78 #[.val (.int ((((((x ^^^ (-1 : Int32)) &&& (x - (1 : Int32))).toUInt32 >>> ((4 : Int32) &&& 31).toUInt32).toInt32).toUInt32 >>> ((2 : Int32) &&& 31).toUInt32).toInt32)), .val (.int (((1 : Int32) + (4 : Int32)) + (2 : Int32)))] [(.int ((((((((x ^^^ (-1 : Int32)) &&& (x - (1 : Int32))).toUInt32 >>> ((4 : Int32) &&& 31).toUInt32).toInt32).toUInt32 >>> ((2 : Int32) &&& 31).toUInt32).toInt32).toUInt32 >>> ((1 : Int32) &&& 31).toUInt32).toInt32)), (.int (((1 : Int32) + (4 : Int32)) + (2 : Int32)))])) (fun _ k => XS.iushr X0.here hx rfl (hb hby own_d_jdk_33_method_48_code_77) rfl k) ?_
            refine own_st (T' := T0) (g' := (mkF m 79 #[.val (.int ((((((x ^^^ (-1 : Int32)) &&& (x - (1 : Int32))).toUInt32 >>> ((4 : Int32) &&& 31).toUInt32).toInt32).toUInt32 >>> ((2 : Int32) &&& 31).toUInt32).toInt32)), .val (.int (((1 : Int32) + (4 : Int32)) + (2 : Int32)))] [(.int ((((1 : Int32) + (4 : Int32)) + (2 : Int32)) + ((((((((x ^^^ (-1 : Int32)) &&& (x - (1 : Int32))).toUInt32 >>> ((4 : Int32) &&& 31).toUInt32).toInt32).toUInt32 >>> ((2 : Int32) &&& 31).toUInt32).toInt32).toUInt32 >>> ((1 : Int32) &&& 31).toUInt32).toInt32)))])) (fun _ k => XS.iadd X0.here hx rfl (hb hby own_d_jdk_33_method_48_code_78) rfl k) ?_
            exact own_ret X0 hx hlk hret rfl (Or.inl ⟨rfl, Or.inl rfl, _, rfl⟩) (hb hby own_d_jdk_33_method_48_code_79) (by decide) (by decide) ⟨⟨_, rfl⟩, rfl, e0⟩
          ·
            refine own_st (T' := T0) (g' := (mkF m 74 #[.val (.int ((((x ^^^ (-1 : Int32)) &&& (x - (1 : Int32))).toUInt32 >>> ((4 : Int32) &&& 31).toUInt32).toInt32)), .val (.int ((1 : Int32) + (4 : Int32)))] [])) (fun _ k => XS.icmpYes X0.here hx rfl (pc0 := 64) (pc' := 74) rfl (hb hby own_d_jdk_33_method_48_code_64) rfl (flt hc64_15).2.2.2 (by decide) (by decide) k) ?_
            refine own_st (T' := T0) (g' := (mkF m 75 #[.val (.int ((((x ^^^ (-1 : Int32)) &&& (x - (1 : Int32))).toUInt32 >>> ((4 : Int32) &&& 31).toUInt32).toInt32)), .val (.int ((1 : Int32) + (4 : Int32)))] [(.int ((1 : Int32) + (4 : Int32)))])) (fun _ k => XS.iloadN X0.here hx rfl (hb hby own_d_jdk_33_method_48_code_74) rfl k) ?_
            refine own_st (T' := T0) (g' := (mkF m 76 #[.val (.int ((((x ^^^ (-1 : Int32)) &&& (x - (1 : Int32))).toUInt32 >>> ((4 : Int32) &&& 31).toUInt32).toInt32)), .val (.int ((1 : Int32) + (4 : Int32)))] [(.int ((((x ^^^ (-1 : Int32)) &&& (x - (1 : Int32))).toUInt32 >>> ((4 : Int32) &&& 31).toUInt32).toInt32)), (.int ((1 : Int32) + (4 : Int32)))])) (fun _ k => XS.iloadN X0.here hx rfl (hb hby own_d_jdk_33_method_48_code_75) rfl k) ?_
            refine own_st (T' := T0) (g' := (mkF m 77 #[.val (.int ((((x ^^^ (-1 : Int32)) &&& (x - (1 : Int32))).toUInt32 >>> ((4 : Int32) &&& 31).toUInt32).toInt32)), .val (.int ((1 : Int32) + (4 : Int32)))] [(.int (1 : Int32)), (.int ((((x ^^^ (-1 : Int32)) &&& (x - (1 : Int32))).toUInt32 >>> ((4 : Int32) &&& 31).toUInt32).toInt32)), (.int ((1 : Int32) + (4 : Int32)))])) (fun _ k => XS.iconst X0.here hx rfl (hb hby own_d_jdk_33_method_48_code_76) k) ?_
            refine own_st (T' := T0) (g' := (mkF m 78 #[.val (.int ((((x ^^^ (-1 : Int32)) &&& (x - (1 : Int32))).toUInt32 >>> ((4 : Int32) &&& 31).toUInt32).toInt32)), .val (.int ((1 : Int32) + (4 : Int32)))] [(.int ((((((x ^^^ (-1 : Int32)) &&& (x - (1 : Int32))).toUInt32 >>> ((4 : Int32) &&& 31).toUInt32).toInt32).toUInt32 >>> ((1 : Int32) &&& 31).toUInt32).toInt32)), (.int ((1 : Int32) + (4 : Int32)))])) (fun _ k => XS.iushr X0.here hx rfl (hb hby own_d_jdk_33_method_48_code_77) rfl k) ?_
            refine own_st (T' := T0) (g' := (mkF m 79 #[.val (.int ((((x ^^^ (-1 : Int32)) &&& (x - (1 : Int32))).toUInt32 >>> ((4 : Int32) &&& 31).toUInt32).toInt32)), .val (.int ((1 : Int32) + (4 : Int32)))] [(.int (((1 : Int32) + (4 : Int32)) + ((((((x ^^^ (-1 : Int32)) &&& (x - (1 : Int32))).toUInt32 >>> ((4 : Int32) &&& 31).toUInt32).toInt32).toUInt32 >>> ((1 : Int32) &&& 31).toUInt32).toInt32)))])) (fun _ k => XS.iadd X0.here hx rfl (hb hby own_d_jdk_33_method_48_code_78) rfl k) ?_
            exact own_ret X0 hx hlk hret rfl (Or.inl ⟨rfl, Or.inl rfl, _, rfl⟩) (hb hby own_d_jdk_33_method_48_code_79) (by decide) (by decide) ⟨⟨_, rfl⟩, rfl, e0⟩
        ·
          refine own_st (T' := T0) (g' := (mkF m 62 #[.val (.int ((x ^^^ (-1 : Int32)) &&& (x - (1 : Int32)))), .val (.int (1 : Int32))] [])) (fun _ k => XS.icmpYes X0.here hx rfl (pc0 := 52) (pc' := 62) rfl (hb hby own_d_jdk_33_method_48_code_52) rfl (flt hc52_14).2.2.2 (by decide) (by decide) k) ?_
          refine own_st (T' := T0) (g' := (mkF m 63 #[.val (.int ((x ^^^ (-1 : Int32)) &&& (x - (1 : Int32)))), .val (.int (1 : Int32))] [(.int ((x ^^^ (-1 : Int32)) &&& (x - (1 : Int32))))])) (fun _ k => XS.iloadN X0.here hx rfl (hb hby own_d_jdk_33_method_48_code_62) rfl k) ?_
          refine own_st (T' := T0) (g' := (mkF m 64 #[.val (.int ((x ^^^ (-1 : Int32)) &&& (x - (1 : Int32)))), .val (.int (1 : Int32))] [(.int (4 : Int32)), (.int ((x ^^^ (-1 : Int32)) &&& (x - (1 : Int32))))])) (fun _ k => XS.iconst X0.here hx rfl (hb hby own_d_jdk_33_method_48_code_63) k) ?_
          by_cases hc64_16 : (4 : Int32) < ((x ^^^ (-1 : Int32)) &&& (x - (1 : Int32)))
          ·
            refine own_st (T' := T0) (g' := (mkF m 67 #[.val (.int ((x ^^^ (-1 : Int32)) &&& (x - (1 : Int32)))), .val (.int (1 : Int32))] [])) (fun _ k => XS.icmpNo X0.here hx rfl (hb hby own_d_jdk_33_method_48_code_64) rfl (tlt hc64_16).2.2.2 k) ?_
            refine own_st (T' := T0) (g' := (mkF m 70 #[.val (.int ((x ^^^ (-1 : Int32)) &&& (x - (1 : Int32)))), .val (.int ((1 : Int32) + (2 : Int32)))] [])) (fun _ k => XS.iinc X0.here hx rfl (hb hby own_d_jdk_33_method_48_code_67) rfl (l' := #[.val (.int ((x ^^^ (-1 : Int32)) &&& (x - (1 : Int32)))), .val (.int ((1 : Int32) + (2 : Int32)))]) rfl k) ?_
            refine own_st (T' := T0) (g' := (mkF m 71 #[.val (.int ((x ^^^ (-1 : Int32)) &&& (x - (1 : Int32)))), .val (.int ((1 : Int32) + (2 : Int32)))] [(.int ((x ^^^ (-1 : Int32)) &&& (x - (1 : Int32))))])) (fun _ k => XS.iloadN X0.here hx rfl (hb hby own_d_jdk_33_method_48_code_70) rfl k) ?_
            refine own_st (T' := T0) (g' := (mkF m 72 #[.val (.int ((x ^^^ (-1 : Int32)) &&& (x - (1 : Int32)))), .val (.int ((1 : Int32) + (2 : Int32)))] [(.int (2 : Int32)), (.int ((x ^^^ (-1 : Int32)) &&& (x - (1 : Int32))))])) (fun _ k => XS.iconst X0.here hx rfl (hb hby own_d_jdk_33_method_48_code_71) k) ?_
            refine own_st (T' := T0) (g' := (mkF m 73 #[.val (.int ((x ^^^ (-1 : Int32)) &&& (x - (1 : Int32)))), .val (.int ((1 : Int32) + (2 : Int32)))] [(.int ((((x ^^^ (-1 : Int32)) &&& (x - (1 : Int32))).toUInt32 >>> ((2 : Int32) &&& 31).toUInt32).toInt32))])) (fun _ k => XS.iushr X0.here hx rfl (hb hby own_d_jdk_33_method_48_code_72) rfl k) ?_
            refine own_st (T' := T0) (g' := (mkF m 74 #[.val (.int ((((x ^^^ (-1 : Int32)) &&& (x - (1 : Int32))).toUInt32 >>> ((2 : Int32) &&& 31).toUInt32).toInt32)), .val (.int ((1 : Int32) + (2 : Int32)))] [])) (fun _ k => XS.istoreN X0.here hx rfl (hb hby own_d_jdk_33_method_48_code_73) rfl (l' := #[.val (.int ((((x ^^^ (-1 : Int32)) &&& (x - (1 : Int32))).toUInt32 >>> ((2 : Int32) &&& 31).toUInt32).toInt32)), .val (.int ((1 : Int32) + (2 : Int32)))]) rfl k) ?_
            refine own_st (T' := T0) (g' := (mkF m 75 #[.val (.int ((((x ^^^ (-1 : Int32)) &&& (x - (1 : Int32))).toUInt32 >>> ((2 : Int32) &&& 31).toUInt32).toInt32)), .val (.int ((1 : Int32) + (2 : Int32)))] [(.int ((1 : Int32) + (2 : Int32)))])) (fun _ k => XS.iloadN X0.here hx rfl (hb hby own_d_jdk_33_method_48_code_74) rfl k) ?_
            refine own_st (T' := T0) (g' := (mkF m 76 #[.val (.int ((((x ^^^ (-1 : Int32)) &&& (x - (1 : Int32))).toUInt32 >>> ((2 : Int32) &&& 31).toUInt32).toInt32)), .val (.int ((1 : Int32) + (2 : Int32)))] [(.int ((((x ^^^ (-1 : Int32)) &&& (x - (1 : Int32))).toUInt32 >>> ((2 : Int32) &&& 31).toUInt32).toInt32)), (.int ((1 : Int32) + (2 : Int32)))])) (fun _ k => XS.iloadN X0.here hx rfl (hb hby own_d_jdk_33_method_48_code_75) rfl k) ?_
            refine own_st (T' := T0) (g' := (mkF m 77 #[.val (.int ((((x ^^^ (-1 : Int32)) &&& (x - (1 : Int32))).toUInt32 >>> ((2 : Int32) &&& 31).toUInt32).toInt32)), .val (.int ((1 : Int32) + (2 : Int32)))] [(.int (1 : Int32)), (.int ((((x ^^^ (-1 : Int32)) &&& (x - (1 : Int32))).toUInt32 >>> ((2 : Int32) &&& 31).toUInt32).toInt32)), (.int ((1 : Int32) + (2 : Int32)))])) (fun _ k => XS.iconst X0.here hx rfl (hb hby own_d_jdk_33_method_48_code_76) k) ?_
            refine own_st (T' := T0) (g' := (mkF m 78 #[.val (.int ((((x ^^^ (-1 : Int32)) &&& (x - (1 : Int32))).toUInt32 >>> ((2 : Int32) &&& 31).toUInt32).toInt32)), .val (.int ((1 : Int32) + (2 : Int32)))] [(.int ((((((x ^^^ (-1 : Int32)) &&& (x - (1 : Int32))).toUInt32 >>> ((2 : Int32) &&& 31).toUInt32).toInt32).toUInt32 >>> ((1 : Int32) &&& 31).toUInt32).toInt32)), (.int ((1 : Int32) + (2 : Int32)))])) (fun _ k => XS.iushr X0.here hx rfl (hb hby own_d_jdk_33_method_48_code_77) rfl k) ?_
            refine own_st (T' := T0) (g' := (mkF m 79 #[.val (.int ((((x ^^^ (-1 : Int32)) &&& (x - (1 : Int32))).toUInt32 >>> ((2 : Int32) &&& 31).toUInt32).toInt32)), .val (.int ((1 : Int32) + (2 : Int32)))] [(.int (((1 : Int32) + (2 : Int32)) + ((((((x ^^^ (-1 : Int32)) &&& (x - (1 : Int32))).toUInt32 >>> ((2 : Int32) &&& 31).toUInt32).toInt32).toUInt32 >>> ((1 : Int32) &&& 31).toUInt32).toInt32)))])) (fun _ k => XS.iadd X0.here hx rfl (hb hby own_d_jdk_33_method_48_code_78) rfl k) ?_
            exact own_ret X0 hx hlk hret rfl (Or.inl ⟨rfl, Or.inl rfl, _, rfl⟩) (hb hby own_d_jdk_33_method_48_code_79) (by decide) (by decide) ⟨⟨_, rfl⟩, rfl, e0⟩
          ·
            refine own_st (T' := T0) (g' := (mkF m 74 #[.val (.int ((x ^^^ (-1 : Int32)) &&& (x - (1 : Int32)))), .val (.int (1 : Int32))] [])) (fun _ k => XS.icmpYes X0.here hx rfl (pc0 := 64) (pc' := 74) rfl (hb hby own_d_jdk_33_method_48_code_64) rfl (flt hc64_16).2.2.2 (by decide) (by decide) k) ?_
            refine own_st (T' := T0) (g' := (mkF m 75 #[.val (.int ((x ^^^ (-1 : Int32)) &&& (x - (1 : Int32)))), .val (.int (1 : Int32))] [(.int (1 : Int32))])) (fun _ k => XS.iloadN X0.here hx rfl (hb hby own_d_jdk_33_method_48_code_74) rfl k) ?_
            refine own_st (T' := T0) (g' := (mkF m 76 #[.val (.int ((x ^^^ (-1 : Int32)) &&& (x - (1 : Int32)))), .val (.int (1 : Int32))] [(.int ((x ^^^ (-1 : Int32)) &&& (x - (1 : Int32)))), (.int (1 : Int32))])) (fun _ k => XS.iloadN X0.here hx rfl (hb hby own_d_jdk_33_method_48_code_75) rfl k) ?_
            refine own_st (T' := T0) (g' := (mkF m 77 #[.val (.int ((x ^^^ (-1 : Int32)) &&& (x - (1 : Int32)))), .val (.int (1 : Int32))] [(.int (1 : Int32)), (.int ((x ^^^ (-1 : Int32)) &&& (x - (1 : Int32)))), (.int (1 : Int32))])) (fun _ k => XS.iconst X0.here hx rfl (hb hby own_d_jdk_33_method_48_code_76) k) ?_
            refine own_st (T' := T0) (g' := (mkF m 78 #[.val (.int ((x ^^^ (-1 : Int32)) &&& (x - (1 : Int32)))), .val (.int (1 : Int32))] [(.int ((((x ^^^ (-1 : Int32)) &&& (x - (1 : Int32))).toUInt32 >>> ((1 : Int32) &&& 31).toUInt32).toInt32)), (.int (1 : Int32))])) (fun _ k => XS.iushr X0.here hx rfl (hb hby own_d_jdk_33_method_48_code_77) rfl k) ?_
            refine own_st (T' := T0) (g' := (mkF m 79 #[.val (.int ((x ^^^ (-1 : Int32)) &&& (x - (1 : Int32)))), .val (.int (1 : Int32))] [(.int ((1 : Int32) + ((((x ^^^ (-1 : Int32)) &&& (x - (1 : Int32))).toUInt32 >>> ((1 : Int32) &&& 31).toUInt32).toInt32)))])) (fun _ k => XS.iadd X0.here hx rfl (hb hby own_d_jdk_33_method_48_code_78) rfl k) ?_
            exact own_ret X0 hx hlk hret rfl (Or.inl ⟨rfl, Or.inl rfl, _, rfl⟩) (hb hby own_d_jdk_33_method_48_code_79) (by decide) (by decide) ⟨⟨_, rfl⟩, rfl, e0⟩
  ·
    refine own_st (T' := T0) (g' := (mkF m 12 #[.val (.int ((x ^^^ (-1 : Int32)) &&& (x - (1 : Int32)))), .unset] [])) (fun _ k => XS.ifNo X0.here hx rfl (hb hby own_d_jdk_33_method_48_code_9) rfl ((if0 _ _).trans (flt hc9_1).2.2.1) k) ?_
    refine own_st (T' := T0) (g' := (mkF m 13 #[.val (.int ((x ^^^ (-1 : Int32)) &&& (x - (1 : Int32)))), .unset] [(.int ((x ^^^ (-1 : Int32)) &&& (x - (1 : Int32))))])) (fun _ k => XS.iloadN X0.here hx rfl (hb hby own_d_jdk_33_method_48_code_12) rfl k) ?_
    refine own_st (T' := T0) (g' := (mkF m 15 #[.val (.int ((x ^^^ (-1 : Int32)) &&& (x - (1 : Int32)))), .unset] [(.int (32 : Int32)), (.int ((x ^^^ (-1 : Int32)) &&& (x - (1 : Int32))))])) (fun _ k => XS.bipush X0.here hx rfl (hb hby own_d_jdk_33_method_48_code_13) k) ?_
    refine own_st (T' := T0) (g' := (mkF m 16 #[.val (.int ((x ^^^ (-1 : Int32)) &&& (x - (1 : Int32)))), .unset] [(.int (((x ^^^ (-1 : Int32)) &&& (x - (1 : Int32))) &&& (32 : Int32)))])) (fun _ k => XS.iand X0.here hx rfl (hb hby own_d_jdk_33_method_48_code_15) rfl k) ?_
    exact own_ret X0 hx hlk hret rfl (Or.inl ⟨rfl, Or.inl rfl, _, rfl⟩) (hb hby own_d_jdk_33_method_48_code_16) (by decide) (by decide) ⟨⟨_, rfl⟩, rfl, e0⟩
set_option maxRecDepth 65536 in
set_option maxHeartbeats 40000000 in
theorem own_ltz (l : Launch) (Z : State) (a0 : Array Value) (hw : ∀ d ∈ tables_1, d.before a0 Z = true) (h0 : Heap) (x : Int64) :
    own_Met l Z h0 [] ({ frames := 1, cells := 0, slots := 0, locals := 14 } : Room) (⟨"java/lang/Long", "numberOfTrailingZeros", "(J)I"⟩ : MethodName) jdk_35_method_49_code 3 (some .int) #[(.long x)] (fun v h L => (∃ z : Int32, v = some (.int z)) ∧ L = [] ∧ h = h0) := by
  refine own_body (plainFor_of_name own_pn_1) ?_
  intro p e s m below meth c T0 X0 hx hby hml hown hZ e0 hret hlk hnm hnamed
  replace hown : s.vm.findClass "java/lang/Long" = some m.cls := hown
  replace hml : c.maxLocals = 3 := hml
  have ef : entryFrame m #[(.long x)] 3 = mkF m 0 #[.val (.long x), .second, .unset] [] := by first | (simp [entryFrame, mkF, argsToLocals, Value.category]; done) | rfl
  rw [ef]
  refine own_st (T' := T0) (g' := (mkF m 1 #[.val (.long x), .second, .unset] [(.long x)])) (fun _ k => XS.lloadN X0.here hx rfl (hb hby own_d_jdk_35_method_49_code_0) rfl k) ?_
  refine own_st (T' := T0) (g' := (mkF m 2 #[.val (.long x), .second, .unset] [(.int (x.toInt32))])) (fun _ k => XS.l2i X0.here hx rfl (hb hby own_d_jdk_35_method_49_code_1) rfl k) ?_
  refine own_st (T' := T0) (g' := (mkF m 3 #[.val (.long x), .second, .val (.int (x.toInt32))] [])) (fun _ k => XS.istoreN X0.here hx rfl (hb hby own_d_jdk_35_method_49_code_2) rfl (l' := #[.val (.long x), .second, .val (.int (x.toInt32))]) rfl k) ?_
  refine own_st (T' := T0) (g' := (mkF m 4 #[.val (.long x), .second, .val (.int (x.toInt32))] [(.int (x.toInt32))])) (fun _ k => XS.iloadN X0.here hx rfl (hb hby own_d_jdk_35_method_49_code_3) rfl k) ?_
  by_cases hc4_1 : (x.toInt32) = (0 : Int32)
  ·
    refine own_st (T' := T0) (g' := (mkF m 7 #[.val (.long x), .second, .val (.int (x.toInt32))] [])) (fun _ k => XS.ifNo X0.here hx rfl (hb hby own_d_jdk_35_method_49_code_4) rfl ((if0 _ _).trans (teq hc4_1).2) k) ?_
    refine own_st (T' := T0) (g' := (mkF m 9 #[.val (.long x), .second, .val (.int (x.toInt32))] [(.int (32 : Int32))])) (fun _ k => XS.bipush X0.here hx rfl (hb hby own_d_jdk_35_method_49_code_7) k) ?_
    refine own_st (T' := T0) (g' := (mkF m 10 #[.val (.long x), .second, .val (.int (x.toInt32))] [(.long x), (.int (32 : Int32))])) (fun _ k => XS.lloadN X0.here hx rfl (hb hby own_d_jdk_35_method_49_code_9) rfl k) ?_
    refine own_st (T' := T0) (g' := (mkF m 12 #[.val (.long x), .second, .val (.int (x.toInt32))] [(.int (32 : Int32)), (.long x), (.int (32 : Int32))])) (fun _ k => XS.bipush X0.here hx rfl (hb hby own_d_jdk_35_method_49_code_10) k) ?_
    refine own_st (T' := T0) (g' := (mkF m 13 #[.val (.long x), .second, .val (.int (x.toInt32))] [(.long ((x.toUInt64 >>> ((32 : Int32) &&& 0x3f).toInt64.toUInt64).toInt64)), (.int (32 : Int32))])) (fun _ k => XS.lushr X0.here hx rfl (hb hby own_d_jdk_35_method_49_code_12) rfl k) ?_
    refine own_st (T' := T0) (g' := (mkF m 14 #[.val (.long x), .second, .val (.int (x.toInt32))] [(.int (((x.toUInt64 >>> ((32 : Int32) &&& 0x3f).toInt64.toUInt64).toInt64).toInt32)), (.int (32 : Int32))])) (fun _ k => XS.l2i X0.here hx rfl (hb hby own_d_jdk_35_method_49_code_13) rfl k) ?_
    obtain ⟨v2, T2, L2, X2, ⟨⟨z2, rfl⟩, rfl, e2⟩, st2⟩ := own_gS X0 hx hZ hown (hw _ (List.mem_of_getElem? (i := 40) rfl)) (hw _ (List.mem_of_getElem? (i := 41) rfl)) (hw _ (List.mem_of_getElem? (i := 42) rfl)) (hw _ (List.mem_of_getElem? (i := 43) rfl)) (by decide) e0 (own_itz l Z a0 hw h0 (((x.toUInt64 >>> ((32 : Int32) &&& 0x3f).toInt64.toUInt64).toInt64).toInt32)) (by decide) (by decide) (by decide) (by decide) (Q := (fun v h L => (∃ z : Int32, v = some (.int z)) ∧ L = [] ∧ h = h0)) (W := 1) (g := (mkF m 14 #[.val (.long x), .second, .val (.int (x.toInt32))] [(.int (((x.toUInt64 >>> ((32 : Int32) &&& 0x3f).toInt64.toUInt64).toInt64).toInt32)), (.int (32 : Int32))])) (argsL := [(.int (((x.toUInt64 >>> ((32 : Int32) &&& 0x3f).toInt64.toUInt64).toInt64).toInt32))]) (rest := [(.int (32 : Int32))]) rfl (by rw [hml]; rfl) (lenOf own_pd_0 rfl) rfl (by show 2 * 0 + _ ≤ _; exact Nat.le_of_eq rfl) (hb hby own_d_jdk_35_method_49_code_14)
    rw [List.append_nil] at X2
    refine own_st (T' := T2) (g' := (mkF m 17 #[.val (.long x), .second, .val (.int (x.toInt32))] [(.int z2), (.int (32 : Int32))])) st2 ?_
    refine own_st (T' := T2) (g' := (mkF m 18 #[.val (.long x), .second, .val (.int (x.toInt32))] [(.int ((32 : Int32) + z2))])) (fun _ k => XS.iadd X2.here hx rfl (hb hby own_d_jdk_35_method_49_code_17) rfl k) ?_
    refine own_st (T' := T2) (g' := (mkF m 25 #[.val (.long x), .second, .val (.int (x.toInt32))] [(.int ((32 : Int32) + z2))])) (fun _ k => XS.goto X2.here hx rfl (pc0 := 18) (pc' := 25) rfl (hb hby own_d_jdk_35_method_49_code_18) (by decide) (by decide) k) ?_
    exact own_ret X2 hx hlk hret rfl (Or.inl ⟨rfl, Or.inl rfl, _, rfl⟩) (hb hby own_d_jdk_35_method_49_code_25) (by decide) (by decide) ⟨⟨_, rfl⟩, rfl, e2⟩
  ·
    refine own_st (T' := T0) (g' := (mkF m 21 #[.val (.long x), .second, .val (.int (x.toInt32))] [])) (fun _ k => XS.ifYes X0.here hx rfl (pc0 := 4) (pc' := 21) rfl (hb hby own_d_jdk_35_method_49_code_4) rfl ((if0 _ _).trans (feq hc4_1).2) (by decide) (by decide) k) ?_
    refine own_st (T' := T0) (g' := (mkF m 22 #[.val (.long x), .second, .val (.int (x.toInt32))] [(.int (x.toInt32))])) (fun _ k => XS.iloadN X0.here hx rfl (hb hby own_d_jdk_35_method_49_code_21) rfl k) ?_
    obtain ⟨v3, T3, L3, X3, ⟨⟨z3, rfl⟩, rfl, e3⟩, st3⟩ := own_gS X0 hx hZ hown (hw _ (List.mem_of_getElem? (i := 40) rfl)) (hw _ (List.mem_of_getElem? (i := 41) rfl)) (hw _ (List.mem_of_getElem? (i := 42) rfl)) (hw _ (List.mem_of_getElem? (i := 43) rfl)) (by decide) e0 (own_itz l Z a0 hw h0 (x.toInt32)) (by decide) (by decide) (by decide) (by decide) (Q := (fun v h L => (∃ z : Int32, v = some (.int z)) ∧ L = [] ∧ h = h0)) (W := 0) (g := (mkF m 22 #[.val (.long x), .second, .val (.int (x.toInt32))] [(.int (x.toInt32))])) (argsL := [(.int (x.toInt32))]) (rest := []) rfl (by rw [hml]; rfl) (lenOf own_pd_0 rfl) rfl (by show 2 * 0 + _ ≤ _; exact Nat.le_of_eq rfl) (hb hby own_d_jdk_35_method_49_code_22)
    rw [List.append_nil] at X3
    refine own_st (T' := T3) (g' := (mkF m 25 #[.val (.long x), .second, .val (.int (x.toInt32))] [(.int z3)])) st3 ?_
    exact own_ret X3 hx hlk hret rfl (Or.inl ⟨rfl, Or.inl rfl, _, rfl⟩) (hb hby own_d_jdk_35_method_49_code_25) (by decide) (by decide) ⟨⟨_, rfl⟩, rfl, e3⟩
set_option maxRecDepth 65536 in
set_option maxHeartbeats 40000000 in
theorem own_lcp (l : Launch) (Z : State) (a0 : Array Value) (hw : ∀ d ∈ tables_1, d.before a0 Z = true) (h0 : Heap) (x x' : Int64) :
    own_Met l Z h0 [] ({ frames := 0, cells := 0, slots := 0, locals := 0 } : Room) (⟨"java/lang/Long", "compare", "(JJ)I"⟩ : MethodName) jdk_35_method_42_code 4 (some .int) #[(.long x), (.long x')] (fun v h L => (∃ z : Int32, v = some (.int z)) ∧ L = [] ∧ h = h0) := by
  refine own_body (plainFor_of_name own_pn_1) ?_
  intro p e s m below meth c T0 X0 hx hby hml hown hZ e0 hret hlk hnm hnamed
  replace hown : s.vm.findClass "java/lang/Long" = some m.cls := hown
  replace hml : c.maxLocals = 4 := hml
  have ef : entryFrame m #[(.long x), (.long x')] 4 = mkF m 0 #[.val (.long x), .second, .val (.long x'), .second] [] := by first | (simp [entryFrame, mkF, argsToLocals, Value.category]; done) | rfl
  rw [ef]
  refine own_st (T' := T0) (g' := (mkF m 1 #[.val (.long x), .second, .val (.long x'), .second] [(.long x)])) (fun _ k => XS.lloadN X0.here hx rfl (hb hby own_d_jdk_35_method_42_code_0) rfl k) ?_
  refine own_st (T' := T0) (g' := (mkF m 2 #[.val (.long x), .second, .val (.long x'), .second] [(.long x'), (.long x)])) (fun _ k => XS.lloadN X0.here hx rfl (hb hby own_d_jdk_35_method_42_code_1) rfl k) ?_
  refine own_st (T' := T0) (g' := (mkF m 3 #[.val (.long x), .second, .val (.long x'), .second] [(.int (lcmpW x x'))])) (fun _ k => XS.lcmp X0.here hx rfl (hb hby own_d_jdk_35_method_42_code_2) rfl k) ?_
  by_cases hc3_1 : (lcmpW x x') < (0 : Int32)
  ·
    refine own_st (T' := T0) (g' := (mkF m 6 #[.val (.long x), .second, .val (.long x'), .second] [])) (fun _ k => XS.ifNo X0.here hx rfl (hb hby own_d_jdk_35_method_42_code_3) rfl ((if0 _ _).trans (tlt hc3_1).2.1) k) ?_
    refine own_st (T' := T0) (g' := (mkF m 7 #[.val (.long x), .second, .val (.long x'), .second] [(.int (-1 : Int32))])) (fun _ k => XS.iconst X0.here hx rfl (hb hby own_d_jdk_35_method_42_code_6) k) ?_
    refine own_st (T' := T0) (g' := (mkF m 21 #[.val (.long x), .second, .val (.long x'), .second] [(.int (-1 : Int32))])) (fun _ k => XS.goto X0.here hx rfl (pc0 := 7) (pc' := 21) rfl (hb hby own_d_jdk_35_method_42_code_7) (by decide) (by decide) k) ?_
    exact own_ret X0 hx hlk hret rfl (Or.inl ⟨rfl, Or.inl rfl, _, rfl⟩) (hb hby own_d_jdk_35_method_42_code_21) (by decide) (by decide) ⟨⟨_, rfl⟩, rfl, e0⟩
  ·
    refine own_st (T' := T0) (g' := (mkF m 10 #[.val (.long x), .second, .val (.long x'), .second] [])) (fun _ k => XS.ifYes X0.here hx rfl (pc0 := 3) (pc' := 10) rfl (hb hby own_d_jdk_35_method_42_code_3) rfl ((if0 _ _).trans (flt hc3_1).2.1) (by decide) (by decide) k) ?_
    refine own_st (T' := T0) (g' := (mkF m 11 #[.val (.long x), .second, .val (.long x'), .second] [(.long x)])) (fun _ k => XS.lloadN X0.here hx rfl (hb hby own_d_jdk_35_method_42_code_10) rfl k) ?_
    refine own_st (T' := T0) (g' := (mkF m 12 #[.val (.long x), .second, .val (.long x'), .second] [(.long x'), (.long x)])) (fun _ k => XS.lloadN X0.here hx rfl (hb hby own_d_jdk_35_method_42_code_11) rfl k) ?_
    refine own_st (T' := T0) (g' := (mkF m 13 #[.val (.long x), .second, .val (.long x'), .second] [(.int (lcmpW x x'))])) (fun _ k => XS.lcmp X0.here hx rfl (hb hby own_d_jdk_35_method_42_code_12) rfl k) ?_
    by_cases hc13_2 : (lcmpW x x') = (0 : Int32)
    ·
      refine own_st (T' := T0) (g' := (mkF m 16 #[.val (.long x), .second, .val (.long x'), .second] [])) (fun _ k => XS.ifNo X0.here hx rfl (hb hby own_d_jdk_35_method_42_code_13) rfl ((if0 _ _).trans (teq hc13_2).2) k) ?_
      refine own_st (T' := T0) (g' := (mkF m 17 #[.val (.long x), .second, .val (.long x'), .second] [(.int (0 : Int32))])) (fun _ k => XS.iconst X0.here hx rfl (hb hby own_d_jdk_35_method_42_code_16) k) ?_
      refine own_st (T' := T0) (g' := (mkF m 21 #[.val (.long x), .second, .val (.long x'), .second] [(.int (0 : Int32))])) (fun _ k => XS.goto X0.here hx rfl (pc0 := 17) (pc' := 21) rfl (hb hby own_d_jdk_35_method_42_code_17) (by decide) (by decide) k) ?_
      exact own_ret X0 hx hlk hret rfl (Or.inl ⟨rfl, Or.inl rfl, _, rfl⟩) (hb hby own_d_jdk_35_method_42_code_21) (by decide) (by decide) ⟨⟨_, rfl⟩, rfl, e0⟩
    ·
      refine own_st (T' := T0) (g' := (mkF m 20 #[.val (.long x), .second, .val (.long x'), .second] [])) (fun _ k => XS.ifYes X0.here hx rfl (pc0 := 13) (pc' := 20) rfl (hb hby own_d_jdk_35_method_42_code_13) rfl ((if0 _ _).trans (feq hc13_2).2) (by decide) (by decide) k) ?_
      refine own_st (T' := T0) (g' := (mkF m 21 #[.val (.long x), .second, .val (.long x'), .second] [(.int (1 : Int32))])) (fun _ k => XS.iconst X0.here hx rfl (hb hby own_d_jdk_35_method_42_code_20) k) ?_
      exact own_ret X0 hx hlk hret rfl (Or.inl ⟨rfl, Or.inl rfl, _, rfl⟩) (hb hby own_d_jdk_35_method_42_code_21) (by decide) (by decide) ⟨⟨_, rfl⟩, rfl, e0⟩
set_option maxRecDepth 65536 in
set_option maxHeartbeats 40000000 in
theorem own_rnn (l : Launch) (Z : State) (a0 : Array Value) (hw : ∀ d ∈ tables_1, d.before a0 Z = true) (h0 : Heap) (y0 y1 : Addr) :
    own_Pure l Z h0 [] ({ frames := 0, cells := 0, slots := 0, locals := 0 } : Room) (⟨"java/util/Objects", "requireNonNull", "(Ljava/lang/Object;Ljava/lang/String;)Ljava/lang/Object;"⟩ : MethodName) jdk_31_method_11_code 2 (some (.object "java/lang/Object")) #[(.ref y0), (.ref y1)] (some (.ref y0)) := by
  refine own_body (plainFor_of_name own_pn_2) ?_
  intro p e s m below meth c T0 X0 hx hby hml hown hZ e0 hret hlk hnm hnamed
  replace hown : s.vm.findClass "java/util/Objects" = some m.cls := hown
  replace hml : c.maxLocals = 2 := hml
  have ef : entryFrame m #[(.ref y0), (.ref y1)] 2 = mkF m 0 #[.val (.ref y0), .val (.ref y1)] [] := by first | (simp [entryFrame, mkF, argsToLocals, Value.category]; done) | rfl
  rw [ef]
  refine own_st (T' := T0) (g' := (mkF m 1 #[.val (.ref y0), .val (.ref y1)] [(.ref y0)])) (fun _ k => XS.aloadN X0.here hx rfl (hb hby own_d_jdk_31_method_11_code_0) rfl rfl k) ?_
  refine own_st (T' := T0) (g' := (mkF m 13 #[.val (.ref y0), .val (.ref y1)] [])) (fun _ k => XS.ifnonnullYes X0.here hx rfl (pc0 := 1) (pc' := 13) rfl (hb hby own_d_jdk_31_method_11_code_1) rfl (by decide) (by decide) k) ?_
  refine own_st (T' := T0) (g' := (mkF m 14 #[.val (.ref y0), .val (.ref y1)] [(.ref y0)])) (fun _ k => XS.aloadN X0.here hx rfl (hb hby own_d_jdk_31_method_11_code_13) rfl rfl k) ?_
  exact own_ret X0 hx hlk hret rfl (Or.inr (Or.inr (Or.inr (Or.inr ⟨rfl, rfl, rfl⟩)))) (hb hby own_d_jdk_31_method_11_code_14) (by decide) (by decide) ⟨rfl, rfl, e0⟩
set_option maxRecDepth 65536 in
set_option maxHeartbeats 40000000 in
theorem own_abs_0 (l : Launch) (Z : State) (a0 : Array Value) (hw : ∀ d ∈ tables_1, d.before a0 Z = true) (h0 : Heap) (a_SM : Addr) (cl_SM : Cell) (a_FLOOR : Addr) (a_CEILING : Addr) (hE : own_E Z h0 a_SM cl_SM a_FLOOR a_CEILING) (r : Int64) (hr0 : ¬ ((lcmpW r (0 : Int64)) = (0 : Int32))) (hrl : (lcmpW r (0 : Int64)) < (0 : Int32)) :
    own_Pure l Z h0 [] ({ frames := 0, cells := 0, slots := 0, locals := 0 } : Room) (⟨"java/lang/Math", "abs", "(J)J"⟩ : MethodName) jdk_29_method_61_code 2 (some .long) #[(.long r)] (some (.long ((-r)))) := by
  refine own_body (Jvm.Free.JP.mathPlain rfl (by decide +kernel)) ?_
  intro p e s m below meth c T0 X0 hx hby hml hown hZ e0 hret hlk hnm hnamed
  replace hown : s.vm.findClass "java/lang/Math" = some m.cls := hown
  replace hml : c.maxLocals = 2 := hml
  have ef : entryFrame m #[(.long r)] 2 = mkF m 0 #[.val (.long r), .second] [] := by first | (simp [entryFrame, mkF, argsToLocals, Value.category]; done) | rfl
  rw [ef]
  refine own_st (T' := T0) (g' := (mkF m 1 #[.val (.long r), .second] [(.long r)])) (fun _ k => XS.lloadN X0.here hx rfl (hb hby own_d_jdk_29_method_61_code_0) rfl k) ?_
  refine own_st (T' := T0) (g' := (mkF m 2 #[.val (.long r), .second] [(.long (0 : Int64)), (.long r)])) (fun _ k => XS.lconst X0.here hx rfl (hb hby own_d_jdk_29_method_61_code_1) k) ?_
  refine own_st (T' := T0) (g' := (mkF m 3 #[.val (.long r), .second] [(.int (lcmpW r (0 : Int64)))])) (fun _ k => XS.lcmp X0.here hx rfl (hb hby own_d_jdk_29_method_61_code_2) rfl k) ?_
  refine own_st (T' := T0) (g' := (mkF m 6 #[.val (.long r), .second] [])) (fun _ k => XS.ifNo X0.here hx rfl (hb hby own_d_jdk_29_method_61_code_3) rfl ((if0 _ _).trans (tlt hrl).2.1) k) ?_
  refine own_st (T' := T0) (g' := (mkF m 7 #[.val (.long r), .second] [(.long r)])) (fun _ k => XS.lloadN X0.here hx rfl (hb hby own_d_jdk_29_method_61_code_6) rfl k) ?_
  refine own_st (T' := T0) (g' := (mkF m 8 #[.val (.long r), .second] [(.long ((-r)))])) (fun _ k => XS.lneg X0.here hx rfl (hb hby own_d_jdk_29_method_61_code_7) rfl k) ?_
  refine own_st (T' := T0) (g' := (mkF m 12 #[.val (.long r), .second] [(.long ((-r)))])) (fun _ k => XS.goto X0.here hx rfl (pc0 := 8) (pc' := 12) rfl (hb hby own_d_jdk_29_method_61_code_8) (by decide) (by decide) k) ?_
  exact own_ret X0 hx hlk hret rfl (Or.inr (Or.inl ⟨rfl, rfl, _, rfl⟩)) (hb hby own_d_jdk_29_method_61_code_12) (by decide) (by decide) ⟨rfl, rfl, e0⟩
set_option maxRecDepth 65536 in
set_option maxHeartbeats 40000000 in
theorem own_abs_1 (l : Launch) (Z : State) (a0 : Array Value) (hw : ∀ d ∈ tables_1, d.before a0 Z = true) (h0 : Heap) (a_SM : Addr) (cl_SM : Cell) (a_FLOOR : Addr) (a_CEILING : Addr) (hE : own_E Z h0 a_SM cl_SM a_FLOOR a_CEILING) (D : Int64) (r : Int64) (hDz : ¬ ((lcmpW D (0 : Int64)) = (0 : Int32))) (hr0 : ¬ ((lcmpW r (0 : Int64)) = (0 : Int32))) (hrl : (lcmpW r (0 : Int64)) < (0 : Int32)) (hxl : (lcmpW (r ^^^ D) (0 : Int64)) < (0 : Int32)) (hal : ¬ ((lcmpW (r + D) (0 : Int64)) < (0 : Int32))) :
    own_Pure l Z h0 [] ({ frames := 0, cells := 0, slots := 0, locals := 0 } : Room) (⟨"java/lang/Math", "abs", "(J)J"⟩ : MethodName) jdk_29_method_61_code 2 (some .long) #[(.long (r + D))] (some (.long (r + D))) := by
  refine own_body (Jvm.Free.JP.mathPlain rfl (by decide +kernel)) ?_
  intro p e s m below meth c T0 X0 hx hby hml hown hZ e0 hret hlk hnm hnamed
  replace hown : s.vm.findClass "java/lang/Math" = some m.cls := hown
  replace hml : c.maxLocals = 2 := hml
  have ef : entryFrame m #[(.long (r + D))] 2 = mkF m 0 #[.val (.long (r + D)), .second] [] := by first | (simp [entryFrame, mkF, argsToLocals, Value.category]; done) | rfl
  rw [ef]
  refine own_st (T' := T0) (g' := (mkF m 1 #[.val (.long (r + D)), .second] [(.long (r + D))])) (fun _ k => XS.lloadN X0.here hx rfl (hb hby own_d_jdk_29_method_61_code_0) rfl k) ?_
  refine own_st (T' := T0) (g' := (mkF m 2 #[.val (.long (r + D)), .second] [(.long (0 : Int64)), (.long (r + D))])) (fun _ k => XS.lconst X0.here hx rfl (hb hby own_d_jdk_29_method_61_code_1) k) ?_
  refine own_st (T' := T0) (g' := (mkF m 3 #[.val (.long (r + D)), .second] [(.int (lcmpW (r + D) (0 : Int64)))])) (fun _ k => XS.lcmp X0.here hx rfl (hb hby own_d_jdk_29_method_61_code_2) rfl k) ?_
  refine own_st (T' := T0) (g' := (mkF m 11 #[.val (.long (r + D)), .second] [])) (fun _ k => XS.ifYes X0.here hx rfl (pc0 := 3) (pc' := 11) rfl (hb hby own_d_jdk_29_method_61_code_3) rfl ((if0 _ _).trans (flt hal).2.1) (by decide) (by decide) k) ?_
  refine own_st (T' := T0) (g' := (mkF m 12 #[.val (.long (r + D)), .second] [(.long (r + D))])) (fun _ k => XS.lloadN X0.here hx rfl (hb hby own_d_jdk_29_method_61_code_11) rfl k) ?_
  exact own_ret X0 hx hlk hret rfl (Or.inr (Or.inl ⟨rfl, rfl, _, rfl⟩)) (hb hby own_d_jdk_29_method_61_code_12) (by decide) (by decide) ⟨rfl, rfl, e0⟩
set_option maxRecDepth 65536 in
set_option maxHeartbeats 40000000 in
theorem own_ordinal_2 (l : Launch) (Z : State) (a0 : Array Value) (hw : ∀ d ∈ tables_1, d.before a0 Z = true) (h0 : Heap) (a_SM : Addr) (cl_SM : Cell) (a_FLOOR : Addr) (a_CEILING : Addr) (hE : own_E Z h0 a_SM cl_SM a_FLOOR a_CEILING) :
    own_Pure l Z h0 [] ({ frames := 0, cells := 0, slots := 0, locals := 0 } : Room) (⟨"java/lang/Enum", "ordinal", "()I"⟩ : MethodName) jdk_37_method_2_code 1 (some .int) #[(.ref a_FLOOR)] (some (.int (3 : Int32))) := by
  refine own_body (plainFor_of_name own_pn_3) ?_
  intro p e s m below meth c T0 X0 hx hby hml hown hZ e0 hret hlk hnm hnamed
  replace hown : s.vm.findClass "java/lang/Enum" = some m.cls := hown
  replace hml : c.maxLocals = 1 := hml
  have ef : entryFrame m #[(.ref a_FLOOR)] 1 = mkF m 0 #[.val (.ref a_FLOOR)] [] := by first | (simp [entryFrame, mkF, argsToLocals, Value.category]; done) | rfl
  rw [ef]
  have F_FLOOR_ordinal := own_p_F_FLOOR_ordinal hE
  refine own_st (T' := T0) (g' := (mkF m 1 #[.val (.ref a_FLOOR)] [(.ref a_FLOOR)])) (fun _ k => XS.aloadN X0.here hx rfl (hb hby own_d_jdk_37_method_2_code_0) rfl rfl k) ?_
  obtain ⟨T1, X1, e1, st1⟩ := getF X0 hx hZ hown (host := "") (Or.inl (hw _ (List.mem_of_getElem? (i := 57) rfl))) Via.refl e0 F_FLOOR_ordinal (g := (mkF m 1 #[.val (.ref a_FLOOR)] [(.ref a_FLOOR)])) rfl rfl (hb hby own_d_jdk_37_method_2_code_1)
  refine own_st (T' := T1) (g' := (mkF m 4 #[.val (.ref a_FLOOR)] [(.int (3 : Int32))])) st1 ?_
  exact own_ret X1 hx hlk hret rfl (Or.inl ⟨rfl, Or.inl rfl, _, rfl⟩) (hb hby own_d_jdk_37_method_2_code_4) (by decide) (by decide) ⟨rfl, rfl, e1⟩
set_option maxRecDepth 65536 in
set_option maxHeartbeats 40000000 in
theorem own_stepsAway_2 (l : Launch) (Z : State) (a0 : Array Value) (hw : ∀ d ∈ tables_1, d.before a0 Z = true) (h0 : Heap) (a_SM : Addr) (cl_SM : Cell) (a_FLOOR : Addr) (a_CEILING : Addr) (hE : own_E Z h0 a_SM cl_SM a_FLOOR a_CEILING) (c13 : Int32) :
    own_Pure l Z h0 [] ({ frames := 1, cells := 0, slots := 0, locals := 13 } : Room) (⟨"com/example/residuum/residuum/QuotientRounding", "stepsAway", "(Ljava/math/RoundingMode;ZIZ)Z"⟩ : MethodName) prog_7_method_2_code 5 (some .boolean) #[(.ref a_FLOOR), (.int (1 : Int32)), (.int z5), (.int c13)] (some (.int (1 : Int32))) := by
  refine own_body (plainFor_of_name own_pn_4) ?_
  intro p e s m below meth c T0 X0 hx hby hml hown hZ e0 hret hlk hnm hnamed
  replace hown : s.vm.findClass "com/example/residuum/residuum/QuotientRounding" = some m.cls := hown
  replace hml : c.maxLocals = 5 := hml
  have ef : entryFrame m #[(.ref a_FLOOR), (.int (1 : Int32)), (.int z5), (.int c13)] 5 = mkF m 0 #[.val (.ref a_FLOOR), .val (.int (1 : Int32)), .val (.int z5), .val (.int c13), .unset] [] := by first | (simp [entryFrame, mkF, argsToLocals, Value.category]; done) | rfl
  rw [ef]
  have S_SM := own_p_S_SM hE
  have A_SM := own_p_A_SM hE
  have Z_SM := own_p_Z_SM hE
  have Y_SM_3 := own_p_Y_SM_3 hE
  have E_FLOOR := own_p_E_FLOOR hE
  obtain ⟨T1, X1, e1, st1⟩ := getS2 X0 hx hZ hown (host := "") (Or.inl (hw _ (List.mem_of_getElem? (i := 47) rfl))) Via.refl e0 S_SM (g := (mkF m 0 #[.val (.ref a_FLOOR), .val (.int (1 : Int32)), .val (.int z5), .val (.int c13), .unset] [])) rfl (hb hby own_d_prog_7_method_2_code_0)
  refine own_st (T' := T1) (g' := (mkF m 3 #[.val (.ref a_FLOOR), .val (.int (1 : Int32)), .val (.int z5), .val (.int c13), .unset] [(.ref a_SM)])) st1 ?_
  refine own_st (T' := T1) (g' := (mkF m 4 #[.val (.ref a_FLOOR), .val (.int (1 : Int32)), .val (.int z5), .val (.int c13), .unset] [(.ref a_FLOOR), (.ref a_SM)])) (fun _ k => XS.aloadN X1.here hx rfl (hb hby own_d_prog_7_method_2_code_3) rfl rfl k) ?_
  obtain ⟨T2, X2, e2, st2⟩ := own_pure (w := (.int (3 : Int32))) rfl rfl (own_gVU X1 hx hZ hown (hw _ (List.mem_of_getElem? (i := 50) rfl)) (hw _ (List.mem_of_getElem? (i := 51) rfl)) (hw _ (List.mem_of_getElem? (i := 52) rfl)) (by decide) (hw _ (List.mem_of_getElem? (i := 54) rfl)) (hw _ (List.mem_of_getElem? (i := 53) rfl)) (hw _ (List.mem_of_getElem? (i := 55) rfl)) (hw _ (List.mem_of_getElem? (i := 56) rfl)) e1 E_FLOOR (own_ordinal_2 l Z a0 hw h0 a_SM cl_SM a_FLOOR a_CEILING hE) (by decide) (by decide) (by decide) (by decide) (Q := fun v h L => v = some (.int (3 : Int32)) ∧ L = [] ∧ h = h0) (W := 1) (g := (mkF m 4 #[.val (.ref a_FLOOR), .val (.int (1 : Int32)), .val (.int z5), .val (.int c13), .unset] [(.ref a_FLOOR), (.ref a_SM)])) (argsL := []) (rest := [(.ref a_SM)]) rfl (by rw [hml]; rfl) (lenOf own_pd_5 rfl) rfl (by show 2 * 0 + _ ≤ _; exact Nat.le_of_eq rfl) (hb hby own_d_prog_7_method_2_code_4))
  refine own_st (T' := T2) (g' := (mkF m 7 #[.val (.ref a_FLOOR), .val (.int (1 : Int32)), .val (.int z5), .val (.int c13), .unset] [(.int (3 : Int32)), (.ref a_SM)])) st2 ?_
  refine own_st (T' := T2) (g' := (mkF m 8 #[.val (.ref a_FLOOR), .val (.int (1 : Int32)), .val (.int z5), .val (.int c13), .unset] [(.int (4 : Int32))])) (fun _ k => X2.iaload hx (j := (3 : Int32)) (v := (.int (4 : Int32))) (own_he e2 A_SM.1) (State.isArrayOf_alike hZ.alike A_SM.2.1) A_SM.2.2 (inb_of Z_SM ⟨by decide, by decide⟩) Y_SM_3 (g := (mkF m 7 #[.val (.ref a_FLOOR), .val (.int (1 : Int32)), .val (.int z5), .val (.int c13), .unset] [(.int (3 : Int32)), (.ref a_SM)])) rfl rfl (hb hby own_d_prog_7_method_2_code_7) _ k) ?_
  refine own_st (T' := T2) (g' := (mkF m 86 #[.val (.ref a_FLOOR), .val (.int (1 : Int32)), .val (.int z5), .val (.int c13), .unset] [])) (fun _ k => XS.tswIn X2.here hx rfl (pc0 := 8) (pc' := 86) rfl (hb hby own_d_prog_7_method_2_code_8) rfl (by decide) rfl (by decide) (by decide) k) ?_
  refine own_st (T' := T2) (g' := (mkF m 87 #[.val (.ref a_FLOOR), .val (.int (1 : Int32)), .val (.int z5), .val (.int c13), .unset] [(.int (1 : Int32))])) (fun _ k => XS.iloadN X2.here hx rfl (hb hby own_d_prog_7_method_2_code_86) rfl k) ?_
  refine own_st (T' := T2) (g' := (mkF m 142 #[.val (.ref a_FLOOR), .val (.int (1 : Int32)), .val (.int z5), .val (.int c13), .unset] [(.int (1 : Int32))])) (fun _ k => XS.goto X2.here hx rfl (pc0 := 87) (pc' := 142) rfl (hb hby own_d_prog_7_method_2_code_87) (by decide) (by decide) k) ?_
  refine own_st (T' := T2) (g' := (mkF m 144 #[.val (.ref a_FLOOR), .val (.int (1 : Int32)), .val (.int z5), .val (.int c13), .val (.int (1 : Int32))] [])) (fun _ k => XS.istore X2.here hx rfl (hb hby own_d_prog_7_method_2_code_142) rfl (l' := #[.val (.ref a_FLOOR), .val (.int (1 : Int32)), .val (.int z5), .val (.int c13), .val (.int (1 : Int32))]) rfl k) ?_
  refine own_st (T' := T2) (g' := (mkF m 146 #[.val (.ref a_FLOOR), .val (.int (1 : Int32)), .val (.int z5), .val (.int c13), .val (.int (1 : Int32))] [(.int (1 : Int32))])) (fun _ k => XS.iload X2.here hx rfl (hb hby own_d_prog_7_method_2_code_144) rfl k) ?_
  exact own_ret X2 hx hlk hret rfl (Or.inl ⟨rfl, Or.inr (Or.inl rfl), _, rfl⟩) (hb hby own_d_prog_7_method_2_code_146) (by decide) (by decide) ⟨rfl, rfl, e2⟩
set_option maxRecDepth 65536 in
set_option maxHeartbeats 40000000 in
theorem own_abs_4 (l : Launch) (Z : State) (a0 : Array Value) (hw : ∀ d ∈ tables_1, d.before a0 Z = true) (h0 : Heap) (a_SM : Addr) (cl_SM : Cell) (a_FLOOR : Addr) (a_CEILING : Addr) (hE : own_E Z h0 a_SM cl_SM a_FLOOR a_CEILING) (r : Int64) (hr0 : ¬ ((lcmpW r (0 : Int64)) = (0 : Int32))) (hrl : ¬ ((lcmpW r (0 : Int64)) < (0 : Int32))) :
    own_Pure l Z h0 [] ({ frames := 0, cells := 0, slots := 0, locals := 0 } : Room) (⟨"java/lang/Math", "abs", "(J)J"⟩ : MethodName) jdk_29_method_61_code 2 (some .long) #[(.long r)] (some (.long r)) := by
  refine own_body (Jvm.Free.JP.mathPlain rfl (by decide +kernel)) ?_
  intro p e s m below meth c T0 X0 hx hby hml hown hZ e0 hret hlk hnm hnamed
  replace hown : s.vm.findClass "java/lang/Math" = some m.cls := hown
  replace hml : c.maxLocals = 2 := hml
  have ef : entryFrame m #[(.long r)] 2 = mkF m 0 #[.val (.long r), .second] [] := by first | (simp [entryFrame, mkF, argsToLocals, Value.category]; done) | rfl
  rw [ef]
  refine own_st (T' := T0) (g' := (mkF m 1 #[.val (.long r), .second] [(.long r)])) (fun _ k => XS.lloadN X0.here hx rfl (hb hby own_d_jdk_29_method_61_code_0) rfl k) ?_
  refine own_st (T' := T0) (g' := (mkF m 2 #[.val (.long r), .second] [(.long (0 : Int64)), (.long r)])) (fun _ k => XS.lconst X0.here hx rfl (hb hby own_d_jdk_29_method_61_code_1) k) ?_
  refine own_st (T' := T0) (g' := (mkF m 3 #[.val (.long r), .second] [(.int (lcmpW r (0 : Int64)))])) (fun _ k => XS.lcmp X0.here hx rfl (hb hby own_d_jdk_29_method_61_code_2) rfl k) ?_
  refine own_st (T' := T0) (g' := (mkF m 11 #[.val (.long r), .second] [])) (fun _ k => XS.ifYes X0.here hx rfl (pc0 := 3) (pc' := 11) rfl (hb hby own_d_jdk_29_method_61_code_3) rfl ((if0 _ _).trans (flt hrl).2.1) (by decide) (by decide) k) ?_
  refine own_st (T' := T0) (g' := (mkF m 12 #[.val (.long r), .second] [(.long r)])) (fun _ k => XS.lloadN X0.here hx rfl (hb hby own_d_jdk_29_method_61_code_11) rfl k) ?_
  exact own_ret X0 hx hlk hret rfl (Or.inr (Or.inl ⟨rfl, rfl, _, rfl⟩)) (hb hby own_d_jdk_29_method_61_code_12) (by decide) (by decide) ⟨rfl, rfl, e0⟩
set_option maxRecDepth 65536 in
set_option maxHeartbeats 40000000 in
theorem own_abs_5 (l : Launch) (Z : State) (a0 : Array Value) (hw : ∀ d ∈ tables_1, d.before a0 Z = true) (h0 : Heap) (a_SM : Addr) (cl_SM : Cell) (a_FLOOR : Addr) (a_CEILING : Addr) (hE : own_E Z h0 a_SM cl_SM a_FLOOR a_CEILING) (D : Int64) (r : Int64) (hDz : ¬ ((lcmpW D (0 : Int64)) = (0 : Int32))) (hr0 : ¬ ((lcmpW r (0 : Int64)) = (0 : Int32))) (hrl : ¬ ((lcmpW r (0 : Int64)) < (0 : Int32))) (hxl : ¬ ((lcmpW (r ^^^ D) (0 : Int64)) < (0 : Int32))) (hal : (lcmpW (r - D) (0 : Int64)) < (0 : Int32)) :
    own_Pure l Z h0 [] ({ frames := 0, cells := 0, slots := 0, locals := 0 } : Room) (⟨"java/lang/Math", "abs", "(J)J"⟩ : MethodName) jdk_29_method_61_code 2 (some .long) #[(.long (r - D))] (some (.long ((-(r - D))))) := by
  refine own_body (Jvm.Free.JP.mathPlain rfl (by decide +kernel)) ?_
  intro p e s m below meth c T0 X0 hx hby hml hown hZ e0 hret hlk hnm hnamed
  replace hown : s.vm.findClass "java/lang/Math" = some m.cls := hown
  replace hml : c.maxLocals = 2 := hml
  have ef : entryFrame m #[(.long (r - D))] 2 = mkF m 0 #[.val (.long (r - D)), .second] [] := by first | (simp [entryFrame, mkF, argsToLocals, Value.category]; done) | rfl
  rw [ef]
  refine own_st (T' := T0) (g' := (mkF m 1 #[.val (.long (r - D)), .second] [(.long (r - D))])) (fun _ k => XS.lloadN X0.here hx rfl (hb hby own_d_jdk_29_method_61_code_0) rfl k) ?_
  refine own_st (T' := T0) (g' := (mkF m 2 #[.val (.long (r - D)), .second] [(.long (0 : Int64)), (.long (r - D))])) (fun _ k => XS.lconst X0.here hx rfl (hb hby own_d_jdk_29_method_61_code_1) k) ?_
  refine own_st (T' := T0) (g' := (mkF m 3 #[.val (.long (r - D)), .second] [(.int (lcmpW (r - D) (0 : Int64)))])) (fun _ k => XS.lcmp X0.here hx rfl (hb hby own_d_jdk_29_method_61_code_2) rfl k) ?_
  refine own_st (T' := T0) (g' := (mkF m 6 #[.val (.long (r - D)), .second] [])) (fun _ k => XS.ifNo X0.here hx rfl (hb hby own_d_jdk_29_method_61_code_3) rfl ((if0 _ _).trans (tlt hal).2.1) k) ?_
  refine own_st (T' := T0) (g' := (mkF m 7 #[.val (.long (r - D)), .second] [(.long (r - D))])) (fun _ k => XS.lloadN X0.here hx rfl (hb hby own_d_jdk_29_method_61_code_6) rfl k) ?_
  refine own_st (T' := T0) (g' := (mkF m 8 #[.val (.long (r - D)), .second] [(.long ((-(r - D))))])) (fun _ k => XS.lneg X0.here hx rfl (hb hby own_d_jdk_29_method_61_code_7) rfl k) ?_
  refine own_st (T' := T0) (g' := (mkF m 12 #[.val (.long (r - D)), .second] [(.long ((-(r - D))))])) (fun _ k => XS.goto X0.here hx rfl (pc0 := 8) (pc' := 12) rfl (hb hby own_d_jdk_29_method_61_code_8) (by decide) (by decide) k) ?_
  exact own_ret X0 hx hlk hret rfl (Or.inr (Or.inl ⟨rfl, rfl, _, rfl⟩)) (hb hby own_d_jdk_29_method_61_code_12) (by decide) (by decide) ⟨rfl, rfl, e0⟩
set_option maxRecDepth 65536 in
set_option maxHeartbeats 40000000 in
theorem own_stepsAway_6 (l : Launch) (Z : State) (a0 : Array Value) (hw : ∀ d ∈ tables_1, d.before a0 Z = true) (h0 : Heap) (a_SM : Addr) (cl_SM : Cell) (a_FLOOR : Addr) (a_CEILING : Addr) (hE : own_E Z h0 a_SM cl_SM a_FLOOR a_CEILING) (c13 : Int32) :
    own_Pure l Z h0 [] ({ frames := 1, cells := 0, slots := 0, locals := 13 } : Room) (⟨"com/example/residuum/residuum/QuotientRounding", "stepsAway", "(Ljava/math/RoundingMode;ZIZ)Z"⟩ : MethodName) prog_7_method_2_code 5 (some .boolean) #[(.ref a_FLOOR), (.int (0 : Int32)), (.int z12), (.int c13)] (some (.int (0 : Int32))) := by
  refine own_body (plainFor_of_name own_pn_4) ?_
  intro p e s m below meth c T0 X0 hx hby hml hown hZ e0 hret hlk hnm hnamed
  replace hown : s.vm.findClass "com/example/residuum/residuum/QuotientRounding" = some m.cls := hown
  replace hml : c.maxLocals = 5 := hml
  have ef : entryFrame m #[(.ref a_FLOOR), (.int (0 : Int32)), (.int z12), (.int c13)] 5 = mkF m 0 #[.val (.ref a_FLOOR), .val (.int (0 : Int32)), .val (.int z12), .val (.int c13), .unset] [] := by first | (simp [entryFrame, mkF, argsToLocals, Value.category]; done) | rfl
  rw [ef]
  have S_SM := own_p_S_SM hE
  have A_SM := own_p_A_SM hE
  have Z_SM := own_p_Z_SM hE
  have Y_SM_3 := own_p_Y_SM_3 hE
  have E_FLOOR := own_p_E_FLOOR hE
  obtain ⟨T1, X1, e1, st1⟩ := getS2 X0 hx hZ hown (host := "") (Or.inl (hw _ (List.mem_of_getElem? (i := 47) rfl))) Via.refl e0 S_SM (g := (mkF m 0 #[.val (.ref a_FLOOR), .val (.int (0 : Int32)), .val (.int z12), .val (.int c13), .unset] [])) rfl (hb hby own_d_prog_7_method_2_code_0)
  refine own_st (T' := T1) (g' := (mkF m 3 #[.val (.ref a_FLOOR), .val (.int (0 : Int32)), .val (.int z12), .val (.int c13), .unset] [(.ref a_SM)])) st1 ?_
  refine own_st (T' := T1) (g' := (mkF m 4 #[.val (.ref a_FLOOR), .val (.int (0 : Int32)), .val (.int z12), .val (.int c13), .unset] [(.ref a_FLOOR), (.ref a_SM)])) (fun _ k => XS.aloadN X1.here hx rfl (hb hby own_d_prog_7_method_2_code_3) rfl rfl k) ?_
  obtain ⟨T2, X2, e2, st2⟩ := own_pure (w := (.int (3 : Int32))) rfl rfl (own_gVU X1 hx hZ hown (hw _ (List.mem_of_getElem? (i := 50) rfl)) (hw _ (List.mem_of_getElem? (i := 51) rfl)) (hw _ (List.mem_of_getElem? (i := 52) rfl)) (by decide) (hw _ (List.mem_of_getElem? (i := 54) rfl)) (hw _ (List.mem_of_getElem? (i := 53) rfl)) (hw _ (List.mem_of_getElem? (i := 55) rfl)) (hw _ (List.mem_of_getElem? (i := 56) rfl)) e1 E_FLOOR (own_ordinal_2 l Z a0 hw h0 a_SM cl_SM a_FLOOR a_CEILING hE) (by decide) (by decide) (by decide) (by decide) (Q := fun v h L => v = some (.int (3 : Int32)) ∧ L = [] ∧ h = h0) (W := 1) (g := (mkF m 4 #[.val (.ref a_FLOOR), .val (.int (0 : Int32)), .val (.int z12), .val (.int c13), .unset] [(.ref a_FLOOR), (.ref a_SM)])) (argsL := []) (rest := [(.ref a_SM)]) rfl (by rw [hml]; rfl) (lenOf own_pd_5 rfl) rfl (by show 2 * 0 + _ ≤ _; exact Nat.le_of_eq rfl) (hb hby own_d_prog_7_method_2_code_4))
  refine own_st (T' := T2) (g' := (mkF m 7 #[.val (.ref a_FLOOR), .val (.int (0 : Int32)), .val (.int z12), .val (.int c13), .unset] [(.int (3 : Int32)), (.ref a_SM)])) st2 ?_
  refine own_st (T' := T2) (g' := (mkF m 8 #[.val (.ref a_FLOOR), .val (.int (0 : Int32)), .val (.int z12), .val (.int c13), .unset] [(.int (4 : Int32))])) (fun _ k => X2.iaload hx (j := (3 : Int32)) (v := (.int (4 : Int32))) (own_he e2 A_SM.1) (State.isArrayOf_alike hZ.alike A_SM.2.1) A_SM.2.2 (inb_of Z_SM ⟨by decide, by decide⟩) Y_SM_3 (g := (mkF m 7 #[.val (.ref a_FLOOR), .val (.int (0 : Int32)), .val (.int z12), .val (.int c13), .unset] [(.int (3 : Int32)), (.ref a_SM)])) rfl rfl (hb hby own_d_prog_7_method_2_code_7) _ k) ?_
  refine own_st (T' := T2) (g' := (mkF m 86 #[.val (.ref a_FLOOR), .val (.int (0 : Int32)), .val (.int z12), .val (.int c13), .unset] [])) (fun _ k => XS.tswIn X2.here hx rfl (pc0 := 8) (pc' := 86) rfl (hb hby own_d_prog_7_method_2_code_8) rfl (by decide) rfl (by decide) (by decide) k) ?_
  refine own_st (T' := T2) (g' := (mkF m 87 #[.val (.ref a_FLOOR), .val (.int (0 : Int32)), .val (.int z12), .val (.int c13), .unset] [(.int (0 : Int32))])) (fun _ k => XS.iloadN X2.here hx rfl (hb hby own_d_prog_7_method_2_code_86) rfl k) ?_
  refine own_st (T' := T2) (g' := (mkF m 142 #[.val (.ref a_FLOOR), .val (.int (0 : Int32)), .val (.int z12), .val (.int c13), .unset] [(.int (0 : Int32))])) (fun _ k => XS.goto X2.here hx rfl (pc0 := 87) (pc' := 142) rfl (hb hby own_d_prog_7_method_2_code_87) (by decide) (by decide) k) ?_
  refine own_st (T' := T2) (g' := (mkF m 144 #[.val (.ref a_FLOOR), .val (.int (0 : Int32)), .val (.int z12), .val (.int c13), .val (.int (0 : Int32))] [])) (fun _ k => XS.istore X2.here hx rfl (hb hby own_d_prog_7_method_2_code_142) rfl (l' := #[.val (.ref a_FLOOR), .val (.int (0 : Int32)), .val (.int z12), .val (.int c13), .val (.int (0 : Int32))]) rfl k) ?_
  refine own_st (T' := T2) (g' := (mkF m 146 #[.val (.ref a_FLOOR), .val (.int (0 : Int32)), .val (.int z12), .val (.int c13), .val (.int (0 : Int32))] [(.int (0 : Int32))])) (fun _ k => XS.iload X2.here hx rfl (hb hby own_d_prog_7_method_2_code_144) rfl k) ?_
  exact own_ret X2 hx hlk hret rfl (Or.inl ⟨rfl, Or.inr (Or.inl rfl), _, rfl⟩) (hb hby own_d_prog_7_method_2_code_146) (by decide) (by decide) ⟨rfl, rfl, e2⟩
set_option maxRecDepth 65536 in
set_option maxHeartbeats 40000000 in
theorem own_remJ_FLOOR (l : Launch) (Z : State) (a0 : Array Value) (hw : ∀ d ∈ tables_1, d.before a0 Z = true) (h0 : Heap) (a_SM : Addr) (cl_SM : Cell) (a_FLOOR : Addr) (a_CEILING : Addr) (hE : own_E Z h0 a_SM cl_SM a_FLOOR a_CEILING) (A : Int64) (D : Int64) (hD0 : D.toInt ≠ 0) (hA1 : -2147483648 ≤ A.toInt) (hA2 : A.toInt < 2147483648) (hD1 : -2147483648 ≤ D.toInt) (hD2 : D.toInt < 2147483648) (hDn : ¬ D < 0) :
    own_MetW l Z h0 [] ({ frames := 2, cells := 2, slots := 20, locals := 30 } : Room) (⟨"com/example/residuum/residuum/Remainder", "remainder", "(JJLjava/math/RoundingMode;)J"⟩ : MethodName) prog_9_method_3_code 14 (some .long) #[(.long A), (.long D), (.ref a_FLOOR)] (fun v h L => v = some (.long (own_R A D)) ∧ Fr h0.size L ∧ Ext h0 h) := by
  refine own_bodyW (plainFor_of_name own_pn_5) ?_
  intro p e s m below meth c T0 vm0 k0 X0 hS hk hx hby hml hown hZ e0 hret hlk hnm hnamed
  replace hown : (s.setVm vm0).vm.findClass "com/example/residuum/residuum/Remainder" = some m.cls := hown
  replace hml : c.maxLocals = 14 := hml
  have ef : entryFrame m #[(.long A), (.long D), (.ref a_FLOOR)] 14 = mkF m 0 #[.val (.long A), .second, .val (.long D), .second, .val (.ref a_FLOOR), .unset, .unset, .unset, .unset, .unset, .unset, .unset, .unset, .unset] [] := by first | (simp [entryFrame, mkF, argsToLocals, Value.category]; done) | rfl
  rw [ef]
  have E0 := own_ext_rf h0
  have Nf := Fr.nil h0.size
  have hDl : ¬ ((lcmpW D (0 : Int64)) < (0 : Int32)) := by rw [lw_lt]; exact hDn
  have hDi : ¬ D.toInt < 0 := by have e0 : (0 : Int64).toInt = 0 := rfl; rw [Int64.lt_iff_toInt_lt, e0] at hDn; exact hDn
  have hDz : ¬ ((lcmpW D (0 : Int64)) = (0 : Int32)) := fun q => hD0 (by rw [(lw_eq _ _).mp q]; rfl)
  refine own_st (T' := T0) (g' := (mkF m 1 #[.val (.long A), .second, .val (.long D), .second, .val (.ref a_FLOOR), .unset, .unset, .unset, .unset, .unset, .unset, .unset, .unset, .unset] [(.long D)])) (fun _ k => XS.lloadN X0.here hx rfl (hb hby own_d_prog_9_method_3_code_0) rfl k) ?_
  refine own_st (T' := T0) (g' := (mkF m 2 #[.val (.long A), .second, .val (.long D), .second, .val (.ref a_FLOOR), .unset, .unset, .unset, .unset, .unset, .unset, .unset, .unset, .unset] [(.long (0 : Int64)), (.long D)])) (fun _ k => XS.lconst X0.here hx rfl (hb hby own_d_prog_9_method_3_code_1) k) ?_
  refine own_st (T' := T0) (g' := (mkF m 3 #[.val (.long A), .second, .val (.long D), .second, .val (.ref a_FLOOR), .unset, .unset, .unset, .unset, .unset, .unset, .unset, .unset, .unset] [(.int (lcmpW D (0 : Int64)))])) (fun _ k => XS.lcmp X0.here hx rfl (hb hby own_d_prog_9_method_3_code_2) rfl k) ?_
  refine own_st (T' := T0) (g' := (mkF m 10 #[.val (.long A), .second, .val (.long D), .second, .val (.ref a_FLOOR), .unset, .unset, .unset, .unset, .unset, .unset, .unset, .unset, .unset] [])) (fun _ k => XS.ifYes X0.here hx rfl (pc0 := 3) (pc' := 10) rfl (hb hby own_d_prog_9_method_3_code_3) rfl ((if0 _ _).trans (feq hDz).2) (by decide) (by decide) k) ?_
  refine own_st (T' := T0) (g' := (mkF m 12 #[.val (.long A), .second, .val (.long D), .second, .val (.ref a_FLOOR), .unset, .unset, .unset, .unset, .unset, .unset, .unset, .unset, .unset] [(.ref a_FLOOR)])) (fun _ k => XS.aload X0.here hx rfl (hb hby own_d_prog_9_method_3_code_10) rfl rfl k) ?_
  obtain ⟨a1, T1, h1, k1, X1, e1, E1, hS, hk, hZ, hown, st1⟩ := ldcS X0 hx hZ hown (hw _ (List.mem_of_getElem? (i := 20) rfl)) (own_wS hw) e0 hS hk (g := (mkF m 12 #[.val (.long A), .second, .val (.long D), .second, .val (.ref a_FLOOR), .unset, .unset, .unset, .unset, .unset, .unset, .unset, .unset, .unset] [(.ref a_FLOOR)])) rfl (hb hby own_d_prog_9_method_3_code_12) (n := 16) (by decide) (by decide) (by decide) (by decide)
  have E0 := own_ext_tr E0 E1
  have hE := own_E_ext hE E1
  refine own_st (T' := T1) (g' := (mkF m 14 #[.val (.long A), .second, .val (.long D), .second, .val (.ref a_FLOOR), .unset, .unset, .unset, .unset, .unset, .unset, .unset, .unset, .unset] [(.ref a1), (.ref a_FLOOR)])) st1 ?_
  obtain ⟨T2, X2, e2, st2⟩ := own_pure (w := (.ref a_FLOOR)) rfl rfl (own_gS X1 hx hZ hown (hw _ (List.mem_of_getElem? (i := 28) rfl)) (hw _ (List.mem_of_getElem? (i := 29) rfl)) (hw _ (List.mem_of_getElem? (i := 30) rfl)) (hw _ (List.mem_of_getElem? (i := 31) rfl)) (by decide) e1 (own_rnn l Z a0 hw h1 a_FLOOR a1) (by decide) (by decide) (by decide) (by decide) (Q := fun v h L => v = some (.ref a_FLOOR) ∧ L = [] ∧ h = h1) (W := 0) (g := (mkF m 14 #[.val (.long A), .second, .val (.long D), .second, .val (.ref a_FLOOR), .unset, .unset, .unset, .unset, .unset, .unset, .unset, .unset, .unset] [(.ref a1), (.ref a_FLOOR)])) (argsL := [(.ref a_FLOOR), (.ref a1)]) (rest := []) rfl (by rw [hml]; rfl) (lenOf own_pd_1 rfl) rfl (by show 2 * 0 + _ ≤ _; exact Nat.le_of_eq rfl) (hb hby own_d_prog_9_method_3_code_14))
  refine own_st (T' := T2) (g' := (mkF m 17 #[.val (.long A), .second, .val (.long D), .second, .val (.ref a_FLOOR), .unset, .unset, .unset, .unset, .unset, .unset, .unset, .unset, .unset] [(.ref a_FLOOR)])) st2 ?_
  refine own_st (T' := T2) (g' := (mkF m 18 #[.val (.long A), .second, .val (.long D), .second, .val (.ref a_FLOOR), .unset, .unset, .unset, .unset, .unset, .unset, .unset, .unset, .unset] [])) (fun _ k => XS.pop X2.here hx rfl (hb hby own_d_prog_9_method_3_code_17) rfl rfl k) ?_
  refine own_st (T' := T2) (g' := (mkF m 19 #[.val (.long A), .second, .val (.long D), .second, .val (.ref a_FLOOR), .unset, .unset, .unset, .unset, .unset, .unset, .unset, .unset, .unset] [(.long A)])) (fun _ k => XS.lloadN X2.here hx rfl (hb hby own_d_prog_9_method_3_code_18) rfl k) ?_
  refine own_st (T' := T2) (g' := (mkF m 20 #[.val (.long A), .second, .val (.long D), .second, .val (.ref a_FLOOR), .unset, .unset, .unset, .unset, .unset, .unset, .unset, .unset, .unset] [(.long D), (.long A)])) (fun _ k => XS.lloadN X2.here hx rfl (hb hby own_d_prog_9_method_3_code_19) rfl k) ?_
  refine own_st (T' := T2) (g' := (mkF m 21 #[.val (.long A), .second, .val (.long D), .second, .val (.ref a_FLOOR), .unset, .unset, .unset, .unset, .unset, .unset, .unset, .unset, .unset] [(.long (A - (A / D) * D))])) (fun _ k => XS.lrem X2.here hx rfl (hb hby own_d_prog_9_method_3_code_20) rfl (fun z => hD0 (by rw [z]; rfl)) k) ?_
  obtain ⟨r, hr⟩ : ∃ r, r = A - (A / D) * D := ⟨_, rfl⟩
  rw [← hr]
  have er := own_rem hr
  have br := own_rem_b A.toInt D.toInt hD0
  rw [← er] at br
  refine own_st (T' := T2) (g' := (mkF m 23 #[.val (.long A), .second, .val (.long D), .second, .val (.ref a_FLOOR), .val (.long r), .second, .unset, .unset, .unset, .unset, .unset, .unset, .unset] [])) (fun _ k => XS.lstore X2.here hx rfl (hb hby own_d_prog_9_method_3_code_21) rfl (l' := #[.val (.long A), .second, .val (.long D), .second, .val (.ref a_FLOOR), .val (.long r), .second, .unset, .unset, .unset, .unset, .unset, .unset, .unset]) rfl k) ?_
  by_cases hr0 : (lcmpW r (0 : Int64)) = (0 : Int32)
  ·
    refine own_st (T' := T2) (g' := (mkF m 25 #[.val (.long A), .second, .val (.long D), .second, .val (.ref a_FLOOR), .val (.long r), .second, .unset, .unset, .unset, .unset, .unset, .unset, .unset] [(.long r)])) (fun _ k => XS.lload X2.here hx rfl (hb hby own_d_prog_9_method_3_code_23) rfl k) ?_
    refine own_st (T' := T2) (g' := (mkF m 26 #[.val (.long A), .second, .val (.long D), .second, .val (.ref a_FLOOR), .val (.long r), .second, .unset, .unset, .unset, .unset, .unset, .unset, .unset] [(.long (0 : Int64)), (.long r)])) (fun _ k => XS.lconst X2.here hx rfl (hb hby own_d_prog_9_method_3_code_25) k) ?_
    refine own_st (T' := T2) (g' := (mkF m 27 #[.val (.long A), .second, .val (.long D), .second, .val (.ref a_FLOOR), .val (.long r), .second, .unset, .unset, .unset, .unset, .unset, .unset, .unset] [(.int (lcmpW r (0 : Int64)))])) (fun _ k => XS.lcmp X2.here hx rfl (hb hby own_d_prog_9_method_3_code_26) rfl k) ?_
    refine own_st (T' := T2) (g' := (mkF m 30 #[.val (.long A), .second, .val (.long D), .second, .val (.ref a_FLOOR), .val (.long r), .second, .unset, .unset, .unset, .unset, .unset, .unset, .unset] [])) (fun _ k => XS.ifNo X2.here hx rfl (hb hby own_d_prog_9_method_3_code_27) rfl ((if0 _ _).trans (teq hr0).2) k) ?_
    refine own_st (T' := T2) (g' := (mkF m 31 #[.val (.long A), .second, .val (.long D), .second, .val (.ref a_FLOOR), .val (.long r), .second, .unset, .unset, .unset, .unset, .unset, .unset, .unset] [(.long (0 : Int64))])) (fun _ k => XS.lconst X2.here hx rfl (hb hby own_d_prog_9_method_3_code_30) k) ?_
    refine own_st (T' := T2) (g' := (mkF m 33 #[.val (.long A), .second, .val (.long D), .second, .val (.ref a_FLOOR), .val (.long r), .second, .val (.long (0 : Int64)), .second, .unset, .unset, .unset, .unset, .unset] [])) (fun _ k => XS.lstore X2.here hx rfl (hb hby own_d_prog_9_method_3_code_31) rfl (l' := #[.val (.long A), .second, .val (.long D), .second, .val (.ref a_FLOOR), .val (.long r), .second, .val (.long (0 : Int64)), .second, .unset, .unset, .unset, .unset, .unset]) rfl k) ?_
    refine own_st (T' := T2) (g' := (mkF m 135 #[.val (.long A), .second, .val (.long D), .second, .val (.ref a_FLOOR), .val (.long r), .second, .val (.long (0 : Int64)), .second, .unset, .unset, .unset, .unset, .unset] [])) (fun _ k => XS.goto X2.here hx rfl (pc0 := 33) (pc' := 135) rfl (hb hby own_d_prog_9_method_3_code_33) (by decide) (by decide) k) ?_
    refine own_st (T' := T2) (g' := (mkF m 137 #[.val (.long A), .second, .val (.long D), .second, .val (.ref a_FLOOR), .val (.long r), .second, .val (.long (0 : Int64)), .second, .unset, .unset, .unset, .unset, .unset] [(.long (0 : Int64))])) (fun _ k => XS.lload X2.here hx rfl (hb hby own_d_prog_9_method_3_code_135) rfl k) ?_
    exact own_retW X2 hx hlk hS (by rw [e2]; exact hk) hret rfl (Or.inr (Or.inl ⟨rfl, rfl, _, rfl⟩)) (hb hby own_d_prog_9_method_3_code_137) (by decide) (by decide) (by rw [e2]; exact ⟨(by rw [own_R_z hr ((lw_eq _ _).mp hr0)]), Nf, E0⟩)
  ·
    have hri : r.toInt ≠ 0 := fun z => hr0 (by rw [lw_eq]; exact Int64.toInt_inj.mp z)
    by_cases hrn : r < 0
    ·
      have hrI : r.toInt < 0 := by have e0 : (0 : Int64).toInt = 0 := rfl; rw [Int64.lt_iff_toInt_lt, e0] at hrn; exact hrn
      have hrl : (lcmpW r (0 : Int64)) < (0 : Int32) := by rw [lw_lt]; exact hrn
      have hxl : (lcmpW (r ^^^ D) (0 : Int64)) < (0 : Int32) := by rw [lw_lt, own_xor]; omega
      refine own_st (T' := T2) (g' := (mkF m 25 #[.val (.long A), .second, .val (.long D), .second, .val (.ref a_FLOOR), .val (.long r), .second, .unset, .unset, .unset, .unset, .unset, .unset, .unset] [(.long r)])) (fun _ k => XS.lload X2.here hx rfl (hb hby own_d_prog_9_method_3_code_23) rfl k) ?_
      refine own_st (T' := T2) (g' := (mkF m 26 #[.val (.long A), .second, .val (.long D), .second, .val (.ref a_FLOOR), .val (.long r), .second, .unset, .unset, .unset, .unset, .unset, .unset, .unset] [(.long (0 : Int64)), (.long r)])) (fun _ k => XS.lconst X2.here hx rfl (hb hby own_d_prog_9_method_3_code_25) k) ?_
      refine own_st (T' := T2) (g' := (mkF m 27 #[.val (.long A), .second, .val (.long D), .second, .val (.ref a_FLOOR), .val (.long r), .second, .unset, .unset, .unset, .unset, .unset, .unset, .unset] [(.int (lcmpW r (0 : Int64)))])) (fun _ k => XS.lcmp X2.here hx rfl (hb hby own_d_prog_9_method_3_code_26) rfl k) ?_
      refine own_st (T' := T2) (g' := (mkF m 36 #[.val (.long A), .second, .val (.long D), .second, .val (.ref a_FLOOR), .val (.long r), .second, .unset, .unset, .unset, .unset, .unset, .unset, .unset] [])) (fun _ k => XS.ifYes X2.here hx rfl (pc0 := 27) (pc' := 36) rfl (hb hby own_d_prog_9_method_3_code_27) rfl ((if0 _ _).trans (feq hr0).2) (by decide) (by decide) k) ?_
      refine own_st (T' := T2) (g' := (mkF m 38 #[.val (.long A), .second, .val (.long D), .second, .val (.ref a_FLOOR), .val (.long r), .second, .unset, .unset, .unset, .unset, .unset, .unset, .unset] [(.long r)])) (fun _ k => XS.lload X2.here hx rfl (hb hby own_d_prog_9_method_3_code_36) rfl k) ?_
      refine own_st (T' := T2) (g' := (mkF m 39 #[.val (.long A), .second, .val (.long D), .second, .val (.ref a_FLOOR), .val (.long r), .second, .unset, .unset, .unset, .unset, .unset, .unset, .unset] [(.long D), (.long r)])) (fun _ k => XS.lloadN X2.here hx rfl (hb hby own_d_prog_9_method_3_code_38) rfl k) ?_
      refine own_st (T' := T2) (g' := (mkF m 40 #[.val (.long A), .second, .val (.long D), .second, .val (.ref a_FLOOR), .val (.long r), .second, .unset, .unset, .unset, .unset, .unset, .unset, .unset] [(.long (r ^^^ D))])) (fun _ k => XS.lxor X2.here hx rfl (hb hby own_d_prog_9_method_3_code_39) rfl k) ?_
      refine own_st (T' := T2) (g' := (mkF m 41 #[.val (.long A), .second, .val (.long D), .second, .val (.ref a_FLOOR), .val (.long r), .second, .unset, .unset, .unset, .unset, .unset, .unset, .unset] [(.long (0 : Int64)), (.long (r ^^^ D))])) (fun _ k => XS.lconst X2.here hx rfl (hb hby own_d_prog_9_method_3_code_40) k) ?_
      refine own_st (T' := T2) (g' := (mkF m 42 #[.val (.long A), .second, .val (.long D), .second, .val (.ref a_FLOOR), .val (.long r), .second, .unset, .unset, .unset, .unset, .unset, .unset, .unset] [(.int (lcmpW (r ^^^ D) (0 : Int64)))])) (fun _ k => XS.lcmp X2.here hx rfl (hb hby own_d_prog_9_method_3_code_41) rfl k) ?_
      refine own_st (T' := T2) (g' := (mkF m 45 #[.val (.long A), .second, .val (.long D), .second, .val (.ref a_FLOOR), .val (.long r), .second, .unset, .unset, .unset, .unset, .unset, .unset, .unset] [])) (fun _ k => XS.ifNo X2.here hx rfl (hb hby own_d_prog_9_method_3_code_42) rfl ((if0 _ _).trans (tlt hxl).2.1) k) ?_
      refine own_st (T' := T2) (g' := (mkF m 46 #[.val (.long A), .second, .val (.long D), .second, .val (.ref a_FLOOR), .val (.long r), .second, .unset, .unset, .unset, .unset, .unset, .unset, .unset] [(.int (1 : Int32))])) (fun _ k => XS.iconst X2.here hx rfl (hb hby own_d_prog_9_method_3_code_45) k) ?_
      refine own_st (T' := T2) (g' := (mkF m 50 #[.val (.long A), .second, .val (.long D), .second, .val (.ref a_FLOOR), .val (.long r), .second, .unset, .unset, .unset, .unset, .unset, .unset, .unset] [(.int (1 : Int32))])) (fun _ k => XS.goto X2.here hx rfl (pc0 := 46) (pc' := 50) rfl (hb hby own_d_prog_9_method_3_code_46) (by decide) (by decide) k) ?_
      refine own_st (T' := T2) (g' := (mkF m 52 #[.val (.long A), .second, .val (.long D), .second, .val (.ref a_FLOOR), .val (.long r), .second, .unset, .unset, .val (.int (1 : Int32)), .unset, .unset, .unset, .unset] [])) (fun _ k => XS.istore X2.here hx rfl (hb hby own_d_prog_9_method_3_code_50) rfl (l' := #[.val (.long A), .second, .val (.long D), .second, .val (.ref a_FLOOR), .val (.long r), .second, .unset, .unset, .val (.int (1 : Int32)), .unset, .unset, .unset, .unset]) rfl k) ?_
      refine own_st (T' := T2) (g' := (mkF m 54 #[.val (.long A), .second, .val (.long D), .second, .val (.ref a_FLOOR), .val (.long r), .second, .unset, .unset, .val (.int (1 : Int32)), .unset, .unset, .unset, .unset] [(.int (1 : Int32))])) (fun _ k => XS.iload X2.here hx rfl (hb hby own_d_prog_9_method_3_code_52) rfl k) ?_
      refine own_st (T' := T2) (g' := (mkF m 57 #[.val (.long A), .second, .val (.long D), .second, .val (.ref a_FLOOR), .val (.long r), .second, .unset, .unset, .val (.int (1 : Int32)), .unset, .unset, .unset, .unset] [])) (fun _ k => XS.ifNo X2.here hx rfl (hb hby own_d_prog_9_method_3_code_54) rfl (by decide) k) ?_
      refine own_st (T' := T2) (g' := (mkF m 59 #[.val (.long A), .second, .val (.long D), .second, .val (.ref a_FLOOR), .val (.long r), .second, .unset, .unset, .val (.int (1 : Int32)), .unset, .unset, .unset, .unset] [(.long r)])) (fun _ k => XS.lload X2.here hx rfl (hb hby own_d_prog_9_method_3_code_57) rfl k) ?_
      refine own_st (T' := T2) (g' := (mkF m 60 #[.val (.long A), .second, .val (.long D), .second, .val (.ref a_FLOOR), .val (.long r), .second, .unset, .unset, .val (.int (1 : Int32)), .unset, .unset, .unset, .unset] [(.long D), (.long r)])) (fun _ k => XS.lloadN X2.here hx rfl (hb hby own_d_prog_9_method_3_code_59) rfl k) ?_
      refine own_st (T' := T2) (g' := (mkF m 61 #[.val (.long A), .second, .val (.long D), .second, .val (.ref a_FLOOR), .val (.long r), .second, .unset, .unset, .val (.int (1 : Int32)), .unset, .unset, .unset, .unset] [(.long (r + D))])) (fun _ k => XS.ladd X2.here hx rfl (hb hby own_d_prog_9_method_3_code_60) rfl k) ?_
      refine own_st (T' := T2) (g' := (mkF m 63 #[.val (.long A), .second, .val (.long D), .second, .val (.ref a_FLOOR), .val (.long r), .second, .unset, .unset, .val (.int (1 : Int32)), .val (.long (r + D)), .second, .unset, .unset] [])) (fun _ k => XS.lstore X2.here hx rfl (hb hby own_d_prog_9_method_3_code_61) rfl (l' := #[.val (.long A), .second, .val (.long D), .second, .val (.ref a_FLOOR), .val (.long r), .second, .unset, .unset, .val (.int (1 : Int32)), .val (.long (r + D)), .second, .unset, .unset]) rfl k) ?_
      refine own_st (T' := T2) (g' := (mkF m 72 #[.val (.long A), .second, .val (.long D), .second, .val (.ref a_FLOOR), .val (.long r), .second, .unset, .unset, .val (.int (1 : Int32)), .val (.long (r + D)), .second, .unset, .unset] [])) (fun _ k => XS.goto X2.here hx rfl (pc0 := 63) (pc' := 72) rfl (hb hby own_d_prog_9_method_3_code_63) (by decide) (by decide) k) ?_
      have hal : ¬ ((lcmpW (r + D) (0 : Int64)) < (0 : Int32)) := by have e0 : (0 : Int64).toInt = 0 := rfl; rw [lw_lt, Int64.lt_iff_toInt_lt, e0, own_add64 (by omega) (by omega)]; omega
      refine own_st (T' := T2) (g' := (mkF m 74 #[.val (.long A), .second, .val (.long D), .second, .val (.ref a_FLOOR), .val (.long r), .second, .unset, .unset, .val (.int (1 : Int32)), .val (.long (r + D)), .second, .unset, .unset] [(.long r)])) (fun _ k => XS.lload X2.here hx rfl (hb hby own_d_prog_9_method_3_code_72) rfl k) ?_
      obtain ⟨T3, X3, e3, st3⟩ := own_pure (w := (.long ((-r)))) rfl rfl (own_gS X2 hx hZ hown (hw _ (List.mem_of_getElem? (i := 32) rfl)) (hw _ (List.mem_of_getElem? (i := 1) rfl)) (hw _ (List.mem_of_getElem? (i := 2) rfl)) (hw _ (List.mem_of_getElem? (i := 3) rfl)) (by decide) e2 (own_abs_0 l Z a0 hw h1 a_SM cl_SM a_FLOOR a_CEILING hE r hr0 hrl) (by decide) (by decide) (by decide) (by decide) (Q := fun v h L => v = some (.long ((-r))) ∧ L = [] ∧ h = h1) (W := 0) (g := (mkF m 74 #[.val (.long A), .second, .val (.long D), .second, .val (.ref a_FLOOR), .val (.long r), .second, .unset, .unset, .val (.int (1 : Int32)), .val (.long (r + D)), .second, .unset, .unset] [(.long r)])) (argsL := [(.long r)]) (rest := []) rfl (by rw [hml]; rfl) (lenOf own_pd_2 rfl) rfl (by show 2 * 0 + _ ≤ _; exact Nat.le_of_eq rfl) (hb hby own_d_prog_9_method_3_code_74))
      refine own_st (T' := T3) (g' := (mkF m 77 #[.val (.long A), .second, .val (.long D), .second, .val (.ref a_FLOOR), .val (.long r), .second, .unset, .unset, .val (.int (1 : Int32)), .val (.long (r + D)), .second, .unset, .unset] [(.long ((-r)))])) st3 ?_
      refine own_st (T' := T3) (g' := (mkF m 79 #[.val (.long A), .second, .val (.long D), .second, .val (.ref a_FLOOR), .val (.long r), .second, .unset, .unset, .val (.int (1 : Int32)), .val (.long (r + D)), .second, .unset, .unset] [(.long (r + D)), (.long ((-r)))])) (fun _ k => XS.lload X3.here hx rfl (hb hby own_d_prog_9_method_3_code_77) rfl k) ?_
      obtain ⟨T4, X4, e4, st4⟩ := own_pure (w := (.long (r + D))) rfl rfl (own_gS X3 hx hZ hown (hw _ (List.mem_of_getElem? (i := 32) rfl)) (hw _ (List.mem_of_getElem? (i := 1) rfl)) (hw _ (List.mem_of_getElem? (i := 2) rfl)) (hw _ (List.mem_of_getElem? (i := 3) rfl)) (by decide) e3 (own_abs_1 l Z a0 hw h1 a_SM cl_SM a_FLOOR a_CEILING hE D r hDz hr0 hrl hxl hal) (by decide) (by decide) (by decide) (by decide) (Q := fun v h L => v = some (.long (r + D)) ∧ L = [] ∧ h = h1) (W := 2) (g := (mkF m 79 #[.val (.long A), .second, .val (.long D), .second, .val (.ref a_FLOOR), .val (.long r), .second, .unset, .unset, .val (.int (1 : Int32)), .val (.long (r + D)), .second, .unset, .unset] [(.long (r + D)), (.long ((-r)))])) (argsL := [(.long (r + D))]) (rest := [(.long ((-r)))]) rfl (by rw [hml]; rfl) (lenOf own_pd_2 rfl) rfl (by show 2 * 0 + _ ≤ _; exact Nat.le_of_eq rfl) (hb hby own_d_prog_9_method_3_code_79))
      refine own_st (T' := T4) (g' := (mkF m 82 #[.val (.long A), .second, .val (.long D), .second, .val (.ref a_FLOOR), .val (.long r), .second, .unset, .unset, .val (.int (1 : Int32)), .val (.long (r + D)), .second, .unset, .unset] [(.long (r + D)), (.long ((-r)))])) st4 ?_
      obtain ⟨v5, T5, L5, X5, hQ5, st5⟩ := own_gS X4  hx hZ hown (hw _ (List.mem_of_getElem? (i := 33) rfl)) (hw _ (List.mem_of_getElem? (i := 34) rfl)) (hw _ (List.mem_of_getElem? (i := 35) rfl)) (hw _ (List.mem_of_getElem? (i := 36) rfl)) (by decide) e4 (own_lcp l Z a0 hw h1 ((-r)) (r + D)) (by decide) (by decide) (by decide) (by decide) (Q := (fun v h L => (∃ z : Int32, v = some (.int z)) ∧ L = [] ∧ h = h1)) (W := 0) (g := (mkF m 82 #[.val (.long A), .second, .val (.long D), .second, .val (.ref a_FLOOR), .val (.long r), .second, .unset, .unset, .val (.int (1 : Int32)), .val (.long (r + D)), .second, .unset, .unset] [(.long (r + D)), (.long ((-r)))])) (argsL := [(.long ((-r))), (.long (r + D))]) (rest := []) rfl (by rw [hml]; rfl) (lenOf own_pd_3 rfl) rfl (by show 2 * 0 + _ ≤ _; exact Nat.le_of_eq rfl) (hb hby own_d_prog_9_method_3_code_82)
      obtain ⟨⟨z5, rfl⟩, rfl, e5⟩ := hQ5
      rw [List.append_nil] at X5
      refine own_st (T' := T5) (g' := (mkF m 85 #[.val (.long A), .second, .val (.long D), .second, .val (.ref a_FLOOR), .val (.long r), .second, .unset, .unset, .val (.int (1 : Int32)), .val (.long (r + D)), .second, .unset, .unset] [(.int z5)])) st5 ?_
      refine own_st (T' := T5) (g' := (mkF m 87 #[.val (.long A), .second, .val (.long D), .second, .val (.ref a_FLOOR), .val (.long r), .second, .unset, .unset, .val (.int (1 : Int32)), .val (.long (r + D)), .second, .val (.int z5), .unset] [])) (fun _ k => XS.istore X5.here hx rfl (hb hby own_d_prog_9_method_3_code_85) rfl (l' := #[.val (.long A), .second, .val (.long D), .second, .val (.ref a_FLOOR), .val (.long r), .second, .unset, .unset, .val (.int (1 : Int32)), .val (.long (r + D)), .second, .val (.int z5), .unset]) rfl k) ?_
      refine own_st (T' := T5) (g' := (mkF m 88 #[.val (.long A), .second, .val (.long D), .second, .val (.ref a_FLOOR), .val (.long r), .second, .unset, .unset, .val (.int (1 : Int32)), .val (.long (r + D)), .second, .val (.int z5), .unset] [(.long A)])) (fun _ k => XS.lloadN X5.here hx rfl (hb hby own_d_prog_9_method_3_code_87) rfl k) ?_
      refine own_st (T' := T5) (g' := (mkF m 90 #[.val (.long A), .second, .val (.long D), .second, .val (.ref a_FLOOR), .val (.long r), .second, .unset, .unset, .val (.int (1 : Int32)), .val (.long (r + D)), .second, .val (.int z5), .unset] [(.long r), (.long A)])) (fun _ k => XS.lload X5.here hx rfl (hb hby own_d_prog_9_method_3_code_88) rfl k) ?_
      refine own_st (T' := T5) (g' := (mkF m 91 #[.val (.long A), .second, .val (.long D), .second, .val (.ref a_FLOOR), .val (.long r), .second, .unset, .unset, .val (.int (1 : Int32)), .val (.long (r + D)), .second, .val (.int z5), .unset] [(.long (A - r))])) (fun _ k => XS.lsub X5.here hx rfl (hb hby own_d_prog_9_method_3_code_90) rfl k) ?_
      refine own_st (T' := T5) (g' := (mkF m 92 #[.val (.long A), .second, .val (.long D), .second, .val (.ref a_FLOOR), .val (.long r), .second, .unset, .unset, .val (.int (1 : Int32)), .val (.long (r + D)), .second, .val (.int z5), .unset] [(.long D), (.long (A - r))])) (fun _ k => XS.lloadN X5.here hx rfl (hb hby own_d_prog_9_method_3_code_91) rfl k) ?_
      obtain ⟨v6, T6, L6, X6, hQ6, st6⟩ := own_gS X5  hx hZ hown (hw _ (List.mem_of_getElem? (i := 37) rfl)) (hw _ (List.mem_of_getElem? (i := 38) rfl)) (hw _ (List.mem_of_getElem? (i := 35) rfl)) (hw _ (List.mem_of_getElem? (i := 39) rfl)) (by decide) e5 (own_ltz l Z a0 hw h1 D) (by decide) (by decide) (by decide) (by decide) (Q := (fun v h L => (∃ z : Int32, v = some (.int z)) ∧ L = [] ∧ h = h1)) (W := 2) (g := (mkF m 92 #[.val (.long A), .second, .val (.long D), .second, .val (.ref a_FLOOR), .val (.long r), .second, .unset, .unset, .val (.int (1 : Int32)), .val (.long (r + D)), .second, .val (.int z5), .unset] [(.long D), (.long (A - r))])) (argsL := [(.long D)]) (rest := [(.long (A - r))]) rfl (by rw [hml]; rfl) (lenOf own_pd_4 rfl) rfl (by show 2 * 0 + _ ≤ _; exact Nat.le_of_eq rfl) (hb hby own_d_prog_9_method_3_code_92)
      obtain ⟨⟨z6, rfl⟩, rfl, e6⟩ := hQ6
      rw [List.append_nil] at X6
      refine own_st (T' := T6) (g' := (mkF m 95 #[.val (.long A), .second, .val (.long D), .second, .val (.ref a_FLOOR), .val (.long r), .second, .unset, .unset, .val (.int (1 : Int32)), .val (.long (r + D)), .second, .val (.int z5), .unset] [(.int z6), (.long (A - r))])) st6 ?_
      refine own_st (T' := T6) (g' := (mkF m 96 #[.val (.long A), .second, .val (.long D), .second, .val (.ref a_FLOOR), .val (.long r), .second, .unset, .unset, .val (.int (1 : Int32)), .val (.long (r + D)), .second, .val (.int z5), .unset] [(.long ((A - r) >>> (z6 &&& 0x3f).toInt64))])) (fun _ k => XS.lshr X6.here hx rfl (hb hby own_d_prog_9_method_3_code_95) rfl k) ?_
      have K110_7 : ∀ (c13 : Int32), own_Go p e below (own_W s 2 20 (fun v h L => v = some (.long (own_R A D)) ∧ Fr h0.size L ∧ Ext h0 h)) T6 (mkF m 110 #[.val (.long A), .second, .val (.long D), .second, .val (.ref a_FLOOR), .val (.long r), .second, .unset, .unset, .val (.int (1 : Int32)), .val (.long (r + D)), .second, .val (.int z5), .val (.int c13)] []) := by
        intro c13
        refine own_st (T' := T6) (g' := (mkF m 112 #[.val (.long A), .second, .val (.long D), .second, .val (.ref a_FLOOR), .val (.long r), .second, .unset, .unset, .val (.int (1 : Int32)), .val (.long (r + D)), .second, .val (.int z5), .val (.int c13)] [(.ref a_FLOOR)])) (fun _ k => XS.aload X6.here hx rfl (hb hby own_d_prog_9_method_3_code_110) rfl rfl k) ?_
        refine own_st (T' := T6) (g' := (mkF m 114 #[.val (.long A), .second, .val (.long D), .second, .val (.ref a_FLOOR), .val (.long r), .second, .unset, .unset, .val (.int (1 : Int32)), .val (.long (r + D)), .second, .val (.int z5), .val (.int c13)] [(.int (1 : Int32)), (.ref a_FLOOR)])) (fun _ k => XS.iload X6.here hx rfl (hb hby own_d_prog_9_method_3_code_112) rfl k) ?_
        refine own_st (T' := T6) (g' := (mkF m 116 #[.val (.long A), .second, .val (.long D), .second, .val (.ref a_FLOOR), .val (.long r), .second, .unset, .unset, .val (.int (1 : Int32)), .val (.long (r + D)), .second, .val (.int z5), .val (.int c13)] [(.int z5), (.int (1 : Int32)), (.ref a_FLOOR)])) (fun _ k => XS.iload X6.here hx rfl (hb hby own_d_prog_9_method_3_code_114) rfl k) ?_
        refine own_st (T' := T6) (g' := (mkF m 118 #[.val (.long A), .second, .val (.long D), .second, .val (.ref a_FLOOR), .val (.long r), .second, .unset, .unset, .val (.int (1 : Int32)), .val (.long (r + D)), .second, .val (.int z5), .val (.int c13)] [(.int c13), (.int z5), (.int (1 : Int32)), (.ref a_FLOOR)])) (fun _ k => XS.iload X6.here hx rfl (hb hby own_d_prog_9_method_3_code_116) rfl k) ?_
        obtain ⟨T8, X8, e8, st8⟩ := own_pure (w := (.int (1 : Int32))) rfl rfl (own_gS X6 hx hZ hown (hw _ (List.mem_of_getElem? (i := 44) rfl)) (hw _ (List.mem_of_getElem? (i := 45) rfl)) (hw _ (List.mem_of_getElem? (i := 10) rfl)) (hw _ (List.mem_of_getElem? (i := 46) rfl)) (by decide) e6 (own_stepsAway_2 l Z a0 hw h1 a_SM cl_SM a_FLOOR a_CEILING hE c13) (by decide) (by decide) (by decide) (by decide) (Q := fun v h L => v = some (.int (1 : Int32)) ∧ L = [] ∧ h = h1) (W := 0) (g := (mkF m 118 #[.val (.long A), .second, .val (.long D), .second, .val (.ref a_FLOOR), .val (.long r), .second, .unset, .unset, .val (.int (1 : Int32)), .val (.long (r + D)), .second, .val (.int z5), .val (.int c13)] [(.int c13), (.int z5), (.int (1 : Int32)), (.ref a_FLOOR)])) (argsL := [(.ref a_FLOOR), (.int (1 : Int32)), (.int z5), (.int c13)]) (rest := []) rfl (by rw [hml]; rfl) (lenOf own_pd_6 rfl) rfl (by show 2 * 0 + _ ≤ _; exact Nat.le_of_eq rfl) (hb hby own_d_prog_9_method_3_code_118))
        refine own_st (T' := T8) (g' := (mkF m 121 #[.val (.long A), .second, .val (.long D), .second, .val (.ref a_FLOOR), .val (.long r), .second, .unset, .unset, .val (.int (1 : Int32)), .val (.long (r + D)), .second, .val (.int z5), .val (.int c13)] [(.int (1 : Int32))])) st8 ?_
        refine own_st (T' := T8) (g' := (mkF m 124 #[.val (.long A), .second, .val (.long D), .second, .val (.ref a_FLOOR), .val (.long r), .second, .unset, .unset, .val (.int (1 : Int32)), .val (.long (r + D)), .second, .val (.int z5), .val (.int c13)] [])) (fun _ k => XS.ifNo X8.here hx rfl (hb hby own_d_prog_9_method_3_code_121) rfl (by decide) k) ?_
        refine own_st (T' := T8) (g' := (mkF m 126 #[.val (.long A), .second, .val (.long D), .second, .val (.ref a_FLOOR), .val (.long r), .second, .unset, .unset, .val (.int (1 : Int32)), .val (.long (r + D)), .second, .val (.int z5), .val (.int c13)] [(.long (r + D))])) (fun _ k => XS.lload X8.here hx rfl (hb hby own_d_prog_9_method_3_code_124) rfl k) ?_
        refine own_st (T' := T8) (g' := (mkF m 128 #[.val (.long A), .second, .val (.long D), .second, .val (.ref a_FLOOR), .val (.long r), .second, .val (.long (r + D)), .second, .val (.int (1 : Int32)), .val (.long (r + D)), .second, .val (.int z5), .val (.int c13)] [])) (fun _ k => XS.lstore X8.here hx rfl (hb hby own_d_prog_9_method_3_code_126) rfl (l' := #[.val (.long A), .second, .val (.long D), .second, .val (.ref a_FLOOR), .val (.long r), .second, .val (.long (r + D)), .second, .val (.int (1 : Int32)), .val (.long (r + D)), .second, .val (.int z5), .val (.int c13)]) rfl k) ?_
        refine own_st (T' := T8) (g' := (mkF m 135 #[.val (.long A), .second, .val (.long D), .second, .val (.ref a_FLOOR), .val (.long r), .second, .val (.long (r + D)), .second, .val (.int (1 : Int32)), .val (.long (r + D)), .second, .val (.int z5), .val (.int c13)] [])) (fun _ k => XS.goto X8.here hx rfl (pc0 := 128) (pc' := 135) rfl (hb hby own_d_prog_9_method_3_code_128) (by decide) (by decide) k) ?_
        refine own_st (T' := T8) (g' := (mkF m 137 #[.val (.long A), .second, .val (.long D), .second, .val (.ref a_FLOOR), .val (.long r), .second, .val (.long (r + D)), .second, .val (.int (1 : Int32)), .val (.long (r + D)), .second, .val (.int z5), .val (.int c13)] [(.long (r + D))])) (fun _ k => XS.lload X8.here hx rfl (hb hby own_d_prog_9_method_3_code_135) rfl k) ?_
        exact own_retW X8 hx hlk hS (by rw [e8]; exact hk) hret rfl (Or.inr (Or.inl ⟨rfl, rfl, _, rfl⟩)) (hb hby own_d_prog_9_method_3_code_137) (by decide) (by decide) (by rw [e8]; exact ⟨(by rw [own_R_np hr hrn hDn]), Nf, E0⟩)
      refine own_st (T' := T6) (g' := (mkF m 97 #[.val (.long A), .second, .val (.long D), .second, .val (.ref a_FLOOR), .val (.long r), .second, .unset, .unset, .val (.int (1 : Int32)), .val (.long (r + D)), .second, .val (.int z5), .unset] [(.long (1 : Int64)), (.long ((A - r) >>> (z6 &&& 0x3f).toInt64))])) (fun _ k => XS.lconst X6.here hx rfl (hb hby own_d_prog_9_method_3_code_96) k) ?_
      refine own_st (T' := T6) (g' := (mkF m 98 #[.val (.long A), .second, .val (.long D), .second, .val (.ref a_FLOOR), .val (.long r), .second, .unset, .unset, .val (.int (1 : Int32)), .val (.long (r + D)), .second, .val (.int z5), .unset] [(.long (((A - r) >>> (z6 &&& 0x3f).toInt64) &&& (1 : Int64)))])) (fun _ k => XS.land X6.here hx rfl (hb hby own_d_prog_9_method_3_code_97) rfl k) ?_
      refine own_st (T' := T6) (g' := (mkF m 99 #[.val (.long A), .second, .val (.long D), .second, .val (.ref a_FLOOR), .val (.long r), .second, .unset, .unset, .val (.int (1 : Int32)), .val (.long (r + D)), .second, .val (.int z5), .unset] [(.long (0 : Int64)), (.long (((A - r) >>> (z6 &&& 0x3f).toInt64) &&& (1 : Int64)))])) (fun _ k => XS.lconst X6.here hx rfl (hb hby own_d_prog_9_method_3_code_98) k) ?_
      refine own_st (T' := T6) (g' := (mkF m 100 #[.val (.long A), .second, .val (.long D), .second, .val (.ref a_FLOOR), .val (.long r), .second, .unset, .unset, .val (.int (1 : Int32)), .val (.long (r + D)), .second, .val (.int z5), .unset] [(.int (lcmpW (((A - r) >>> (z6 &&& 0x3f).toInt64) &&& (1 : Int64)) (0 : Int64)))])) (fun _ k => XS.lcmp X6.here hx rfl (hb hby own_d_prog_9_method_3_code_99) rfl k) ?_
      by_cases hc100_9 : (lcmpW (((A - r) >>> (z6 &&& 0x3f).toInt64) &&& (1 : Int64)) (0 : Int64)) = (0 : Int32)
      ·
        refine own_st (T' := T6) (g' := (mkF m 107 #[.val (.long A), .second, .val (.long D), .second, .val (.ref a_FLOOR), .val (.long r), .second, .unset, .unset, .val (.int (1 : Int32)), .val (.long (r + D)), .second, .val (.int z5), .unset] [])) (fun _ k => XS.ifYes X6.here hx rfl (pc0 := 100) (pc' := 107) rfl (hb hby own_d_prog_9_method_3_code_100) rfl ((if0 _ _).trans (teq hc100_9).1) (by decide) (by decide) k) ?_
        refine own_st (T' := T6) (g' := (mkF m 108 #[.val (.long A), .second, .val (.long D), .second, .val (.ref a_FLOOR), .val (.long r), .second, .unset, .unset, .val (.int (1 : Int32)), .val (.long (r + D)), .second, .val (.int z5), .unset] [(.int (0 : Int32))])) (fun _ k => XS.iconst X6.here hx rfl (hb hby own_d_prog_9_method_3_code_107) k) ?_
        refine own_st (T' := T6) (g' := (mkF m 110 #[.val (.long A), .second, .val (.long D), .second, .val (.ref a_FLOOR), .val (.long r), .second, .unset, .unset, .val (.int (1 : Int32)), .val (.long (r + D)), .second, .val (.int z5), .val (.int (0 : Int32))] [])) (fun _ k => XS.istore X6.here hx rfl (hb hby own_d_prog_9_method_3_code_108) rfl (l' := #[.val (.long A), .second, .val (.long D), .second, .val (.ref a_FLOOR), .val (.long r), .second, .unset, .unset, .val (.int (1 : Int32)), .val (.long (r + D)), .second, .val (.int z5), .val (.int (0 : Int32))]) rfl k) ?_
        exact K110_7 (0 : Int32)
      ·
        refine own_st (T' := T6) (g' := (mkF m 103 #[.val (.long A), .second, .val (.long D), .second, .val (.ref a_FLOOR), .val (.long r), .second, .unset, .unset, .val (.int (1 : Int32)), .val (.long (r + D)), .second, .val (.int z5), .unset] [])) (fun _ k => XS.ifNo X6.here hx rfl (hb hby own_d_prog_9_method_3_code_100) rfl ((if0 _ _).trans (feq hc100_9).1) k) ?_
        refine own_st (T' := T6) (g' := (mkF m 104 #[.val (.long A), .second, .val (.long D), .second, .val (.ref a_FLOOR), .val (.long r), .second, .unset, .unset, .val (.int (1 : Int32)), .val (.long (r + D)), .second, .val (.int z5), .unset] [(.int (1 : Int32))])) (fun _ k => XS.iconst X6.here hx rfl (hb hby own_d_prog_9_method_3_code_103) k) ?_
        refine own_st (T' := T6) (g' := (mkF m 108 #[.val (.long A), .second, .val (.long D), .second, .val (.ref a_FLOOR), .val (.long r), .second, .unset, .unset, .val (.int (1 : Int32)), .val (.long (r + D)), .second, .val (.int z5), .unset] [(.int (1 : Int32))])) (fun _ k => XS.goto X6.here hx rfl (pc0 := 104) (pc' := 108) rfl (hb hby own_d_prog_9_method_3_code_104) (by decide) (by decide) k) ?_
        refine own_st (T' := T6) (g' := (mkF m 110 #[.val (.long A), .second, .val (.long D), .second, .val (.ref a_FLOOR), .val (.long r), .second, .unset, .unset, .val (.int (1 : Int32)), .val (.long (r + D)), .second, .val (.int z5), .val (.int (1 : Int32))] [])) (fun _ k => XS.istore X6.here hx rfl (hb hby own_d_prog_9_method_3_code_108) rfl (l' := #[.val (.long A), .second, .val (.long D), .second, .val (.ref a_FLOOR), .val (.long r), .second, .unset, .unset, .val (.int (1 : Int32)), .val (.long (r + D)), .second, .val (.int z5), .val (.int (1 : Int32))]) rfl k) ?_
        exact K110_7 (1 : Int32)
    ·
      have hrI : ¬ r.toInt < 0 := by have e0 : (0 : Int64).toInt = 0 := rfl; rw [Int64.lt_iff_toInt_lt, e0] at hrn; exact hrn
      have hrl : ¬ ((lcmpW r (0 : Int64)) < (0 : Int32)) := by rw [lw_lt]; exact hrn
      have hxl : ¬ ((lcmpW (r ^^^ D) (0 : Int64)) < (0 : Int32)) := by rw [lw_lt, own_xor]; omega
      refine own_st (T' := T2) (g' := (mkF m 25 #[.val (.long A), .second, .val (.long D), .second, .val (.ref a_FLOOR), .val (.long r), .second, .unset, .unset, .unset, .unset, .unset, .unset, .unset] [(.long r)])) (fun _ k => XS.lload X2.here hx rfl (hb hby own_d_prog_9_method_3_code_23) rfl k) ?_
      refine own_st (T' := T2) (g' := (mkF m 26 #[.val (.long A), .second, .val (.long D), .second, .val (.ref a_FLOOR), .val (.long r), .second, .unset, .unset, .unset, .unset, .unset, .unset, .unset] [(.long (0 : Int64)), (.long r)])) (fun _ k => XS.lconst X2.here hx rfl (hb hby own_d_prog_9_method_3_code_25) k) ?_
      refine own_st (T' := T2) (g' := (mkF m 27 #[.val (.long A), .second, .val (.long D), .second, .val (.ref a_FLOOR), .val (.long r), .second, .unset, .unset, .unset, .unset, .unset, .unset, .unset] [(.int (lcmpW r (0 : Int64)))])) (fun _ k => XS.lcmp X2.here hx rfl (hb hby own_d_prog_9_method_3_code_26) rfl k) ?_
      refine own_st (T' := T2) (g' := (mkF m 36 #[.val (.long A), .second, .val (.long D), .second, .val (.ref a_FLOOR), .val (.long r), .second, .unset, .unset, .unset, .unset, .unset, .unset, .unset] [])) (fun _ k => XS.ifYes X2.here hx rfl (pc0 := 27) (pc' := 36) rfl (hb hby own_d_prog_9_method_3_code_27) rfl ((if0 _ _).trans (feq hr0).2) (by decide) (by decide) k) ?_
      refine own_st (T' := T2) (g' := (mkF m 38 #[.val (.long A), .second, .val (.long D), .second, .val (.ref a_FLOOR), .val (.long r), .second, .unset, .unset, .unset, .unset, .unset, .unset, .unset] [(.long r)])) (fun _ k => XS.lload X2.here hx rfl (hb hby own_d_prog_9_method_3_code_36) rfl k) ?_
      refine own_st (T' := T2) (g' := (mkF m 39 #[.val (.long A), .second, .val (.long D), .second, .val (.ref a_FLOOR), .val (.long r), .second, .unset, .unset, .unset, .unset, .unset, .unset, .unset] [(.long D), (.long r)])) (fun _ k => XS.lloadN X2.here hx rfl (hb hby own_d_prog_9_method_3_code_38) rfl k) ?_
      refine own_st (T' := T2) (g' := (mkF m 40 #[.val (.long A), .second, .val (.long D), .second, .val (.ref a_FLOOR), .val (.long r), .second, .unset, .unset, .unset, .unset, .unset, .unset, .unset] [(.long (r ^^^ D))])) (fun _ k => XS.lxor X2.here hx rfl (hb hby own_d_prog_9_method_3_code_39) rfl k) ?_
      refine own_st (T' := T2) (g' := (mkF m 41 #[.val (.long A), .second, .val (.long D), .second, .val (.ref a_FLOOR), .val (.long r), .second, .unset, .unset, .unset, .unset, .unset, .unset, .unset] [(.long (0 : Int64)), (.long (r ^^^ D))])) (fun _ k => XS.lconst X2.here hx rfl (hb hby own_d_prog_9_method_3_code_40) k) ?_
      refine own_st (T' := T2) (g' := (mkF m 42 #[.val (.long A), .second, .val (.long D), .second, .val (.ref a_FLOOR), .val (.long r), .second, .unset, .unset, .unset, .unset, .unset, .unset, .unset] [(.int (lcmpW (r ^^^ D) (0 : Int64)))])) (fun _ k => XS.lcmp X2.here hx rfl (hb hby own_d_prog_9_method_3_code_41) rfl k) ?_
      refine own_st (T' := T2) (g' := (mkF m 49 #[.val (.long A), .second, .val (.long D), .second, .val (.ref a_FLOOR), .val (.long r), .second, .unset, .unset, .unset, .unset, .unset, .unset, .unset] [])) (fun _ k => XS.ifYes X2.here hx rfl (pc0 := 42) (pc' := 49) rfl (hb hby own_d_prog_9_method_3_code_42) rfl ((if0 _ _).trans (flt hxl).2.1) (by decide) (by decide) k) ?_
      refine own_st (T' := T2) (g' := (mkF m 50 #[.val (.long A), .second, .val (.long D), .second, .val (.ref a_FLOOR), .val (.long r), .second, .unset, .unset, .unset, .unset, .unset, .unset, .unset] [(.int (0 : Int32))])) (fun _ k => XS.iconst X2.here hx rfl (hb hby own_d_prog_9_method_3_code_49) k) ?_
      refine own_st (T' := T2) (g' := (mkF m 52 #[.val (.long A), .second, .val (.long D), .second, .val (.ref a_FLOOR), .val (.long r), .second, .unset, .unset, .val (.int (0 : Int32)), .unset, .unset, .unset, .unset] [])) (fun _ k => XS.istore X2.here hx rfl (hb hby own_d_prog_9_method_3_code_50) rfl (l' := #[.val (.long A), .second, .val (.long D), .second, .val (.ref a_FLOOR), .val (.long r), .second, .unset, .unset, .val (.int (0 : Int32)), .unset, .unset, .unset, .unset]) rfl k) ?_
      refine own_st (T' := T2) (g' := (mkF m 54 #[.val (.long A), .second, .val (.long D), .second, .val (.ref a_FLOOR), .val (.long r), .second, .unset, .unset, .val (.int (0 : Int32)), .unset, .unset, .unset, .unset] [(.int (0 : Int32))])) (fun _ k => XS.iload X2.here hx rfl (hb hby own_d_prog_9_method_3_code_52) rfl k) ?_
      refine own_st (T' := T2) (g' := (mkF m 66 #[.val (.long A), .second, .val (.long D), .second, .val (.ref a_FLOOR), .val (.long r), .second, .unset, .unset, .val (.int (0 : Int32)), .unset, .unset, .unset, .unset] [])) (fun _ k => XS.ifYes X2.here hx rfl (pc0 := 54) (pc' := 66) rfl (hb hby own_d_prog_9_method_3_code_54) rfl (by decide) (by decide) (by decide) k) ?_
      refine own_st (T' := T2) (g' := (mkF m 68 #[.val (.long A), .second, .val (.long D), .second, .val (.ref a_FLOOR), .val (.long r), .second, .unset, .unset, .val (.int (0 : Int32)), .unset, .unset, .unset, .unset] [(.long r)])) (fun _ k => XS.lload X2.here hx rfl (hb hby own_d_prog_9_method_3_code_66) rfl k) ?_
      refine own_st (T' := T2) (g' := (mkF m 69 #[.val (.long A), .second, .val (.long D), .second, .val (.ref a_FLOOR), .val (.long r), .second, .unset, .unset, .val (.int (0 : Int32)), .unset, .unset, .unset, .unset] [(.long D), (.long r)])) (fun _ k => XS.lloadN X2.here hx rfl (hb hby own_d_prog_9_method_3_code_68) rfl k) ?_
      refine own_st (T' := T2) (g' := (mkF m 70 #[.val (.long A), .second, .val (.long D), .second, .val (.ref a_FLOOR), .val (.long r), .second, .unset, .unset, .val (.int (0 : Int32)), .unset, .unset, .unset, .unset] [(.long (r - D))])) (fun _ k => XS.lsub X2.here hx rfl (hb hby own_d_prog_9_method_3_code_69) rfl k) ?_
      refine own_st (T' := T2) (g' := (mkF m 72 #[.val (.long A), .second, .val (.long D), .second, .val (.ref a_FLOOR), .val (.long r), .second, .unset, .unset, .val (.int (0 : Int32)), .val (.long (r - D)), .second, .unset, .unset] [])) (fun _ k => XS.lstore X2.here hx rfl (hb hby own_d_prog_9_method_3_code_70) rfl (l' := #[.val (.long A), .second, .val (.long D), .second, .val (.ref a_FLOOR), .val (.long r), .second, .unset, .unset, .val (.int (0 : Int32)), .val (.long (r - D)), .second, .unset, .unset]) rfl k) ?_
      have hal : (lcmpW (r - D) (0 : Int64)) < (0 : Int32) := by have e0 : (0 : Int64).toInt = 0 := rfl; rw [lw_lt, Int64.lt_iff_toInt_lt, e0, own_sub64 (by omega) (by omega)]; omega
      refine own_st (T' := T2) (g' := (mkF m 74 #[.val (.long A), .second, .val (.long D), .second, .val (.ref a_FLOOR), .val (.long r), .second, .unset, .unset, .val (.int (0 : Int32)), .val (.long (r - D)), .second, .unset, .unset] [(.long r)])) (fun _ k => XS.lload X2.here hx rfl (hb hby own_d_prog_9_method_3_code_72) rfl k) ?_
      obtain ⟨T10, X10, e10, st10⟩ := own_pure (w := (.long r)) rfl rfl (own_gS X2 hx hZ hown (hw _ (List.mem_of_getElem? (i := 32) rfl)) (hw _ (List.mem_of_getElem? (i := 1) rfl)) (hw _ (List.mem_of_getElem? (i := 2) rfl)) (hw _ (List.mem_of_getElem? (i := 3) rfl)) (by decide) e2 (own_abs_4 l Z a0 hw h1 a_SM cl_SM a_FLOOR a_CEILING hE r hr0 hrl) (by decide) (by decide) (by decide) (by decide) (Q := fun v h L => v = some (.long r) ∧ L = [] ∧ h = h1) (W := 0) (g := (mkF m 74 #[.val (.long A), .second, .val (.long D), .second, .val (.ref a_FLOOR), .val (.long r), .second, .unset, .unset, .val (.int (0 : Int32)), .val (.long (r - D)), .second, .unset, .unset] [(.long r)])) (argsL := [(.long r)]) (rest := []) rfl (by rw [hml]; rfl) (lenOf own_pd_2 rfl) rfl (by show 2 * 0 + _ ≤ _; exact Nat.le_of_eq rfl) (hb hby own_d_prog_9_method_3_code_74))
      refine own_st (T' := T10) (g' := (mkF m 77 #[.val (.long A), .second, .val (.long D), .second, .val (.ref a_FLOOR), .val (.long r), .second, .unset, .unset, .val (.int (0 : Int32)), .val (.long (r - D)), .second, .unset, .unset] [(.long r)])) st10 ?_
      refine own_st (T' := T10) (g' := (mkF m 79 #[.val (.long A), .second, .val (.long D), .second, .val (.ref a_FLOOR), .val (.long r), .second, .unset, .unset, .val (.int (0 : Int32)), .val (.long (r - D)), .second, .unset, .unset] [(.long (r - D)), (.long r)])) (fun _ k => XS.lload X10.here hx rfl (hb hby own_d_prog_9_method_3_code_77) rfl k) ?_
      obtain ⟨T11, X11, e11, st11⟩ := own_pure (w := (.long ((-(r - D))))) rfl rfl (own_gS X10 hx hZ hown (hw _ (List.mem_of_getElem? (i := 32) rfl)) (hw _ (List.mem_of_getElem? (i := 1) rfl)) (hw _ (List.mem_of_getElem? (i := 2) rfl)) (hw _ (List.mem_of_getElem? (i := 3) rfl)) (by decide) e10 (own_abs_5 l Z a0 hw h1 a_SM cl_SM a_FLOOR a_CEILING hE D r hDz hr0 hrl hxl hal) (by decide) (by decide) (by decide) (by decide) (Q := fun v h L => v = some (.long ((-(r - D)))) ∧ L = [] ∧ h = h1) (W := 2) (g := (mkF m 79 #[.val (.long A), .second, .val (.long D), .second, .val (.ref a_FLOOR), .val (.long r), .second, .unset, .unset, .val (.int (0 : Int32)), .val (.long (r - D)), .second, .unset, .unset] [(.long (r - D)), (.long r)])) (argsL := [(.long (r - D))]) (rest := [(.long r)]) rfl (by rw [hml]; rfl) (lenOf own_pd_2 rfl) rfl (by show 2 * 0 + _ ≤ _; exact Nat.le_of_eq rfl) (hb hby own_d_prog_9_method_3_code_79))
      refine own_st (T' := T11) (g' := (mkF m 82 #[.val (.long A), .second, .val (.long D), .second, .val (.ref a_FLOOR), .val (.long r), .second, .unset, .unset, .val (.int (0 : Int32)), .val (.long (r - D)), .second, .unset, .unset] [(.long ((-(r - D)))), (.long r)])) st11 ?_
      obtain ⟨v12, T12, L12, X12, hQ12, st12⟩ := own_gS X11  hx hZ hown (hw _ (List.mem_of_getElem? (i := 33) rfl)) (hw _ (List.mem_of_getElem? (i := 34) rfl)) (hw _ (List.mem_of_getElem? (i := 35) rfl)) (hw _ (List.mem_of_getElem? (i := 36) rfl)) (by decide) e11 (own_lcp l Z a0 hw h1 r ((-(r - D)))) (by decide) (by decide) (by decide) (by decide) (Q := (fun v h L => (∃ z : Int32, v = some (.int z)) ∧ L = [] ∧ h = h1)) (W := 0) (g := (mkF m 82 #[.val (.long A), .second, .val (.long D), .second, .val (.ref a_FLOOR), .val (.long r), .second, .unset, .unset, .val (.int (0 : Int32)), .val (.long (r - D)), .second, .unset, .unset] [(.long ((-(r - D)))), (.long r)])) (argsL := [(.long r), (.long ((-(r - D))))]) (rest := []) rfl (by rw [hml]; rfl) (lenOf own_pd_3 rfl) rfl (by show 2 * 0 + _ ≤ _; exact Nat.le_of_eq rfl) (hb hby own_d_prog_9_method_3_code_82)
      obtain ⟨⟨z12, rfl⟩, rfl, e12⟩ := hQ12
      rw [List.append_nil] at X12
      refine own_st (T' := T12) (g' := (mkF m 85 #[.val (.long A), .second, .val (.long D), .second, .val (.ref a_FLOOR), .val (.long r), .second, .unset, .unset, .val (.int (0 : Int32)), .val (.long (r - D)), .second, .unset, .unset] [(.int z12)])) st12 ?_
      refine own_st (T' := T12) (g' := (mkF m 87 #[.val (.long A), .second, .val (.long D), .second, .val (.ref a_FLOOR), .val (.long r), .second, .unset, .unset, .val (.int (0 : Int32)), .val (.long (r - D)), .second, .val (.int z12), .unset] [])) (fun _ k => XS.istore X12.here hx rfl (hb hby own_d_prog_9_method_3_code_85) rfl (l' := #[.val (.long A), .second, .val (.long D), .second, .val (.ref a_FLOOR), .val (.long r), .second, .unset, .unset, .val (.int (0 : Int32)), .val (.long (r - D)), .second, .val (.int z12), .unset]) rfl k) ?_
      refine own_st (T' := T12) (g' := (mkF m 88 #[.val (.long A), .second, .val (.long D), .second, .val (.ref a_FLOOR), .val (.long r), .second, .unset, .unset, .val (.int (0 : Int32)), .val (.long (r - D)), .second, .val (.int z12), .unset] [(.long A)])) (fun _ k => XS.lloadN X12.here hx rfl (hb hby own_d_prog_9_method_3_code_87) rfl k) ?_
      refine own_st (T' := T12) (g' := (mkF m 90 #[.val (.long A), .second, .val (.long D), .second, .val (.ref a_FLOOR), .val (.long r), .second, .unset, .unset, .val (.int (0 : Int32)), .val (.long (r - D)), .second, .val (.int z12), .unset] [(.long r), (.long A)])) (fun _ k => XS.lload X12.here hx rfl (hb hby own_d_prog_9_method_3_code_88) rfl k) ?_
      refine own_st (T' := T12) (g' := (mkF m 91 #[.val (.long A), .second, .val (.long D), .second, .val (.ref a_FLOOR), .val (.long r), .second, .unset, .unset, .val (.int (0 : Int32)), .val (.long (r - D)), .second, .val (.int z12), .unset] [(.long (A - r))])) (fun _ k => XS.lsub X12.here hx rfl (hb hby own_d_prog_9_method_3_code_90) rfl k) ?_
      refine own_st (T' := T12) (g' := (mkF m 92 #[.val (.long A), .second, .val (.long D), .second, .val (.ref a_FLOOR), .val (.long r), .second, .unset, .unset, .val (.int (0 : Int32)), .val (.long (r - D)), .second, .val (.int z12), .unset] [(.long D), (.long (A - r))])) (fun _ k => XS.lloadN X12.here hx rfl (hb hby own_d_prog_9_method_3_code_91) rfl k) ?_
      obtain ⟨v13, T13, L13, X13, hQ13, st13⟩ := own_gS X12  hx hZ hown (hw _ (List.mem_of_getElem? (i := 37) rfl)) (hw _ (List.mem_of_getElem? (i := 38) rfl)) (hw _ (List.mem_of_getElem? (i := 35) rfl)) (hw _ (List.mem_of_getElem? (i := 39) rfl)) (by decide) e12 (own_ltz l Z a0 hw h1 D) (by decide) (by decide) (by decide) (by decide) (Q := (fun v h L => (∃ z : Int32, v = some (.int z)) ∧ L = [] ∧ h = h1)) (W := 2) (g := (mkF m 92 #[.val (.long A), .second, .val (.long D), .second, .val (.ref a_FLOOR), .val (.long r), .second, .unset, .unset, .val (.int (0 : Int32)), .val (.long (r - D)), .second, .val (.int z12), .unset] [(.long D), (.long (A - r))])) (argsL := [(.long D)]) (rest := [(.long (A - r))]) rfl (by rw [hml]; rfl) (lenOf own_pd_4 rfl) rfl (by show 2 * 0 + _ ≤ _; exact Nat.le_of_eq rfl) (hb hby own_d_prog_9_method_3_code_92)
      obtain ⟨⟨z13, rfl⟩, rfl, e13⟩ := hQ13
      rw [List.append_nil] at X13
      refine own_st (T' := T13) (g' := (mkF m 95 #[.val (.long A), .second, .val (.long D), .second, .val (.ref a_FLOOR), .val (.long r), .second, .unset, .unset, .val (.int (0 : Int32)), .val (.long (r - D)), .second, .val (.int z12), .unset] [(.int z13), (.long (A - r))])) st13 ?_
      refine own_st (T' := T13) (g' := (mkF m 96 #[.val (.long A), .second, .val (.long D), .second, .val (.ref a_FLOOR), .val (.long r), .second, .unset, .unset, .val (.int (0 : Int32)), .val (.long (r - D)), .second, .val (.int z12), .unset] [(.long ((A - r) >>> (z13 &&& 0x3f).toInt64))])) (fun _ k => XS.lshr X13.here hx rfl (hb hby own_d_prog_9_method_3_code_95) rfl k) ?_
      have K110_14 : ∀ (c13 : Int32), own_Go p e below (own_W s 2 20 (fun v h L => v = some (.long (own_R A D)) ∧ Fr h0.size L ∧ Ext h0 h)) T13 (mkF m 110 #[.val (.long A), .second, .val (.long D), .second, .val (.ref a_FLOOR), .val (.long r), .second, .unset, .unset, .val (.int (0 : Int32)), .val (.long (r - D)), .second, .val (.int z12), .val (.int c13)] []) := by
        intro c13
        refine own_st (T' := T13) (g' := (mkF m 112 #[.val (.long A), .second, .val (.long D), .second, .val (.ref a_FLOOR), .val (.long r), .second, .unset, .unset, .val (.int (0 : Int32)), .val (.long (r - D)), .second, .val (.int z12), .val (.int c13)] [(.ref a_FLOOR)])) (fun _ k => XS.aload X13.here hx rfl (hb hby own_d_prog_9_method_3_code_110) rfl rfl k) ?_
        refine own_st (T' := T13) (g' := (mkF m 114 #[.val (.long A), .second, .val (.long D), .second, .val (.ref a_FLOOR), .val (.long r), .second, .unset, .unset, .val (.int (0 : Int32)), .val (.long (r - D)), .second, .val (.int z12), .val (.int c13)] [(.int (0 : Int32)), (.ref a_FLOOR)])) (fun _ k => XS.iload X13.here hx rfl (hb hby own_d_prog_9_method_3_code_112) rfl k) ?_
        refine own_st (T' := T13) (g' := (mkF m 116 #[.val (.long A), .second, .val (.long D), .second, .val (.ref a_FLOOR), .val (.long r), .second, .unset, .unset, .val (.int (0 : Int32)), .val (.long (r - D)), .second, .val (.int z12), .val (.int c13)] [(.int z12), (.int (0 : Int32)), (.ref a_FLOOR)])) (fun _ k => XS.iload X13.here hx rfl (hb hby own_d_prog_9_method_3_code_114) rfl k) ?_
        refine own_st (T' := T13) (g' := (mkF m 118 #[.val (.long A), .second, .val (.long D), .second, .val (.ref a_FLOOR), .val (.long r), .second, .unset, .unset, .val (.int (0 : Int32)), .val (.long (r - D)), .second, .val (.int z12), .val (.int c13)] [(.int c13), (.int z12), (.int (0 : Int32)), (.ref a_FLOOR)])) (fun _ k => XS.iload X13.here hx rfl (hb hby own_d_prog_9_method_3_code_116) rfl k) ?_
        obtain ⟨T15, X15, e15, st15⟩ := own_pure (w := (.int (0 : Int32))) rfl rfl (own_gS X13 hx hZ hown (hw _ (List.mem_of_getElem? (i := 44) rfl)) (hw _ (List.mem_of_getElem? (i := 45) rfl)) (hw _ (List.mem_of_getElem? (i := 10) rfl)) (hw _ (List.mem_of_getElem? (i := 46) rfl)) (by decide) e13 (own_stepsAway_6 l Z a0 hw h1 a_SM cl_SM a_FLOOR a_CEILING hE c13) (by decide) (by decide) (by decide) (by decide) (Q := fun v h L => v = some (.int (0 : Int32)) ∧ L = [] ∧ h = h1) (W := 0) (g := (mkF m 118 #[.val (.long A), .second, .val (.long D), .second, .val (.ref a_FLOOR), .val (.long r), .second, .unset, .unset, .val (.int (0 : Int32)), .val (.long (r - D)), .second, .val (.int z12), .val (.int c13)] [(.int c13), (.int z12), (.int (0 : Int32)), (.ref a_FLOOR)])) (argsL := [(.ref a_FLOOR), (.int (0 : Int32)), (.int z12), (.int c13)]) (rest := []) rfl (by rw [hml]; rfl) (lenOf own_pd_6 rfl) rfl (by show 2 * 0 + _ ≤ _; exact Nat.le_of_eq rfl) (hb hby own_d_prog_9_method_3_code_118))
        refine own_st (T' := T15) (g' := (mkF m 121 #[.val (.long A), .second, .val (.long D), .second, .val (.ref a_FLOOR), .val (.long r), .second, .unset, .unset, .val (.int (0 : Int32)), .val (.long (r - D)), .second, .val (.int z12), .val (.int c13)] [(.int (0 : Int32))])) st15 ?_
        refine own_st (T' := T15) (g' := (mkF m 131 #[.val (.long A), .second, .val (.long D), .second, .val (.ref a_FLOOR), .val (.long r), .second, .unset, .unset, .val (.int (0 : Int32)), .val (.long (r - D)), .second, .val (.int z12), .val (.int c13)] [])) (fun _ k => XS.ifYes X15.here hx rfl (pc0 := 121) (pc' := 131) rfl (hb hby own_d_prog_9_method_3_code_121) rfl (by decide) (by decide) (by decide) k) ?_
        refine own_st (T' := T15) (g' := (mkF m 133 #[.val (.long A), .second, .val (.long D), .second, .val (.ref a_FLOOR), .val (.long r), .second, .unset, .unset, .val (.int (0 : Int32)), .val (.long (r - D)), .second, .val (.int z12), .val (.int c13)] [(.long r)])) (fun _ k => XS.lload X15.here hx rfl (hb hby own_d_prog_9_method_3_code_131) rfl k) ?_
        refine own_st (T' := T15) (g' := (mkF m 135 #[.val (.long A), .second, .val (.long D), .second, .val (.ref a_FLOOR), .val (.long r), .second, .val (.long r), .second, .val (.int (0 : Int32)), .val (.long (r - D)), .second, .val (.int z12), .val (.int c13)] [])) (fun _ k => XS.lstore X15.here hx rfl (hb hby own_d_prog_9_method_3_code_133) rfl (l' := #[.val (.long A), .second, .val (.long D), .second, .val (.ref a_FLOOR), .val (.long r), .second, .val (.long r), .second, .val (.int (0 : Int32)), .val (.long (r - D)), .second, .val (.int z12), .val (.int c13)]) rfl k) ?_
        refine own_st (T' := T15) (g' := (mkF m 137 #[.val (.long A), .second, .val (.long D), .second, .val (.ref a_FLOOR), .val (.long r), .second, .val (.long r), .second, .val (.int (0 : Int32)), .val (.long (r - D)), .second, .val (.int z12), .val (.int c13)] [(.long r)])) (fun _ k => XS.lload X15.here hx rfl (hb hby own_d_prog_9_method_3_code_135) rfl k) ?_
        exact own_retW X15 hx hlk hS (by rw [e15]; exact hk) hret rfl (Or.inr (Or.inl ⟨rfl, rfl, _, rfl⟩)) (hb hby own_d_prog_9_method_3_code_137) (by decide) (by decide) (by rw [e15]; exact ⟨(by rw [own_R_p hr hrn]), Nf, E0⟩)
      refine own_st (T' := T13) (g' := (mkF m 97 #[.val (.long A), .second, .val (.long D), .second, .val (.ref a_FLOOR), .val (.long r), .second, .unset, .unset, .val (.int (0 : Int32)), .val (.long (r - D)), .second, .val (.int z12), .unset] [(.long (1 : Int64)), (.long ((A - r) >>> (z13 &&& 0x3f).toInt64))])) (fun _ k => XS.lconst X13.here hx rfl (hb hby own_d_prog_9_method_3_code_96) k) ?_
      refine own_st (T' := T13) (g' := (mkF m 98 #[.val (.long A), .second, .val (.long D), .second, .val (.ref a_FLOOR), .val (.long r), .second, .unset, .unset, .val (.int (0 : Int32)), .val (.long (r - D)), .second, .val (.int z12), .unset] [(.long (((A - r) >>> (z13 &&& 0x3f).toInt64) &&& (1 : Int64)))])) (fun _ k => XS.land X13.here hx rfl (hb hby own_d_prog_9_method_3_code_97) rfl k) ?_
      refine own_st (T' := T13) (g' := (mkF m 99 #[.val (.long A), .second, .val (.long D), .second, .val (.ref a_FLOOR), .val (.long r), .second, .unset, .unset, .val (.int (0 : Int32)), .val (.long (r - D)), .second, .val (.int z12), .unset] [(.long (0 : Int64)), (.long (((A - r) >>> (z13 &&& 0x3f).toInt64) &&& (1 : Int64)))])) (fun _ k => XS.lconst X13.here hx rfl (hb hby own_d_prog_9_method_3_code_98) k) ?_
      refine own_st (T' := T13) (g' := (mkF m 100 #[.val (.long A), .second, .val (.long D), .second, .val (.ref a_FLOOR), .val (.long r), .second, .unset, .unset, .val (.int (0 : Int32)), .val (.long (r - D)), .second, .val (.int z12), .unset] [(.int (lcmpW (((A - r) >>> (z13 &&& 0x3f).toInt64) &&& (1 : Int64)) (0 : Int64)))])) (fun _ k => XS.lcmp X13.here hx rfl (hb hby own_d_prog_9_method_3_code_99) rfl k) ?_
      by_cases hc100_16 : (lcmpW (((A - r) >>> (z13 &&& 0x3f).toInt64) &&& (1 : Int64)) (0 : Int64)) = (0 : Int32)
      ·
        refine own_st (T' := T13) (g' := (mkF m 107 #[.val (.long A), .second, .val (.long D), .second, .val (.ref a_FLOOR), .val (.long r), .second, .unset, .unset, .val (.int (0 : Int32)), .val (.long (r - D)), .second, .val (.int z12), .unset] [])) (fun _ k => XS.ifYes X13.here hx rfl (pc0 := 100) (pc' := 107) rfl (hb hby own_d_prog_9_method_3_code_100) rfl ((if0 _ _).trans (teq hc100_16).1) (by decide) (by decide) k) ?_
        refine own_st (T' := T13) (g' := (mkF m 108 #[.val (.long A), .second, .val (.long D), .second, .val (.ref a_FLOOR), .val (.long r), .second, .unset, .unset, .val (.int (0 : Int32)), .val (.long (r - D)), .second, .val (.int z12), .unset] [(.int (0 : Int32))])) (fun _ k => XS.iconst X13.here hx rfl (hb hby own_d_prog_9_method_3_code_107) k) ?_
        refine own_st (T' := T13) (g' := (mkF m 110 #[.val (.long A), .second, .val (.long D), .second, .val (.ref a_FLOOR), .val (.long r), .second, .unset, .unset, .val (.int (0 : Int32)), .val (.long (r - D)), .second, .val (.int z12), .val (.int (0 : Int32))] [])) (fun _ k => XS.istore X13.here hx rfl (hb hby own_d_prog_9_method_3_code_108) rfl (l' := #[.val (.long A), .second, .val (.long D), .second, .val (.ref a_FLOOR), .val (.long r), .second, .unset, .unset, .val (.int (0 : Int32)), .val (.long (r - D)), .second, .val (.int z12), .val (.int (0 : Int32))]) rfl k) ?_
        exact K110_14 (0 : Int32)
      ·
        refine own_st (T' := T13) (g' := (mkF m 103 #[.val (.long A), .second, .val (.long D), .second, .val (.ref a_FLOOR), .val (.long r), .second, .unset, .unset, .val (.int (0 : Int32)), .val (.long (r - D)), .second, .val (.int z12), .unset] [])) (fun _ k => XS.ifNo X13.here hx rfl (hb hby own_d_prog_9_method_3_code_100) rfl ((if0 _ _).trans (feq hc100_16).1) k) ?_
        refine own_st (T' := T13) (g' := (mkF m 104 #[.val (.long A), .second, .val (.long D), .second, .val (.ref a_FLOOR), .val (.long r), .second, .unset, .unset, .val (.int (0 : Int32)), .val (.long (r - D)), .second, .val (.int z12), .unset] [(.int (1 : Int32))])) (fun _ k => XS.iconst X13.here hx rfl (hb hby own_d_prog_9_method_3_code_103) k) ?_
        refine own_st (T' := T13) (g' := (mkF m 108 #[.val (.long A), .second, .val (.long D), .second, .val (.ref a_FLOOR), .val (.long r), .second, .unset, .unset, .val (.int (0 : Int32)), .val (.long (r - D)), .second, .val (.int z12), .unset] [(.int (1 : Int32))])) (fun _ k => XS.goto X13.here hx rfl (pc0 := 104) (pc' := 108) rfl (hb hby own_d_prog_9_method_3_code_104) (by decide) (by decide) k) ?_
        refine own_st (T' := T13) (g' := (mkF m 110 #[.val (.long A), .second, .val (.long D), .second, .val (.ref a_FLOOR), .val (.long r), .second, .unset, .unset, .val (.int (0 : Int32)), .val (.long (r - D)), .second, .val (.int z12), .val (.int (1 : Int32))] [])) (fun _ k => XS.istore X13.here hx rfl (hb hby own_d_prog_9_method_3_code_108) rfl (l' := #[.val (.long A), .second, .val (.long D), .second, .val (.ref a_FLOOR), .val (.long r), .second, .unset, .unset, .val (.int (0 : Int32)), .val (.long (r - D)), .second, .val (.int z12), .val (.int (1 : Int32))]) rfl k) ?_
        exact K110_14 (1 : Int32)
set_option maxRecDepth 65536 in
set_option maxHeartbeats 40000000 in
theorem own_abs_7 (l : Launch) (Z : State) (a0 : Array Value) (hw : ∀ d ∈ tables_1, d.before a0 Z = true) (h0 : Heap) (a_SM : Addr) (cl_SM : Cell) (a_FLOOR : Addr) (a_CEILING : Addr) (hE : own_E Z h0 a_SM cl_SM a_FLOOR a_CEILING) (D : Int64) (r : Int64) (hDz : ¬ ((lcmpW D (0 : Int64)) = (0 : Int32))) (hr0 : ¬ ((lcmpW r (0 : Int64)) = (0 : Int32))) (hrl : (lcmpW r (0 : Int64)) < (0 : Int32)) (hxl : ¬ ((lcmpW (r ^^^ D) (0 : Int64)) < (0 : Int32))) (hal : ¬ ((lcmpW (r - D) (0 : Int64)) < (0 : Int32))) :
    own_Pure l Z h0 [] ({ frames := 0, cells := 0, slots := 0, locals := 0 } : Room) (⟨"java/lang/Math", "abs", "(J)J"⟩ : MethodName) jdk_29_method_61_code 2 (some .long) #[(.long (r - D))] (some (.long (r - D))) := by
  refine own_body (Jvm.Free.JP.mathPlain rfl (by decide +kernel)) ?_
  intro p e s m below meth c T0 X0 hx hby hml hown hZ e0 hret hlk hnm hnamed
  replace hown : s.vm.findClass "java/lang/Math" = some m.cls := hown
  replace hml : c.maxLocals = 2 := hml
  have ef : entryFrame m #[(.long (r - D))] 2 = mkF m 0 #[.val (.long (r - D)), .second] [] := by first | (simp [entryFrame, mkF, argsToLocals, Value.category]; done) | rfl
  rw [ef]
  refine own_st (T' := T0) (g' := (mkF m 1 #[.val (.long (r - D)), .second] [(.long (r - D))])) (fun _ k => XS.lloadN X0.here hx rfl (hb hby own_d_jdk_29_method_61_code_0) rfl k) ?_
  refine own_st (T' := T0) (g' := (mkF m 2 #[.val (.long (r - D)), .second] [(.long (0 : Int64)), (.long (r - D))])) (fun _ k => XS.lconst X0.here hx rfl (hb hby own_d_jdk_29_method_61_code_1) k) ?_
  refine own_st (T' := T0) (g' := (mkF m 3 #[.val (.long (r - D)), .second] [(.int (lcmpW (r - D) (0 : Int64)))])) (fun _ k => XS.lcmp X0.here hx rfl (hb hby own_d_jdk_29_method_61_code_2) rfl k) ?_
  refine own_st (T' := T0) (g' := (mkF m 11 #[.val (.long (r - D)), .second] [])) (fun _ k => XS.ifYes X0.here hx rfl (pc0 := 3) (pc' := 11) rfl (hb hby own_d_jdk_29_method_61_code_3) rfl ((if0 _ _).trans (flt hal).2.1) (by decide) (by decide) k) ?_
  refine own_st (T' := T0) (g' := (mkF m 12 #[.val (.long (r - D)), .second] [(.long (r - D))])) (fun _ k => XS.lloadN X0.here hx rfl (hb hby own_d_jdk_29_method_61_code_11) rfl k) ?_
  exact own_ret X0 hx hlk hret rfl (Or.inr (Or.inl ⟨rfl, rfl, _, rfl⟩)) (hb hby own_d_jdk_29_method_61_code_12) (by decide) (by decide) ⟨rfl, rfl, e0⟩
set_option maxRecDepth 65536 in
set_option maxHeartbeats 40000000 in
theorem own_ordinal_8 (l : Launch) (Z : State) (a0 : Array Value) (hw : ∀ d ∈ tables_1, d.before a0 Z = true) (h0 : Heap) (a_SM : Addr) (cl_SM : Cell) (a_FLOOR : Addr) (a_CEILING : Addr) (hE : own_E Z h0 a_SM cl_SM a_FLOOR a_CEILING) :
    own_Pure l Z h0 [] ({ frames := 0, cells := 0, slots := 0, locals := 0 } : Room) (⟨"java/lang/Enum", "ordinal", "()I"⟩ : MethodName) jdk_37_method_2_code 1 (some .int) #[(.ref a_CEILING)] (some (.int (2 : Int32))) := by
  refine own_body (plainFor_of_name own_pn_3) ?_
  intro p e s m below meth c T0 X0 hx hby hml hown hZ e0 hret hlk hnm hnamed
  replace hown : s.vm.findClass "java/lang/Enum" = some m.cls := hown
  replace hml : c.maxLocals = 1 := hml
  have ef : entryFrame m #[(.ref a_CEILING)] 1 = mkF m 0 #[.val (.ref a_CEILING)] [] := by first | (simp [entryFrame, mkF, argsToLocals, Value.category]; done) | rfl
  rw [ef]
  have F_CEILING_ordinal := own_p_F_CEILING_ordinal hE
  refine own_st (T' := T0) (g' := (mkF m 1 #[.val (.ref a_CEILING)] [(.ref a_CEILING)])) (fun _ k => XS.aloadN X0.here hx rfl (hb hby own_d_jdk_37_method_2_code_0) rfl rfl k) ?_
  obtain ⟨T1, X1, e1, st1⟩ := getF X0 hx hZ hown (host := "") (Or.inl (hw _ (List.mem_of_getElem? (i := 57) rfl))) Via.refl e0 F_CEILING_ordinal (g := (mkF m 1 #[.val (.ref a_CEILING)] [(.ref a_CEILING)])) rfl rfl (hb hby own_d_jdk_37_method_2_code_1)
  refine own_st (T' := T1) (g' := (mkF m 4 #[.val (.ref a_CEILING)] [(.int (2 : Int32))])) st1 ?_
  exact own_ret X1 hx hlk hret rfl (Or.inl ⟨rfl, Or.inl rfl, _, rfl⟩) (hb hby own_d_jdk_37_method_2_code_4) (by decide) (by decide) ⟨rfl, rfl, e1⟩
set_option maxRecDepth 65536 in
set_option maxHeartbeats 40000000 in
theorem own_stepsAway_8 (l : Launch) (Z : State) (a0 : Array Value) (hw : ∀ d ∈ tables_1, d.before a0 Z = true) (h0 : Heap) (a_SM : Addr) (cl_SM : Cell) (a_FLOOR : Addr) (a_CEILING : Addr) (hE : own_E Z h0 a_SM cl_SM a_FLOOR a_CEILING) (c13 : Int32) :
    own_Pure l Z h0 [] ({ frames := 1, cells := 0, slots := 0, locals := 13 } : Room) (⟨"com/example/residuum/residuum/QuotientRounding", "stepsAway", "(Ljava/math/RoundingMode;ZIZ)Z"⟩ : MethodName) prog_7_method_2_code 5 (some .boolean) #[(.ref a_CEILING), (.int (0 : Int32)), (.int z5), (.int c13)] (some (.int (1 : Int32))) := by
  refine own_body (plainFor_of_name own_pn_4) ?_
  intro p e s m below meth c T0 X0 hx hby hml hown hZ e0 hret hlk hnm hnamed
  replace hown : s.vm.findClass "com/example/residuum/residuum/QuotientRounding" = some m.cls := hown
  replace hml : c.maxLocals = 5 := hml
  have ef : entryFrame m #[(.ref a_CEILING), (.int (0 : Int32)), (.int z5), (.int c13)] 5 = mkF m 0 #[.val (.ref a_CEILING), .val (.int (0 : Int32)), .val (.int z5), .val (.int c13), .unset] [] := by first | (simp [entryFrame, mkF, argsToLocals, Value.category]; done) | rfl
  rw [ef]
  have S_SM := own_p_S_SM hE
  have A_SM := own_p_A_SM hE
  have Z_SM := own_p_Z_SM hE
  have Y_SM_2 := own_p_Y_SM_2 hE
  have E_CEILING := own_p_E_CEILING hE
  obtain ⟨T1, X1, e1, st1⟩ := getS2 X0 hx hZ hown (host := "") (Or.inl (hw _ (List.mem_of_getElem? (i := 47) rfl))) Via.refl e0 S_SM (g := (mkF m 0 #[.val (.ref a_CEILING), .val (.int (0 : Int32)), .val (.int z5), .val (.int c13), .unset] [])) rfl (hb hby own_d_prog_7_method_2_code_0)
  refine own_st (T' := T1) (g' := (mkF m 3 #[.val (.ref a_CEILING), .val (.int (0 : Int32)), .val (.int z5), .val (.int c13), .unset] [(.ref a_SM)])) st1 ?_
  refine own_st (T' := T1) (g' := (mkF m 4 #[.val (.ref a_CEILING), .val (.int (0 : Int32)), .val (.int z5), .val (.int c13), .unset] [(.ref a_CEILING), (.ref a_SM)])) (fun _ k => XS.aloadN X1.here hx rfl (hb hby own_d_prog_7_method_2_code_3) rfl rfl k) ?_
  obtain ⟨T2, X2, e2, st2⟩ := own_pure (w := (.int (2 : Int32))) rfl rfl (own_gVU X1 hx hZ hown (hw _ (List.mem_of_getElem? (i := 50) rfl)) (hw _ (List.mem_of_getElem? (i := 51) rfl)) (hw _ (List.mem_of_getElem? (i := 52) rfl)) (by decide) (hw _ (List.mem_of_getElem? (i := 54) rfl)) (hw _ (List.mem_of_getElem? (i := 53) rfl)) (hw _ (List.mem_of_getElem? (i := 55) rfl)) (hw _ (List.mem_of_getElem? (i := 56) rfl)) e1 E_CEILING (own_ordinal_8 l Z a0 hw h0 a_SM cl_SM a_FLOOR a_CEILING hE) (by decide) (by decide) (by decide) (by decide) (Q := fun v h L => v = some (.int (2 : Int32)) ∧ L = [] ∧ h = h0) (W := 1) (g := (mkF m 4 #[.val (.ref a_CEILING), .val (.int (0 : Int32)), .val (.int z5), .val (.int c13), .unset] [(.ref a_CEILING), (.ref a_SM)])) (argsL := []) (rest := [(.ref a_SM)]) rfl (by rw [hml]; rfl) (lenOf own_pd_5 rfl) rfl (by show 2 * 0 + _ ≤ _; exact Nat.le_of_eq rfl) (hb hby own_d_prog_7_method_2_code_4))
  refine own_st (T' := T2) (g' := (mkF m 7 #[.val (.ref a_CEILING), .val (.int (0 : Int32)), .val (.int z5), .val (.int c13), .unset] [(.int (2 : Int32)), (.ref a_SM)])) st2 ?_
  refine own_st (T' := T2) (g' := (mkF m 8 #[.val (.ref a_CEILING), .val (.int (0 : Int32)), .val (.int z5), .val (.int c13), .unset] [(.int (3 : Int32))])) (fun _ k => X2.iaload hx (j := (2 : Int32)) (v := (.int (3 : Int32))) (own_he e2 A_SM.1) (State.isArrayOf_alike hZ.alike A_SM.2.1) A_SM.2.2 (inb_of Z_SM ⟨by decide, by decide⟩) Y_SM_2 (g := (mkF m 7 #[.val (.ref a_CEILING), .val (.int (0 : Int32)), .val (.int z5), .val (.int c13), .unset] [(.int (2 : Int32)), (.ref a_SM)])) rfl rfl (hb hby own_d_prog_7_method_2_code_7) _ k) ?_
  refine own_st (T' := T2) (g' := (mkF m 74 #[.val (.ref a_CEILING), .val (.int (0 : Int32)), .val (.int z5), .val (.int c13), .unset] [])) (fun _ k => XS.tswIn X2.here hx rfl (pc0 := 8) (pc' := 74) rfl (hb hby own_d_prog_7_method_2_code_8) rfl (by decide) rfl (by decide) (by decide) k) ?_
  refine own_st (T' := T2) (g' := (mkF m 75 #[.val (.ref a_CEILING), .val (.int (0 : Int32)), .val (.int z5), .val (.int c13), .unset] [(.int (0 : Int32))])) (fun _ k => XS.iloadN X2.here hx rfl (hb hby own_d_prog_7_method_2_code_74) rfl k) ?_
  refine own_st (T' := T2) (g' := (mkF m 78 #[.val (.ref a_CEILING), .val (.int (0 : Int32)), .val (.int z5), .val (.int c13), .unset] [])) (fun _ k => XS.ifNo X2.here hx rfl (hb hby own_d_prog_7_method_2_code_75) rfl (by decide) k) ?_
  refine own_st (T' := T2) (g' := (mkF m 79 #[.val (.ref a_CEILING), .val (.int (0 : Int32)), .val (.int z5), .val (.int c13), .unset] [(.int (1 : Int32))])) (fun _ k => XS.iconst X2.here hx rfl (hb hby own_d_prog_7_method_2_code_78) k) ?_
  refine own_st (T' := T2) (g' := (mkF m 142 #[.val (.ref a_CEILING), .val (.int (0 : Int32)), .val (.int z5), .val (.int c13), .unset] [(.int (1 : Int32))])) (fun _ k => XS.goto X2.here hx rfl (pc0 := 79) (pc' := 142) rfl (hb hby own_d_prog_7_method_2_code_79) (by decide) (by decide) k) ?_
  refine own_st (T' := T2) (g' := (mkF m 144 #[.val (.ref a_CEILING), .val (.int (0 : Int32)), .val (.int z5), .val (.int c13), .val (.int (1 : Int32))] [])) (fun _ k => XS.istore X2.here hx rfl (hb hby own_d_prog_7_method_2_code_142) rfl (l' := #[.val (.ref a_CEILING), .val (.int (0 : Int32)), .val (.int z5), .val (.int c13), .val (.int (1 : Int32))]) rfl k) ?_
  refine own_st (T' := T2) (g' := (mkF m 146 #[.val (.ref a_CEILING), .val (.int (0 : Int32)), .val (.int z5), .val (.int c13), .val (.int (1 : Int32))] [(.int (1 : Int32))])) (fun _ k => XS.iload X2.here hx rfl (hb hby own_d_prog_7_method_2_code_144) rfl k) ?_
  exact own_ret X2 hx hlk hret rfl (Or.inl ⟨rfl, Or.inr (Or.inl rfl), _, rfl⟩) (hb hby own_d_prog_7_method_2_code_146) (by decide) (by decide) ⟨rfl, rfl, e2⟩
set_option maxRecDepth 65536 in
set_option maxHeartbeats 40000000 in
theorem own_abs_10 (l : Launch) (Z : State) (a0 : Array Value) (hw : ∀ d ∈ tables_1, d.before a0 Z = true) (h0 : Heap) (a_SM : Addr) (cl_SM : Cell) (a_FLOOR : Addr) (a_CEILING : Addr) (hE : own_E Z h0 a_SM cl_SM a_FLOOR a_CEILING) (D : Int64) (r : Int64) (hDz : ¬ ((lcmpW D (0 : Int64)) = (0 : Int32))) (hr0 : ¬ ((lcmpW r (0 : Int64)) = (0 : Int32))) (hrl : ¬ ((lcmpW r (0 : Int64)) < (0 : Int32))) (hxl : (lcmpW (r ^^^ D) (0 : Int64)) < (0 : Int32)) (hal : (lcmpW (r + D) (0 : Int64)) < (0 : Int32)) :
    own_Pure l Z h0 [] ({ frames := 0, cells := 0, slots := 0, locals := 0 } : Room) (⟨"java/lang/Math", "abs", "(J)J"⟩ : MethodName) jdk_29_method_61_code 2 (some .long) #[(.long (r + D))] (some (.long ((-(r + D))))) := by
  refine own_body (Jvm.Free.JP.mathPlain rfl (by decide +kernel)) ?_
  intro p e s m below meth c T0 X0 hx hby hml hown hZ e0 hret hlk hnm hnamed
  replace hown : s.vm.findClass "java/lang/Math" = some m.cls := hown
  replace hml : c.maxLocals = 2 := hml
  have ef : entryFrame m #[(.long (r + D))] 2 = mkF m 0 #[.val (.long (r + D)), .second] [] := by first | (simp [entryFrame, mkF, argsToLocals, Value.category]; done) | rfl
  rw [ef]
  refine own_st (T' := T0) (g' := (mkF m 1 #[.val (.long (r + D)), .second] [(.long (r + D))])) (fun _ k => XS.lloadN X0.here hx rfl (hb hby own_d_jdk_29_method_61_code_0) rfl k) ?_
  refine own_st (T' := T0) (g' := (mkF m 2 #[.val (.long (r + D)), .second] [(.long (0 : Int64)), (.long (r + D))])) (fun _ k => XS.lconst X0.here hx rfl (hb hby own_d_jdk_29_method_61_code_1) k) ?_
  refine own_st (T' := T0) (g' := (mkF m 3 #[.val (.long (r + D)), .second] [(.int (lcmpW (r + D) (0 : Int64)))])) (fun _ k => XS.lcmp X0.here hx rfl (hb hby own_d_jdk_29_method_61_code_2) rfl k) ?_
  refine own_st (T' := T0) (g' := (mkF m 6 #[.val (.long (r + D)), .second] [])) (fun _ k => XS.ifNo X0.here hx rfl (hb hby own_d_jdk_29_method_61_code_3) rfl ((if0 _ _).trans (tlt hal).2.1) k) ?_
  refine own_st (T' := T0) (g' := (mkF m 7 #[.val (.long (r + D)), .second] [(.long (r + D))])) (fun _ k => XS.lloadN X0.here hx rfl (hb hby own_d_jdk_29_method_61_code_6) rfl k) ?_
  refine own_st (T' := T0) (g' := (mkF m 8 #[.val (.long (r + D)), .second] [(.long ((-(r + D))))])) (fun _ k => XS.lneg X0.here hx rfl (hb hby own_d_jdk_29_method_61_code_7) rfl k) ?_
  refine own_st (T' := T0) (g' := (mkF m 12 #[.val (.long (r + D)), .second] [(.long ((-(r + D))))])) (fun _ k => XS.goto X0.here hx rfl (pc0 := 8) (pc' := 12) rfl (hb hby own_d_jdk_29_method_61_code_8) (by decide) (by decide) k) ?_
  exact own_ret X0 hx hlk hret rfl (Or.inr (Or.inl ⟨rfl, rfl, _, rfl⟩)) (hb hby own_d_jdk_29_method_61_code_12) (by decide) (by decide) ⟨rfl, rfl, e0⟩
set_option maxRecDepth 65536 in
set_option maxHeartbeats 40000000 in
theorem own_stepsAway_11 (l : Launch) (Z : State) (a0 : Array Value) (hw : ∀ d ∈ tables_1, d.before a0 Z = true) (h0 : Heap) (a_SM : Addr) (cl_SM : Cell) (a_FLOOR : Addr) (a_CEILING : Addr) (hE : own_E Z h0 a_SM cl_SM a_FLOOR a_CEILING) (c13 : Int32) :
    own_Pure l Z h0 [] ({ frames := 1, cells := 0, slots := 0, locals := 13 } : Room) (⟨"com/example/residuum/residuum/QuotientRounding", "stepsAway", "(Ljava/math/RoundingMode;ZIZ)Z"⟩ : MethodName) prog_7_method_2_code 5 (some .boolean) #[(.ref a_CEILING), (.int (1 : Int32)), (.int z12), (.int c13)] (some (.int (0 : Int32))) := by
  refine own_body (plainFor_of_name own_pn_4) ?_
  intro p e s m below meth c T0 X0 hx hby hml hown hZ e0 hret hlk hnm hnamed
  replace hown : s.vm.findClass "com/example/residuum/residuum/QuotientRounding" = some m.cls := hown
  replace hml : c.maxLocals = 5 := hml
  have ef : entryFrame m #[(.ref a_CEILING), (.int (1 : Int32)), (.int z12), (.int c13)] 5 = mkF m 0 #[.val (.ref a_CEILING), .val (.int (1 : Int32)), .val (.int z12), .val (.int c13), .unset] [] := by first | (simp [entryFrame, mkF, argsToLocals, Value.category]; done) | rfl
  rw [ef]
  have S_SM := own_p_S_SM hE
  have A_SM := own_p_A_SM hE
  have Z_SM := own_p_Z_SM hE
  have Y_SM_2 := own_p_Y_SM_2 hE
  have E_CEILING := own_p_E_CEILING hE
  obtain ⟨T1, X1, e1, st1⟩ := getS2 X0 hx hZ hown (host := "") (Or.inl (hw _ (List.mem_of_getElem? (i := 47) rfl))) Via.refl e0 S_SM (g := (mkF m 0 #[.val (.ref a_CEILING), .val (.int (1 : Int32)), .val (.int z12), .val (.int c13), .unset] [])) rfl (hb hby own_d_prog_7_method_2_code_0)
  refine own_st (T' := T1) (g' := (mkF m 3 #[.val (.ref a_CEILING), .val (.int (1 : Int32)), .val (.int z12), .val (.int c13), .unset] [(.ref a_SM)])) st1 ?_
  refine own_st (T' := T1) (g' := (mkF m 4 #[.val (.ref a_CEILING), .val (.int (1 : Int32)), .val (.int z12), .val (.int c13), .unset] [(.ref a_CEILING), (.ref a_SM)])) (fun _ k => XS.aloadN X1.here hx rfl (hb hby own_d_prog_7_method_2_code_3) rfl rfl k) ?_
  obtain ⟨T2, X2, e2, st2⟩ := own_pure (w := (.int (2 : Int32))) rfl rfl (own_gVU X1 hx hZ hown (hw _ (List.mem_of_getElem? (i := 50) rfl)) (hw _ (List.mem_of_getElem? (i := 51) rfl)) (hw _ (List.mem_of_getElem? (i := 52) rfl)) (by decide) (hw _ (List.mem_of_getElem? (i := 54) rfl)) (hw _ (List.mem_of_getElem? (i := 53) rfl)) (hw _ (List.mem_of_getElem? (i := 55) rfl)) (hw _ (List.mem_of_getElem? (i := 56) rfl)) e1 E_CEILING (own_ordinal_8 l Z a0 hw h0 a_SM cl_SM a_FLOOR a_CEILING hE) (by decide) (by decide) (by decide) (by decide) (Q := fun v h L => v = some (.int (2 : Int32)) ∧ L = [] ∧ h = h0) (W := 1) (g := (mkF m 4 #[.val (.ref a_CEILING), .val (.int (1 : Int32)), .val (.int z12), .val (.int c13), .unset] [(.ref a_CEILING), (.ref a_SM)])) (argsL := []) (rest := [(.ref a_SM)]) rfl (by rw [hml]; rfl) (lenOf own_pd_5 rfl) rfl (by show 2 * 0 + _ ≤ _; exact Nat.le_of_eq rfl) (hb hby own_d_prog_7_method_2_code_4))
  refine own_st (T' := T2) (g' := (mkF m 7 #[.val (.ref a_CEILING), .val (.int (1 : Int32)), .val (.int z12), .val (.int c13), .unset] [(.int (2 : Int32)), (.ref a_SM)])) st2 ?_
  refine own_st (T' := T2) (g' := (mkF m 8 #[.val (.ref a_CEILING), .val (.int (1 : Int32)), .val (.int z12), .val (.int c13), .unset] [(.int (3 : Int32))])) (fun _ k => X2.iaload hx (j := (2 : Int32)) (v := (.int (3 : Int32))) (own_he e2 A_SM.1) (State.isArrayOf_alike hZ.alike A_SM.2.1) A_SM.2.2 (inb_of Z_SM ⟨by decide, by decide⟩) Y_SM_2 (g := (mkF m 7 #[.val (.ref a_CEILING), .val (.int (1 : Int32)), .val (.int z12), .val (.int c13), .unset] [(.int (2 : Int32)), (.ref a_SM)])) rfl rfl (hb hby own_d_prog_7_method_2_code_7) _ k) ?_
  refine own_st (T' := T2) (g' := (mkF m 74 #[.val (.ref a_CEILING), .val (.int (1 : Int32)), .val (.int z12), .val (.int c13), .unset] [])) (fun _ k => XS.tswIn X2.here hx rfl (pc0 := 8) (pc' := 74) rfl (hb hby own_d_prog_7_method_2_code_8) rfl (by decide) rfl (by decide) (by decide) k) ?_
  refine own_st (T' := T2) (g' := (mkF m 75 #[.val (.ref a_CEILING), .val (.int (1 : Int32)), .val (.int z12), .val (.int c13), .unset] [(.int (1 : Int32))])) (fun _ k => XS.iloadN X2.here hx rfl (hb hby own_d_prog_7_method_2_code_74) rfl k) ?_
  refine own_st (T' := T2) (g' := (mkF m 82 #[.val (.ref a_CEILING), .val (.int (1 : Int32)), .val (.int z12), .val (.int c13), .unset] [])) (fun _ k => XS.ifYes X2.here hx rfl (pc0 := 75) (pc' := 82) rfl (hb hby own_d_prog_7_method_2_code_75) rfl (by decide) (by decide) (by decide) k) ?_
  refine own_st (T' := T2) (g' := (mkF m 83 #[.val (.ref a_CEILING), .val (.int (1 : Int32)), .val (.int z12), .val (.int c13), .unset] [(.int (0 : Int32))])) (fun _ k => XS.iconst X2.here hx rfl (hb hby own_d_prog_7_method_2_code_82) k) ?_
  refine own_st (T' := T2) (g' := (mkF m 142 #[.val (.ref a_CEILING), .val (.int (1 : Int32)), .val (.int z12), .val (.int c13), .unset] [(.int (0 : Int32))])) (fun _ k => XS.goto X2.here hx rfl (pc0 := 83) (pc' := 142) rfl (hb hby own_d_prog_7_method_2_code_83) (by decide) (by decide) k) ?_
  refine own_st (T' := T2) (g' := (mkF m 144 #[.val (.ref a_CEILING), .val (.int (1 : Int32)), .val (.int z12), .val (.int c13), .val (.int (0 : Int32))] [])) (fun _ k => XS.istore X2.here hx rfl (hb hby own_d_prog_7_method_2_code_142) rfl (l' := #[.val (.ref a_CEILING), .val (.int (1 : Int32)), .val (.int z12), .val (.int c13), .val (.int (0 : Int32))]) rfl k) ?_
  refine own_st (T' := T2) (g' := (mkF m 146 #[.val (.ref a_CEILING), .val (.int (1 : Int32)), .val (.int z12), .val (.int c13), .val (.int (0 : Int32))] [(.int (0 : Int32))])) (fun _ k => XS.iload X2.here hx rfl (hb hby own_d_prog_7_method_2_code_144) rfl k) ?_
  exact own_ret X2 hx hlk hret rfl (Or.inl ⟨rfl, Or.inr (Or.inl rfl), _, rfl⟩) (hb hby own_d_prog_7_method_2_code_146) (by decide) (by decide) ⟨rfl, rfl, e2⟩
set_option maxRecDepth 65536 in
set_option maxHeartbeats 40000000 in
theorem own_remJ_CEILING (l : Launch) (Z : State) (a0 : Array Value) (hw : ∀ d ∈ tables_1, d.before a0 Z = true) (h0 : Heap) (a_SM : Addr) (cl_SM : Cell) (a_FLOOR : Addr) (a_CEILING : Addr) (hE : own_E Z h0 a_SM cl_SM a_FLOOR a_CEILING) (A : Int64) (D : Int64) (hD0 : D.toInt ≠ 0) (hA1 : -2147483648 ≤ A.toInt) (hA2 : A.toInt < 2147483648) (hD1 : -2147483648 ≤ D.toInt) (hD2 : D.toInt < 2147483648) (hDn : D < 0) :
    own_MetW l Z h0 [] ({ frames := 2, cells := 2, slots := 20, locals := 30 } : Room) (⟨"com/example/residuum/residuum/Remainder", "remainder", "(JJLjava/math/RoundingMode;)J"⟩ : MethodName) prog_9_method_3_code 14 (some .long) #[(.long A), (.long D), (.ref a_CEILING)] (fun v h L => v = some (.long (own_R A D)) ∧ Fr h0.size L ∧ Ext h0 h) := by
  refine own_bodyW (plainFor_of_name own_pn_5) ?_
  intro p e s m below meth c T0 vm0 k0 X0 hS hk hx hby hml hown hZ e0 hret hlk hnm hnamed
  replace hown : (s.setVm vm0).vm.findClass "com/example/residuum/residuum/Remainder" = some m.cls := hown
  replace hml : c.maxLocals = 14 := hml
  have ef : entryFrame m #[(.long A), (.long D), (.ref a_CEILING)] 14 = mkF m 0 #[.val (.long A), .second, .val (.long D), .second, .val (.ref a_CEILING), .unset, .unset, .unset, .unset, .unset, .unset, .unset, .unset, .unset] [] := by first | (simp [entryFrame, mkF, argsToLocals, Value.category]; done) | rfl
  rw [ef]
  have E0 := own_ext_rf h0
  have Nf := Fr.nil h0.size
  have hDl : (lcmpW D (0 : Int64)) < (0 : Int32) := by rw [lw_lt]; exact hDn
  have hDi : D.toInt < 0 := by have e0 : (0 : Int64).toInt = 0 := rfl; rw [Int64.lt_iff_toInt_lt, e0] at hDn; exact hDn
  have hDz : ¬ ((lcmpW D (0 : Int64)) = (0 : Int32)) := fun q => hD0 (by rw [(lw_eq _ _).mp q]; rfl)
  refine own_st (T' := T0) (g' := (mkF m 1 #[.val (.long A), .second, .val (.long D), .second, .val (.ref a_CEILING), .unset, .unset, .unset, .unset, .unset, .unset, .unset, .unset, .unset] [(.long D)])) (fun _ k => XS.lloadN X0.here hx rfl (hb hby own_d_prog_9_method_3_code_0) rfl k) ?_
  refine own_st (T' := T0) (g' := (mkF m 2 #[.val (.long A), .second, .val (.long D), .second, .val (.ref a_CEILING), .unset, .unset, .unset, .unset, .unset, .unset, .unset, .unset, .unset] [(.long (0 : Int64)), (.long D)])) (fun _ k => XS.lconst X0.here hx rfl (hb hby own_d_prog_9_method_3_code_1) k) ?_
  refine own_st (T' := T0) (g' := (mkF m 3 #[.val (.long A), .second, .val (.long D), .second, .val (.ref a_CEILING), .unset, .unset, .unset, .unset, .unset, .unset, .unset, .unset, .unset] [(.int (lcmpW D (0 : Int64)))])) (fun _ k => XS.lcmp X0.here hx rfl (hb hby own_d_prog_9_method_3_code_2) rfl k) ?_
  refine own_st (T' := T0) (g' := (mkF m 10 #[.val (.long A), .second, .val (.long D), .second, .val (.ref a_CEILING), .unset, .unset, .unset, .unset, .unset, .unset, .unset, .unset, .unset] [])) (fun _ k => XS.ifYes X0.here hx rfl (pc0 := 3) (pc' := 10) rfl (hb hby own_d_prog_9_method_3_code_3) rfl ((if0 _ _).trans (feq hDz).2) (by decide) (by decide) k) ?_
  refine own_st (T' := T0) (g' := (mkF m 12 #[.val (.long A), .second, .val (.long D), .second, .val (.ref a_CEILING), .unset, .unset, .unset, .unset, .unset, .unset, .unset, .unset, .unset] [(.ref a_CEILING)])) (fun _ k => XS.aload X0.here hx rfl (hb hby own_d_prog_9_method_3_code_10) rfl rfl k) ?_
  obtain ⟨a1, T1, h1, k1, X1, e1, E1, hS, hk, hZ, hown, st1⟩ := ldcS X0 hx hZ hown (hw _ (List.mem_of_getElem? (i := 20) rfl)) (own_wS hw) e0 hS hk (g := (mkF m 12 #[.val (.long A), .second, .val (.long D), .second, .val (.ref a_CEILING), .unset, .unset, .unset, .unset, .unset, .unset, .unset, .unset, .unset] [(.ref a_CEILING)])) rfl (hb hby own_d_prog_9_method_3_code_12) (n := 16) (by decide) (by decide) (by decide) (by decide)
  have E0 := own_ext_tr E0 E1
  have hE := own_E_ext hE E1
  refine own_st (T' := T1) (g' := (mkF m 14 #[.val (.long A), .second, .val (.long D), .second, .val (.ref a_CEILING), .unset, .unset, .unset, .unset, .unset, .unset, .unset, .unset, .unset] [(.ref a1), (.ref a_CEILING)])) st1 ?_
  obtain ⟨T2, X2, e2, st2⟩ := own_pure (w := (.ref a_CEILING)) rfl rfl (own_gS X1 hx hZ hown (hw _ (List.mem_of_getElem? (i := 28) rfl)) (hw _ (List.mem_of_getElem? (i := 29) rfl)) (hw _ (List.mem_of_getElem? (i := 30) rfl)) (hw _ (List.mem_of_getElem? (i := 31) rfl)) (by decide) e1 (own_rnn l Z a0 hw h1 a_CEILING a1) (by decide) (by decide) (by decide) (by decide) (Q := fun v h L => v = some (.ref a_CEILING) ∧ L = [] ∧ h = h1) (W := 0) (g := (mkF m 14 #[.val (.long A), .second, .val (.long D), .second, .val (.ref a_CEILING), .unset, .unset, .unset, .unset, .unset, .unset, .unset, .unset, .unset] [(.ref a1), (.ref a_CEILING)])) (argsL := [(.ref a_CEILING), (.ref a1)]) (rest := []) rfl (by rw [hml]; rfl) (lenOf own_pd_1 rfl) rfl (by show 2 * 0 + _ ≤ _; exact Nat.le_of_eq rfl) (hb hby own_d_prog_9_method_3_code_14))
  refine own_st (T' := T2) (g' := (mkF m 17 #[.val (.long A), .second, .val (.long D), .second, .val (.ref a_CEILING), .unset, .unset, .unset, .unset, .unset, .unset, .unset, .unset, .unset] [(.ref a_CEILING)])) st2 ?_
  refine own_st (T' := T2) (g' := (mkF m 18 #[.val (.long A), .second, .val (.long D), .second, .val (.ref a_CEILING), .unset, .unset, .unset, .unset, .unset, .unset, .unset, .unset, .unset] [])) (fun _ k => XS.pop X2.here hx rfl (hb hby own_d_prog_9_method_3_code_17) rfl rfl k) ?_
  refine own_st (T' := T2) (g' := (mkF m 19 #[.val (.long A), .second, .val (.long D), .second, .val (.ref a_CEILING), .unset, .unset, .unset, .unset, .unset, .unset, .unset, .unset, .unset] [(.long A)])) (fun _ k => XS.lloadN X2.here hx rfl (hb hby own_d_prog_9_method_3_code_18) rfl k) ?_
  refine own_st (T' := T2) (g' := (mkF m 20 #[.val (.long A), .second, .val (.long D), .second, .val (.ref a_CEILING), .unset, .unset, .unset, .unset, .unset, .unset, .unset, .unset, .unset] [(.long D), (.long A)])) (fun _ k => XS.lloadN X2.here hx rfl (hb hby own_d_prog_9_method_3_code_19) rfl k) ?_
  refine own_st (T' := T2) (g' := (mkF m 21 #[.val (.long A), .second, .val (.long D), .second, .val (.ref a_CEILING), .unset, .unset, .unset, .unset, .unset, .unset, .unset, .unset, .unset] [(.long (A - (A / D) * D))])) (fun _ k => XS.lrem X2.here hx rfl (hb hby own_d_prog_9_method_3_code_20) rfl (fun z => hD0 (by rw [z]; rfl)) k) ?_
  obtain ⟨r, hr⟩ : ∃ r, r = A - (A / D) * D := ⟨_, rfl⟩
  rw [← hr]
  have er := own_rem hr
  have br := own_rem_b A.toInt D.toInt hD0
  rw [← er] at br
  refine own_st (T' := T2) (g' := (mkF m 23 #[.val (.long A), .second, .val (.long D), .second, .val (.ref a_CEILING), .val (.long r), .second, .unset, .unset, .unset, .unset, .unset, .unset, .unset] [])) (fun _ k => XS.lstore X2.here hx rfl (hb hby own_d_prog_9_method_3_code_21) rfl (l' := #[.val (.long A), .second, .val (.long D), .second, .val (.ref a_CEILING), .val (.long r), .second, .unset, .unset, .unset, .unset, .unset, .unset, .unset]) rfl k) ?_
  by_cases hr0 : (lcmpW r (0 : Int64)) = (0 : Int32)
  ·
    refine own_st (T' := T2) (g' := (mkF m 25 #[.val (.long A), .second, .val (.long D), .second, .val (.ref a_CEILING), .val (.long r), .second, .unset, .unset, .unset, .unset, .unset, .unset, .unset] [(.long r)])) (fun _ k => XS.lload X2.here hx rfl (hb hby own_d_prog_9_method_3_code_23) rfl k) ?_
    refine own_st (T' := T2) (g' := (mkF m 26 #[.val (.long A), .second, .val (.long D), .second, .val (.ref a_CEILING), .val (.long r), .second, .unset, .unset, .unset, .unset, .unset, .unset, .unset] [(.long (0 : Int64)), (.long r)])) (fun _ k => XS.lconst X2.here hx rfl (hb hby own_d_prog_9_method_3_code_25) k) ?_
    refine own_st (T' := T2) (g' := (mkF m 27 #[.val (.long A), .second, .val (.long D), .second, .val (.ref a_CEILING), .val (.long r), .second, .unset, .unset, .unset, .unset, .unset, .unset, .unset] [(.int (lcmpW r (0 : Int64)))])) (fun _ k => XS.lcmp X2.here hx rfl (hb hby own_d_prog_9_method_3_code_26) rfl k) ?_
    refine own_st (T' := T2) (g' := (mkF m 30 #[.val (.long A), .second, .val (.long D), .second, .val (.ref a_CEILING), .val (.long r), .second, .unset, .unset, .unset, .unset, .unset, .unset, .unset] [])) (fun _ k => XS.ifNo X2.here hx rfl (hb hby own_d_prog_9_method_3_code_27) rfl ((if0 _ _).trans (teq hr0).2) k) ?_
    refine own_st (T' := T2) (g' := (mkF m 31 #[.val (.long A), .second, .val (.long D), .second, .val (.ref a_CEILING), .val (.long r), .second, .unset, .unset, .unset, .unset, .unset, .unset, .unset] [(.long (0 : Int64))])) (fun _ k => XS.lconst X2.here hx rfl (hb hby own_d_prog_9_method_3_code_30) k) ?_
    refine own_st (T' := T2) (g' := (mkF m 33 #[.val (.long A), .second, .val (.long D), .second, .val (.ref a_CEILING), .val (.long r), .second, .val (.long (0 : Int64)), .second, .unset, .unset, .unset, .unset, .unset] [])) (fun _ k => XS.lstore X2.here hx rfl (hb hby own_d_prog_9_method_3_code_31) rfl (l' := #[.val (.long A), .second, .val (.long D), .second, .val (.ref a_CEILING), .val (.long r), .second, .val (.long (0 : Int64)), .second, .unset, .unset, .unset, .unset, .unset]) rfl k) ?_
    refine own_st (T' := T2) (g' := (mkF m 135 #[.val (.long A), .second, .val (.long D), .second, .val (.ref a_CEILING), .val (.long r), .second, .val (.long (0 : Int64)), .second, .unset, .unset, .unset, .unset, .unset] [])) (fun _ k => XS.goto X2.here hx rfl (pc0 := 33) (pc' := 135) rfl (hb hby own_d_prog_9_method_3_code_33) (by decide) (by decide) k) ?_
    refine own_st (T' := T2) (g' := (mkF m 137 #[.val (.long A), .second, .val (.long D), .second, .val (.ref a_CEILING), .val (.long r), .second, .val (.long (0 : Int64)), .second, .unset, .unset, .unset, .unset, .unset] [(.long (0 : Int64))])) (fun _ k => XS.lload X2.here hx rfl (hb hby own_d_prog_9_method_3_code_135) rfl k) ?_
    exact own_retW X2 hx hlk hS (by rw [e2]; exact hk) hret rfl (Or.inr (Or.inl ⟨rfl, rfl, _, rfl⟩)) (hb hby own_d_prog_9_method_3_code_137) (by decide) (by decide) (by rw [e2]; exact ⟨(by rw [own_R_z hr ((lw_eq _ _).mp hr0)]), Nf, E0⟩)
  ·
    have hri : r.toInt ≠ 0 := fun z => hr0 (by rw [lw_eq]; exact Int64.toInt_inj.mp z)
    by_cases hrn : r < 0
    ·
      have hrI : r.toInt < 0 := by have e0 : (0 : Int64).toInt = 0 := rfl; rw [Int64.lt_iff_toInt_lt, e0] at hrn; exact hrn
      have hrl : (lcmpW r (0 : Int64)) < (0 : Int32) := by rw [lw_lt]; exact hrn
      have hxl : ¬ ((lcmpW (r ^^^ D) (0 : Int64)) < (0 : Int32)) := by rw [lw_lt, own_xor]; omega
      refine own_st (T' := T2) (g' := (mkF m 25 #[.val (.long A), .second, .val (.long D), .second, .val (.ref a_CEILING), .val (.long r), .second, .unset, .unset, .unset, .unset, .unset, .unset, .unset] [(.long r)])) (fun _ k => XS.lload X2.here hx rfl (hb hby own_d_prog_9_method_3_code_23) rfl k) ?_
      refine own_st (T' := T2) (g' := (mkF m 26 #[.val (.long A), .second, .val (.long D), .second, .val (.ref a_CEILING), .val (.long r), .second, .unset, .unset, .unset, .unset, .unset, .unset, .unset] [(.long (0 : Int64)), (.long r)])) (fun _ k => XS.lconst X2.here hx rfl (hb hby own_d_prog_9_method_3_code_25) k) ?_
      refine own_st (T' := T2) (g' := (mkF m 27 #[.val (.long A), .second, .val (.long D), .second, .val (.ref a_CEILING), .val (.long r), .second, .unset, .unset, .unset, .unset, .unset, .unset, .unset] [(.int (lcmpW r (0 : Int64)))])) (fun _ k => XS.lcmp X2.here hx rfl (hb hby own_d_prog_9_method_3_code_26) rfl k) ?_
      refine own_st (T' := T2) (g' := (mkF m 36 #[.val (.long A), .second, .val (.long D), .second, .val (.ref a_CEILING), .val (.long r), .second, .unset, .unset, .unset, .unset, .unset, .unset, .unset] [])) (fun _ k => XS.ifYes X2.here hx rfl (pc0 := 27) (pc' := 36) rfl (hb hby own_d_prog_9_method_3_code_27) rfl ((if0 _ _).trans (feq hr0).2) (by decide) (by decide) k) ?_
      refine own_st (T' := T2) (g' := (mkF m 38 #[.val (.long A), .second, .val (.long D), .second, .val (.ref a_CEILING), .val (.long r), .second, .unset, .unset, .unset, .unset, .unset, .unset, .unset] [(.long r)])) (fun _ k => XS.lload X2.here hx rfl (hb hby own_d_prog_9_method_3_code_36) rfl k) ?_
      refine own_st (T' := T2) (g' := (mkF m 39 #[.val (.long A), .second, .val (.long D), .second, .val (.ref a_CEILING), .val (.long r), .second, .unset, .unset, .unset, .unset, .unset, .unset, .unset] [(.long D), (.long r)])) (fun _ k => XS.lloadN X2.here hx rfl (hb hby own_d_prog_9_method_3_code_38) rfl k) ?_
      refine own_st (T' := T2) (g' := (mkF m 40 #[.val (.long A), .second, .val (.long D), .second, .val (.ref a_CEILING), .val (.long r), .second, .unset, .unset, .unset, .unset, .unset, .unset, .unset] [(.long (r ^^^ D))])) (fun _ k => XS.lxor X2.here hx rfl (hb hby own_d_prog_9_method_3_code_39) rfl k) ?_
      refine own_st (T' := T2) (g' := (mkF m 41 #[.val (.long A), .second, .val (.long D), .second, .val (.ref a_CEILING), .val (.long r), .second, .unset, .unset, .unset, .unset, .unset, .unset, .unset] [(.long (0 : Int64)), (.long (r ^^^ D))])) (fun _ k => XS.lconst X2.here hx rfl (hb hby own_d_prog_9_method_3_code_40) k) ?_
      refine own_st (T' := T2) (g' := (mkF m 42 #[.val (.long A), .second, .val (.long D), .second, .val (.ref a_CEILING), .val (.long r), .second, .unset, .unset, .unset, .unset, .unset, .unset, .unset] [(.int (lcmpW (r ^^^ D) (0 : Int64)))])) (fun _ k => XS.lcmp X2.here hx rfl (hb hby own_d_prog_9_method_3_code_41) rfl k) ?_
      refine own_st (T' := T2) (g' := (mkF m 49 #[.val (.long A), .second, .val (.long D), .second, .val (.ref a_CEILING), .val (.long r), .second, .unset, .unset, .unset, .unset, .unset, .unset, .unset] [])) (fun _ k => XS.ifYes X2.here hx rfl (pc0 := 42) (pc' := 49) rfl (hb hby own_d_prog_9_method_3_code_42) rfl ((if0 _ _).trans (flt hxl).2.1) (by decide) (by decide) k) ?_
      refine own_st (T' := T2) (g' := (mkF m 50 #[.val (.long A), .second, .val (.long D), .second, .val (.ref a_CEILING), .val (.long r), .second, .unset, .unset, .unset, .unset, .unset, .unset, .unset] [(.int (0 : Int32))])) (fun _ k => XS.iconst X2.here hx rfl (hb hby own_d_prog_9_method_3_code_49) k) ?_
      refine own_st (T' := T2) (g' := (mkF m 52 #[.val (.long A), .second, .val (.long D), .second, .val (.ref a_CEILING), .val (.long r), .second, .unset, .unset, .val (.int (0 : Int32)), .unset, .unset, .unset, .unset] [])) (fun _ k => XS.istore X2.here hx rfl (hb hby own_d_prog_9_method_3_code_50) rfl (l' := #[.val (.long A), .second, .val (.long D), .second, .val (.ref a_CEILING), .val (.long r), .second, .unset, .unset, .val (.int (0 : Int32)), .unset, .unset, .unset, .unset]) rfl k) ?_
      refine own_st (T' := T2) (g' := (mkF m 54 #[.val (.long A), .second, .val (.long D), .second, .val (.ref a_CEILING), .val (.long r), .second, .unset, .unset, .val (.int (0 : Int32)), .unset, .unset, .unset, .unset] [(.int (0 : Int32))])) (fun _ k => XS.iload X2.here hx rfl (hb hby own_d_prog_9_method_3_code_52) rfl k) ?_
      refine own_st (T' := T2) (g' := (mkF m 66 #[.val (.long A), .second, .val (.long D), .second, .val (.ref a_CEILING), .val (.long r), .second, .unset, .unset, .val (.int (0 : Int32)), .unset, .unset, .unset, .unset] [])) (fun _ k => XS.ifYes X2.here hx rfl (pc0 := 54) (pc' := 66) rfl (hb hby own_d_prog_9_method_3_code_54) rfl (by decide) (by decide) (by decide) k) ?_
      refine own_st (T' := T2) (g' := (mkF m 68 #[.val (.long A), .second, .val (.long D), .second, .val (.ref a_CEILING), .val (.long r), .second, .unset, .unset, .val (.int (0 : Int32)), .unset, .unset, .unset, .unset] [(.long r)])) (fun _ k => XS.lload X2.here hx rfl (hb hby own_d_prog_9_method_3_code_66) rfl k) ?_
      refine own_st (T' := T2) (g' := (mkF m 69 #[.val (.long A), .second, .val (.long D), .second, .val (.ref a_CEILING), .val (.long r), .second, .unset, .unset, .val (.int (0 : Int32)), .unset, .unset, .unset, .unset] [(.long D), (.long r)])) (fun _ k => XS.lloadN X2.here hx rfl (hb hby own_d_prog_9_method_3_code_68) rfl k) ?_
      refine own_st (T' := T2) (g' := (mkF m 70 #[.val (.long A), .second, .val (.long D), .second, .val (.ref a_CEILING), .val (.long r), .second, .unset, .unset, .val (.int (0 : Int32)), .unset, .unset, .unset, .unset] [(.long (r - D))])) (fun _ k => XS.lsub X2.here hx rfl (hb hby own_d_prog_9_method_3_code_69) rfl k) ?_
      refine own_st (T' := T2) (g' := (mkF m 72 #[.val (.long A), .second, .val (.long D), .second, .val (.ref a_CEILING), .val (.long r), .second, .unset, .unset, .val (.int (0 : Int32)), .val (.long (r - D)), .second, .unset, .unset] [])) (fun _ k => XS.lstore X2.here hx rfl (hb hby own_d_prog_9_method_3_code_70) rfl (l' := #[.val (.long A), .second, .val (.long D), .second, .val (.ref a_CEILING), .val (.long r), .second, .unset, .unset, .val (.int (0 : Int32)), .val (.long (r - D)), .second, .unset, .unset]) rfl k) ?_
      have hal : ¬ ((lcmpW (r - D) (0 : Int64)) < (0 : Int32)) := by have e0 : (0 : Int64).toInt = 0 := rfl; rw [lw_lt, Int64.lt_iff_toInt_lt, e0, own_sub64 (by omega) (by omega)]; omega
      refine own_st (T' := T2) (g' := (mkF m 74 #[.val (.long A), .second, .val (.long D), .second, .val (.ref a_CEILING), .val (.long r), .second, .unset, .unset, .val (.int (0 : Int32)), .val (.long (r - D)), .second, .unset, .unset] [(.long r)])) (fun _ k => XS.lload X2.here hx rfl (hb hby own_d_prog_9_method_3_code_72) rfl k) ?_
      obtain ⟨T3, X3, e3, st3⟩ := own_pure (w := (.long ((-r)))) rfl rfl (own_gS X2 hx hZ hown (hw _ (List.mem_of_getElem? (i := 32) rfl)) (hw _ (List.mem_of_getElem? (i := 1) rfl)) (hw _ (List.mem_of_getElem? (i := 2) rfl)) (hw _ (List.mem_of_getElem? (i := 3) rfl)) (by decide) e2 (own_abs_0 l Z a0 hw h1 a_SM cl_SM a_FLOOR a_CEILING hE r hr0 hrl) (by decide) (by decide) (by decide) (by decide) (Q := fun v h L => v = some (.long ((-r))) ∧ L = [] ∧ h = h1) (W := 0) (g := (mkF m 74 #[.val (.long A), .second, .val (.long D), .second, .val (.ref a_CEILING), .val (.long r), .second, .unset, .unset, .val (.int (0 : Int32)), .val (.long (r - D)), .second, .unset, .unset] [(.long r)])) (argsL := [(.long r)]) (rest := []) rfl (by rw [hml]; rfl) (lenOf own_pd_2 rfl) rfl (by show 2 * 0 + _ ≤ _; exact Nat.le_of_eq rfl) (hb hby own_d_prog_9_method_3_code_74))
      refine own_st (T' := T3) (g' := (mkF m 77 #[.val (.long A), .second, .val (.long D), .second, .val (.ref a_CEILING), .val (.long r), .second, .unset, .unset, .val (.int (0 : Int32)), .val (.long (r - D)), .second, .unset, .unset] [(.long ((-r)))])) st3 ?_
      refine own_st (T' := T3) (g' := (mkF m 79 #[.val (.long A), .second, .val (.long D), .second, .val (.ref a_CEILING), .val (.long r), .second, .unset, .unset, .val (.int (0 : Int32)), .val (.long (r - D)), .second, .unset, .unset] [(.long (r - D)), (.long ((-r)))])) (fun _ k => XS.lload X3.here hx rfl (hb hby own_d_prog_9_method_3_code_77) rfl k) ?_
      obtain ⟨T4, X4, e4, st4⟩ := own_pure (w := (.long (r - D))) rfl rfl (own_gS X3 hx hZ hown (hw _ (List.mem_of_getElem? (i := 32) rfl)) (hw _ (List.mem_of_getElem? (i := 1) rfl)) (hw _ (List.mem_of_getElem? (i := 2) rfl)) (hw _ (List.mem_of_getElem? (i := 3) rfl)) (by decide) e3 (own_abs_7 l Z a0 hw h1 a_SM cl_SM a_FLOOR a_CEILING hE D r hDz hr0 hrl hxl hal) (by decide) (by decide) (by decide) (by decide) (Q := fun v h L => v = some (.long (r - D)) ∧ L = [] ∧ h = h1) (W := 2) (g := (mkF m 79 #[.val (.long A), .second, .val (.long D), .second, .val (.ref a_CEILING), .val (.long r), .second, .unset, .unset, .val (.int (0 : Int32)), .val (.long (r - D)), .second, .unset, .unset] [(.long (r - D)), (.long ((-r)))])) (argsL := [(.long (r - D))]) (rest := [(.long ((-r)))]) rfl (by rw [hml]; rfl) (lenOf own_pd_2 rfl) rfl (by show 2 * 0 + _ ≤ _; exact Nat.le_of_eq rfl) (hb hby own_d_prog_9_method_3_code_79))
      refine own_st (T' := T4) (g' := (mkF m 82 #[.val (.long A), .second, .val (.long D), .second, .val (.ref a_CEILING), .val (.long r), .second, .unset, .unset, .val (.int (0 : Int32)), .val (.long (r - D)), .second, .unset, .unset] [(.long (r - D)), (.long ((-r)))])) st4 ?_
      obtain ⟨v5, T5, L5, X5, hQ5, st5⟩ := own_gS X4  hx hZ hown (hw _ (List.mem_of_getElem? (i := 33) rfl)) (hw _ (List.mem_of_getElem? (i := 34) rfl)) (hw _ (List.mem_of_getElem? (i := 35) rfl)) (hw _ (List.mem_of_getElem? (i := 36) rfl)) (by decide) e4 (own_lcp l Z a0 hw h1 ((-r)) (r - D)) (by decide) (by decide) (by decide) (by decide) (Q := (fun v h L => (∃ z : Int32, v = some (.int z)) ∧ L = [] ∧ h = h1)) (W := 0) (g := (mkF m 82 #[.val (.long A), .second, .val (.long D), .second, .val (.ref a_CEILING), .val (.long r), .second, .unset, .unset, .val (.int (0 : Int32)), .val (.long (r - D)), .second, .unset, .unset] [(.long (r - D)), (.long ((-r)))])) (argsL := [(.long ((-r))), (.long (r - D))]) (rest := []) rfl (by rw [hml]; rfl) (lenOf own_pd_3 rfl) rfl (by show 2 * 0 + _ ≤ _; exact Nat.le_of_eq rfl) (hb hby own_d_prog_9_method_3_code_82)
      obtain ⟨⟨z5, rfl⟩, rfl, e5⟩ := hQ5
      rw [List.append_nil] at X5
      refine own_st (T' := T5) (g' := (mkF m 85 #[.val (.long A), .second, .val (.long D), .second, .val (.ref a_CEILING), .val (.long r), .second, .unset, .unset, .val (.int (0 : Int32)), .val (.long (r - D)), .second, .unset, .unset] [(.int z5)])) st5 ?_
      refine own_st (T' := T5) (g' := (mkF m 87 #[.val (.long A), .second, .val (.long D), .second, .val (.ref a_CEILING), .val (.long r), .second, .unset, .unset, .val (.int (0 : Int32)), .val (.long (r - D)), .second, .val (.int z5), .unset] [])) (fun _ k => XS.istore X5.here hx rfl (hb hby own_d_prog_9_method_3_code_85) rfl (l' := #[.val (.long A), .second, .val (.long D), .second, .val (.ref a_CEILING), .val (.long r), .second, .unset, .unset, .val (.int (0 : Int32)), .val (.long (r - D)), .second, .val (.int z5), .unset]) rfl k) ?_
      refine own_st (T' := T5) (g' := (mkF m 88 #[.val (.long A), .second, .val (.long D), .second, .val (.ref a_CEILING), .val (.long r), .second, .unset, .unset, .val (.int (0 : Int32)), .val (.long (r - D)), .second, .val (.int z5), .unset] [(.long A)])) (fun _ k => XS.lloadN X5.here hx rfl (hb hby own_d_prog_9_method_3_code_87) rfl k) ?_
      refine own_st (T' := T5) (g' := (mkF m 90 #[.val (.long A), .second, .val (.long D), .second, .val (.ref a_CEILING), .val (.long r), .second, .unset, .unset, .val (.int (0 : Int32)), .val (.long (r - D)), .second, .val (.int z5), .unset] [(.long r), (.long A)])) (fun _ k => XS.lload X5.here hx rfl (hb hby own_d_prog_9_method_3_code_88) rfl k) ?_
      refine own_st (T' := T5) (g' := (mkF m 91 #[.val (.long A), .second, .val (.long D), .second, .val (.ref a_CEILING), .val (.long r), .second, .unset, .unset, .val (.int (0 : Int32)), .val (.long (r - D)), .second, .val (.int z5), .unset] [(.long (A - r))])) (fun _ k => XS.lsub X5.here hx rfl (hb hby own_d_prog_9_method_3_code_90) rfl k) ?_
      refine own_st (T' := T5) (g' := (mkF m 92 #[.val (.long A), .second, .val (.long D), .second, .val (.ref a_CEILING), .val (.long r), .second, .unset, .unset, .val (.int (0 : Int32)), .val (.long (r - D)), .second, .val (.int z5), .unset] [(.long D), (.long (A - r))])) (fun _ k => XS.lloadN X5.here hx rfl (hb hby own_d_prog_9_method_3_code_91) rfl k) ?_
      obtain ⟨v6, T6, L6, X6, hQ6, st6⟩ := own_gS X5  hx hZ hown (hw _ (List.mem_of_getElem? (i := 37) rfl)) (hw _ (List.mem_of_getElem? (i := 38) rfl)) (hw _ (List.mem_of_getElem? (i := 35) rfl)) (hw _ (List.mem_of_getElem? (i := 39) rfl)) (by decide) e5 (own_ltz l Z a0 hw h1 D) (by decide) (by decide) (by decide) (by decide) (Q := (fun v h L => (∃ z : Int32, v = some (.int z)) ∧ L = [] ∧ h = h1)) (W := 2) (g := (mkF m 92 #[.val (.long A), .second, .val (.long D), .second, .val (.ref a_CEILING), .val (.long r), .second, .unset, .unset, .val (.int (0 : Int32)), .val (.long (r - D)), .second, .val (.int z5), .unset] [(.long D), (.long (A - r))])) (argsL := [(.long D)]) (rest := [(.long (A - r))]) rfl (by rw [hml]; rfl) (lenOf own_pd_4 rfl) rfl (by show 2 * 0 + _ ≤ _; exact Nat.le_of_eq rfl) (hb hby own_d_prog_9_method_3_code_92)
      obtain ⟨⟨z6, rfl⟩, rfl, e6⟩ := hQ6
      rw [List.append_nil] at X6
      refine own_st (T' := T6) (g' := (mkF m 95 #[.val (.long A), .second, .val (.long D), .second, .val (.ref a_CEILING), .val (.long r), .second, .unset, .unset, .val (.int (0 : Int32)), .val (.long (r - D)), .second, .val (.int z5), .unset] [(.int z6), (.long (A - r))])) st6 ?_
      refine own_st (T' := T6) (g' := (mkF m 96 #[.val (.long A), .second, .val (.long D), .second, .val (.ref a_CEILING), .val (.long r), .second, .unset, .unset, .val (.int (0 : Int32)), .val (.long (r - D)), .second, .val (.int z5), .unset] [(.long ((A - r) >>> (z6 &&& 0x3f).toInt64))])) (fun _ k => XS.lshr X6.here hx rfl (hb hby own_d_prog_9_method_3_code_95) rfl k) ?_
      have K110_7 : ∀ (c13 : Int32), own_Go p e below (own_W s 2 20 (fun v h L => v = some (.long (own_R A D)) ∧ Fr h0.size L ∧ Ext h0 h)) T6 (mkF m 110 #[.val (.long A), .second, .val (.long D), .second, .val (.ref a_CEILING), .val (.long r), .second, .unset, .unset, .val (.int (0 : Int32)), .val (.long (r - D)), .second, .val (.int z5), .val (.int c13)] []) := by
        intro c13
        refine own_st (T' := T6) (g' := (mkF m 112 #[.val (.long A), .second, .val (.long D), .second, .val (.ref a_CEILING), .val (.long r), .second, .unset, .unset, .val (.int (0 : Int32)), .val (.long (r - D)), .second, .val (.int z5), .val (.int c13)] [(.ref a_CEILING)])) (fun _ k => XS.aload X6.here hx rfl (hb hby own_d_prog_9_method_3_code_110) rfl rfl k) ?_
        refine own_st (T' := T6) (g' := (mkF m 114 #[.val (.long A), .second, .val (.long D), .second, .val (.ref a_CEILING), .val (.long r), .second, .unset, .unset, .val (.int (0 : Int32)), .val (.long (r - D)), .second, .val (.int z5), .val (.int c13)] [(.int (0 : Int32)), (.ref a_CEILING)])) (fun _ k => XS.iload X6.here hx rfl (hb hby own_d_prog_9_method_3_code_112) rfl k) ?_
        refine own_st (T' := T6) (g' := (mkF m 116 #[.val (.long A), .second, .val (.long D), .second, .val (.ref a_CEILING), .val (.long r), .second, .unset, .unset, .val (.int (0 : Int32)), .val (.long (r - D)), .second, .val (.int z5), .val (.int c13)] [(.int z5), (.int (0 : Int32)), (.ref a_CEILING)])) (fun _ k => XS.iload X6.here hx rfl (hb hby own_d_prog_9_method_3_code_114) rfl k) ?_
        refine own_st (T' := T6) (g' := (mkF m 118 #[.val (.long A), .second, .val (.long D), .second, .val (.ref a_CEILING), .val (.long r), .second, .unset, .unset, .val (.int (0 : Int32)), .val (.long (r - D)), .second, .val (.int z5), .val (.int c13)] [(.int c13), (.int z5), (.int (0 : Int32)), (.ref a_CEILING)])) (fun _ k => XS.iload X6.here hx rfl (hb hby own_d_prog_9_method_3_code_116) rfl k) ?_
        obtain ⟨T8, X8, e8, st8⟩ := own_pure (w := (.int (1 : Int32))) rfl rfl (own_gS X6 hx hZ hown (hw _ (List.mem_of_getElem? (i := 44) rfl)) (hw _ (List.mem_of_getElem? (i := 45) rfl)) (hw _ (List.mem_of_getElem? (i := 10) rfl)) (hw _ (List.mem_of_getElem? (i := 46) rfl)) (by decide) e6 (own_stepsAway_8 l Z a0 hw h1 a_SM cl_SM a_FLOOR a_CEILING hE c13) (by decide) (by decide) (by decide) (by decide) (Q := fun v h L => v = some (.int (1 : Int32)) ∧ L = [] ∧ h = h1) (W := 0) (g := (mkF m 118 #[.val (.long A), .second, .val (.long D), .second, .val (.ref a_CEILING), .val (.long r), .second, .unset, .unset, .val (.int (0 : Int32)), .val (.long (r - D)), .second, .val (.int z5), .val (.int c13)] [(.int c13), (.int z5), (.int (0 : Int32)), (.ref a_CEILING)])) (argsL := [(.ref a_CEILING), (.int (0 : Int32)), (.int z5), (.int c13)]) (rest := []) rfl (by rw [hml]; rfl) (lenOf own_pd_6 rfl) rfl (by show 2 * 0 + _ ≤ _; exact Nat.le_of_eq rfl) (hb hby own_d_prog_9_method_3_code_118))
        refine own_st (T' := T8) (g' := (mkF m 121 #[.val (.long A), .second, .val (.long D), .second, .val (.ref a_CEILING), .val (.long r), .second, .unset, .unset, .val (.int (0 : Int32)), .val (.long (r - D)), .second, .val (.int z5), .val (.int c13)] [(.int (1 : Int32))])) st8 ?_
        refine own_st (T' := T8) (g' := (mkF m 124 #[.val (.long A), .second, .val (.long D), .second, .val (.ref a_CEILING), .val (.long r), .second, .unset, .unset, .val (.int (0 : Int32)), .val (.long (r - D)), .second, .val (.int z5), .val (.int c13)] [])) (fun _ k => XS.ifNo X8.here hx rfl (hb hby own_d_prog_9_method_3_code_121) rfl (by decide) k) ?_
        refine own_st (T' := T8) (g' := (mkF m 126 #[.val (.long A), .second, .val (.long D), .second, .val (.ref a_CEILING), .val (.long r), .second, .unset, .unset, .val (.int (0 : Int32)), .val (.long (r - D)), .second, .val (.int z5), .val (.int c13)] [(.long (r - D))])) (fun _ k => XS.lload X8.here hx rfl (hb hby own_d_prog_9_method_3_code_124) rfl k) ?_
        refine own_st (T' := T8) (g' := (mkF m 128 #[.val (.long A), .second, .val (.long D), .second, .val (.ref a_CEILING), .val (.long r), .second, .val (.long (r - D)), .second, .val (.int (0 : Int32)), .val (.long (r - D)), .second, .val (.int z5), .val (.int c13)] [])) (fun _ k => XS.lstore X8.here hx rfl (hb hby own_d_prog_9_method_3_code_126) rfl (l' := #[.val (.long A), .second, .val (.long D), .second, .val (.ref a_CEILING), .val (.long r), .second, .val (.long (r - D)), .second, .val (.int (0 : Int32)), .val (.long (r - D)), .second, .val (.int z5), .val (.int c13)]) rfl k) ?_
        refine own_st (T' := T8) (g' := (mkF m 135 #[.val (.long A), .second, .val (.long D), .second, .val (.ref a_CEILING), .val (.long r), .second, .val (.long (r - D)), .second, .val (.int (0 : Int32)), .val (.long (r - D)), .second, .val (.int z5), .val (.int c13)] [])) (fun _ k => XS.goto X8.here hx rfl (pc0 := 128) (pc' := 135) rfl (hb hby own_d_prog_9_method_3_code_128) (by decide) (by decide) k) ?_
        refine own_st (T' := T8) (g' := (mkF m 137 #[.val (.long A), .second, .val (.long D), .second, .val (.ref a_CEILING), .val (.long r), .second, .val (.long (r - D)), .second, .val (.int (0 : Int32)), .val (.long (r - D)), .second, .val (.int z5), .val (.int c13)] [(.long (r - D))])) (fun _ k => XS.lload X8.here hx rfl (hb hby own_d_prog_9_method_3_code_135) rfl k) ?_
        exact own_retW X8 hx hlk hS (by rw [e8]; exact hk) hret rfl (Or.inr (Or.inl ⟨rfl, rfl, _, rfl⟩)) (hb hby own_d_prog_9_method_3_code_137) (by decide) (by decide) (by rw [e8]; exact ⟨(by rw [own_R_nn hr hrn hDn]), Nf, E0⟩)
      refine own_st (T' := T6) (g' := (mkF m 97 #[.val (.long A), .second, .val (.long D), .second, .val (.ref a_CEILING), .val (.long r), .second, .unset, .unset, .val (.int (0 : Int32)), .val (.long (r - D)), .second, .val (.int z5), .unset] [(.long (1 : Int64)), (.long ((A - r) >>> (z6 &&& 0x3f).toInt64))])) (fun _ k => XS.lconst X6.here hx rfl (hb hby own_d_prog_9_method_3_code_96) k) ?_
      refine own_st (T' := T6) (g' := (mkF m 98 #[.val (.long A), .second, .val (.long D), .second, .val (.ref a_CEILING), .val (.long r), .second, .unset, .unset, .val (.int (0 : Int32)), .val (.long (r - D)), .second, .val (.int z5), .unset] [(.long (((A - r) >>> (z6 &&& 0x3f).toInt64) &&& (1 : Int64)))])) (fun _ k => XS.land X6.here hx rfl (hb hby own_d_prog_9_method_3_code_97) rfl k) ?_
      refine own_st (T' := T6) (g' := (mkF m 99 #[.val (.long A), .second, .val (.long D), .second, .val (.ref a_CEILING), .val (.long r), .second, .unset, .unset, .val (.int (0 : Int32)), .val (.long (r - D)), .second, .val (.int z5), .unset] [(.long (0 : Int64)), (.long (((A - r) >>> (z6 &&& 0x3f).toInt64) &&& (1 : Int64)))])) (fun _ k => XS.lconst X6.here hx rfl (hb hby own_d_prog_9_method_3_code_98) k) ?_
      refine own_st (T' := T6) (g' := (mkF m 100 #[.val (.long A), .second, .val (.long D), .second, .val (.ref a_CEILING), .val (.long r), .second, .unset, .unset, .val (.int (0 : Int32)), .val (.long (r - D)), .second, .val (.int z5), .unset] [(.int (lcmpW (((A - r) >>> (z6 &&& 0x3f).toInt64) &&& (1 : Int64)) (0 : Int64)))])) (fun _ k => XS.lcmp X6.here hx rfl (hb hby own_d_prog_9_method_3_code_99) rfl k) ?_
      by_cases hc100_9 : (lcmpW (((A - r) >>> (z6 &&& 0x3f).toInt64) &&& (1 : Int64)) (0 : Int64)) = (0 : Int32)
      ·
        refine own_st (T' := T6) (g' := (mkF m 107 #[.val (.long A), .second, .val (.long D), .second, .val (.ref a_CEILING), .val (.long r), .second, .unset, .unset, .val (.int (0 : Int32)), .val (.long (r - D)), .second, .val (.int z5), .unset] [])) (fun _ k => XS.ifYes X6.here hx rfl (pc0 := 100) (pc' := 107) rfl (hb hby own_d_prog_9_method_3_code_100) rfl ((if0 _ _).trans (teq hc100_9).1) (by decide) (by decide) k) ?_
        refine own_st (T' := T6) (g' := (mkF m 108 #[.val (.long A), .second, .val (.long D), .second, .val (.ref a_CEILING), .val (.long r), .second, .unset, .unset, .val (.int (0 : Int32)), .val (.long (r - D)), .second, .val (.int z5), .unset] [(.int (0 : Int32))])) (fun _ k => XS.iconst X6.here hx rfl (hb hby own_d_prog_9_method_3_code_107) k) ?_
        refine own_st (T' := T6) (g' := (mkF m 110 #[.val (.long A), .second, .val (.long D), .second, .val (.ref a_CEILING), .val (.long r), .second, .unset, .unset, .val (.int (0 : Int32)), .val (.long (r - D)), .second, .val (.int z5), .val (.int (0 : Int32))] [])) (fun _ k => XS.istore X6.here hx rfl (hb hby own_d_prog_9_method_3_code_108) rfl (l' := #[.val (.long A), .second, .val (.long D), .second, .val (.ref a_CEILING), .val (.long r), .second, .unset, .unset, .val (.int (0 : Int32)), .val (.long (r - D)), .second, .val (.int z5), .val (.int (0 : Int32))]) rfl k) ?_
        exact K110_7 (0 : Int32)
      ·
        refine own_st (T' := T6) (g' := (mkF m 103 #[.val (.long A), .second, .val (.long D), .second, .val (.ref a_CEILING), .val (.long r), .second, .unset, .unset, .val (.int (0 : Int32)), .val (.long (r - D)), .second, .val (.int z5), .unset] [])) (fun _ k => XS.ifNo X6.here hx rfl (hb hby own_d_prog_9_method_3_code_100) rfl ((if0 _ _).trans (feq hc100_9).1) k) ?_
        refine own_st (T' := T6) (g' := (mkF m 104 #[.val (.long A), .second, .val (.long D), .second, .val (.ref a_CEILING), .val (.long r), .second, .unset, .unset, .val (.int (0 : Int32)), .val (.long (r - D)), .second, .val (.int z5), .unset] [(.int (1 : Int32))])) (fun _ k => XS.iconst X6.here hx rfl (hb hby own_d_prog_9_method_3_code_103) k) ?_
        refine own_st (T' := T6) (g' := (mkF m 108 #[.val (.long A), .second, .val (.long D), .second, .val (.ref a_CEILING), .val (.long r), .second, .unset, .unset, .val (.int (0 : Int32)), .val (.long (r - D)), .second, .val (.int z5), .unset] [(.int (1 : Int32))])) (fun _ k => XS.goto X6.here hx rfl (pc0 := 104) (pc' := 108) rfl (hb hby own_d_prog_9_method_3_code_104) (by decide) (by decide) k) ?_
        refine own_st (T' := T6) (g' := (mkF m 110 #[.val (.long A), .second, .val (.long D), .second, .val (.ref a_CEILING), .val (.long r), .second, .unset, .unset, .val (.int (0 : Int32)), .val (.long (r - D)), .second, .val (.int z5), .val (.int (1 : Int32))] [])) (fun _ k => XS.istore X6.here hx rfl (hb hby own_d_prog_9_method_3_code_108) rfl (l' := #[.val (.long A), .second, .val (.long D), .second, .val (.ref a_CEILING), .val (.long r), .second, .unset, .unset, .val (.int (0 : Int32)), .val (.long (r - D)), .second, .val (.int z5), .val (.int (1 : Int32))]) rfl k) ?_
        exact K110_7 (1 : Int32)
    ·
      have hrI : ¬ r.toInt < 0 := by have e0 : (0 : Int64).toInt = 0 := rfl; rw [Int64.lt_iff_toInt_lt, e0] at hrn; exact hrn
      have hrl : ¬ ((lcmpW r (0 : Int64)) < (0 : Int32)) := by rw [lw_lt]; exact hrn
      have hxl : (lcmpW (r ^^^ D) (0 : Int64)) < (0 : Int32) := by rw [lw_lt, own_xor]; omega
      refine own_st (T' := T2) (g' := (mkF m 25 #[.val (.long A), .second, .val (.long D), .second, .val (.ref a_CEILING), .val (.long r), .second, .unset, .unset, .unset, .unset, .unset, .unset, .unset] [(.long r)])) (fun _ k => XS.lload X2.here hx rfl (hb hby own_d_prog_9_method_3_code_23) rfl k) ?_
      refine own_st (T' := T2) (g' := (mkF m 26 #[.val (.long A), .second, .val (.long D), .second, .val (.ref a_CEILING), .val (.long r), .second, .unset, .unset, .unset, .unset, .unset, .unset, .unset] [(.long (0 : Int64)), (.long r)])) (fun _ k => XS.lconst X2.here hx rfl (hb hby own_d_prog_9_method_3_code_25) k) ?_
      refine own_st (T' := T2) (g' := (mkF m 27 #[.val (.long A), .second, .val (.long D), .second, .val (.ref a_CEILING), .val (.long r), .second, .unset, .unset, .unset, .unset, .unset, .unset, .unset] [(.int (lcmpW r (0 : Int64)))])) (fun _ k => XS.lcmp X2.here hx rfl (hb hby own_d_prog_9_method_3_code_26) rfl k) ?_
      refine own_st (T' := T2) (g' := (mkF m 36 #[.val (.long A), .second, .val (.long D), .second, .val (.ref a_CEILING), .val (.long r), .second, .unset, .unset, .unset, .unset, .unset, .unset, .unset] [])) (fun _ k => XS.ifYes X2.here hx rfl (pc0 := 27) (pc' := 36) rfl (hb hby own_d_prog_9_method_3_code_27) rfl ((if0 _ _).trans (feq hr0).2) (by decide) (by decide) k) ?_
      refine own_st (T' := T2) (g' := (mkF m 38 #[.val (.long A), .second, .val (.long D), .second, .val (.ref a_CEILING), .val (.long r), .second, .unset, .unset, .unset, .unset, .unset, .unset, .unset] [(.long r)])) (fun _ k => XS.lload X2.here hx rfl (hb hby own_d_prog_9_method_3_code_36) rfl k) ?_
      refine own_st (T' := T2) (g' := (mkF m 39 #[.val (.long A), .second, .val (.long D), .second, .val (.ref a_CEILING), .val (.long r), .second, .unset, .unset, .unset, .unset, .unset, .unset, .unset] [(.long D), (.long r)])) (fun _ k => XS.lloadN X2.here hx rfl (hb hby own_d_prog_9_method_3_code_38) rfl k) ?_
      refine own_st (T' := T2) (g' := (mkF m 40 #[.val (.long A), .second, .val (.long D), .second, .val (.ref a_CEILING), .val (.long r), .second, .unset, .unset, .unset, .unset, .unset, .unset, .unset] [(.long (r ^^^ D))])) (fun _ k => XS.lxor X2.here hx rfl (hb hby own_d_prog_9_method_3_code_39) rfl k) ?_
      refine own_st (T' := T2) (g' := (mkF m 41 #[.val (.long A), .second, .val (.long D), .second, .val (.ref a_CEILING), .val (.long r), .second, .unset, .unset, .unset, .unset, .unset, .unset, .unset] [(.long (0 : Int64)), (.long (r ^^^ D))])) (fun _ k => XS.lconst X2.here hx rfl (hb hby own_d_prog_9_method_3_code_40) k) ?_
      refine own_st (T' := T2) (g' := (mkF m 42 #[.val (.long A), .second, .val (.long D), .second, .val (.ref a_CEILING), .val (.long r), .second, .unset, .unset, .unset, .unset, .unset, .unset, .unset] [(.int (lcmpW (r ^^^ D) (0 : Int64)))])) (fun _ k => XS.lcmp X2.here hx rfl (hb hby own_d_prog_9_method_3_code_41) rfl k) ?_
      refine own_st (T' := T2) (g' := (mkF m 45 #[.val (.long A), .second, .val (.long D), .second, .val (.ref a_CEILING), .val (.long r), .second, .unset, .unset, .unset, .unset, .unset, .unset, .unset] [])) (fun _ k => XS.ifNo X2.here hx rfl (hb hby own_d_prog_9_method_3_code_42) rfl ((if0 _ _).trans (tlt hxl).2.1) k) ?_
      refine own_st (T' := T2) (g' := (mkF m 46 #[.val (.long A), .second, .val (.long D), .second, .val (.ref a_CEILING), .val (.long r), .second, .unset, .unset, .unset, .unset, .unset, .unset, .unset] [(.int (1 : Int32))])) (fun _ k => XS.iconst X2.here hx rfl (hb hby own_d_prog_9_method_3_code_45) k) ?_
      refine own_st (T' := T2) (g' := (mkF m 50 #[.val (.long A), .second, .val (.long D), .second, .val (.ref a_CEILING), .val (.long r), .second, .unset, .unset, .unset, .unset, .unset, .unset, .unset] [(.int (1 : Int32))])) (fun _ k => XS.goto X2.here hx rfl (pc0 := 46) (pc' := 50) rfl (hb hby own_d_prog_9_method_3_code_46) (by decide) (by decide) k) ?_
      refine own_st (T' := T2) (g' := (mkF m 52 #[.val (.long A), .second, .val (.long D), .second, .val (.ref a_CEILING), .val (.long r), .second, .unset, .unset, .val (.int (1 : Int32)), .unset, .unset, .unset, .unset] [])) (fun _ k => XS.istore X2.here hx rfl (hb hby own_d_prog_9_method_3_code_50) rfl (l' := #[.val (.long A), .second, .val (.long D), .second, .val (.ref a_CEILING), .val (.long r), .second, .unset, .unset, .val (.int (1 : Int32)), .unset, .unset, .unset, .unset]) rfl k) ?_
      refine own_st (T' := T2) (g' := (mkF m 54 #[.val (.long A), .second, .val (.long D), .second, .val (.ref a_CEILING), .val (.long r), .second, .unset, .unset, .val (.int (1 : Int32)), .unset, .unset, .unset, .unset] [(.int (1 : Int32))])) (fun _ k => XS.iload X2.here hx rfl (hb hby own_d_prog_9_method_3_code_52) rfl k) ?_
      refine own_st (T' := T2) (g' := (mkF m 57 #[.val (.long A), .second, .val (.long D), .second, .val (.ref a_CEILING), .val (.long r), .second, .unset, .unset, .val (.int (1 : Int32)), .unset, .unset, .unset, .unset] [])) (fun _ k => XS.ifNo X2.here hx rfl (hb hby own_d_prog_9_method_3_code_54) rfl (by decide) k) ?_
      refine own_st (T' := T2) (g' := (mkF m 59 #[.val (.long A), .second, .val (.long D), .second, .val (.ref a_CEILING), .val (.long r), .second, .unset, .unset, .val (.int (1 : Int32)), .unset, .unset, .unset, .unset] [(.long r)])) (fun _ k => XS.lload X2.here hx rfl (hb hby own_d_prog_9_method_3_code_57) rfl k) ?_
      refine own_st (T' := T2) (g' := (mkF m 60 #[.val (.long A), .second, .val (.long D), .second, .val (.ref a_CEILING), .val (.long r), .second, .unset, .unset, .val (.int (1 : Int32)), .unset, .unset, .unset, .unset] [(.long D), (.long r)])) (fun _ k => XS.lloadN X2.here hx rfl (hb hby own_d_prog_9_method_3_code_59) rfl k) ?_
      refine own_st (T' := T2) (g' := (mkF m 61 #[.val (.long A), .second, .val (.long D), .second, .val (.ref a_CEILING), .val (.long r), .second, .unset, .unset, .val (.int (1 : Int32)), .unset, .unset, .unset, .unset] [(.long (r + D))])) (fun _ k => XS.ladd X2.here hx rfl (hb hby own_d_prog_9_method_3_code_60) rfl k) ?_
      refine own_st (T' := T2) (g' := (mkF m 63 #[.val (.long A), .second, .val (.long D), .second, .val (.ref a_CEILING), .val (.long r), .second, .unset, .unset, .val (.int (1 : Int32)), .val (.long (r + D)), .second, .unset, .unset] [])) (fun _ k => XS.lstore X2.here hx rfl (hb hby own_d_prog_9_method_3_code_61) rfl (l' := #[.val (.long A), .second, .val (.long D), .second, .val (.ref a_CEILING), .val (.long r), .second, .unset, .unset, .val (.int (1 : Int32)), .val (.long (r + D)), .second, .unset, .unset]) rfl k) ?_
      refine own_st (T' := T2) (g' := (mkF m 72 #[.val (.long A), .second, .val (.long D), .second, .val (.ref a_CEILING), .val (.long r), .second, .unset, .unset, .val (.int (1 : Int32)), .val (.long (r + D)), .second, .unset, .unset] [])) (fun _ k => XS.goto X2.here hx rfl (pc0 := 63) (pc' := 72) rfl (hb hby own_d_prog_9_method_3_code_63) (by decide) (by decide) k) ?_
      have hal : (lcmpW (r + D) (0 : Int64)) < (0 : Int32) := by have e0 : (0 : Int64).toInt = 0 := rfl; rw [lw_lt, Int64.lt_iff_toInt_lt, e0, own_add64 (by omega) (by omega)]; omega
      refine own_st (T' := T2) (g' := (mkF m 74 #[.val (.long A), .second, .val (.long D), .second, .val (.ref a_CEILING), .val (.long r), .second, .unset, .unset, .val (.int (1 : Int32)), .val (.long (r + D)), .second, .unset, .unset] [(.long r)])) (fun _ k => XS.lload X2.here hx rfl (hb hby own_d_prog_9_method_3_code_72) rfl k) ?_
      obtain ⟨T10, X10, e10, st10⟩ := own_pure (w := (.long r)) rfl rfl (own_gS X2 hx hZ hown (hw _ (List.mem_of_getElem? (i := 32) rfl)) (hw _ (List.mem_of_getElem? (i := 1) rfl)) (hw _ (List.mem_of_getElem? (i := 2) rfl)) (hw _ (List.mem_of_getElem? (i := 3) rfl)) (by decide) e2 (own_abs_4 l Z a0 hw h1 a_SM cl_SM a_FLOOR a_CEILING hE r hr0 hrl) (by decide) (by decide) (by decide) (by decide) (Q := fun v h L => v = some (.long r) ∧ L = [] ∧ h = h1) (W := 0) (g := (mkF m 74 #[.val (.long A), .second, .val (.long D), .second, .val (.ref a_CEILING), .val (.long r), .second, .unset, .unset, .val (.int (1 : Int32)), .val (.long (r + D)), .second, .unset, .unset] [(.long r)])) (argsL := [(.long r)]) (rest := []) rfl (by rw [hml]; rfl) (lenOf own_pd_2 rfl) rfl (by show 2 * 0 + _ ≤ _; exact Nat.le_of_eq rfl) (hb hby own_d_prog_9_method_3_code_74))
      refine own_st (T' := T10) (g' := (mkF m 77 #[.val (.long A), .second, .val (.long D), .second, .val (.ref a_CEILING), .val (.long r), .second, .unset, .unset, .val (.int (1 : Int32)), .val (.long (r + D)), .second, .unset, .unset] [(.long r)])) st10 ?_
      refine own_st (T' := T10) (g' := (mkF m 79 #[.val (.long A), .second, .val (.long D), .second, .val (.ref a_CEILING), .val (.long r), .second, .unset, .unset, .val (.int (1 : Int32)), .val (.long (r + D)), .second, .unset, .unset] [(.long (r + D)), (.long r)])) (fun _ k => XS.lload X10.here hx rfl (hb hby own_d_prog_9_method_3_code_77) rfl k) ?_
      obtain ⟨T11, X11, e11, st11⟩ := own_pure (w := (.long ((-(r + D))))) rfl rfl (own_gS X10 hx hZ hown (hw _ (List.mem_of_getElem? (i := 32) rfl)) (hw _ (List.mem_of_getElem? (i := 1) rfl)) (hw _ (List.mem_of_getElem? (i := 2) rfl)) (hw _ (List.mem_of_getElem? (i := 3) rfl)) (by decide) e10 (own_abs_10 l Z a0 hw h1 a_SM cl_SM a_FLOOR a_CEILING hE D r hDz hr0 hrl hxl hal) (by decide) (by decide) (by decide) (by decide) (Q := fun v h L => v = some (.long ((-(r + D)))) ∧ L = [] ∧ h = h1) (W := 2) (g := (mkF m 79 #[.val (.long A), .second, .val (.long D), .second, .val (.ref a_CEILING), .val (.long r), .second, .unset, .unset, .val (.int (1 : Int32)), .val (.long (r + D)), .second, .unset, .unset] [(.long (r + D)), (.long r)])) (argsL := [(.long (r + D))]) (rest := [(.long r)]) rfl (by rw [hml]; rfl) (lenOf own_pd_2 rfl) rfl (by show 2 * 0 + _ ≤ _; exact Nat.le_of_eq rfl) (hb hby own_d_prog_9_method_3_code_79))
      refine own_st (T' := T11) (g' := (mkF m 82 #[.val (.long A), .second, .val (.long D), .second, .val (.ref a_CEILING), .val (.long r), .second, .unset, .unset, .val (.int (1 : Int32)), .val (.long (r + D)), .second, .unset, .unset] [(.long ((-(r + D)))), (.long r)])) st11 ?_
      obtain ⟨v12, T12, L12, X12, hQ12, st12⟩ := own_gS X11  hx hZ hown (hw _ (List.mem_of_getElem? (i := 33) rfl)) (hw _ (List.mem_of_getElem? (i := 34) rfl)) (hw _ (List.mem_of_getElem? (i := 35) rfl)) (hw _ (List.mem_of_getElem? (i := 36) rfl)) (by decide) e11 (own_lcp l Z a0 hw h1 r ((-(r + D)))) (by decide) (by decide) (by decide) (by decide) (Q := (fun v h L => (∃ z : Int32, v = some (.int z)) ∧ L = [] ∧ h = h1)) (W := 0) (g := (mkF m 82 #[.val (.long A), .second, .val (.long D), .second, .val (.ref a_CEILING), .val (.long r), .second, .unset, .unset, .val (.int (1 : Int32)), .val (.long (r + D)), .second, .unset, .unset] [(.long ((-(r + D)))), (.long r)])) (argsL := [(.long r), (.long ((-(r + D))))]) (rest := []) rfl (by rw [hml]; rfl) (lenOf own_pd_3 rfl) rfl (by show 2 * 0 + _ ≤ _; exact Nat.le_of_eq rfl) (hb hby own_d_prog_9_method_3_code_82)
      obtain ⟨⟨z12, rfl⟩, rfl, e12⟩ := hQ12
      rw [List.append_nil] at X12
      refine own_st (T' := T12) (g' := (mkF m 85 #[.val (.long A), .second, .val (.long D), .second, .val (.ref a_CEILING), .val (.long r), .second, .unset, .unset, .val (.int (1 : Int32)), .val (.long (r + D)), .second, .unset, .unset] [(.int z12)])) st12 ?_
      refine own_st (T' := T12) (g' := (mkF m 87 #[.val (.long A), .second, .val (.long D), .second, .val (.ref a_CEILING), .val (.long r), .second, .unset, .unset, .val (.int (1 : Int32)), .val (.long (r + D)), .second, .val (.int z12), .unset] [])) (fun _ k => XS.istore X12.here hx rfl (hb hby own_d_prog_9_method_3_code_85) rfl (l' := #[.val (.long A), .second, .val (.long D), .second, .val (.ref a_CEILING), .val (.long r), .second, .unset, .unset, .val (.int (1 : Int32)), .val (.long (r + D)), .second, .val (.int z12), .unset]) rfl k) ?_
      refine own_st (T' := T12) (g' := (mkF m 88 #[.val (.long A), .second, .val (.long D), .second, .val (.ref a_CEILING), .val (.long r), .second, .unset, .unset, .val (.int (1 : Int32)), .val (.long (r + D)), .second, .val (.int z12), .unset] [(.long A)])) (fun _ k => XS.lloadN X12.here hx rfl (hb hby own_d_prog_9_method_3_code_87) rfl k) ?_
      refine own_st (T' := T12) (g' := (mkF m 90 #[.val (.long A), .second, .val (.long D), .second, .val (.ref a_CEILING), .val (.long r), .second, .unset, .unset, .val (.int (1 : Int32)), .val (.long (r + D)), .second, .val (.int z12), .unset] [(.long r), (.long A)])) (fun _ k => XS.lload X12.here hx rfl (hb hby own_d_prog_9_method_3_code_88) rfl k) ?_
      refine own_st (T' := T12) (g' := (mkF m 91 #[.val (.long A), .second, .val (.long D), .second, .val (.ref a_CEILING), .val (.long r), .second, .unset, .unset, .val (.int (1 : Int32)), .val (.long (r + D)), .second, .val (.int z12), .unset] [(.long (A - r))])) (fun _ k => XS.lsub X12.here hx rfl (hb hby own_d_prog_9_method_3_code_90) rfl k) ?_
      refine own_st (T' := T12) (g' := (mkF m 92 #[.val (.long A), .second, .val (.long D), .second, .val (.ref a_CEILING), .val (.long r), .second, .unset, .unset, .val (.int (1 : Int32)), .val (.long (r + D)), .second, .val (.int z12), .unset] [(.long D), (.long (A - r))])) (fun _ k => XS.lloadN X12.here hx rfl (hb hby own_d_prog_9_method_3_code_91) rfl k) ?_
      obtain ⟨v13, T13, L13, X13, hQ13, st13⟩ := own_gS X12  hx hZ hown (hw _ (List.mem_of_getElem? (i := 37) rfl)) (hw _ (List.mem_of_getElem? (i := 38) rfl)) (hw _ (List.mem_of_getElem? (i := 35) rfl)) (hw _ (List.mem_of_getElem? (i := 39) rfl)) (by decide) e12 (own_ltz l Z a0 hw h1 D) (by decide) (by decide) (by decide) (by decide) (Q := (fun v h L => (∃ z : Int32, v = some (.int z)) ∧ L = [] ∧ h = h1)) (W := 2) (g := (mkF m 92 #[.val (.long A), .second, .val (.long D), .second, .val (.ref a_CEILING), .val (.long r), .second, .unset, .unset, .val (.int (1 : Int32)), .val (.long (r + D)), .second, .val (.int z12), .unset] [(.long D), (.long (A - r))])) (argsL := [(.long D)]) (rest := [(.long (A - r))]) rfl (by rw [hml]; rfl) (lenOf own_pd_4 rfl) rfl (by show 2 * 0 + _ ≤ _; exact Nat.le_of_eq rfl) (hb hby own_d_prog_9_method_3_code_92)
      obtain ⟨⟨z13, rfl⟩, rfl, e13⟩ := hQ13
      rw [List.append_nil] at X13
      refine own_st (T' := T13) (g' := (mkF m 95 #[.val (.long A), .second, .val (.long D), .second, .val (.ref a_CEILING), .val (.long r), .second, .unset, .unset, .val (.int (1 : Int32)), .val (.long (r + D)), .second, .val (.int z12), .unset] [(.int z13), (.long (A - r))])) st13 ?_
      refine own_st (T' := T13) (g' := (mkF m 96 #[.val (.long A), .second, .val (.long D), .second, .val (.ref a_CEILING), .val (.long r), .second, .unset, .unset, .val (.int (1 : Int32)), .val (.long (r + D)), .second, .val (.int z12), .unset] [(.long ((A - r) >>> (z13 &&& 0x3f).toInt64))])) (fun _ k => XS.lshr X13.here hx rfl (hb hby own_d_prog_9_method_3_code_95) rfl k) ?_
      have K110_14 : ∀ (c13 : Int32), own_Go p e below (own_W s 2 20 (fun v h L => v = some (.long (own_R A D)) ∧ Fr h0.size L ∧ Ext h0 h)) T13 (mkF m 110 #[.val (.long A), .second, .val (.long D), .second, .val (.ref a_CEILING), .val (.long r), .second, .unset, .unset, .val (.int (1 : Int32)), .val (.long (r + D)), .second, .val (.int z12), .val (.int c13)] []) := by
        intro c13
        refine own_st (T' := T13) (g' := (mkF m 112 #[.val (.long A), .second, .val (.long D), .second, .val (.ref a_CEILING), .val (.long r), .second, .unset, .unset, .val (.int (1 : Int32)), .val (.long (r + D)), .second, .val (.int z12), .val (.int c13)] [(.ref a_CEILING)])) (fun _ k => XS.aload X13.here hx rfl (hb hby own_d_prog_9_method_3_code_110) rfl rfl k) ?_
        refine own_st (T' := T13) (g' := (mkF m 114 #[.val (.long A), .second, .val (.long D), .second, .val (.ref a_CEILING), .val (.long r), .second, .unset, .unset, .val (.int (1 : Int32)), .val (.long (r + D)), .second, .val (.int z12), .val (.int c13)] [(.int (1 : Int32)), (.ref a_CEILING)])) (fun _ k => XS.iload X13.here hx rfl (hb hby own_d_prog_9_method_3_code_112) rfl k) ?_
        refine own_st (T' := T13) (g' := (mkF m 116 #[.val (.long A), .second, .val (.long D), .second, .val (.ref a_CEILING), .val (.long r), .second, .unset, .unset, .val (.int (1 : Int32)), .val (.long (r + D)), .second, .val (.int z12), .val (.int c13)] [(.int z12), (.int (1 : Int32)), (.ref a_CEILING)])) (fun _ k => XS.iload X13.here hx rfl (hb hby own_d_prog_9_method_3_code_114) rfl k) ?_
        refine own_st (T' := T13) (g' := (mkF m 118 #[.val (.long A), .second, .val (.long D), .second, .val (.ref a_CEILING), .val (.long r), .second, .unset, .unset, .val (.int (1 : Int32)), .val (.long (r + D)), .second, .val (.int z12), .val (.int c13)] [(.int c13), (.int z12), (.int (1 : Int32)), (.ref a_CEILING)])) (fun _ k => XS.iload X13.here hx rfl (hb hby own_d_prog_9_method_3_code_116) rfl k) ?_
        obtain ⟨T15, X15, e15, st15⟩ := own_pure (w := (.int (0 : Int32))) rfl rfl (own_gS X13 hx hZ hown (hw _ (List.mem_of_getElem? (i := 44) rfl)) (hw _ (List.mem_of_getElem? (i := 45) rfl)) (hw _ (List.mem_of_getElem? (i := 10) rfl)) (hw _ (List.mem_of_getElem? (i := 46) rfl)) (by decide) e13 (own_stepsAway_11 l Z a0 hw h1 a_SM cl_SM a_FLOOR a_CEILING hE c13) (by decide) (by decide) (by decide) (by decide) (Q := fun v h L => v = some (.int (0 : Int32)) ∧ L = [] ∧ h = h1) (W := 0) (g := (mkF m 118 #[.val (.long A), .second, .val (.long D), .second, .val (.ref a_CEILING), .val (.long r), .second, .unset, .unset, .val (.int (1 : Int32)), .val (.long (r + D)), .second, .val (.int z12), .val (.int c13)] [(.int c13), (.int z12), (.int (1 : Int32)), (.ref a_CEILING)])) (argsL := [(.ref a_CEILING), (.int (1 : Int32)), (.int z12), (.int c13)]) (rest := []) rfl (by rw [hml]; rfl) (lenOf own_pd_6 rfl) rfl (by show 2 * 0 + _ ≤ _; exact Nat.le_of_eq rfl) (hb hby own_d_prog_9_method_3_code_118))
        refine own_st (T' := T15) (g' := (mkF m 121 #[.val (.long A), .second, .val (.long D), .second, .val (.ref a_CEILING), .val (.long r), .second, .unset, .unset, .val (.int (1 : Int32)), .val (.long (r + D)), .second, .val (.int z12), .val (.int c13)] [(.int (0 : Int32))])) st15 ?_
        refine own_st (T' := T15) (g' := (mkF m 131 #[.val (.long A), .second, .val (.long D), .second, .val (.ref a_CEILING), .val (.long r), .second, .unset, .unset, .val (.int (1 : Int32)), .val (.long (r + D)), .second, .val (.int z12), .val (.int c13)] [])) (fun _ k => XS.ifYes X15.here hx rfl (pc0 := 121) (pc' := 131) rfl (hb hby own_d_prog_9_method_3_code_121) rfl (by decide) (by decide) (by decide) k) ?_
        refine own_st (T' := T15) (g' := (mkF m 133 #[.val (.long A), .second, .val (.long D), .second, .val (.ref a_CEILING), .val (.long r), .second, .unset, .unset, .val (.int (1 : Int32)), .val (.long (r + D)), .second, .val (.int z12), .val (.int c13)] [(.long r)])) (fun _ k => XS.lload X15.here hx rfl (hb hby own_d_prog_9_method_3_code_131) rfl k) ?_
        refine own_st (T' := T15) (g' := (mkF m 135 #[.val (.long A), .second, .val (.long D), .second, .val (.ref a_CEILING), .val (.long r), .second, .val (.long r), .second, .val (.int (1 : Int32)), .val (.long (r + D)), .second, .val (.int z12), .val (.int c13)] [])) (fun _ k => XS.lstore X15.here hx rfl (hb hby own_d_prog_9_method_3_code_133) rfl (l' := #[.val (.long A), .second, .val (.long D), .second, .val (.ref a_CEILING), .val (.long r), .second, .val (.long r), .second, .val (.int (1 : Int32)), .val (.long (r + D)), .second, .val (.int z12), .val (.int c13)]) rfl k) ?_
        refine own_st (T' := T15) (g' := (mkF m 137 #[.val (.long A), .second, .val (.long D), .second, .val (.ref a_CEILING), .val (.long r), .second, .val (.long r), .second, .val (.int (1 : Int32)), .val (.long (r + D)), .second, .val (.int z12), .val (.int c13)] [(.long r)])) (fun _ k => XS.lload X15.here hx rfl (hb hby own_d_prog_9_method_3_code_135) rfl k) ?_
        exact own_retW X15 hx hlk hS (by rw [e15]; exact hk) hret rfl (Or.inr (Or.inl ⟨rfl, rfl, _, rfl⟩)) (hb hby own_d_prog_9_method_3_code_137) (by decide) (by decide) (by rw [e15]; exact ⟨(by rw [own_R_p hr hrn]), Nf, E0⟩)
      refine own_st (T' := T13) (g' := (mkF m 97 #[.val (.long A), .second, .val (.long D), .second, .val (.ref a_CEILING), .val (.long r), .second, .unset, .unset, .val (.int (1 : Int32)), .val (.long (r + D)), .second, .val (.int z12), .unset] [(.long (1 : Int64)), (.long ((A - r) >>> (z13 &&& 0x3f).toInt64))])) (fun _ k => XS.lconst X13.here hx rfl (hb hby own_d_prog_9_method_3_code_96) k) ?_
      refine own_st (T' := T13) (g' := (mkF m 98 #[.val (.long A), .second, .val (.long D), .second, .val (.ref a_CEILING), .val (.long r), .second, .unset, .unset, .val (.int (1 : Int32)), .val (.long (r + D)), .second, .val (.int z12), .unset] [(.long (((A - r) >>> (z13 &&& 0x3f).toInt64) &&& (1 : Int64)))])) (fun _ k => XS.land X13.here hx rfl (hb hby own_d_prog_9_method_3_code_97) rfl k) ?_
      refine own_st (T' := T13) (g' := (mkF m 99 #[.val (.long A), .second, .val (.long D), .second, .val (.ref a_CEILING), .val (.long r), .second, .unset, .unset, .val (.int (1 : Int32)), .val (.long (r + D)), .second, .val (.int z12), .unset] [(.long (0 : Int64)), (.long (((A - r) >>> (z13 &&& 0x3f).toInt64) &&& (1 : Int64)))])) (fun _ k => XS.lconst X13.here hx rfl (hb hby own_d_prog_9_method_3_code_98) k) ?_
      refine own_st (T' := T13) (g' := (mkF m 100 #[.val (.long A), .second, .val (.long D), .second, .val (.ref a_CEILING), .val (.long r), .second, .unset, .unset, .val (.int (1 : Int32)), .val (.long (r + D)), .second, .val (.int z12), .unset] [(.int (lcmpW (((A - r) >>> (z13 &&& 0x3f).toInt64) &&& (1 : Int64)) (0 : Int64)))])) (fun _ k => XS.lcmp X13.here hx rfl (hb hby own_d_prog_9_method_3_code_99) rfl k) ?_
      by_cases hc100_16 : (lcmpW (((A - r) >>> (z13 &&& 0x3f).toInt64) &&& (1 : Int64)) (0 : Int64)) = (0 : Int32)
      ·
        refine own_st (T' := T13) (g' := (mkF m 107 #[.val (.long A), .second, .val (.long D), .second, .val (.ref a_CEILING), .val (.long r), .second, .unset, .unset, .val (.int (1 : Int32)), .val (.long (r + D)), .second, .val (.int z12), .unset] [])) (fun _ k => XS.ifYes X13.here hx rfl (pc0 := 100) (pc' := 107) rfl (hb hby own_d_prog_9_method_3_code_100) rfl ((if0 _ _).trans (teq hc100_16).1) (by decide) (by decide) k) ?_
        refine own_st (T' := T13) (g' := (mkF m 108 #[.val (.long A), .second, .val (.long D), .second, .val (.ref a_CEILING), .val (.long r), .second, .unset, .unset, .val (.int (1 : Int32)), .val (.long (r + D)), .second, .val (.int z12), .unset] [(.int (0 : Int32))])) (fun _ k => XS.iconst X13.here hx rfl (hb hby own_d_prog_9_method_3_code_107) k) ?_
        refine own_st (T' := T13) (g' := (mkF m 110 #[.val (.long A), .second, .val (.long D), .second, .val (.ref a_CEILING), .val (.long r), .second, .unset, .unset, .val (.int (1 : Int32)), .val (.long (r + D)), .second, .val (.int z12), .val (.int (0 : Int32))] [])) (fun _ k => XS.istore X13.here hx rfl (hb hby own_d_prog_9_method_3_code_108) rfl (l' := #[.val (.long A), .second, .val (.long D), .second, .val (.ref a_CEILING), .val (.long r), .second, .unset, .unset, .val (.int (1 : Int32)), .val (.long (r + D)), .second, .val (.int z12), .val (.int (0 : Int32))]) rfl k) ?_
        exact K110_14 (0 : Int32)
      ·
        refine own_st (T' := T13) (g' := (mkF m 103 #[.val (.long A), .second, .val (.long D), .second, .val (.ref a_CEILING), .val (.long r), .second, .unset, .unset, .val (.int (1 : Int32)), .val (.long (r + D)), .second, .val (.int z12), .unset] [])) (fun _ k => XS.ifNo X13.here hx rfl (hb hby own_d_prog_9_method_3_code_100) rfl ((if0 _ _).trans (feq hc100_16).1) k) ?_
        refine own_st (T' := T13) (g' := (mkF m 104 #[.val (.long A), .second, .val (.long D), .second, .val (.ref a_CEILING), .val (.long r), .second, .unset, .unset, .val (.int (1 : Int32)), .val (.long (r + D)), .second, .val (.int z12), .unset] [(.int (1 : Int32))])) (fun _ k => XS.iconst X13.here hx rfl (hb hby own_d_prog_9_method_3_code_103) k) ?_
        refine own_st (T' := T13) (g' := (mkF m 108 #[.val (.long A), .second, .val (.long D), .second, .val (.ref a_CEILING), .val (.long r), .second, .unset, .unset, .val (.int (1 : Int32)), .val (.long (r + D)), .second, .val (.int z12), .unset] [(.int (1 : Int32))])) (fun _ k => XS.goto X13.here hx rfl (pc0 := 104) (pc' := 108) rfl (hb hby own_d_prog_9_method_3_code_104) (by decide) (by decide) k) ?_
        refine own_st (T' := T13) (g' := (mkF m 110 #[.val (.long A), .second, .val (.long D), .second, .val (.ref a_CEILING), .val (.long r), .second, .unset, .unset, .val (.int (1 : Int32)), .val (.long (r + D)), .second, .val (.int z12), .val (.int (1 : Int32))] [])) (fun _ k => XS.istore X13.here hx rfl (hb hby own_d_prog_9_method_3_code_108) rfl (l' := #[.val (.long A), .second, .val (.long D), .second, .val (.ref a_CEILING), .val (.long r), .second, .unset, .unset, .val (.int (1 : Int32)), .val (.long (r + D)), .second, .val (.int z12), .val (.int (1 : Int32))]) rfl k) ?_
        exact K110_14 (1 : Int32)
set_option maxRecDepth 65536 in
set_option maxHeartbeats 40000000 in
theorem own_remI_FLOOR (l : Launch) (Z : State) (a0 : Array Value) (hw : ∀ d ∈ tables_1, d.before a0 Z = true) (h0 : Heap) (a_SM : Addr) (cl_SM : Cell) (a_FLOOR : Addr) (a_CEILING : Addr) (hE : own_E Z h0 a_SM cl_SM a_FLOOR a_CEILING) (i : Int32) (j : Int32) (hj0 : ¬ j = (0 : Int32)) (hjn : ¬ j < (0 : Int32)) :
    own_MetW l Z h0 [] ({ frames := 3, cells := 2, slots := 20, locals := 55 } : Room) (⟨"com/example/residuum/residuum/Remainder", "remainder", "(IILjava/math/RoundingMode;)I"⟩ : MethodName) prog_9_method_2_code 3 (some .int) #[(.int i), (.int j), (.ref a_FLOOR)] (fun v h L => v = some (.int ((own_R (i.toInt64) (j.toInt64)).toInt32)) ∧ Fr h0.size L ∧ Ext h0 h) := by
  refine own_bodyW (plainFor_of_name own_pn_5) ?_
  intro p e s m below meth c T0 vm0 k0 X0 hS hk hx hby hml hown hZ e0 hret hlk hnm hnamed
  replace hown : (s.setVm vm0).vm.findClass "com/example/residuum/residuum/Remainder" = some m.cls := hown
  replace hml : c.maxLocals = 3 := hml
  have ef : entryFrame m #[(.int i), (.int j), (.ref a_FLOOR)] 3 = mkF m 0 #[.val (.int i), .val (.int j), .val (.ref a_FLOOR)] [] := by first | (simp [entryFrame, mkF, argsToLocals, Value.category]; done) | rfl
  rw [ef]
  have E0 := own_ext_rf h0
  have Nf := Fr.nil h0.size
  refine own_st (T' := T0) (g' := (mkF m 1 #[.val (.int i), .val (.int j), .val (.ref a_FLOOR)] [(.int i)])) (fun _ k => XS.iloadN X0.here hx rfl (hb hby own_d_prog_9_method_2_code_0) rfl k) ?_
  refine own_st (T' := T0) (g' := (mkF m 2 #[.val (.int i), .val (.int j), .val (.ref a_FLOOR)] [(.long (i.toInt64))])) (fun _ k => XS.i2l X0.here hx rfl (hb hby own_d_prog_9_method_2_code_1) rfl k) ?_
  refine own_st (T' := T0) (g' := (mkF m 3 #[.val (.int i), .val (.int j), .val (.ref a_FLOOR)] [(.int j), (.long (i.toInt64))])) (fun _ k => XS.iloadN X0.here hx rfl (hb hby own_d_prog_9_method_2_code_2) rfl k) ?_
  refine own_st (T' := T0) (g' := (mkF m 4 #[.val (.int i), .val (.int j), .val (.ref a_FLOOR)] [(.long (j.toInt64)), (.long (i.toInt64))])) (fun _ k => XS.i2l X0.here hx rfl (hb hby own_d_prog_9_method_2_code_3) rfl k) ?_
  refine own_st (T' := T0) (g' := (mkF m 5 #[.val (.int i), .val (.int j), .val (.ref a_FLOOR)] [(.ref a_FLOOR), (.long (j.toInt64)), (.long (i.toInt64))])) (fun _ k => XS.aloadN X0.here hx rfl (hb hby own_d_prog_9_method_2_code_4) rfl rfl k) ?_
  obtain ⟨v1, T1, L1, k1, X1, hQ1, hS, hk, hZ, hown, st1⟩ := own_gSW X0 hS hk hx hZ hown (hw _ (List.mem_of_getElem? (i := 17) rfl)) (hw _ (List.mem_of_getElem? (i := 18) rfl)) (hw _ (List.mem_of_getElem? (i := 6) rfl)) (hw _ (List.mem_of_getElem? (i := 19) rfl)) (by decide) e0 (own_remJ_FLOOR l Z a0 hw h0 a_SM cl_SM a_FLOOR a_CEILING hE (i.toInt64) (j.toInt64) (own_c1 hj0) (own_c2 i) (own_c3 i) (own_c2 j) (own_c3 j) (own_c4p hjn)) (by decide) (by decide) (by decide) (by decide) (Q := (fun v h L => v = some (.long (own_R (i.toInt64) (j.toInt64))) ∧ Fr h0.size L ∧ Ext h0 h)) (W := 0) (g := (mkF m 5 #[.val (.int i), .val (.int j), .val (.ref a_FLOOR)] [(.ref a_FLOOR), (.long (j.toInt64)), (.long (i.toInt64))])) (argsL := [(.long (i.toInt64)), (.long (j.toInt64)), (.ref a_FLOOR)]) (rest := []) rfl (by rw [hml]; rfl) (lenOf own_pd_7 rfl) rfl (by show 2 * 0 + _ ≤ _; exact Nat.le_of_eq rfl) (hb hby own_d_prog_9_method_2_code_5)
  obtain ⟨rfl, NL1, EX1⟩ := hQ1
  have Nf := Fr.app Nf (own_fr_mono E0.1 NL1)
  have E0 := own_ext_tr E0 EX1
  have hE := own_E_ext hE EX1
  refine own_st (T' := T1) (g' := (mkF m 8 #[.val (.int i), .val (.int j), .val (.ref a_FLOOR)] [(.long (own_R (i.toInt64) (j.toInt64)))])) st1 ?_
  refine own_st (T' := T1) (g' := (mkF m 9 #[.val (.int i), .val (.int j), .val (.ref a_FLOOR)] [(.int ((own_R (i.toInt64) (j.toInt64)).toInt32))])) (fun _ k => XS.l2i X1.here hx rfl (hb hby own_d_prog_9_method_2_code_8) rfl k) ?_
  exact own_retW X1 hx hlk hS hk hret rfl (Or.inl ⟨rfl, Or.inl rfl, _, rfl⟩) (hb hby own_d_prog_9_method_2_code_9) (by decide) (by decide) ⟨rfl, Nf, E0⟩
set_option maxRecDepth 65536 in
set_option maxHeartbeats 40000000 in
theorem own_remI_CEILING (l : Launch) (Z : State) (a0 : Array Value) (hw : ∀ d ∈ tables_1, d.before a0 Z = true) (h0 : Heap) (a_SM : Addr) (cl_SM : Cell) (a_FLOOR : Addr) (a_CEILING : Addr) (hE : own_E Z h0 a_SM cl_SM a_FLOOR a_CEILING) (i : Int32) (j : Int32) (hj0 : ¬ j = (0 : Int32)) (hjn : j < (0 : Int32)) :
    own_MetW l Z h0 [] ({ frames := 3, cells := 2, slots := 20, locals := 55 } : Room) (⟨"com/example/residuum/residuum/Remainder", "remainder", "(IILjava/math/RoundingMode;)I"⟩ : MethodName) prog_9_method_2_code 3 (some .int) #[(.int i), (.int j), (.ref a_CEILING)] (fun v h L => v = some (.int ((own_R (i.toInt64) (j.toInt64)).toInt32)) ∧ Fr h0.size L ∧ Ext h0 h) := by
  refine own_bodyW (plainFor_of_name own_pn_5) ?_
  intro p e s m below meth c T0 vm0 k0 X0 hS hk hx hby hml hown hZ e0 hret hlk hnm hnamed
  replace hown : (s.setVm vm0).vm.findClass "com/example/residuum/residuum/Remainder" = some m.cls := hown
  replace hml : c.maxLocals = 3 := hml
  have ef : entryFrame m #[(.int i), (.int j), (.ref a_CEILING)] 3 = mkF m 0 #[.val (.int i), .val (.int j), .val (.ref a_CEILING)] [] := by first | (simp [entryFrame, mkF, argsToLocals, Value.category]; done) | rfl
  rw [ef]
  have E0 := own_ext_rf h0
  have Nf := Fr.nil h0.size
  refine own_st (T' := T0) (g' := (mkF m 1 #[.val (.int i), .val (.int j), .val (.ref a_CEILING)] [(.int i)])) (fun _ k => XS.iloadN X0.here hx rfl (hb hby own_d_prog_9_method_2_code_0) rfl k) ?_
  refine own_st (T' := T0) (g' := (mkF m 2 #[.val (.int i), .val (.int j), .val (.ref a_CEILING)] [(.long (i.toInt64))])) (fun _ k => XS.i2l X0.here hx rfl (hb hby own_d_prog_9_method_2_code_1) rfl k) ?_
  refine own_st (T' := T0) (g' := (mkF m 3 #[.val (.int i), .val (.int j), .val (.ref a_CEILING)] [(.int j), (.long (i.toInt64))])) (fun _ k => XS.iloadN X0.here hx rfl (hb hby own_d_prog_9_method_2_code_2) rfl k) ?_
  refine own_st (T' := T0) (g' := (mkF m 4 #[.val (.int i), .val (.int j), .val (.ref a_CEILING)] [(.long (j.toInt64)), (.long (i.toInt64))])) (fun _ k => XS.i2l X0.here hx rfl (hb hby own_d_prog_9_method_2_code_3) rfl k) ?_
  refine own_st (T' := T0) (g' := (mkF m 5 #[.val (.int i), .val (.int j), .val (.ref a_CEILING)] [(.ref a_CEILING), (.long (j.toInt64)), (.long (i.toInt64))])) (fun _ k => XS.aloadN X0.here hx rfl (hb hby own_d_prog_9_method_2_code_4) rfl rfl k) ?_
  obtain ⟨v1, T1, L1, k1, X1, hQ1, hS, hk, hZ, hown, st1⟩ := own_gSW X0 hS hk hx hZ hown (hw _ (List.mem_of_getElem? (i := 17) rfl)) (hw _ (List.mem_of_getElem? (i := 18) rfl)) (hw _ (List.mem_of_getElem? (i := 6) rfl)) (hw _ (List.mem_of_getElem? (i := 19) rfl)) (by decide) e0 (own_remJ_CEILING l Z a0 hw h0 a_SM cl_SM a_FLOOR a_CEILING hE (i.toInt64) (j.toInt64) (own_c1 hj0) (own_c2 i) (own_c3 i) (own_c2 j) (own_c3 j) (own_c4n hjn)) (by decide) (by decide) (by decide) (by decide) (Q := (fun v h L => v = some (.long (own_R (i.toInt64) (j.toInt64))) ∧ Fr h0.size L ∧ Ext h0 h)) (W := 0) (g := (mkF m 5 #[.val (.int i), .val (.int j), .val (.ref a_CEILING)] [(.ref a_CEILING), (.long (j.toInt64)), (.long (i.toInt64))])) (argsL := [(.long (i.toInt64)), (.long (j.toInt64)), (.ref a_CEILING)]) (rest := []) rfl (by rw [hml]; rfl) (lenOf own_pd_7 rfl) rfl (by show 2 * 0 + _ ≤ _; exact Nat.le_of_eq rfl) (hb hby own_d_prog_9_method_2_code_5)
  obtain ⟨rfl, NL1, EX1⟩ := hQ1
  have Nf := Fr.app Nf (own_fr_mono E0.1 NL1)
  have E0 := own_ext_tr E0 EX1
  have hE := own_E_ext hE EX1
  refine own_st (T' := T1) (g' := (mkF m 8 #[.val (.int i), .val (.int j), .val (.ref a_CEILING)] [(.long (own_R (i.toInt64) (j.toInt64)))])) st1 ?_
  refine own_st (T' := T1) (g' := (mkF m 9 #[.val (.int i), .val (.int j), .val (.ref a_CEILING)] [(.int ((own_R (i.toInt64) (j.toInt64)).toInt32))])) (fun _ k => XS.l2i X1.here hx rfl (hb hby own_d_prog_9_method_2_code_8) rfl k) ?_
  exact own_retW X1 hx hlk hS hk hret rfl (Or.inl ⟨rfl, Or.inl rfl, _, rfl⟩) (hb hby own_d_prog_9_method_2_code_9) (by decide) (by decide) ⟨rfl, Nf, E0⟩
set_option maxRecDepth 65536 in
set_option maxHeartbeats 40000000 in
theorem own_euclideanMode_12 (l : Launch) (Z : State) (a0 : Array Value) (hw : ∀ d ∈ tables_1, d.before a0 Z = true) (h0 : Heap) (a_SM : Addr) (cl_SM : Cell) (a_FLOOR : Addr) (a_CEILING : Addr) (hE : own_E Z h0 a_SM cl_SM a_FLOOR a_CEILING) :
    own_Pure l Z h0 [] ({ frames := 0, cells := 0, slots := 0, locals := 0 } : Room) (⟨"com/example/residuum/residuum/QuotientRounding", "euclideanMode", "(Z)Ljava/math/RoundingMode;"⟩ : MethodName) prog_7_method_3_code 2 (some (.object "java/math/RoundingMode")) #[(.int (0 : Int32))] (some (.ref a_FLOOR)) := by
  refine own_body (plainFor_of_name own_pn_4) ?_
  intro p e s m below meth c T0 X0 hx hby hml hown hZ e0 hret hlk hnm hnamed
  replace hown : s.vm.findClass "com/example/residuum/residuum/QuotientRounding" = some m.cls := hown
  replace hml : c.maxLocals = 2 := hml
  have ef : entryFrame m #[(.int (0 : Int32))] 2 = mkF m 0 #[.val (.int (0 : Int32)), .unset] [] := by first | (simp [entryFrame, mkF, argsToLocals, Value.category]; done) | rfl
  rw [ef]
  have S_FLOOR := own_p_S_FLOOR hE
  refine own_st (T' := T0) (g' := (mkF m 1 #[.val (.int (0 : Int32)), .unset] [(.int (0 : Int32))])) (fun _ k => XS.iloadN X0.here hx rfl (hb hby own_d_prog_7_method_3_code_0) rfl k) ?_
  refine own_st (T' := T0) (g' := (mkF m 11 #[.val (.int (0 : Int32)), .unset] [])) (fun _ k => XS.ifYes X0.here hx rfl (pc0 := 1) (pc' := 11) rfl (hb hby own_d_prog_7_method_3_code_1) rfl (by decide) (by decide) (by decide) k) ?_
  obtain ⟨T1, X1, e1, st1⟩ := getS2 X0 hx hZ hown (host := "") (Or.inl (hw _ (List.mem_of_getElem? (i := 12) rfl))) Via.refl e0 S_FLOOR (g := (mkF m 11 #[.val (.int (0 : Int32)), .unset] [])) rfl (hb hby own_d_prog_7_method_3_code_11)
  refine own_st (T' := T1) (g' := (mkF m 14 #[.val (.int (0 : Int32)), .unset] [(.ref a_FLOOR)])) st1 ?_
  refine own_st (T' := T1) (g' := (mkF m 15 #[.val (.int (0 : Int32)), .val (.ref a_FLOOR)] [])) (fun _ k => XS.astoreN X1.here hx rfl (hb hby own_d_prog_7_method_3_code_14) rfl rfl (l' := #[.val (.int (0 : Int32)), .val (.ref a_FLOOR)]) rfl k) ?_
  refine own_st (T' := T1) (g' := (mkF m 16 #[.val (.int (0 : Int32)), .val (.ref a_FLOOR)] [(.ref a_FLOOR)])) (fun _ k => XS.aloadN X1.here hx rfl (hb hby own_d_prog_7_method_3_code_15) rfl rfl k) ?_
  exact own_ret X1 hx hlk hret rfl (Or.inr (Or.inr (Or.inr (Or.inr ⟨rfl, rfl, rfl⟩)))) (hb hby own_d_prog_7_method_3_code_16) (by decide) (by decide) ⟨rfl, rfl, e1⟩
set_option maxRecDepth 65536 in
set_option maxHeartbeats 40000000 in
theorem own_euc_p (l : Launch) (Z : State) (a0 : Array Value) (hw : ∀ d ∈ tables_1, d.before a0 Z = true) (h0 : Heap) (a_SM : Addr) (cl_SM : Cell) (a_FLOOR : Addr) (a_CEILING : Addr) (hE : own_E Z h0 a_SM cl_SM a_FLOOR a_CEILING) (i : Int32) (j : Int32) (hj0 : ¬ j = (0 : Int32)) (hjn : ¬ j < (0 : Int32)) :
    own_MetW l Z h0 [] ({ frames := 4, cells := 2, slots := 20, locals := 69 } : Room) (⟨"com/example/residuum/residuum/Remainder", "euclidean", "(II)I"⟩ : MethodName) prog_9_method_4_code 2 (some .int) #[(.int i), (.int j)] (fun v h L => v = some (.int ((own_R (i.toInt64) (j.toInt64)).toInt32)) ∧ Fr h0.size L ∧ Ext h0 h) := by
  refine own_bodyW (plainFor_of_name own_pn_5) ?_
  intro p e s m below meth c T0 vm0 k0 X0 hS hk hx hby hml hown hZ e0 hret hlk hnm hnamed
  replace hown : (s.setVm vm0).vm.findClass "com/example/residuum/residuum/Remainder" = some m.cls := hown
  replace hml : c.maxLocals = 2 := hml
  have ef : entryFrame m #[(.int i), (.int j)] 2 = mkF m 0 #[.val (.int i), .val (.int j)] [] := by first | (simp [entryFrame, mkF, argsToLocals, Value.category]; done) | rfl
  rw [ef]
  have E0 := own_ext_rf h0
  have Nf := Fr.nil h0.size
  refine own_st (T' := T0) (g' := (mkF m 1 #[.val (.int i), .val (.int j)] [(.int i)])) (fun _ k => XS.iloadN X0.here hx rfl (hb hby own_d_prog_9_method_4_code_0) rfl k) ?_
  refine own_st (T' := T0) (g' := (mkF m 2 #[.val (.int i), .val (.int j)] [(.int j), (.int i)])) (fun _ k => XS.iloadN X0.here hx rfl (hb hby own_d_prog_9_method_4_code_1) rfl k) ?_
  refine own_st (T' := T0) (g' := (mkF m 3 #[.val (.int i), .val (.int j)] [(.int j), (.int j), (.int i)])) (fun _ k => XS.iloadN X0.here hx rfl (hb hby own_d_prog_9_method_4_code_2) rfl k) ?_
  refine own_st (T' := T0) (g' := (mkF m 10 #[.val (.int i), .val (.int j)] [(.int j), (.int i)])) (fun _ k => XS.ifYes X0.here hx rfl (pc0 := 3) (pc' := 10) rfl (hb hby own_d_prog_9_method_4_code_3) rfl ((if0 _ _).trans (flt hjn).2.1) (by decide) (by decide) k) ?_
  refine own_st (T' := T0) (g' := (mkF m 11 #[.val (.int i), .val (.int j)] [(.int (0 : Int32)), (.int j), (.int i)])) (fun _ k => XS.iconst X0.here hx rfl (hb hby own_d_prog_9_method_4_code_10) k) ?_
  obtain ⟨T1, X1, e1, st1⟩ := own_pure (w := (.ref a_FLOOR)) rfl rfl (own_gS X0 hx hZ hown (hw _ (List.mem_of_getElem? (i := 8) rfl)) (hw _ (List.mem_of_getElem? (i := 9) rfl)) (hw _ (List.mem_of_getElem? (i := 10) rfl)) (hw _ (List.mem_of_getElem? (i := 11) rfl)) (by decide) e0 (own_euclideanMode_12 l Z a0 hw h0 a_SM cl_SM a_FLOOR a_CEILING hE) (by decide) (by decide) (by decide) (by decide) (Q := fun v h L => v = some (.ref a_FLOOR) ∧ L = [] ∧ h = h0) (W := 2) (g := (mkF m 11 #[.val (.int i), .val (.int j)] [(.int (0 : Int32)), (.int j), (.int i)])) (argsL := [(.int (0 : Int32))]) (rest := [(.int j), (.int i)]) rfl (by rw [hml]; rfl) (lenOf own_pd_8 rfl) rfl (by show 2 * 0 + _ ≤ _; exact Nat.le_of_eq rfl) (hb hby own_d_prog_9_method_4_code_11))
  refine own_st (T' := T1) (g' := (mkF m 14 #[.val (.int i), .val (.int j)] [(.ref a_FLOOR), (.int j), (.int i)])) st1 ?_
  obtain ⟨v2, T2, L2, k2, X2, hQ2, hS, hk, hZ, hown, st2⟩ := own_gSW X1 hS hk hx hZ hown (hw _ (List.mem_of_getElem? (i := 14) rfl)) (hw _ (List.mem_of_getElem? (i := 15) rfl)) (hw _ (List.mem_of_getElem? (i := 6) rfl)) (hw _ (List.mem_of_getElem? (i := 16) rfl)) (by decide) e1 (own_remI_FLOOR l Z a0 hw h0 a_SM cl_SM a_FLOOR a_CEILING hE i j hj0 hjn) (by decide) (by decide) (by decide) (by decide) (Q := (fun v h L => v = some (.int ((own_R (i.toInt64) (j.toInt64)).toInt32)) ∧ Fr h0.size L ∧ Ext h0 h)) (W := 0) (g := (mkF m 14 #[.val (.int i), .val (.int j)] [(.ref a_FLOOR), (.int j), (.int i)])) (argsL := [(.int i), (.int j), (.ref a_FLOOR)]) (rest := []) rfl (by rw [hml]; rfl) (lenOf own_pd_9 rfl) rfl (by show 2 * 0 + _ ≤ _; exact Nat.le_of_eq rfl) (hb hby own_d_prog_9_method_4_code_14)
  obtain ⟨rfl, NL2, EX2⟩ := hQ2
  have Nf := Fr.app Nf (own_fr_mono E0.1 NL2)
  have E0 := own_ext_tr E0 EX2
  have hE := own_E_ext hE EX2
  refine own_st (T' := T2) (g' := (mkF m 17 #[.val (.int i), .val (.int j)] [(.int ((own_R (i.toInt64) (j.toInt64)).toInt32))])) st2 ?_
  exact own_retW X2 hx hlk hS hk hret rfl (Or.inl ⟨rfl, Or.inl rfl, _, rfl⟩) (hb hby own_d_prog_9_method_4_code_17) (by decide) (by decide) ⟨rfl, Nf, E0⟩
set_option maxRecDepth 65536 in
set_option maxHeartbeats 40000000 in
theorem own_euclideanMode_13 (l : Launch) (Z : State) (a0 : Array Value) (hw : ∀ d ∈ tables_1, d.before a0 Z = true) (h0 : Heap) (a_SM : Addr) (cl_SM : Cell) (a_FLOOR : Addr) (a_CEILING : Addr) (hE : own_E Z h0 a_SM cl_SM a_FLOOR a_CEILING) :
    own_Pure l Z h0 [] ({ frames := 0, cells := 0, slots := 0, locals := 0 } : Room) (⟨"com/example/residuum/residuum/QuotientRounding", "euclideanMode", "(Z)Ljava/math/RoundingMode;"⟩ : MethodName) prog_7_method_3_code 2 (some (.object "java/math/RoundingMode")) #[(.int (1 : Int32))] (some (.ref a_CEILING)) := by
  refine own_body (plainFor_of_name own_pn_4) ?_
  intro p e s m below meth c T0 X0 hx hby hml hown hZ e0 hret hlk hnm hnamed
  replace hown : s.vm.findClass "com/example/residuum/residuum/QuotientRounding" = some m.cls := hown
  replace hml : c.maxLocals = 2 := hml
  have ef : entryFrame m #[(.int (1 : Int32))] 2 = mkF m 0 #[.val (.int (1 : Int32)), .unset] [] := by first | (simp [entryFrame, mkF, argsToLocals, Value.category]; done) | rfl
  rw [ef]
  have S_CEILING := own_p_S_CEILING hE
  refine own_st (T' := T0) (g' := (mkF m 1 #[.val (.int (1 : Int32)), .unset] [(.int (1 : Int32))])) (fun _ k => XS.iloadN X0.here hx rfl (hb hby own_d_prog_7_method_3_code_0) rfl k) ?_
  refine own_st (T' := T0) (g' := (mkF m 4 #[.val (.int (1 : Int32)), .unset] [])) (fun _ k => XS.ifNo X0.here hx rfl (hb hby own_d_prog_7_method_3_code_1) rfl (by decide) k) ?_
  obtain ⟨T1, X1, e1, st1⟩ := getS2 X0 hx hZ hown (host := "") (Or.inl (hw _ (List.mem_of_getElem? (i := 59) rfl))) Via.refl e0 S_CEILING (g := (mkF m 4 #[.val (.int (1 : Int32)), .unset] [])) rfl (hb hby own_d_prog_7_method_3_code_4)
  refine own_st (T' := T1) (g' := (mkF m 7 #[.val (.int (1 : Int32)), .unset] [(.ref a_CEILING)])) st1 ?_
  refine own_st (T' := T1) (g' := (mkF m 8 #[.val (.int (1 : Int32)), .val (.ref a_CEILING)] [])) (fun _ k => XS.astoreN X1.here hx rfl (hb hby own_d_prog_7_method_3_code_7) rfl rfl (l' := #[.val (.int (1 : Int32)), .val (.ref a_CEILING)]) rfl k) ?_
  refine own_st (T' := T1) (g' := (mkF m 15 #[.val (.int (1 : Int32)), .val (.ref a_CEILING)] [])) (fun _ k => XS.goto X1.here hx rfl (pc0 := 8) (pc' := 15) rfl (hb hby own_d_prog_7_method_3_code_8) (by decide) (by decide) k) ?_
  refine own_st (T' := T1) (g' := (mkF m 16 #[.val (.int (1 : Int32)), .val (.ref a_CEILING)] [(.ref a_CEILING)])) (fun _ k => XS.aloadN X1.here hx rfl (hb hby own_d_prog_7_method_3_code_15) rfl rfl k) ?_
  exact own_ret X1 hx hlk hret rfl (Or.inr (Or.inr (Or.inr (Or.inr ⟨rfl, rfl, rfl⟩)))) (hb hby own_d_prog_7_method_3_code_16) (by decide) (by decide) ⟨rfl, rfl, e1⟩
set_option maxRecDepth 65536 in
set_option maxHeartbeats 40000000 in
theorem own_euc_n (l : Launch) (Z : State) (a0 : Array Value) (hw : ∀ d ∈ tables_1, d.before a0 Z = true) (h0 : Heap) (a_SM : Addr) (cl_SM : Cell) (a_FLOOR : Addr) (a_CEILING : Addr) (hE : own_E Z h0 a_SM cl_SM a_FLOOR a_CEILING) (i : Int32) (j : Int32) (hj0 : ¬ j = (0 : Int32)) (hjn : j < (0 : Int32)) :
    own_MetW l Z h0 [] ({ frames := 4, cells := 2, slots := 20, locals := 69 } : Room) (⟨"com/example/residuum/residuum/Remainder", "euclidean", "(II)I"⟩ : MethodName) prog_9_method_4_code 2 (some .int) #[(.int i), (.int j)] (fun v h L => v = some (.int ((own_R (i.toInt64) (j.toInt64)).toInt32)) ∧ Fr h0.size L ∧ Ext h0 h) := by
  refine own_bodyW (plainFor_of_name own_pn_5) ?_
  intro p e s m below meth c T0 vm0 k0 X0 hS hk hx hby hml hown hZ e0 hret hlk hnm hnamed
  replace hown : (s.setVm vm0).vm.findClass "com/example/residuum/residuum/Remainder" = some m.cls := hown
  replace hml : c.maxLocals = 2 := hml
  have ef : entryFrame m #[(.int i), (.int j)] 2 = mkF m 0 #[.val (.int i), .val (.int j)] [] := by first | (simp [entryFrame, mkF, argsToLocals, Value.category]; done) | rfl
  rw [ef]
  have E0 := own_ext_rf h0
  have Nf := Fr.nil h0.size
  refine own_st (T' := T0) (g' := (mkF m 1 #[.val (.int i), .val (.int j)] [(.int i)])) (fun _ k => XS.iloadN X0.here hx rfl (hb hby own_d_prog_9_method_4_code_0) rfl k) ?_
  refine own_st (T' := T0) (g' := (mkF m 2 #[.val (.int i), .val (.int j)] [(.int j), (.int i)])) (fun _ k => XS.iloadN X0.here hx rfl (hb hby own_d_prog_9_method_4_code_1) rfl k) ?_
  refine own_st (T' := T0) (g' := (mkF m 3 #[.val (.int i), .val (.int j)] [(.int j), (.int j), (.int i)])) (fun _ k => XS.iloadN X0.here hx rfl (hb hby own_d_prog_9_method_4_code_2) rfl k) ?_
  refine own_st (T' := T0) (g' := (mkF m 6 #[.val (.int i), .val (.int j)] [(.int j), (.int i)])) (fun _ k => XS.ifNo X0.here hx rfl (hb hby own_d_prog_9_method_4_code_3) rfl ((if0 _ _).trans (tlt hjn).2.1) k) ?_
  refine own_st (T' := T0) (g' := (mkF m 7 #[.val (.int i), .val (.int j)] [(.int (1 : Int32)), (.int j), (.int i)])) (fun _ k => XS.iconst X0.here hx rfl (hb hby own_d_prog_9_method_4_code_6) k) ?_
  refine own_st (T' := T0) (g' := (mkF m 11 #[.val (.int i), .val (.int j)] [(.int (1 : Int32)), (.int j), (.int i)])) (fun _ k => XS.goto X0.here hx rfl (pc0 := 7) (pc' := 11) rfl (hb hby own_d_prog_9_method_4_code_7) (by decide) (by decide) k) ?_
  obtain ⟨T1, X1, e1, st1⟩ := own_pure (w := (.ref a_CEILING)) rfl rfl (own_gS X0 hx hZ hown (hw _ (List.mem_of_getElem? (i := 8) rfl)) (hw _ (List.mem_of_getElem? (i := 9) rfl)) (hw _ (List.mem_of_getElem? (i := 10) rfl)) (hw _ (List.mem_of_getElem? (i := 11) rfl)) (by decide) e0 (own_euclideanMode_13 l Z a0 hw h0 a_SM cl_SM a_FLOOR a_CEILING hE) (by decide) (by decide) (by decide) (by decide) (Q := fun v h L => v = some (.ref a_CEILING) ∧ L = [] ∧ h = h0) (W := 2) (g := (mkF m 11 #[.val (.int i), .val (.int j)] [(.int (1 : Int32)), (.int j), (.int i)])) (argsL := [(.int (1 : Int32))]) (rest := [(.int j), (.int i)]) rfl (by rw [hml]; rfl) (lenOf own_pd_8 rfl) rfl (by show 2 * 0 + _ ≤ _; exact Nat.le_of_eq rfl) (hb hby own_d_prog_9_method_4_code_11))
  refine own_st (T' := T1) (g' := (mkF m 14 #[.val (.int i), .val (.int j)] [(.ref a_CEILING), (.int j), (.int i)])) st1 ?_
  obtain ⟨v2, T2, L2, k2, X2, hQ2, hS, hk, hZ, hown, st2⟩ := own_gSW X1 hS hk hx hZ hown (hw _ (List.mem_of_getElem? (i := 14) rfl)) (hw _ (List.mem_of_getElem? (i := 15) rfl)) (hw _ (List.mem_of_getElem? (i := 6) rfl)) (hw _ (List.mem_of_getElem? (i := 16) rfl)) (by decide) e1 (own_remI_CEILING l Z a0 hw h0 a_SM cl_SM a_FLOOR a_CEILING hE i j hj0 hjn) (by decide) (by decide) (by decide) (by decide) (Q := (fun v h L => v = some (.int ((own_R (i.toInt64) (j.toInt64)).toInt32)) ∧ Fr h0.size L ∧ Ext h0 h)) (W := 0) (g := (mkF m 14 #[.val (.int i), .val (.int j)] [(.ref a_CEILING), (.int j), (.int i)])) (argsL := [(.int i), (.int j), (.ref a_CEILING)]) (rest := []) rfl (by rw [hml]; rfl) (lenOf own_pd_9 rfl) rfl (by show 2 * 0 + _ ≤ _; exact Nat.le_of_eq rfl) (hb hby own_d_prog_9_method_4_code_14)
  obtain ⟨rfl, NL2, EX2⟩ := hQ2
  have Nf := Fr.app Nf (own_fr_mono E0.1 NL2)
  have E0 := own_ext_tr E0 EX2
  have hE := own_E_ext hE EX2
  refine own_st (T' := T2) (g' := (mkF m 17 #[.val (.int i), .val (.int j)] [(.int ((own_R (i.toInt64) (j.toInt64)).toInt32))])) st2 ?_
  exact own_retW X2 hx hlk hS hk hret rfl (Or.inl ⟨rfl, Or.inl rfl, _, rfl⟩) (hb hby own_d_prog_9_method_4_code_17) (by decide) (by decide) ⟨rfl, Nf, E0⟩
set_option maxRecDepth 65536 in
set_option maxHeartbeats 40000000 in
theorem own_abs_14 (l : Launch) (Z : State) (a0 : Array Value) (hw : ∀ d ∈ tables_1, d.before a0 Z = true) (h0 : Heap) (a_SM : Addr) (cl_SM : Cell) (a_FLOOR : Addr) (a_CEILING : Addr) (hE : own_E Z h0 a_SM cl_SM a_FLOOR a_CEILING) (j : Int32) (hj0 : ¬ (j = (0 : Int32))) (hDl : (lcmpW (j.toInt64) (0 : Int64)) < (0 : Int32)) :
    own_Pure l Z h0 [] ({ frames := 0, cells := 0, slots := 0, locals := 0 } : Room) (⟨"java/lang/Math", "abs", "(J)J"⟩ : MethodName) jdk_29_method_61_code 2 (some .long) #[(.long (j.toInt64))] (some (.long ((-(j.toInt64))))) := by
  refine own_body (Jvm.Free.JP.mathPlain rfl (by decide +kernel)) ?_
  intro p e s m below meth c T0 X0 hx hby hml hown hZ e0 hret hlk hnm hnamed
  replace hown : s.vm.findClass "java/lang/Math" = some m.cls := hown
  replace hml : c.maxLocals = 2 := hml
  have ef : entryFrame m #[(.long (j.toInt64))] 2 = mkF m 0 #[.val (.long (j.toInt64)), .second] [] := by first | (simp [entryFrame, mkF, argsToLocals, Value.category]; done) | rfl
  rw [ef]
  refine own_st (T' := T0) (g' := (mkF m 1 #[.val (.long (j.toInt64)), .second] [(.long (j.toInt64))])) (fun _ k => XS.lloadN X0.here hx rfl (hb hby own_d_jdk_29_method_61_code_0) rfl k) ?_
  refine own_st (T' := T0) (g' := (mkF m 2 #[.val (.long (j.toInt64)), .second] [(.long (0 : Int64)), (.long (j.toInt64))])) (fun _ k => XS.lconst X0.here hx rfl (hb hby own_d_jdk_29_method_61_code_1) k) ?_
  refine own_st (T' := T0) (g' := (mkF m 3 #[.val (.long (j.toInt64)), .second] [(.int (lcmpW (j.toInt64) (0 : Int64)))])) (fun _ k => XS.lcmp X0.here hx rfl (hb hby own_d_jdk_29_method_61_code_2) rfl k) ?_
  refine own_st (T' := T0) (g' := (mkF m 6 #[.val (.long (j.toInt64)), .second] [])) (fun _ k => XS.ifNo X0.here hx rfl (hb hby own_d_jdk_29_method_61_code_3) rfl ((if0 _ _).trans (tlt hDl).2.1) k) ?_
  refine own_st (T' := T0) (g' := (mkF m 7 #[.val (.long (j.toInt64)), .second] [(.long (j.toInt64))])) (fun _ k => XS.lloadN X0.here hx rfl (hb hby own_d_jdk_29_method_61_code_6) rfl k) ?_
  refine own_st (T' := T0) (g' := (mkF m 8 #[.val (.long (j.toInt64)), .second] [(.long ((-(j.toInt64))))])) (fun _ k => XS.lneg X0.here hx rfl (hb hby own_d_jdk_29_method_61_code_7) rfl k) ?_
  refine own_st (T' := T0) (g' := (mkF m 12 #[.val (.long (j.toInt64)), .second] [(.long ((-(j.toInt64))))])) (fun _ k => XS.goto X0.here hx rfl (pc0 := 8) (pc' := 12) rfl (hb hby own_d_jdk_29_method_61_code_8) (by decide) (by decide) k) ?_
  exact own_ret X0 hx hlk hret rfl (Or.inr (Or.inl ⟨rfl, rfl, _, rfl⟩)) (hb hby own_d_jdk_29_method_61_code_12) (by decide) (by decide) ⟨rfl, rfl, e0⟩
set_option maxRecDepth 65536 in
set_option maxHeartbeats 40000000 in
theorem own_abs_15 (l : Launch) (Z : State) (a0 : Array Value) (hw : ∀ d ∈ tables_1, d.before a0 Z = true) (h0 : Heap) (a_SM : Addr) (cl_SM : Cell) (a_FLOOR : Addr) (a_CEILING : Addr) (hE : own_E Z h0 a_SM cl_SM a_FLOOR a_CEILING) (j : Int32) (hj0 : ¬ (j = (0 : Int32))) (hDl : ¬ ((lcmpW (j.toInt64) (0 : Int64)) < (0 : Int32))) :
    own_Pure l Z h0 [] ({ frames := 0, cells := 0, slots := 0, locals := 0 } : Room) (⟨"java/lang/Math", "abs", "(J)J"⟩ : MethodName) jdk_29_method_61_code 2 (some .long) #[(.long (j.toInt64))] (some (.long (j.toInt64))) := by
  refine own_body (Jvm.Free.JP.mathPlain rfl (by decide +kernel)) ?_
  intro p e s m below meth c T0 X0 hx hby hml hown hZ e0 hret hlk hnm hnamed
  replace hown : s.vm.findClass "java/lang/Math" = some m.cls := hown
  replace hml : c.maxLocals = 2 := hml
  have ef : entryFrame m #[(.long (j.toInt64))] 2 = mkF m 0 #[.val (.long (j.toInt64)), .second] [] := by first | (simp [entryFrame, mkF, argsToLocals, Value.category]; done) | rfl
  rw [ef]
  refine own_st (T' := T0) (g' := (mkF m 1 #[.val (.long (j.toInt64)), .second] [(.long (j.toInt64))])) (fun _ k => XS.lloadN X0.here hx rfl (hb hby own_d_jdk_29_method_61_code_0) rfl k) ?_
  refine own_st (T' := T0) (g' := (mkF m 2 #[.val (.long (j.toInt64)), .second] [(.long (0 : Int64)), (.long (j.toInt64))])) (fun _ k => XS.lconst X0.here hx rfl (hb hby own_d_jdk_29_method_61_code_1) k) ?_
  refine own_st (T' := T0) (g' := (mkF m 3 #[.val (.long (j.toInt64)), .second] [(.int (lcmpW (j.toInt64) (0 : Int64)))])) (fun _ k => XS.lcmp X0.here hx rfl (hb hby own_d_jdk_29_method_61_code_2) rfl k) ?_
  refine own_st (T' := T0) (g' := (mkF m 11 #[.val (.long (j.toInt64)), .second] [])) (fun _ k => XS.ifYes X0.here hx rfl (pc0 := 3) (pc' := 11) rfl (hb hby own_d_jdk_29_method_61_code_3) rfl ((if0 _ _).trans (flt hDl).2.1) (by decide) (by decide) k) ?_
  refine own_st (T' := T0) (g' := (mkF m 12 #[.val (.long (j.toInt64)), .second] [(.long (j.toInt64))])) (fun _ k => XS.lloadN X0.here hx rfl (hb hby own_d_jdk_29_method_61_code_11) rfl k) ?_
  exact own_ret X0 hx hlk hret rfl (Or.inr (Or.inl ⟨rfl, rfl, _, rfl⟩)) (hb hby own_d_jdk_29_method_61_code_12) (by decide) (by decide) ⟨rfl, rfl, e0⟩
set_option maxRecDepth 65536 in
set_option maxHeartbeats 40000000 in
theorem own_lawP (l : Launch) (Z : State) (a0 : Array Value) (hw : ∀ d ∈ tables_1, d.before a0 Z = true) (h0 : Heap) (a_SM : Addr) (cl_SM : Cell) (a_FLOOR : Addr) (a_CEILING : Addr) (hE : own_E Z h0 a_SM cl_SM a_FLOOR a_CEILING) (i : Int32) (j : Int32)  :
    own_MetW l Z h0 tables_1 room_1 x code maxLocals ret #[(.int i), (.int j)] (fun v h L => v = some (.int (1 : Int32)) ∧ Fr h0.size L) := by
  refine own_bodyW (plainFor_of_name own_pn_6) ?_
  intro p e s m below meth c T0 vm0 k0 X0 hS hk hx hby hml hown hZ e0 hret hlk hnm hnamed
  replace hown : (s.setVm vm0).vm.findClass "com/example/residuum/residuum/RemainderEuclideanPinLaw" = some m.cls := hown
  replace hml : c.maxLocals = 9 := hml
  have ef : entryFrame m #[(.int i), (.int j)] maxLocals = mkF m 0 #[.val (.int i), .val (.int j), .unset, .unset, .unset, .unset, .unset, .unset, .unset] [] := by first | (simp [entryFrame, mkF, argsToLocals, Value.category, maxLocals]; done) | rfl
  rw [ef]
  have E0 := own_ext_rf h0
  have Nf := Fr.nil h0.size
  by_cases hj0 : j = (0 : Int32)
  ·
    refine own_st (T' := T0) (g' := (mkF m 1 #[.val (.int i), .val (.int j), .unset, .unset, .unset, .unset, .unset, .unset, .unset] [(.int j)])) (fun _ k => XS.iloadN X0.here hx rfl (hb hby at_0) rfl k) ?_
    refine own_st (T' := T0) (g' := (mkF m 4 #[.val (.int i), .val (.int j), .unset, .unset, .unset, .unset, .unset, .unset, .unset] [])) (fun _ k => XS.ifNo X0.here hx rfl (hb hby at_1) rfl ((if0 _ _).trans (teq hj0).2) k) ?_
    refine own_st (T' := T0) (g' := (mkF m 5 #[.val (.int i), .val (.int j), .unset, .unset, .unset, .unset, .unset, .unset, .unset] [(.int (1 : Int32))])) (fun _ k => XS.iconst X0.here hx rfl (hb hby at_4) k) ?_
    exact own_retW X0 hx hlk hS (by rw [e0]; exact hk) hret rfl (Or.inl ⟨rfl, Or.inr (Or.inl rfl), _, rfl⟩) (hb hby at_5) (by decide) (by decide) ⟨rfl, Nf⟩
  ·
    by_cases hjn : j < (0 : Int32)
    ·
      have hDn := own_c4n hjn
      have hDl : (lcmpW (j.toInt64) (0 : Int64)) < (0 : Int32) := by rw [lw_lt]; exact hDn
      refine own_st (T' := T0) (g' := (mkF m 1 #[.val (.int i), .val (.int j), .unset, .unset, .unset, .unset, .unset, .unset, .unset] [(.int j)])) (fun _ k => XS.iloadN X0.here hx rfl (hb hby at_0) rfl k) ?_
      refine own_st (T' := T0) (g' := (mkF m 6 #[.val (.int i), .val (.int j), .unset, .unset, .unset, .unset, .unset, .unset, .unset] [])) (fun _ k => XS.ifYes X0.here hx rfl (pc0 := 1) (pc' := 6) rfl (hb hby at_1) rfl ((if0 _ _).trans (feq hj0).2) (by decide) (by decide) k) ?_
      refine own_st (T' := T0) (g' := (mkF m 7 #[.val (.int i), .val (.int j), .unset, .unset, .unset, .unset, .unset, .unset, .unset] [(.int j)])) (fun _ k => XS.iloadN X0.here hx rfl (hb hby at_6) rfl k) ?_
      refine own_st (T' := T0) (g' := (mkF m 8 #[.val (.int i), .val (.int j), .unset, .unset, .unset, .unset, .unset, .unset, .unset] [(.long (j.toInt64))])) (fun _ k => XS.i2l X0.here hx rfl (hb hby at_7) rfl k) ?_
      obtain ⟨T1, X1, e1, st1⟩ := own_pure (w := (.long ((-(j.toInt64))))) rfl rfl (own_gS X0 hx hZ hown (hw _ (List.mem_of_getElem? (i := 0) rfl)) (hw _ (List.mem_of_getElem? (i := 1) rfl)) (hw _ (List.mem_of_getElem? (i := 2) rfl)) (hw _ (List.mem_of_getElem? (i := 3) rfl)) (by decide) e0 (own_abs_14 l Z a0 hw h0 a_SM cl_SM a_FLOOR a_CEILING hE j hj0 hDl) (by decide) (by decide) (by decide) (by decide) (Q := fun v h L => v = some (.long ((-(j.toInt64)))) ∧ L = [] ∧ h = h0) (W := 0) (g := (mkF m 8 #[.val (.int i), .val (.int j), .unset, .unset, .unset, .unset, .unset, .unset, .unset] [(.long (j.toInt64))])) (argsL := [(.long (j.toInt64))]) (rest := []) rfl (by rw [hml]; rfl) (lenOf own_pd_2 rfl) rfl (by show 2 * 0 + _ ≤ _; exact Nat.le_of_eq rfl) (hb hby at_8))
      refine own_st (T' := T1) (g' := (mkF m 11 #[.val (.int i), .val (.int j), .unset, .unset, .unset, .unset, .unset, .unset, .unset] [(.long ((-(j.toInt64))))])) st1 ?_
      refine own_st (T' := T1) (g' := (mkF m 12 #[.val (.int i), .val (.int j), .val (.long ((-(j.toInt64)))), .second, .unset, .unset, .unset, .unset, .unset] [])) (fun _ k => XS.lstoreN X1.here hx rfl (hb hby at_11) rfl (l' := #[.val (.int i), .val (.int j), .val (.long ((-(j.toInt64)))), .second, .unset, .unset, .unset, .unset, .unset]) rfl k) ?_
      refine own_st (T' := T1) (g' := (mkF m 13 #[.val (.int i), .val (.int j), .val (.long ((-(j.toInt64)))), .second, .unset, .unset, .unset, .unset, .unset] [(.int i)])) (fun _ k => XS.iloadN X1.here hx rfl (hb hby at_12) rfl k) ?_
      refine own_st (T' := T1) (g' := (mkF m 14 #[.val (.int i), .val (.int j), .val (.long ((-(j.toInt64)))), .second, .unset, .unset, .unset, .unset, .unset] [(.long (i.toInt64))])) (fun _ k => XS.i2l X1.here hx rfl (hb hby at_13) rfl k) ?_
      refine own_st (T' := T1) (g' := (mkF m 15 #[.val (.int i), .val (.int j), .val (.long ((-(j.toInt64)))), .second, .unset, .unset, .unset, .unset, .unset] [(.int j), (.long (i.toInt64))])) (fun _ k => XS.iloadN X1.here hx rfl (hb hby at_14) rfl k) ?_
      refine own_st (T' := T1) (g' := (mkF m 16 #[.val (.int i), .val (.int j), .val (.long ((-(j.toInt64)))), .second, .unset, .unset, .unset, .unset, .unset] [(.long (j.toInt64)), (.long (i.toInt64))])) (fun _ k => XS.i2l X1.here hx rfl (hb hby at_15) rfl k) ?_
      refine own_st (T' := T1) (g' := (mkF m 17 #[.val (.int i), .val (.int j), .val (.long ((-(j.toInt64)))), .second, .unset, .unset, .unset, .unset, .unset] [(.long ((i.toInt64) - ((i.toInt64) / (j.toInt64)) * (j.toInt64)))])) (fun _ k => XS.lrem X1.here hx rfl (hb hby at_16) rfl (fun z => own_c1 hj0 (by rw [z]; rfl)) k) ?_
      obtain ⟨r, hr⟩ : ∃ r, r = i.toInt64 - (i.toInt64 / j.toInt64) * j.toInt64 := ⟨_, rfl⟩
      rw [← hr]
      refine own_st (T' := T1) (g' := (mkF m 19 #[.val (.int i), .val (.int j), .val (.long ((-(j.toInt64)))), .second, .val (.long r), .second, .unset, .unset, .unset] [])) (fun _ k => XS.lstore X1.here hx rfl (hb hby at_17) rfl (l' := #[.val (.int i), .val (.int j), .val (.long ((-(j.toInt64)))), .second, .val (.long r), .second, .unset, .unset, .unset]) rfl k) ?_
      refine own_st (T' := T1) (g' := (mkF m 21 #[.val (.int i), .val (.int j), .val (.long ((-(j.toInt64)))), .second, .val (.long r), .second, .unset, .unset, .unset] [(.long r)])) (fun _ k => XS.lload X1.here hx rfl (hb hby at_19) rfl k) ?_
      refine own_st (T' := T1) (g' := (mkF m 22 #[.val (.int i), .val (.int j), .val (.long ((-(j.toInt64)))), .second, .val (.long r), .second, .unset, .unset, .unset] [(.long (0 : Int64)), (.long r)])) (fun _ k => XS.lconst X1.here hx rfl (hb hby at_21) k) ?_
      refine own_st (T' := T1) (g' := (mkF m 23 #[.val (.int i), .val (.int j), .val (.long ((-(j.toInt64)))), .second, .val (.long r), .second, .unset, .unset, .unset] [(.int (lcmpW r (0 : Int64)))])) (fun _ k => XS.lcmp X1.here hx rfl (hb hby at_22) rfl k) ?_
      by_cases hc23_2 : (lcmpW r (0 : Int64)) < (0 : Int32)
      ·
        refine own_st (T' := T1) (g' := (mkF m 26 #[.val (.int i), .val (.int j), .val (.long ((-(j.toInt64)))), .second, .val (.long r), .second, .unset, .unset, .unset] [])) (fun _ k => XS.ifNo X1.here hx rfl (hb hby at_23) rfl ((if0 _ _).trans (tlt hc23_2).2.1) k) ?_
        refine own_st (T' := T1) (g' := (mkF m 28 #[.val (.int i), .val (.int j), .val (.long ((-(j.toInt64)))), .second, .val (.long r), .second, .unset, .unset, .unset] [(.long r)])) (fun _ k => XS.lload X1.here hx rfl (hb hby at_26) rfl k) ?_
        refine own_st (T' := T1) (g' := (mkF m 29 #[.val (.int i), .val (.int j), .val (.long ((-(j.toInt64)))), .second, .val (.long r), .second, .unset, .unset, .unset] [(.long ((-(j.toInt64)))), (.long r)])) (fun _ k => XS.lloadN X1.here hx rfl (hb hby at_28) rfl k) ?_
        refine own_st (T' := T1) (g' := (mkF m 30 #[.val (.int i), .val (.int j), .val (.long ((-(j.toInt64)))), .second, .val (.long r), .second, .unset, .unset, .unset] [(.long (r + ((-(j.toInt64)))))])) (fun _ k => XS.ladd X1.here hx rfl (hb hby at_29) rfl k) ?_
        refine own_st (T' := T1) (g' := (mkF m 32 #[.val (.int i), .val (.int j), .val (.long ((-(j.toInt64)))), .second, .val (.long r), .second, .val (.long (r + ((-(j.toInt64))))), .second, .unset] [])) (fun _ k => XS.lstore X1.here hx rfl (hb hby at_30) rfl (l' := #[.val (.int i), .val (.int j), .val (.long ((-(j.toInt64)))), .second, .val (.long r), .second, .val (.long (r + ((-(j.toInt64))))), .second, .unset]) rfl k) ?_
        refine own_st (T' := T1) (g' := (mkF m 39 #[.val (.int i), .val (.int j), .val (.long ((-(j.toInt64)))), .second, .val (.long r), .second, .val (.long (r + ((-(j.toInt64))))), .second, .unset] [])) (fun _ k => XS.goto X1.here hx rfl (pc0 := 32) (pc' := 39) rfl (hb hby at_32) (by decide) (by decide) k) ?_
        refine own_st (T' := T1) (g' := (mkF m 40 #[.val (.int i), .val (.int j), .val (.long ((-(j.toInt64)))), .second, .val (.long r), .second, .val (.long (r + ((-(j.toInt64))))), .second, .unset] [(.int i)])) (fun _ k => XS.iloadN X1.here hx rfl (hb hby at_39) rfl k) ?_
        refine own_st (T' := T1) (g' := (mkF m 41 #[.val (.int i), .val (.int j), .val (.long ((-(j.toInt64)))), .second, .val (.long r), .second, .val (.long (r + ((-(j.toInt64))))), .second, .unset] [(.int j), (.int i)])) (fun _ k => XS.iloadN X1.here hx rfl (hb hby at_40) rfl k) ?_
        obtain ⟨v3, T3, L3, k3, X3, hQ3, hS, hk, hZ, hown, st3⟩ := own_gSW X1 hS hk hx hZ hown (hw _ (List.mem_of_getElem? (i := 4) rfl)) (hw _ (List.mem_of_getElem? (i := 5) rfl)) (hw _ (List.mem_of_getElem? (i := 6) rfl)) (hw _ (List.mem_of_getElem? (i := 7) rfl)) (by decide) e1 (own_euc_n l Z a0 hw h0 a_SM cl_SM a_FLOOR a_CEILING hE i j hj0 hjn) (by decide) (by decide) (by decide) (by decide) (Q := (fun v h L => v = some (.int ((own_R (i.toInt64) (j.toInt64)).toInt32)) ∧ Fr h0.size L ∧ Ext h0 h)) (W := 0) (g := (mkF m 41 #[.val (.int i), .val (.int j), .val (.long ((-(j.toInt64)))), .second, .val (.long r), .second, .val (.long (r + ((-(j.toInt64))))), .second, .unset] [(.int j), (.int i)])) (argsL := [(.int i), (.int j)]) (rest := []) rfl (by rw [hml]; rfl) (lenOf own_pd_10 rfl) rfl (by show 2 * 0 + _ ≤ _; exact Nat.le_of_eq rfl) (hb hby at_41)
        obtain ⟨rfl, NL3, EX3⟩ := hQ3
        have Nf := Fr.app Nf (own_fr_mono E0.1 NL3)
        have E0 := own_ext_tr E0 EX3
        have hE := own_E_ext hE EX3
        refine own_st (T' := T3) (g' := (mkF m 44 #[.val (.int i), .val (.int j), .val (.long ((-(j.toInt64)))), .second, .val (.long r), .second, .val (.long (r + ((-(j.toInt64))))), .second, .unset] [(.int ((own_R (i.toInt64) (j.toInt64)).toInt32))])) st3 ?_
        refine own_st (T' := T3) (g' := (mkF m 46 #[.val (.int i), .val (.int j), .val (.long ((-(j.toInt64)))), .second, .val (.long r), .second, .val (.long (r + ((-(j.toInt64))))), .second, .val (.int ((own_R (i.toInt64) (j.toInt64)).toInt32))] [])) (fun _ k => XS.istore X3.here hx rfl (hb hby at_44) rfl (l' := #[.val (.int i), .val (.int j), .val (.long ((-(j.toInt64)))), .second, .val (.long r), .second, .val (.long (r + ((-(j.toInt64))))), .second, .val (.int ((own_R (i.toInt64) (j.toInt64)).toInt32))]) rfl k) ?_
        have f1 : (lcmpW (((own_R (i.toInt64) (j.toInt64)).toInt32).toInt64) (r + ((-(j.toInt64))))) = (0 : Int32) := own_f1nn hr hj0 hjn hc23_2
        have f2 : ¬ (((own_R (i.toInt64) (j.toInt64)).toInt32) < (0 : Int32)) := own_f2 i j hj0
        have f3 : (lcmpW (((own_R (i.toInt64) (j.toInt64)).toInt32).toInt64) ((-(j.toInt64)))) < (0 : Int32) := own_f3n i hj0 hjn
        refine own_st (T' := T3) (g' := (mkF m 48 #[.val (.int i), .val (.int j), .val (.long ((-(j.toInt64)))), .second, .val (.long r), .second, .val (.long (r + ((-(j.toInt64))))), .second, .val (.int ((own_R (i.toInt64) (j.toInt64)).toInt32))] [(.int ((own_R (i.toInt64) (j.toInt64)).toInt32))])) (fun _ k => XS.iload X3.here hx rfl (hb hby at_46) rfl k) ?_
        refine own_st (T' := T3) (g' := (mkF m 49 #[.val (.int i), .val (.int j), .val (.long ((-(j.toInt64)))), .second, .val (.long r), .second, .val (.long (r + ((-(j.toInt64))))), .second, .val (.int ((own_R (i.toInt64) (j.toInt64)).toInt32))] [(.long (((own_R (i.toInt64) (j.toInt64)).toInt32).toInt64))])) (fun _ k => XS.i2l X3.here hx rfl (hb hby at_48) rfl k) ?_
        refine own_st (T' := T3) (g' := (mkF m 51 #[.val (.int i), .val (.int j), .val (.long ((-(j.toInt64)))), .second, .val (.long r), .second, .val (.long (r + ((-(j.toInt64))))), .second, .val (.int ((own_R (i.toInt64) (j.toInt64)).toInt32))] [(.long (r + ((-(j.toInt64))))), (.long (((own_R (i.toInt64) (j.toInt64)).toInt32).toInt64))])) (fun _ k => XS.lload X3.here hx rfl (hb hby at_49) rfl k) ?_
        refine own_st (T' := T3) (g' := (mkF m 52 #[.val (.int i), .val (.int j), .val (.long ((-(j.toInt64)))), .second, .val (.long r), .second, .val (.long (r + ((-(j.toInt64))))), .second, .val (.int ((own_R (i.toInt64) (j.toInt64)).toInt32))] [(.int (lcmpW (((own_R (i.toInt64) (j.toInt64)).toInt32).toInt64) (r + ((-(j.toInt64))))))])) (fun _ k => XS.lcmp X3.here hx rfl (hb hby at_51) rfl k) ?_
        refine own_st (T' := T3) (g' := (mkF m 55 #[.val (.int i), .val (.int j), .val (.long ((-(j.toInt64)))), .second, .val (.long r), .second, .val (.long (r + ((-(j.toInt64))))), .second, .val (.int ((own_R (i.toInt64) (j.toInt64)).toInt32))] [])) (fun _ k => XS.ifNo X3.here hx rfl (hb hby at_52) rfl ((if0 _ _).trans (teq f1).2) k) ?_
        refine own_st (T' := T3) (g' := (mkF m 57 #[.val (.int i), .val (.int j), .val (.long ((-(j.toInt64)))), .second, .val (.long r), .second, .val (.long (r + ((-(j.toInt64))))), .second, .val (.int ((own_R (i.toInt64) (j.toInt64)).toInt32))] [(.int ((own_R (i.toInt64) (j.toInt64)).toInt32))])) (fun _ k => XS.iload X3.here hx rfl (hb hby at_55) rfl k) ?_
        refine own_st (T' := T3) (g' := (mkF m 60 #[.val (.int i), .val (.int j), .val (.long ((-(j.toInt64)))), .second, .val (.long r), .second, .val (.long (r + ((-(j.toInt64))))), .second, .val (.int ((own_R (i.toInt64) (j.toInt64)).toInt32))] [])) (fun _ k => XS.ifNo X3.here hx rfl (hb hby at_57) rfl ((if0 _ _).trans (flt f2).1) k) ?_
        refine own_st (T' := T3) (g' := (mkF m 62 #[.val (.int i), .val (.int j), .val (.long ((-(j.toInt64)))), .second, .val (.long r), .second, .val (.long (r + ((-(j.toInt64))))), .second, .val (.int ((own_R (i.toInt64) (j.toInt64)).toInt32))] [(.int ((own_R (i.toInt64) (j.toInt64)).toInt32))])) (fun _ k => XS.iload X3.here hx rfl (hb hby at_60) rfl k) ?_
        refine own_st (T' := T3) (g' := (mkF m 63 #[.val (.int i), .val (.int j), .val (.long ((-(j.toInt64)))), .second, .val (.long r), .second, .val (.long (r + ((-(j.toInt64))))), .second, .val (.int ((own_R (i.toInt64) (j.toInt64)).toInt32))] [(.long (((own_R (i.toInt64) (j.toInt64)).toInt32).toInt64))])) (fun _ k => XS.i2l X3.here hx rfl (hb hby at_62) rfl k) ?_
        refine own_st (T' := T3) (g' := (mkF m 64 #[.val (.int i), .val (.int j), .val (.long ((-(j.toInt64)))), .second, .val (.long r), .second, .val (.long (r + ((-(j.toInt64))))), .second, .val (.int ((own_R (i.toInt64) (j.toInt64)).toInt32))] [(.long ((-(j.toInt64)))), (.long (((own_R (i.toInt64) (j.toInt64)).toInt32).toInt64))])) (fun _ k => XS.lloadN X3.here hx rfl (hb hby at_63) rfl k) ?_
        refine own_st (T' := T3) (g' := (mkF m 65 #[.val (.int i), .val (.int j), .val (.long ((-(j.toInt64)))), .second, .val (.long r), .second, .val (.long (r + ((-(j.toInt64))))), .second, .val (.int ((own_R (i.toInt64) (j.toInt64)).toInt32))] [(.int (lcmpW (((own_R (i.toInt64) (j.toInt64)).toInt32).toInt64) ((-(j.toInt64)))))])) (fun _ k => XS.lcmp X3.here hx rfl (hb hby at_64) rfl k) ?_
        refine own_st (T' := T3) (g' := (mkF m 68 #[.val (.int i), .val (.int j), .val (.long ((-(j.toInt64)))), .second, .val (.long r), .second, .val (.long (r + ((-(j.toInt64))))), .second, .val (.int ((own_R (i.toInt64) (j.toInt64)).toInt32))] [])) (fun _ k => XS.ifNo X3.here hx rfl (hb hby at_65) rfl ((if0 _ _).trans (tlt f3).2.1) k) ?_
        refine own_st (T' := T3) (g' := (mkF m 69 #[.val (.int i), .val (.int j), .val (.long ((-(j.toInt64)))), .second, .val (.long r), .second, .val (.long (r + ((-(j.toInt64))))), .second, .val (.int ((own_R (i.toInt64) (j.toInt64)).toInt32))] [(.int (1 : Int32))])) (fun _ k => XS.iconst X3.here hx rfl (hb hby at_68) k) ?_
        refine own_st (T' := T3) (g' := (mkF m 73 #[.val (.int i), .val (.int j), .val (.long ((-(j.toInt64)))), .second, .val (.long r), .second, .val (.long (r + ((-(j.toInt64))))), .second, .val (.int ((own_R (i.toInt64) (j.toInt64)).toInt32))] [(.int (1 : Int32))])) (fun _ k => XS.goto X3.here hx rfl (pc0 := 69) (pc' := 73) rfl (hb hby at_69) (by decide) (by decide) k) ?_
        exact own_retW X3 hx hlk hS hk hret rfl (Or.inl ⟨rfl, Or.inr (Or.inl rfl), _, rfl⟩) (hb hby at_73) (by decide) (by decide) ⟨rfl, Nf⟩
      ·
        refine own_st (T' := T1) (g' := (mkF m 35 #[.val (.int i), .val (.int j), .val (.long ((-(j.toInt64)))), .second, .val (.long r), .second, .unset, .unset, .unset] [])) (fun _ k => XS.ifYes X1.here hx rfl (pc0 := 23) (pc' := 35) rfl (hb hby at_23) rfl ((if0 _ _).trans (flt hc23_2).2.1) (by decide) (by decide) k) ?_
        refine own_st (T' := T1) (g' := (mkF m 37 #[.val (.int i), .val (.int j), .val (.long ((-(j.toInt64)))), .second, .val (.long r), .second, .unset, .unset, .unset] [(.long r)])) (fun _ k => XS.lload X1.here hx rfl (hb hby at_35) rfl k) ?_
        refine own_st (T' := T1) (g' := (mkF m 39 #[.val (.int i), .val (.int j), .val (.long ((-(j.toInt64)))), .second, .val (.long r), .second, .val (.long r), .second, .unset] [])) (fun _ k => XS.lstore X1.here hx rfl (hb hby at_37) rfl (l' := #[.val (.int i), .val (.int j), .val (.long ((-(j.toInt64)))), .second, .val (.long r), .second, .val (.long r), .second, .unset]) rfl k) ?_
        refine own_st (T' := T1) (g' := (mkF m 40 #[.val (.int i), .val (.int j), .val (.long ((-(j.toInt64)))), .second, .val (.long r), .second, .val (.long r), .second, .unset] [(.int i)])) (fun _ k => XS.iloadN X1.here hx rfl (hb hby at_39) rfl k) ?_
        refine own_st (T' := T1) (g' := (mkF m 41 #[.val (.int i), .val (.int j), .val (.long ((-(j.toInt64)))), .second, .val (.long r), .second, .val (.long r), .second, .unset] [(.int j), (.int i)])) (fun _ k => XS.iloadN X1.here hx rfl (hb hby at_40) rfl k) ?_
        obtain ⟨v4, T4, L4, k4, X4, hQ4, hS, hk, hZ, hown, st4⟩ := own_gSW X1 hS hk hx hZ hown (hw _ (List.mem_of_getElem? (i := 4) rfl)) (hw _ (List.mem_of_getElem? (i := 5) rfl)) (hw _ (List.mem_of_getElem? (i := 6) rfl)) (hw _ (List.mem_of_getElem? (i := 7) rfl)) (by decide) e1 (own_euc_n l Z a0 hw h0 a_SM cl_SM a_FLOOR a_CEILING hE i j hj0 hjn) (by decide) (by decide) (by decide) (by decide) (Q := (fun v h L => v = some (.int ((own_R (i.toInt64) (j.toInt64)).toInt32)) ∧ Fr h0.size L ∧ Ext h0 h)) (W := 0) (g := (mkF m 41 #[.val (.int i), .val (.int j), .val (.long ((-(j.toInt64)))), .second, .val (.long r), .second, .val (.long r), .second, .unset] [(.int j), (.int i)])) (argsL := [(.int i), (.int j)]) (rest := []) rfl (by rw [hml]; rfl) (lenOf own_pd_10 rfl) rfl (by show 2 * 0 + _ ≤ _; exact Nat.le_of_eq rfl) (hb hby at_41)
        obtain ⟨rfl, NL4, EX4⟩ := hQ4
        have Nf := Fr.app Nf (own_fr_mono E0.1 NL4)
        have E0 := own_ext_tr E0 EX4
        have hE := own_E_ext hE EX4
        refine own_st (T' := T4) (g' := (mkF m 44 #[.val (.int i), .val (.int j), .val (.long ((-(j.toInt64)))), .second, .val (.long r), .second, .val (.long r), .second, .unset] [(.int ((own_R (i.toInt64) (j.toInt64)).toInt32))])) st4 ?_
        refine own_st (T' := T4) (g' := (mkF m 46 #[.val (.int i), .val (.int j), .val (.long ((-(j.toInt64)))), .second, .val (.long r), .second, .val (.long r), .second, .val (.int ((own_R (i.toInt64) (j.toInt64)).toInt32))] [])) (fun _ k => XS.istore X4.here hx rfl (hb hby at_44) rfl (l' := #[.val (.int i), .val (.int j), .val (.long ((-(j.toInt64)))), .second, .val (.long r), .second, .val (.long r), .second, .val (.int ((own_R (i.toInt64) (j.toInt64)).toInt32))]) rfl k) ?_
        have f1 : (lcmpW (((own_R (i.toInt64) (j.toInt64)).toInt32).toInt64) r) = (0 : Int32) := own_f1np hr hj0 hjn hc23_2
        have f2 : ¬ (((own_R (i.toInt64) (j.toInt64)).toInt32) < (0 : Int32)) := own_f2 i j hj0
        have f3 : (lcmpW (((own_R (i.toInt64) (j.toInt64)).toInt32).toInt64) ((-(j.toInt64)))) < (0 : Int32) := own_f3n i hj0 hjn
        refine own_st (T' := T4) (g' := (mkF m 48 #[.val (.int i), .val (.int j), .val (.long ((-(j.toInt64)))), .second, .val (.long r), .second, .val (.long r), .second, .val (.int ((own_R (i.toInt64) (j.toInt64)).toInt32))] [(.int ((own_R (i.toInt64) (j.toInt64)).toInt32))])) (fun _ k => XS.iload X4.here hx rfl (hb hby at_46) rfl k) ?_
        refine own_st (T' := T4) (g' := (mkF m 49 #[.val (.int i), .val (.int j), .val (.long ((-(j.toInt64)))), .second, .val (.long r), .second, .val (.long r), .second, .val (.int ((own_R (i.toInt64) (j.toInt64)).toInt32))] [(.long (((own_R (i.toInt64) (j.toInt64)).toInt32).toInt64))])) (fun _ k => XS.i2l X4.here hx rfl (hb hby at_48) rfl k) ?_
        refine own_st (T' := T4) (g' := (mkF m 51 #[.val (.int i), .val (.int j), .val (.long ((-(j.toInt64)))), .second, .val (.long r), .second, .val (.long r), .second, .val (.int ((own_R (i.toInt64) (j.toInt64)).toInt32))] [(.long r), (.long (((own_R (i.toInt64) (j.toInt64)).toInt32).toInt64))])) (fun _ k => XS.lload X4.here hx rfl (hb hby at_49) rfl k) ?_
        refine own_st (T' := T4) (g' := (mkF m 52 #[.val (.int i), .val (.int j), .val (.long ((-(j.toInt64)))), .second, .val (.long r), .second, .val (.long r), .second, .val (.int ((own_R (i.toInt64) (j.toInt64)).toInt32))] [(.int (lcmpW (((own_R (i.toInt64) (j.toInt64)).toInt32).toInt64) r))])) (fun _ k => XS.lcmp X4.here hx rfl (hb hby at_51) rfl k) ?_
        refine own_st (T' := T4) (g' := (mkF m 55 #[.val (.int i), .val (.int j), .val (.long ((-(j.toInt64)))), .second, .val (.long r), .second, .val (.long r), .second, .val (.int ((own_R (i.toInt64) (j.toInt64)).toInt32))] [])) (fun _ k => XS.ifNo X4.here hx rfl (hb hby at_52) rfl ((if0 _ _).trans (teq f1).2) k) ?_
        refine own_st (T' := T4) (g' := (mkF m 57 #[.val (.int i), .val (.int j), .val (.long ((-(j.toInt64)))), .second, .val (.long r), .second, .val (.long r), .second, .val (.int ((own_R (i.toInt64) (j.toInt64)).toInt32))] [(.int ((own_R (i.toInt64) (j.toInt64)).toInt32))])) (fun _ k => XS.iload X4.here hx rfl (hb hby at_55) rfl k) ?_
        refine own_st (T' := T4) (g' := (mkF m 60 #[.val (.int i), .val (.int j), .val (.long ((-(j.toInt64)))), .second, .val (.long r), .second, .val (.long r), .second, .val (.int ((own_R (i.toInt64) (j.toInt64)).toInt32))] [])) (fun _ k => XS.ifNo X4.here hx rfl (hb hby at_57) rfl ((if0 _ _).trans (flt f2).1) k) ?_
        refine own_st (T' := T4) (g' := (mkF m 62 #[.val (.int i), .val (.int j), .val (.long ((-(j.toInt64)))), .second, .val (.long r), .second, .val (.long r), .second, .val (.int ((own_R (i.toInt64) (j.toInt64)).toInt32))] [(.int ((own_R (i.toInt64) (j.toInt64)).toInt32))])) (fun _ k => XS.iload X4.here hx rfl (hb hby at_60) rfl k) ?_
        refine own_st (T' := T4) (g' := (mkF m 63 #[.val (.int i), .val (.int j), .val (.long ((-(j.toInt64)))), .second, .val (.long r), .second, .val (.long r), .second, .val (.int ((own_R (i.toInt64) (j.toInt64)).toInt32))] [(.long (((own_R (i.toInt64) (j.toInt64)).toInt32).toInt64))])) (fun _ k => XS.i2l X4.here hx rfl (hb hby at_62) rfl k) ?_
        refine own_st (T' := T4) (g' := (mkF m 64 #[.val (.int i), .val (.int j), .val (.long ((-(j.toInt64)))), .second, .val (.long r), .second, .val (.long r), .second, .val (.int ((own_R (i.toInt64) (j.toInt64)).toInt32))] [(.long ((-(j.toInt64)))), (.long (((own_R (i.toInt64) (j.toInt64)).toInt32).toInt64))])) (fun _ k => XS.lloadN X4.here hx rfl (hb hby at_63) rfl k) ?_
        refine own_st (T' := T4) (g' := (mkF m 65 #[.val (.int i), .val (.int j), .val (.long ((-(j.toInt64)))), .second, .val (.long r), .second, .val (.long r), .second, .val (.int ((own_R (i.toInt64) (j.toInt64)).toInt32))] [(.int (lcmpW (((own_R (i.toInt64) (j.toInt64)).toInt32).toInt64) ((-(j.toInt64)))))])) (fun _ k => XS.lcmp X4.here hx rfl (hb hby at_64) rfl k) ?_
        refine own_st (T' := T4) (g' := (mkF m 68 #[.val (.int i), .val (.int j), .val (.long ((-(j.toInt64)))), .second, .val (.long r), .second, .val (.long r), .second, .val (.int ((own_R (i.toInt64) (j.toInt64)).toInt32))] [])) (fun _ k => XS.ifNo X4.here hx rfl (hb hby at_65) rfl ((if0 _ _).trans (tlt f3).2.1) k) ?_
        refine own_st (T' := T4) (g' := (mkF m 69 #[.val (.int i), .val (.int j), .val (.long ((-(j.toInt64)))), .second, .val (.long r), .second, .val (.long r), .second, .val (.int ((own_R (i.toInt64) (j.toInt64)).toInt32))] [(.int (1 : Int32))])) (fun _ k => XS.iconst X4.here hx rfl (hb hby at_68) k) ?_
        refine own_st (T' := T4) (g' := (mkF m 73 #[.val (.int i), .val (.int j), .val (.long ((-(j.toInt64)))), .second, .val (.long r), .second, .val (.long r), .second, .val (.int ((own_R (i.toInt64) (j.toInt64)).toInt32))] [(.int (1 : Int32))])) (fun _ k => XS.goto X4.here hx rfl (pc0 := 69) (pc' := 73) rfl (hb hby at_69) (by decide) (by decide) k) ?_
        exact own_retW X4 hx hlk hS hk hret rfl (Or.inl ⟨rfl, Or.inr (Or.inl rfl), _, rfl⟩) (hb hby at_73) (by decide) (by decide) ⟨rfl, Nf⟩
    ·
      have hDn := own_c4p hjn
      have hDl : ¬ ((lcmpW (j.toInt64) (0 : Int64)) < (0 : Int32)) := by rw [lw_lt]; exact hDn
      refine own_st (T' := T0) (g' := (mkF m 1 #[.val (.int i), .val (.int j), .unset, .unset, .unset, .unset, .unset, .unset, .unset] [(.int j)])) (fun _ k => XS.iloadN X0.here hx rfl (hb hby at_0) rfl k) ?_
      refine own_st (T' := T0) (g' := (mkF m 6 #[.val (.int i), .val (.int j), .unset, .unset, .unset, .unset, .unset, .unset, .unset] [])) (fun _ k => XS.ifYes X0.here hx rfl (pc0 := 1) (pc' := 6) rfl (hb hby at_1) rfl ((if0 _ _).trans (feq hj0).2) (by decide) (by decide) k) ?_
      refine own_st (T' := T0) (g' := (mkF m 7 #[.val (.int i), .val (.int j), .unset, .unset, .unset, .unset, .unset, .unset, .unset] [(.int j)])) (fun _ k => XS.iloadN X0.here hx rfl (hb hby at_6) rfl k) ?_
      refine own_st (T' := T0) (g' := (mkF m 8 #[.val (.int i), .val (.int j), .unset, .unset, .unset, .unset, .unset, .unset, .unset] [(.long (j.toInt64))])) (fun _ k => XS.i2l X0.here hx rfl (hb hby at_7) rfl k) ?_
      obtain ⟨T5, X5, e5, st5⟩ := own_pure (w := (.long (j.toInt64))) rfl rfl (own_gS X0 hx hZ hown (hw _ (List.mem_of_getElem? (i := 0) rfl)) (hw _ (List.mem_of_getElem? (i := 1) rfl)) (hw _ (List.mem_of_getElem? (i := 2) rfl)) (hw _ (List.mem_of_getElem? (i := 3) rfl)) (by decide) e0 (own_abs_15 l Z a0 hw h0 a_SM cl_SM a_FLOOR a_CEILING hE j hj0 hDl) (by decide) (by decide) (by decide) (by decide) (Q := fun v h L => v = some (.long (j.toInt64)) ∧ L = [] ∧ h = h0) (W := 0) (g := (mkF m 8 #[.val (.int i), .val (.int j), .unset, .unset, .unset, .unset, .unset, .unset, .unset] [(.long (j.toInt64))])) (argsL := [(.long (j.toInt64))]) (rest := []) rfl (by rw [hml]; rfl) (lenOf own_pd_2 rfl) rfl (by show 2 * 0 + _ ≤ _; exact Nat.le_of_eq rfl) (hb hby at_8))
      refine own_st (T' := T5) (g' := (mkF m 11 #[.val (.int i), .val (.int j), .unset, .unset, .unset, .unset, .unset, .unset, .unset] [(.long (j.toInt64))])) st5 ?_
      refine own_st (T' := T5) (g' := (mkF m 12 #[.val (.int i), .val (.int j), .val (.long (j.toInt64)), .second, .unset, .unset, .unset, .unset, .unset] [])) (fun _ k => XS.lstoreN X5.here hx rfl (hb hby at_11) rfl (l' := #[.val (.int i), .val (.int j), .val (.long (j.toInt64)), .second, .unset, .unset, .unset, .unset, .unset]) rfl k) ?_
      refine own_st (T' := T5) (g' := (mkF m 13 #[.val (.int i), .val (.int j), .val (.long (j.toInt64)), .second, .unset, .unset, .unset, .unset, .unset] [(.int i)])) (fun _ k => XS.iloadN X5.here hx rfl (hb hby at_12) rfl k) ?_
      refine own_st (T' := T5) (g' := (mkF m 14 #[.val (.int i), .val (.int j), .val (.long (j.toInt64)), .second, .unset, .unset, .unset, .unset, .unset] [(.long (i.toInt64))])) (fun _ k => XS.i2l X5.here hx rfl (hb hby at_13) rfl k) ?_
      refine own_st (T' := T5) (g' := (mkF m 15 #[.val (.int i), .val (.int j), .val (.long (j.toInt64)), .second, .unset, .unset, .unset, .unset, .unset] [(.int j), (.long (i.toInt64))])) (fun _ k => XS.iloadN X5.here hx rfl (hb hby at_14) rfl k) ?_
      refine own_st (T' := T5) (g' := (mkF m 16 #[.val (.int i), .val (.int j), .val (.long (j.toInt64)), .second, .unset, .unset, .unset, .unset, .unset] [(.long (j.toInt64)), (.long (i.toInt64))])) (fun _ k => XS.i2l X5.here hx rfl (hb hby at_15) rfl k) ?_
      refine own_st (T' := T5) (g' := (mkF m 17 #[.val (.int i), .val (.int j), .val (.long (j.toInt64)), .second, .unset, .unset, .unset, .unset, .unset] [(.long ((i.toInt64) - ((i.toInt64) / (j.toInt64)) * (j.toInt64)))])) (fun _ k => XS.lrem X5.here hx rfl (hb hby at_16) rfl (fun z => own_c1 hj0 (by rw [z]; rfl)) k) ?_
      obtain ⟨r, hr⟩ : ∃ r, r = i.toInt64 - (i.toInt64 / j.toInt64) * j.toInt64 := ⟨_, rfl⟩
      rw [← hr]
      refine own_st (T' := T5) (g' := (mkF m 19 #[.val (.int i), .val (.int j), .val (.long (j.toInt64)), .second, .val (.long r), .second, .unset, .unset, .unset] [])) (fun _ k => XS.lstore X5.here hx rfl (hb hby at_17) rfl (l' := #[.val (.int i), .val (.int j), .val (.long (j.toInt64)), .second, .val (.long r), .second, .unset, .unset, .unset]) rfl k) ?_
      refine own_st (T' := T5) (g' := (mkF m 21 #[.val (.int i), .val (.int j), .val (.long (j.toInt64)), .second, .val (.long r), .second, .unset, .unset, .unset] [(.long r)])) (fun _ k => XS.lload X5.here hx rfl (hb hby at_19) rfl k) ?_
      refine own_st (T' := T5) (g' := (mkF m 22 #[.val (.int i), .val (.int j), .val (.long (j.toInt64)), .second, .val (.long r), .second, .unset, .unset, .unset] [(.long (0 : Int64)), (.long r)])) (fun _ k => XS.lconst X5.here hx rfl (hb hby at_21) k) ?_
      refine own_st (T' := T5) (g' := (mkF m 23 #[.val (.int i), .val (.int j), .val (.long (j.toInt64)), .second, .val (.long r), .second, .unset, .unset, .unset] [(.int (lcmpW r (0 : Int64)))])) (fun _ k => XS.lcmp X5.here hx rfl (hb hby at_22) rfl k) ?_
      by_cases hc23_6 : (lcmpW r (0 : Int64)) < (0 : Int32)
      ·
        refine own_st (T' := T5) (g' := (mkF m 26 #[.val (.int i), .val (.int j), .val (.long (j.toInt64)), .second, .val (.long r), .second, .unset, .unset, .unset] [])) (fun _ k => XS.ifNo X5.here hx rfl (hb hby at_23) rfl ((if0 _ _).trans (tlt hc23_6).2.1) k) ?_
        refine own_st (T' := T5) (g' := (mkF m 28 #[.val (.int i), .val (.int j), .val (.long (j.toInt64)), .second, .val (.long r), .second, .unset, .unset, .unset] [(.long r)])) (fun _ k => XS.lload X5.here hx rfl (hb hby at_26) rfl k) ?_
        refine own_st (T' := T5) (g' := (mkF m 29 #[.val (.int i), .val (.int j), .val (.long (j.toInt64)), .second, .val (.long r), .second, .unset, .unset, .unset] [(.long (j.toInt64)), (.long r)])) (fun _ k => XS.lloadN X5.here hx rfl (hb hby at_28) rfl k) ?_
        refine own_st (T' := T5) (g' := (mkF m 30 #[.val (.int i), .val (.int j), .val (.long (j.toInt64)), .second, .val (.long r), .second, .unset, .unset, .unset] [(.long (r + (j.toInt64)))])) (fun _ k => XS.ladd X5.here hx rfl (hb hby at_29) rfl k) ?_
        refine own_st (T' := T5) (g' := (mkF m 32 #[.val (.int i), .val (.int j), .val (.long (j.toInt64)), .second, .val (.long r), .second, .val (.long (r + (j.toInt64))), .second, .unset] [])) (fun _ k => XS.lstore X5.here hx rfl (hb hby at_30) rfl (l' := #[.val (.int i), .val (.int j), .val (.long (j.toInt64)), .second, .val (.long r), .second, .val (.long (r + (j.toInt64))), .second, .unset]) rfl k) ?_
        refine own_st (T' := T5) (g' := (mkF m 39 #[.val (.int i), .val (.int j), .val (.long (j.toInt64)), .second, .val (.long r), .second, .val (.long (r + (j.toInt64))), .second, .unset] [])) (fun _ k => XS.goto X5.here hx rfl (pc0 := 32) (pc' := 39) rfl (hb hby at_32) (by decide) (by decide) k) ?_
        refine own_st (T' := T5) (g' := (mkF m 40 #[.val (.int i), .val (.int j), .val (.long (j.toInt64)), .second, .val (.long r), .second, .val (.long (r + (j.toInt64))), .second, .unset] [(.int i)])) (fun _ k => XS.iloadN X5.here hx rfl (hb hby at_39) rfl k) ?_
        refine own_st (T' := T5) (g' := (mkF m 41 #[.val (.int i), .val (.int j), .val (.long (j.toInt64)), .second, .val (.long r), .second, .val (.long (r + (j.toInt64))), .second, .unset] [(.int j), (.int i)])) (fun _ k => XS.iloadN X5.here hx rfl (hb hby at_40) rfl k) ?_
        obtain ⟨v7, T7, L7, k7, X7, hQ7, hS, hk, hZ, hown, st7⟩ := own_gSW X5 hS hk hx hZ hown (hw _ (List.mem_of_getElem? (i := 4) rfl)) (hw _ (List.mem_of_getElem? (i := 5) rfl)) (hw _ (List.mem_of_getElem? (i := 6) rfl)) (hw _ (List.mem_of_getElem? (i := 7) rfl)) (by decide) e5 (own_euc_p l Z a0 hw h0 a_SM cl_SM a_FLOOR a_CEILING hE i j hj0 hjn) (by decide) (by decide) (by decide) (by decide) (Q := (fun v h L => v = some (.int ((own_R (i.toInt64) (j.toInt64)).toInt32)) ∧ Fr h0.size L ∧ Ext h0 h)) (W := 0) (g := (mkF m 41 #[.val (.int i), .val (.int j), .val (.long (j.toInt64)), .second, .val (.long r), .second, .val (.long (r + (j.toInt64))), .second, .unset] [(.int j), (.int i)])) (argsL := [(.int i), (.int j)]) (rest := []) rfl (by rw [hml]; rfl) (lenOf own_pd_10 rfl) rfl (by show 2 * 0 + _ ≤ _; exact Nat.le_of_eq rfl) (hb hby at_41)
        obtain ⟨rfl, NL7, EX7⟩ := hQ7
        have Nf := Fr.app Nf (own_fr_mono E0.1 NL7)
        have E0 := own_ext_tr E0 EX7
        have hE := own_E_ext hE EX7
        refine own_st (T' := T7) (g' := (mkF m 44 #[.val (.int i), .val (.int j), .val (.long (j.toInt64)), .second, .val (.long r), .second, .val (.long (r + (j.toInt64))), .second, .unset] [(.int ((own_R (i.toInt64) (j.toInt64)).toInt32))])) st7 ?_
        refine own_st (T' := T7) (g' := (mkF m 46 #[.val (.int i), .val (.int j), .val (.long (j.toInt64)), .second, .val (.long r), .second, .val (.long (r + (j.toInt64))), .second, .val (.int ((own_R (i.toInt64) (j.toInt64)).toInt32))] [])) (fun _ k => XS.istore X7.here hx rfl (hb hby at_44) rfl (l' := #[.val (.int i), .val (.int j), .val (.long (j.toInt64)), .second, .val (.long r), .second, .val (.long (r + (j.toInt64))), .second, .val (.int ((own_R (i.toInt64) (j.toInt64)).toInt32))]) rfl k) ?_
        have f1 : (lcmpW (((own_R (i.toInt64) (j.toInt64)).toInt32).toInt64) (r + (j.toInt64))) = (0 : Int32) := own_f1pn hr hj0 hjn hc23_6
        have f2 : ¬ (((own_R (i.toInt64) (j.toInt64)).toInt32) < (0 : Int32)) := own_f2 i j hj0
        have f3 : (lcmpW (((own_R (i.toInt64) (j.toInt64)).toInt32).toInt64) (j.toInt64)) < (0 : Int32) := own_f3p i hj0 hjn
        refine own_st (T' := T7) (g' := (mkF m 48 #[.val (.int i), .val (.int j), .val (.long (j.toInt64)), .second, .val (.long r), .second, .val (.long (r + (j.toInt64))), .second, .val (.int ((own_R (i.toInt64) (j.toInt64)).toInt32))] [(.int ((own_R (i.toInt64) (j.toInt64)).toInt32))])) (fun _ k => XS.iload X7.here hx rfl (hb hby at_46) rfl k) ?_
        refine own_st (T' := T7) (g' := (mkF m 49 #[.val (.int i), .val (.int j), .val (.long (j.toInt64)), .second, .val (.long r), .second, .val (.long (r + (j.toInt64))), .second, .val (.int ((own_R (i.toInt64) (j.toInt64)).toInt32))] [(.long (((own_R (i.toInt64) (j.toInt64)).toInt32).toInt64))])) (fun _ k => XS.i2l X7.here hx rfl (hb hby at_48) rfl k) ?_
        refine own_st (T' := T7) (g' := (mkF m 51 #[.val (.int i), .val (.int j), .val (.long (j.toInt64)), .second, .val (.long r), .second, .val (.long (r + (j.toInt64))), .second, .val (.int ((own_R (i.toInt64) (j.toInt64)).toInt32))] [(.long (r + (j.toInt64))), (.long (((own_R (i.toInt64) (j.toInt64)).toInt32).toInt64))])) (fun _ k => XS.lload X7.here hx rfl (hb hby at_49) rfl k) ?_
        refine own_st (T' := T7) (g' := (mkF m 52 #[.val (.int i), .val (.int j), .val (.long (j.toInt64)), .second, .val (.long r), .second, .val (.long (r + (j.toInt64))), .second, .val (.int ((own_R (i.toInt64) (j.toInt64)).toInt32))] [(.int (lcmpW (((own_R (i.toInt64) (j.toInt64)).toInt32).toInt64) (r + (j.toInt64))))])) (fun _ k => XS.lcmp X7.here hx rfl (hb hby at_51) rfl k) ?_
        refine own_st (T' := T7) (g' := (mkF m 55 #[.val (.int i), .val (.int j), .val (.long (j.toInt64)), .second, .val (.long r), .second, .val (.long (r + (j.toInt64))), .second, .val (.int ((own_R (i.toInt64) (j.toInt64)).toInt32))] [])) (fun _ k => XS.ifNo X7.here hx rfl (hb hby at_52) rfl ((if0 _ _).trans (teq f1).2) k) ?_
        refine own_st (T' := T7) (g' := (mkF m 57 #[.val (.int i), .val (.int j), .val (.long (j.toInt64)), .second, .val (.long r), .second, .val (.long (r + (j.toInt64))), .second, .val (.int ((own_R (i.toInt64) (j.toInt64)).toInt32))] [(.int ((own_R (i.toInt64) (j.toInt64)).toInt32))])) (fun _ k => XS.iload X7.here hx rfl (hb hby at_55) rfl k) ?_
        refine own_st (T' := T7) (g' := (mkF m 60 #[.val (.int i), .val (.int j), .val (.long (j.toInt64)), .second, .val (.long r), .second, .val (.long (r + (j.toInt64))), .second, .val (.int ((own_R (i.toInt64) (j.toInt64)).toInt32))] [])) (fun _ k => XS.ifNo X7.here hx rfl (hb hby at_57) rfl ((if0 _ _).trans (flt f2).1) k) ?_
        refine own_st (T' := T7) (g' := (mkF m 62 #[.val (.int i), .val (.int j), .val (.long (j.toInt64)), .second, .val (.long r), .second, .val (.long (r + (j.toInt64))), .second, .val (.int ((own_R (i.toInt64) (j.toInt64)).toInt32))] [(.int ((own_R (i.toInt64) (j.toInt64)).toInt32))])) (fun _ k => XS.iload X7.here hx rfl (hb hby at_60) rfl k) ?_
        refine own_st (T' := T7) (g' := (mkF m 63 #[.val (.int i), .val (.int j), .val (.long (j.toInt64)), .second, .val (.long r), .second, .val (.long (r + (j.toInt64))), .second, .val (.int ((own_R (i.toInt64) (j.toInt64)).toInt32))] [(.long (((own_R (i.toInt64) (j.toInt64)).toInt32).toInt64))])) (fun _ k => XS.i2l X7.here hx rfl (hb hby at_62) rfl k) ?_
        refine own_st (T' := T7) (g' := (mkF m 64 #[.val (.int i), .val (.int j), .val (.long (j.toInt64)), .second, .val (.long r), .second, .val (.long (r + (j.toInt64))), .second, .val (.int ((own_R (i.toInt64) (j.toInt64)).toInt32))] [(.long (j.toInt64)), (.long (((own_R (i.toInt64) (j.toInt64)).toInt32).toInt64))])) (fun _ k => XS.lloadN X7.here hx rfl (hb hby at_63) rfl k) ?_
        refine own_st (T' := T7) (g' := (mkF m 65 #[.val (.int i), .val (.int j), .val (.long (j.toInt64)), .second, .val (.long r), .second, .val (.long (r + (j.toInt64))), .second, .val (.int ((own_R (i.toInt64) (j.toInt64)).toInt32))] [(.int (lcmpW (((own_R (i.toInt64) (j.toInt64)).toInt32).toInt64) (j.toInt64)))])) (fun _ k => XS.lcmp X7.here hx rfl (hb hby at_64) rfl k) ?_
        refine own_st (T' := T7) (g' := (mkF m 68 #[.val (.int i), .val (.int j), .val (.long (j.toInt64)), .second, .val (.long r), .second, .val (.long (r + (j.toInt64))), .second, .val (.int ((own_R (i.toInt64) (j.toInt64)).toInt32))] [])) (fun _ k => XS.ifNo X7.here hx rfl (hb hby at_65) rfl ((if0 _ _).trans (tlt f3).2.1) k) ?_
        refine own_st (T' := T7) (g' := (mkF m 69 #[.val (.int i), .val (.int j), .val (.long (j.toInt64)), .second, .val (.long r), .second, .val (.long (r + (j.toInt64))), .second, .val (.int ((own_R (i.toInt64) (j.toInt64)).toInt32))] [(.int (1 : Int32))])) (fun _ k => XS.iconst X7.here hx rfl (hb hby at_68) k) ?_
        refine own_st (T' := T7) (g' := (mkF m 73 #[.val (.int i), .val (.int j), .val (.long (j.toInt64)), .second, .val (.long r), .second, .val (.long (r + (j.toInt64))), .second, .val (.int ((own_R (i.toInt64) (j.toInt64)).toInt32))] [(.int (1 : Int32))])) (fun _ k => XS.goto X7.here hx rfl (pc0 := 69) (pc' := 73) rfl (hb hby at_69) (by decide) (by decide) k) ?_
        exact own_retW X7 hx hlk hS hk hret rfl (Or.inl ⟨rfl, Or.inr (Or.inl rfl), _, rfl⟩) (hb hby at_73) (by decide) (by decide) ⟨rfl, Nf⟩
      ·
        refine own_st (T' := T5) (g' := (mkF m 35 #[.val (.int i), .val (.int j), .val (.long (j.toInt64)), .second, .val (.long r), .second, .unset, .unset, .unset] [])) (fun _ k => XS.ifYes X5.here hx rfl (pc0 := 23) (pc' := 35) rfl (hb hby at_23) rfl ((if0 _ _).trans (flt hc23_6).2.1) (by decide) (by decide) k) ?_
        refine own_st (T' := T5) (g' := (mkF m 37 #[.val (.int i), .val (.int j), .val (.long (j.toInt64)), .second, .val (.long r), .second, .unset, .unset, .unset] [(.long r)])) (fun _ k => XS.lload X5.here hx rfl (hb hby at_35) rfl k) ?_
        refine own_st (T' := T5) (g' := (mkF m 39 #[.val (.int i), .val (.int j), .val (.long (j.toInt64)), .second, .val (.long r), .second, .val (.long r), .second, .unset] [])) (fun _ k => XS.lstore X5.here hx rfl (hb hby at_37) rfl (l' := #[.val (.int i), .val (.int j), .val (.long (j.toInt64)), .second, .val (.long r), .second, .val (.long r), .second, .unset]) rfl k) ?_
        refine own_st (T' := T5) (g' := (mkF m 40 #[.val (.int i), .val (.int j), .val (.long (j.toInt64)), .second, .val (.long r), .second, .val (.long r), .second, .unset] [(.int i)])) (fun _ k => XS.iloadN X5.here hx rfl (hb hby at_39) rfl k) ?_
        refine own_st (T' := T5) (g' := (mkF m 41 #[.val (.int i), .val (.int j), .val (.long (j.toInt64)), .second, .val (.long r), .second, .val (.long r), .second, .unset] [(.int j), (.int i)])) (fun _ k => XS.iloadN X5.here hx rfl (hb hby at_40) rfl k) ?_
        obtain ⟨v8, T8, L8, k8, X8, hQ8, hS, hk, hZ, hown, st8⟩ := own_gSW X5 hS hk hx hZ hown (hw _ (List.mem_of_getElem? (i := 4) rfl)) (hw _ (List.mem_of_getElem? (i := 5) rfl)) (hw _ (List.mem_of_getElem? (i := 6) rfl)) (hw _ (List.mem_of_getElem? (i := 7) rfl)) (by decide) e5 (own_euc_p l Z a0 hw h0 a_SM cl_SM a_FLOOR a_CEILING hE i j hj0 hjn) (by decide) (by decide) (by decide) (by decide) (Q := (fun v h L => v = some (.int ((own_R (i.toInt64) (j.toInt64)).toInt32)) ∧ Fr h0.size L ∧ Ext h0 h)) (W := 0) (g := (mkF m 41 #[.val (.int i), .val (.int j), .val (.long (j.toInt64)), .second, .val (.long r), .second, .val (.long r), .second, .unset] [(.int j), (.int i)])) (argsL := [(.int i), (.int j)]) (rest := []) rfl (by rw [hml]; rfl) (lenOf own_pd_10 rfl) rfl (by show 2 * 0 + _ ≤ _; exact Nat.le_of_eq rfl) (hb hby at_41)
        obtain ⟨rfl, NL8, EX8⟩ := hQ8
        have Nf := Fr.app Nf (own_fr_mono E0.1 NL8)
        have E0 := own_ext_tr E0 EX8
        have hE := own_E_ext hE EX8
        refine own_st (T' := T8) (g' := (mkF m 44 #[.val (.int i), .val (.int j), .val (.long (j.toInt64)), .second, .val (.long r), .second, .val (.long r), .second, .unset] [(.int ((own_R (i.toInt64) (j.toInt64)).toInt32))])) st8 ?_
        refine own_st (T' := T8) (g' := (mkF m 46 #[.val (.int i), .val (.int j), .val (.long (j.toInt64)), .second, .val (.long r), .second, .val (.long r), .second, .val (.int ((own_R (i.toInt64) (j.toInt64)).toInt32))] [])) (fun _ k => XS.istore X8.here hx rfl (hb hby at_44) rfl (l' := #[.val (.int i), .val (.int j), .val (.long (j.toInt64)), .second, .val (.long r), .second, .val (.long r), .second, .val (.int ((own_R (i.toInt64) (j.toInt64)).toInt32))]) rfl k) ?_
        have f1 : (lcmpW (((own_R (i.toInt64) (j.toInt64)).toInt32).toInt64) r) = (0 : Int32) := own_f1pp hr hj0 hjn hc23_6
        have f2 : ¬ (((own_R (i.toInt64) (j.toInt64)).toInt32) < (0 : Int32)) := own_f2 i j hj0
        have f3 : (lcmpW (((own_R (i.toInt64) (j.toInt64)).toInt32).toInt64) (j.toInt64)) < (0 : Int32) := own_f3p i hj0 hjn
        refine own_st (T' := T8) (g' := (mkF m 48 #[.val (.int i), .val (.int j), .val (.long (j.toInt64)), .second, .val (.long r), .second, .val (.long r), .second, .val (.int ((own_R (i.toInt64) (j.toInt64)).toInt32))] [(.int ((own_R (i.toInt64) (j.toInt64)).toInt32))])) (fun _ k => XS.iload X8.here hx rfl (hb hby at_46) rfl k) ?_
        refine own_st (T' := T8) (g' := (mkF m 49 #[.val (.int i), .val (.int j), .val (.long (j.toInt64)), .second, .val (.long r), .second, .val (.long r), .second, .val (.int ((own_R (i.toInt64) (j.toInt64)).toInt32))] [(.long (((own_R (i.toInt64) (j.toInt64)).toInt32).toInt64))])) (fun _ k => XS.i2l X8.here hx rfl (hb hby at_48) rfl k) ?_
        refine own_st (T' := T8) (g' := (mkF m 51 #[.val (.int i), .val (.int j), .val (.long (j.toInt64)), .second, .val (.long r), .second, .val (.long r), .second, .val (.int ((own_R (i.toInt64) (j.toInt64)).toInt32))] [(.long r), (.long (((own_R (i.toInt64) (j.toInt64)).toInt32).toInt64))])) (fun _ k => XS.lload X8.here hx rfl (hb hby at_49) rfl k) ?_
        refine own_st (T' := T8) (g' := (mkF m 52 #[.val (.int i), .val (.int j), .val (.long (j.toInt64)), .second, .val (.long r), .second, .val (.long r), .second, .val (.int ((own_R (i.toInt64) (j.toInt64)).toInt32))] [(.int (lcmpW (((own_R (i.toInt64) (j.toInt64)).toInt32).toInt64) r))])) (fun _ k => XS.lcmp X8.here hx rfl (hb hby at_51) rfl k) ?_
        refine own_st (T' := T8) (g' := (mkF m 55 #[.val (.int i), .val (.int j), .val (.long (j.toInt64)), .second, .val (.long r), .second, .val (.long r), .second, .val (.int ((own_R (i.toInt64) (j.toInt64)).toInt32))] [])) (fun _ k => XS.ifNo X8.here hx rfl (hb hby at_52) rfl ((if0 _ _).trans (teq f1).2) k) ?_
        refine own_st (T' := T8) (g' := (mkF m 57 #[.val (.int i), .val (.int j), .val (.long (j.toInt64)), .second, .val (.long r), .second, .val (.long r), .second, .val (.int ((own_R (i.toInt64) (j.toInt64)).toInt32))] [(.int ((own_R (i.toInt64) (j.toInt64)).toInt32))])) (fun _ k => XS.iload X8.here hx rfl (hb hby at_55) rfl k) ?_
        refine own_st (T' := T8) (g' := (mkF m 60 #[.val (.int i), .val (.int j), .val (.long (j.toInt64)), .second, .val (.long r), .second, .val (.long r), .second, .val (.int ((own_R (i.toInt64) (j.toInt64)).toInt32))] [])) (fun _ k => XS.ifNo X8.here hx rfl (hb hby at_57) rfl ((if0 _ _).trans (flt f2).1) k) ?_
        refine own_st (T' := T8) (g' := (mkF m 62 #[.val (.int i), .val (.int j), .val (.long (j.toInt64)), .second, .val (.long r), .second, .val (.long r), .second, .val (.int ((own_R (i.toInt64) (j.toInt64)).toInt32))] [(.int ((own_R (i.toInt64) (j.toInt64)).toInt32))])) (fun _ k => XS.iload X8.here hx rfl (hb hby at_60) rfl k) ?_
        refine own_st (T' := T8) (g' := (mkF m 63 #[.val (.int i), .val (.int j), .val (.long (j.toInt64)), .second, .val (.long r), .second, .val (.long r), .second, .val (.int ((own_R (i.toInt64) (j.toInt64)).toInt32))] [(.long (((own_R (i.toInt64) (j.toInt64)).toInt32).toInt64))])) (fun _ k => XS.i2l X8.here hx rfl (hb hby at_62) rfl k) ?_
        refine own_st (T' := T8) (g' := (mkF m 64 #[.val (.int i), .val (.int j), .val (.long (j.toInt64)), .second, .val (.long r), .second, .val (.long r), .second, .val (.int ((own_R (i.toInt64) (j.toInt64)).toInt32))] [(.long (j.toInt64)), (.long (((own_R (i.toInt64) (j.toInt64)).toInt32).toInt64))])) (fun _ k => XS.lloadN X8.here hx rfl (hb hby at_63) rfl k) ?_
        refine own_st (T' := T8) (g' := (mkF m 65 #[.val (.int i), .val (.int j), .val (.long (j.toInt64)), .second, .val (.long r), .second, .val (.long r), .second, .val (.int ((own_R (i.toInt64) (j.toInt64)).toInt32))] [(.int (lcmpW (((own_R (i.toInt64) (j.toInt64)).toInt32).toInt64) (j.toInt64)))])) (fun _ k => XS.lcmp X8.here hx rfl (hb hby at_64) rfl k) ?_
        refine own_st (T' := T8) (g' := (mkF m 68 #[.val (.int i), .val (.int j), .val (.long (j.toInt64)), .second, .val (.long r), .second, .val (.long r), .second, .val (.int ((own_R (i.toInt64) (j.toInt64)).toInt32))] [])) (fun _ k => XS.ifNo X8.here hx rfl (hb hby at_65) rfl ((if0 _ _).trans (tlt f3).2.1) k) ?_
        refine own_st (T' := T8) (g' := (mkF m 69 #[.val (.int i), .val (.int j), .val (.long (j.toInt64)), .second, .val (.long r), .second, .val (.long r), .second, .val (.int ((own_R (i.toInt64) (j.toInt64)).toInt32))] [(.int (1 : Int32))])) (fun _ k => XS.iconst X8.here hx rfl (hb hby at_68) k) ?_
        refine own_st (T' := T8) (g' := (mkF m 73 #[.val (.int i), .val (.int j), .val (.long (j.toInt64)), .second, .val (.long r), .second, .val (.long r), .second, .val (.int ((own_R (i.toInt64) (j.toInt64)).toInt32))] [(.int (1 : Int32))])) (fun _ k => XS.goto X8.here hx rfl (pc0 := 69) (pc' := 73) rfl (hb hby at_69) (by decide) (by decide) k) ?_
        exact own_retW X8 hx hlk hS hk hret rfl (Or.inl ⟨rfl, Or.inr (Or.inl rfl), _, rfl⟩) (hb hby at_73) (by decide) (by decide) ⟨rfl, Nf⟩
/-! ### from the case's words to the owed theorems -/
theorem own_comes (H : ∀ (l : Launch) (s : State) (args : Array Value), Fit s → (∀ d ∈ tables_1, d.before args s = true) → (∀ d ∈ jdkStatics_1, d.before args s = true) → given_1.value args s none s [] = some true → narrow_1.value args s none s [] = some true → own_MetW l s s.heap tables_1 room_1 x code maxLocals ret args (fun v h L => v = some (.int 1) ∧ Fr s.heap.size L))
    {Post : Tables → Env → Array Value → State → Outcome → State → Prop} (hpost : ∀ tb e args s v u, (limb_1_1.after args s (.returned v) u = true ∧ limb_1_2.after args s (.returned v) u = true) → ReturnedEndW s (.returned v) u (Jvm.fieldLocs frame_1_writes args s ++ Jvm.arrayLocs frame_1_arrays args s ++ Jvm.staticLocs frame_1_statics s) 8 1088 → Post tb e args s (.returned v) u) :
    ArmFor flags0 classFile x code maxLocals ret World_1 tables_1 room_1 Calls_1 rest_1 Pre_1 Post := by
  intro l hfl _ _ p e ha hc hk s m args below hf hA hF happ hP
  obtain ⟨hcalls, hrest, hpre⟩ := hP
  obtain ⟨-, -, -, hnamed, -, -, -, hat⟩ := (Spec.applies_iff hf).mp happ
  obtain ⟨hg, hn⟩ := and_e (Cond.before_iff.mp (show (Jvm.Cond.and given_1 narrow_1).before args s = true from hpre))
  have hw := fun d (hd : d ∈ tables_1) => atoms_spec (ws := Jvm.Cond.code x code maxLocals ret :: tables_1) hat d (List.mem_cons_of_mem _ hd)
  have hfit : Fit s := fun {y c} hc i hi => by
    obtain ⟨ha, rfl⟩ := Array.getElem?_eq_some_iff.mp hc
    have q := List.all_eq_true.mp ((Array.all_eq_true_iff_forall_mem.mp hF) _ (Array.getElem_mem ha)) i (List.mem_range.mpr hi)
    simpa [Array.getElem?_eq_getElem hi] using q
  obtain ⟨hsets, hown0⟩ := atoms_of _ (rest_1_c_eq ▸ (show rest_1_c.before _ s = true from hrest))
  obtain ⟨n, o, h1, h2, h3, _, L, rfl, ⟨rfl, N⟩, hq⟩ := H l s args hfit hw hsets hg hn p e ha hc hk s m args below hf ((Spec.applies_iff_loose hf).mp happ).1 ⟨rfl, State.Warmed39.refl s, rfl⟩ trivial
  exact ⟨n, _, h1, h2, h3, hpost _ _ _ _ _ _ ⟨Cond.after_iff.mpr rfl, Cond.after_iff.mpr (eq_i res_at (Term.int_eval (1)) rfl)⟩ ⟨hq.1, hq.2.1, hq.2.2.1, (hq.2.2.2.sift fun y hy => Or.inr (N y hy)).mono (by decide) (by decide)⟩⟩
set_option maxRecDepth 65536 in
theorem own_law (l : Launch) (s : State) (args : Array Value) (hfit : Fit s) (hw : ∀ d ∈ tables_1, d.before args s = true) (hsets : ∀ d ∈ jdkStatics_1, d.before args s = true) (hg : given_1.value args s none s [] = some true) (hn : narrow_1.value args s none s [] = some true) :
    own_MetW l s s.heap tables_1 room_1 x code maxLocals ret args (fun v h L => v = some (.int 1) ∧ Fr s.heap.size L) := by
  obtain ⟨i, j, rfl⟩ := own_args2 (k := 0) hg
  obtain ⟨n0a, n0b⟩ := and_e hn
  obtain ⟨n1a, n1b⟩ := and_e n0b
  obtain ⟨n2a, n2b⟩ := and_e n1b
  obtain ⟨n3a, n3b⟩ := and_e n2b
  obtain ⟨a_SM, cl_SM, V_SM, A_SM, S_SM⟩ := own_ax n0a (hw _ (List.mem_of_getElem? (i := 48) rfl)) (hw _ (List.mem_of_getElem? (i := 49) rfl))
  have Z_SM := own_len V_SM A_SM n1a
  have Y_SM_0 := own_eli V_SM A_SM n2a
  have Y_SM_1 := own_eli V_SM A_SM n3a
  have Y_SM_2 := own_all (fun _ => V_SM) A_SM Z_SM n3b (k := 2) (v := 3) (by decide) (by decide) (by decide) (by decide)
  have Y_SM_3 := own_all (fun _ => V_SM) A_SM Z_SM n3b (k := 3) (v := 4) (by decide) (by decide) (by decide) (by decide)
  obtain ⟨a_FLOOR, V_FLOOR, E_FLOOR, S_FLOOR⟩ := own_sx (Cond.before_iff.mp (hsets _ (List.mem_of_getElem? (i := 2) rfl))) (hw _ (List.mem_of_getElem? (i := 13) rfl)) (hsets _ (List.mem_of_getElem? (i := 0) rfl))
  have F_FLOOR_ordinal := own_fi V_FLOOR (Cond.before_iff.mp (hsets _ (List.mem_of_getElem? (i := 4) rfl)))
  obtain ⟨a_CEILING, V_CEILING, E_CEILING, S_CEILING⟩ := own_sx (Cond.before_iff.mp (hsets _ (List.mem_of_getElem? (i := 8) rfl))) (hw _ (List.mem_of_getElem? (i := 13) rfl)) (hsets _ (List.mem_of_getElem? (i := 6) rfl))
  have F_CEILING_ordinal := own_fi V_CEILING (Cond.before_iff.mp (hsets _ (List.mem_of_getElem? (i := 10) rfl)))
  have hE : own_E s s.heap a_SM cl_SM a_FLOOR a_CEILING := ⟨S_SM, A_SM, Z_SM, Y_SM_0, Y_SM_1, Y_SM_2, Y_SM_3, S_FLOOR, E_FLOOR, F_FLOOR_ordinal, S_CEILING, E_CEILING, F_CEILING_ordinal, trivial⟩
  exact (own_lawP l s _ hw s.heap a_SM cl_SM a_FLOOR a_CEILING hE i j)
theorem main_1_1 : Claimed_1_1 := own_comes own_law fun _ _ _ _ _ _ h hF => ⟨h.1, hF⟩
theorem main_1_2 : Claimed_1_2 := own_comes own_law fun _ _ _ _ _ _ h hF => ⟨h.2, hF⟩
end Jvm.Pilot.@@N@@
namespace Jvm.Pilot.@@N@@
open Jvm Jvm.ClassFile Sem Op Lib Jvm.Free Jvm.Stand Jvm.Pilot.@@N@@.Jvm.D
/-! MADE BY PROGRAM (witnessworld.py) out of the Statement's table words and the real class files: 23 classes; the members and pool entries that the words name. The judged class is class 1, her method 1. -/
namespace start1
open Jvm.ClassFile
def u (s : String) : CpInfo := .utf8 (stringToUtf16 s)
/-- a pool by its gaps: so many unusable entries, then the entry; so many at the end -/
def gap : Nat → List CpInfo → List CpInfo
  | 0, r => r
  | n + 1, r => .unusable :: gap n r
def poolList (es : List (Nat × CpInfo)) (last : Nat) : List CpInfo := es.foldr (fun e r => gap e.1 (e.2 :: r)) (gap last [])
def pool (es : List (Nat × CpInfo)) (last : Nat) : Array CpInfo := ⟨poolList es last⟩
def fileOf (pool : Array CpInfo) (this : Nat) (attrs : Array Attribute := #[]) (ms : Array MethodInfo := #[]) (fl : Nat := 33) (sup : Nat := 0) (ifs : Array Nat := #[]) (fds : Array FieldInfo := #[]) : ClassFile where
  minorVersion := 0
  majorVersion := 65
  constantPool := pool
  accessFlags := fl
  thisClass := this
  superClass := sup
  interfaces := ifs
  fields := fds
  methods := ms
  attributes := attrs
def plain (name : String) (sup : Option ClassId) : Class where
  name := name
  kind := .ordinary
  loader := none
  accessFlags := 33
  super := sup
  interfaces := #[]
  cf := none
  fields := #[]
  methods := #[]
  instanceTypes := #[]
  staticTypes := #[]
  resolved := #[]
  callSites := []
  init := .initialized
  statics := none
  mirror := none

def pool0 : Array CpInfo := pool [(5, u "<init>"), (0, u "()V"), (1, .class_ 10), (1, u "java/lang/Object")] 113

def k0m0 : Method := { name := "<init>", desc := "()V", sig := { parameters := [], returnType := none }, accessFlags := 1, code := none }
/-- java/lang/Object -/
def k0 : Class := { plain "java/lang/Object" none with
  accessFlags := 33
  interfaces := #[]
  cf := some (fileOf pool0 8 #[] #[{ accessFlags := 1, nameIndex := 5, descriptorIndex := 6, attributes := #[] }] 33 0 #[] #[])
  fields := #[]
  methods := #[k0m0]
  instanceTypes := #[]
  staticTypes := #[]
  resolved := Array.replicate 124 none
  statics := none }

def pool1 : Array CpInfo := pool [(2, .class_ 4), (1, u "java/lang/Object"), (0, u "<init>"), (0, u "()V"), (0, .methodref 8 9), (0, .class_ 10), (0, .nameAndType 11 12), (0, u "java/lang/Math"), (0, u "abs"), (0, u "(J)J"), (0, .methodref 14 15), (0, .class_ 16), (0, .nameAndType 17 18), (0, u "com/example/residuum/residuum/Remainder"), (0, u "euclidean"), (0, u "(II)I"), (0, .class_ 20), (0, u "com/example/residuum/residuum/RemainderEuclideanPinLaw"), (2, u "law"), (0, u "(II)Z")] 3

def k1m0 : Method := { name := "<init>", desc := "()V", sig := { parameters := [], returnType := none }, accessFlags := 2, code := none }
def k1c1 : Code := { maxStack := 4, maxLocals := 9, code := code, exceptionTable := #[], attributes := #[] }
def k1m1 : Method := { name := "law", desc := "(II)Z", sig := { parameters := [.int, .int], returnType := some .boolean }, accessFlags := 9, code := some k1c1 }
/-- com/example/residuum/residuum/RemainderEuclideanPinLaw -/
def k1 : Class := { plain "com/example/residuum/residuum/RemainderEuclideanPinLaw" (some 0) with
  accessFlags := 49
  interfaces := #[]
  cf := some (fileOf pool1 19 #[] #[{ accessFlags := 2, nameIndex := 5, descriptorIndex := 6, attributes := #[] }, { accessFlags := 9, nameIndex := 23, descriptorIndex := 24, attributes := #[] }] 49 2 #[] #[])
  fields := #[]
  methods := #[k1m0, k1m1]
  instanceTypes := #[]
  staticTypes := #[]
  resolved := Array.replicate 28 none
  statics := none }

def pool2 : Array CpInfo := pool [(1, .class_ 2), (0, u "java/lang/Math"), (1, .class_ 6), (1, u "java/lang/Object"), (0, u "<init>"), (0, u "()V"), (89, .class_ 100), (1, u "java/lang/Math$RandomNumberGeneratorHolder"), (23, u "abs"), (0, u "(J)J"), (46, u "negativeZeroFloatBits"), (0, u "J"), (2, u "negativeZeroDoubleBits"), (68, u "$assertionsDisabled"), (0, u "Z"), (91, u "twoToTheDoubleScaleDown"), (0, u "D"), (4, u "twoToTheDoubleScaleUp"), (9, u "E"), (3, u "PI"), (2, u "TAU"), (2, u "DEGREES_TO_RADIANS"), (0, u "RADIANS_TO_DEGREES")] 94

def k2m0 : Method := { name := "<init>", desc := "()V", sig := { parameters := [], returnType := none }, accessFlags := 2, code := none }
def k2c1 : Code := { maxStack := 4, maxLocals := 2, code := jdk_29_method_61_code, exceptionTable := #[], attributes := #[] }
def k2m1 : Method := { name := "abs", desc := "(J)J", sig := { parameters := [.long], returnType := some .long }, accessFlags := 9, code := some k2c1 }
/-- java/lang/Math -/
def k2 : Class := { plain "java/lang/Math" (some 0) with
  accessFlags := 49
  interfaces := #[]
  cf := some (fileOf pool2 1 #[.nestMembers #[98]] #[{ accessFlags := 2, nameIndex := 7, descriptorIndex := 8, attributes := #[] }, { accessFlags := 9, nameIndex := 124, descriptorIndex := 125, attributes := #[] }] 49 4 #[] #[{ accessFlags := 25, nameIndex := 354, descriptorIndex := 339, attributes := #[] }, { accessFlags := 25, nameIndex := 358, descriptorIndex := 339, attributes := #[] }, { accessFlags := 25, nameIndex := 361, descriptorIndex := 339, attributes := #[] }, { accessFlags := 26, nameIndex := 364, descriptorIndex := 339, attributes := #[] }, { accessFlags := 26, nameIndex := 365, descriptorIndex := 339, attributes := #[] }, { accessFlags := 26, nameIndex := 172, descriptorIndex := 173, attributes := #[] }, { accessFlags := 26, nameIndex := 176, descriptorIndex := 173, attributes := #[] }, { accessFlags := 8, nameIndex := 344, descriptorIndex := 339, attributes := #[] }, { accessFlags := 8, nameIndex := 338, descriptorIndex := 339, attributes := #[] }, { accessFlags := 4120, nameIndex := 245, descriptorIndex := 246, attributes := #[] }])
  fields := #[{ name := "E", type := .double, accessFlags := 25, slot := 0, constantValue := 0 }, { name := "PI", type := .double, accessFlags := 25, slot := 1, constantValue := 0 }, { name := "TAU", type := .double, accessFlags := 25, slot := 2, constantValue := 0 }, { name := "DEGREES_TO_RADIANS", type := .double, accessFlags := 26, slot := 3, constantValue := 0 }, { name := "RADIANS_TO_DEGREES", type := .double, accessFlags := 26, slot := 4, constantValue := 0 }, { name := "negativeZeroFloatBits", type := .long, accessFlags := 26, slot := 5, constantValue := 0 }, { name := "negativeZeroDoubleBits", type := .long, accessFlags := 26, slot := 6, constantValue := 0 }, { name := "twoToTheDoubleScaleUp", type := .double, accessFlags := 8, slot := 7, constantValue := 0 }, { name := "twoToTheDoubleScaleDown", type := .double, accessFlags := 8, slot := 8, constantValue := 0 }, { name := "$assertionsDisabled", type := .boolean, accessFlags := 4120, slot := 9, constantValue := 0 }]
  methods := #[k2m0, k2m1]
  instanceTypes := #[]
  staticTypes := #[.double, .double, .double, .double, .double, .long, .long, .double, .double, .boolean]
  resolved := Array.replicate 460 none
  statics := none }

def pool3 : Array CpInfo := pool [(2, .class_ 4), (1, u "java/lang/Object"), (0, u "<init>"), (0, u "()V"), (0, .methodref 8 9), (0, .class_ 10), (0, .nameAndType 11 12), (0, u "com/example/residuum/residuum/Remainder"), (0, u "remainder"), (0, u "(JJLjava/math/RoundingMode;)J"), (1, .class_ 16), (1, u "com/example/residuum/residuum/QuotientRounding"), (2, .string 20), (0, u "mode"), (0, .methodref 22 23), (0, .class_ 24), (0, .nameAndType 25 26), (0, u "java/util/Objects"), (0, u "requireNonNull"), (0, u "(Ljava/lang/Object;Ljava/lang/String;)Ljava/lang/Object;"), (0, .methodref 28 29), (0, .class_ 30), (0, .nameAndType 31 32), (0, u "java/lang/Math"), (0, u "abs"), (0, u "(J)J"), (0, .methodref 34 35), (0, .class_ 36), (0, .nameAndType 37 38), (0, u "java/lang/Long"), (0, u "compare"), (0, u "(JJ)I"), (0, .methodref 34 40), (0, .nameAndType 41 42), (0, u "numberOfTrailingZeros"), (0, u "(J)I"), (0, .methodref 14 44), (0, .nameAndType 45 46), (0, u "stepsAway"), (0, u "(Ljava/math/RoundingMode;ZIZ)Z"), (0, .methodref 14 48), (0, .nameAndType 49 50), (0, u "euclideanMode"), (0, u "(Z)Ljava/math/RoundingMode;"), (0, .methodref 8 52), (0, .nameAndType 11 53), (0, u "(IILjava/math/RoundingMode;)I"), (1, .class_ 57), (1, u "com/example/residuum/residuum/Remainder$1"), (34, u "euclidean"), (0, u "(II)I")] 6

def k3m0 : Method := { name := "<init>", desc := "()V", sig := { parameters := [], returnType := none }, accessFlags := 2, code := none }
def k3c1 : Code := { maxStack := 5, maxLocals := 3, code := prog_9_method_2_code, exceptionTable := #[], attributes := #[] }
def k3m1 : Method := { name := "remainder", desc := "(IILjava/math/RoundingMode;)I", sig := { parameters := [.int, .int, (.object "java/math/RoundingMode")], returnType := some .int }, accessFlags := 9, code := some k3c1 }
def k3c2 : Code := { maxStack := 4, maxLocals := 14, code := prog_9_method_3_code, exceptionTable := #[], attributes := #[] }
def k3m2 : Method := { name := "remainder", desc := "(JJLjava/math/RoundingMode;)J", sig := { parameters := [.long, .long, (.object "java/math/RoundingMode")], returnType := some .long }, accessFlags := 9, code := some k3c2 }
def k3c3 : Code := { maxStack := 3, maxLocals := 2, code := prog_9_method_4_code, exceptionTable := #[], attributes := #[] }
def k3m3 : Method := { name := "euclidean", desc := "(II)I", sig := { parameters := [.int, .int], returnType := some .int }, accessFlags := 9, code := some k3c3 }
/-- com/example/residuum/residuum/Remainder -/
def k3 : Class := { plain "com/example/residuum/residuum/Remainder" (some 0) with
  accessFlags := 49
  interfaces := #[]
  cf := some (fileOf pool3 8 #[.nestMembers #[55]] #[{ accessFlags := 2, nameIndex := 5, descriptorIndex := 6, attributes := #[] }, { accessFlags := 9, nameIndex := 11, descriptorIndex := 53, attributes := #[] }, { accessFlags := 9, nameIndex := 11, descriptorIndex := 12, attributes := #[] }, { accessFlags := 9, nameIndex := 92, descriptorIndex := 93, attributes := #[] }] 49 2 #[] #[])
  fields := #[]
  methods := #[k3m0, k3m1, k3m2, k3m3]
  instanceTypes := #[]
  staticTypes := #[]
  resolved := Array.replicate 100 none
  statics := none }

def pool4 : Array CpInfo := pool [(2, .class_ 4), (1, u "java/lang/Object"), (0, u "<init>"), (0, u "()V"), (0, .fieldref 8 9), (0, .class_ 10), (0, .nameAndType 11 12), (0, u "com/example/residuum/residuum/QuotientRounding$1"), (0, u "$SwitchMap$java$math$RoundingMode"), (0, u "[I"), (0, .methodref 14 15), (0, .class_ 16), (0, .nameAndType 17 18), (0, u "java/math/RoundingMode"), (0, u "ordinal"), (0, u "()I"), (6, .class_ 27), (1, u "com/example/residuum/residuum/QuotientRounding"), (2, .fieldref 14 31), (0, .nameAndType 32 33), (0, u "CEILING"), (0, u "Ljava/math/RoundingMode;"), (0, .fieldref 14 35), (0, .nameAndType 36 33), (0, u "FLOOR"), (11, u "stepsAway"), (0, u "(Ljava/math/RoundingMode;ZIZ)Z"), (1, u "euclideanMode"), (0, u "(Z)Ljava/math/RoundingMode;")] 5

def k4m0 : Method := { name := "<init>", desc := "()V", sig := { parameters := [], returnType := none }, accessFlags := 2, code := none }
def k4c1 : Code := { maxStack := 4, maxLocals := 5, code := prog_7_method_2_code, exceptionTable := #[], attributes := #[] }
def k4m1 : Method := { name := "stepsAway", desc := "(Ljava/math/RoundingMode;ZIZ)Z", sig := { parameters := [(.object "java/math/RoundingMode"), .boolean, .int, .boolean], returnType := some .boolean }, accessFlags := 9, code := some k4c1 }
def k4c2 : Code := { maxStack := 1, maxLocals := 2, code := prog_7_method_3_code, exceptionTable := #[], attributes := #[] }
def k4m2 : Method := { name := "euclideanMode", desc := "(Z)Ljava/math/RoundingMode;", sig := { parameters := [.boolean], returnType := some (.object "java/math/RoundingMode") }, accessFlags := 9, code := some k4c2 }
/-- com/example/residuum/residuum/QuotientRounding -/
def k4 : Class := { plain "com/example/residuum/residuum/QuotientRounding" (some 0) with
  accessFlags := 49
  interfaces := #[]
  cf := some (fileOf pool4 25 #[.nestMembers #[8]] #[{ accessFlags := 2, nameIndex := 5, descriptorIndex := 6, attributes := #[] }, { accessFlags := 9, nameIndex := 48, descriptorIndex := 49, attributes := #[] }, { accessFlags := 9, nameIndex := 51, descriptorIndex := 52, attributes := #[] }] 49 2 #[] #[])
  fields := #[]
  methods := #[k4m0, k4m1, k4m2]
  instanceTypes := #[]
  staticTypes := #[]
  resolved := Array.replicate 58 none
  statics := none }

def pool5 : Array CpInfo := pool [(1, .class_ 2), (0, u "java/lang/constant/Constable"), (0, .class_ 4), (0, u "java/lang/Object")] 6

/-- java/lang/constant/Constable -/
def k5 : Class := { plain "java/lang/constant/Constable" (some 0) with
  accessFlags := 1537
  interfaces := #[]
  cf := some (fileOf pool5 1 #[] #[] 1537 3 #[] #[])
  fields := #[]
  methods := #[]
  instanceTypes := #[]
  staticTypes := #[]
  resolved := Array.replicate 11 none
  statics := none }

def pool6 : Array CpInfo := pool [(1, .class_ 2), (0, u "java/lang/Comparable"), (0, .class_ 4), (0, u "java/lang/Object")] 7

/-- java/lang/Comparable -/
def k6 : Class := { plain "java/lang/Comparable" (some 0) with
  accessFlags := 1537
  interfaces := #[]
  cf := some (fileOf pool6 1 #[] #[] 1537 3 #[] #[])
  fields := #[]
  methods := #[]
  instanceTypes := #[]
  staticTypes := #[]
  resolved := Array.replicate 12 none
  statics := none }

def pool7 : Array CpInfo := pool [(1, .class_ 2), (0, u "java/io/Serializable"), (0, .class_ 4), (0, u "java/lang/Object")] 2

/-- java/io/Serializable -/
def k7 : Class := { plain "java/io/Serializable" (some 0) with
  accessFlags := 1537
  interfaces := #[]
  cf := some (fileOf pool7 1 #[] #[] 1537 3 #[] #[])
  fields := #[]
  methods := #[]
  instanceTypes := #[]
  staticTypes := #[]
  resolved := Array.replicate 7 none
  statics := none }

def pool8 : Array CpInfo := pool [(2, .class_ 4), (1, u "java/lang/Enum"), (0, u "name"), (0, u "Ljava/lang/String;"), (0, .fieldref 2 8), (0, .nameAndType 9 10), (0, u "ordinal"), (0, u "I"), (1, .class_ 14), (1, u "java/lang/Object"), (4, u "hash"), (86, .class_ 108), (1, u "java/lang/Enum$EnumDesc"), (2, .class_ 112), (0, u "java/lang/constant/Constable"), (0, .class_ 114), (0, u "java/lang/Comparable"), (0, .class_ 116), (0, u "java/io/Serializable"), (9, u "()I")] 77

def k8c0 : Code := { maxStack := 1, maxLocals := 1, code := jdk_37_method_2_code, exceptionTable := #[], attributes := #[] }
def k8m0 : Method := { name := "ordinal", desc := "()I", sig := { parameters := [], returnType := some .int }, accessFlags := 17, code := some k8c0 }
/-- java/lang/Enum -/
def k8 : Class := { plain "java/lang/Enum" (some 0) with
  accessFlags := 1057
  interfaces := #[5, 6, 7]
  cf := some (fileOf pool8 2 #[.nestMembers #[106]] #[{ accessFlags := 17, nameIndex := 9, descriptorIndex := 126, attributes := #[] }] 1057 12 #[111, 113, 115] #[{ accessFlags := 18, nameIndex := 5, descriptorIndex := 6, attributes := #[] }, { accessFlags := 18, nameIndex := 9, descriptorIndex := 10, attributes := #[] }, { accessFlags := 2, nameIndex := 19, descriptorIndex := 10, attributes := #[] }])
  fields := #[{ name := "name", type := (.object "java/lang/String"), accessFlags := 18, slot := 0, constantValue := 0 }, { name := "ordinal", type := .int, accessFlags := 18, slot := 1, constantValue := 0 }, { name := "hash", type := .int, accessFlags := 2, slot := 2, constantValue := 0 }]
  methods := #[k8m0]
  instanceTypes := #[(.object "java/lang/String"), .int, .int]
  staticTypes := #[]
  resolved := Array.replicate 204 none
  statics := none }

def pool9 : Array CpInfo := pool [(1, .class_ 2), (0, u "java/math/RoundingMode"), (2, u "UP"), (0, u "Ljava/math/RoundingMode;"), (2, u "DOWN"), (2, u "CEILING"), (2, u "FLOOR"), (2, u "HALF_UP"), (2, u "HALF_DOWN"), (2, u "HALF_EVEN"), (2, u "UNNECESSARY"), (2, u "$VALUES"), (0, u "[Ljava/math/RoundingMode;"), (6, .class_ 40), (1, u "java/lang/Enum"), (8, u "oldMode"), (0, u "I")] 43

/-- java/math/RoundingMode -/
def k9 : Class := { plain "java/math/RoundingMode" (some 8) with
  accessFlags := 16433
  interfaces := #[]
  cf := some (fileOf pool9 1 #[] #[] 16433 38 #[] #[{ accessFlags := 16409, nameIndex := 5, descriptorIndex := 6, attributes := #[] }, { accessFlags := 16409, nameIndex := 9, descriptorIndex := 6, attributes := #[] }, { accessFlags := 16409, nameIndex := 12, descriptorIndex := 6, attributes := #[] }, { accessFlags := 16409, nameIndex := 15, descriptorIndex := 6, attributes := #[] }, { accessFlags := 16409, nameIndex := 18, descriptorIndex := 6, attributes := #[] }, { accessFlags := 16409, nameIndex := 21, descriptorIndex := 6, attributes := #[] }, { accessFlags := 16409, nameIndex := 24, descriptorIndex := 6, attributes := #[] }, { accessFlags := 16409, nameIndex := 27, descriptorIndex := 6, attributes := #[] }, { accessFlags := 16, nameIndex := 49, descriptorIndex := 50, attributes := #[] }, { accessFlags := 4122, nameIndex := 30, descriptorIndex := 31, attributes := #[] }])
  fields := #[{ name := "UP", type := (.object "java/math/RoundingMode"), accessFlags := 16409, slot := 0, constantValue := 0 }, { name := "DOWN", type := (.object "java/math/RoundingMode"), accessFlags := 16409, slot := 1, constantValue := 0 }, { name := "CEILING", type := (.object "java/math/RoundingMode"), accessFlags := 16409, slot := 2, constantValue := 0 }, { name := "FLOOR", type := (.object "java/math/RoundingMode"), accessFlags := 16409, slot := 3, constantValue := 0 }, { name := "HALF_UP", type := (.object "java/math/RoundingMode"), accessFlags := 16409, slot := 4, constantValue := 0 }, { name := "HALF_DOWN", type := (.object "java/math/RoundingMode"), accessFlags := 16409, slot := 5, constantValue := 0 }, { name := "HALF_EVEN", type := (.object "java/math/RoundingMode"), accessFlags := 16409, slot := 6, constantValue := 0 }, { name := "UNNECESSARY", type := (.object "java/math/RoundingMode"), accessFlags := 16409, slot := 7, constantValue := 0 }, { name := "oldMode", type := .int, accessFlags := 16, slot := 3, constantValue := 0 }, { name := "$VALUES", type := (.array (.object "java/math/RoundingMode")), accessFlags := 4122, slot := 8, constantValue := 0 }]
  methods := #[]
  instanceTypes := #[(.object "java/lang/String"), .int, .int, .int]
  staticTypes := #[(.object "java/math/RoundingMode"), (.object "java/math/RoundingMode"), (.object "java/math/RoundingMode"), (.object "java/math/RoundingMode"), (.object "java/math/RoundingMode"), (.object "java/math/RoundingMode"), (.object "java/math/RoundingMode"), (.object "java/math/RoundingMode"), (.array (.object "java/math/RoundingMode"))]
  resolved := Array.replicate 94 none
  statics := some 0 }

def pool10 : Array CpInfo := pool [(2, .class_ 4), (1, u "java/lang/CharSequence"), (42, .class_ 48), (0, u "java/lang/CharSequence$1CodePointIterator"), (10, .class_ 60), (0, u "java/lang/CharSequence$1CharIterator"), (5, .class_ 67), (0, u "java/lang/Object")] 63

/-- java/lang/CharSequence -/
def k10 : Class := { plain "java/lang/CharSequence" (some 0) with
  accessFlags := 1537
  interfaces := #[]
  cf := some (fileOf pool10 2 #[.nestMembers #[47, 59]] #[] 1537 66 #[] #[])
  fields := #[]
  methods := #[]
  instanceTypes := #[]
  staticTypes := #[]
  resolved := Array.replicate 131 none
  statics := none }

def pool11 : Array CpInfo := pool [(1, .class_ 2), (0, u "java/lang/constant/ConstantDesc"), (0, .class_ 4), (0, u "java/lang/Object")] 32

/-- java/lang/constant/ConstantDesc -/
def k11 : Class := { plain "java/lang/constant/ConstantDesc" (some 0) with
  accessFlags := 1537
  interfaces := #[]
  cf := some (fileOf pool11 1 #[] #[] 1537 3 #[] #[])
  fields := #[]
  methods := #[]
  instanceTypes := #[]
  staticTypes := #[]
  resolved := Array.replicate 37 none
  statics := none }

def pool12 : Array CpInfo := pool [(2, .class_ 4), (1, u "java/lang/Object"), (0, u "<init>"), (0, u "()V"), (3, .class_ 12), (1, u "java/lang/String"), (0, u "value"), (0, u "[B"), (2, u "coder"), (0, u "B"), (2, u "hash"), (0, u "I"), (2, u "hashIsZero"), (0, u "Z"), (13, u "COMPACT_STRINGS"), (534, .class_ 576), (0, u "java/lang/CharSequence"), (22, u "CASE_INSENSITIVE_ORDER"), (0, u "Ljava/util/Comparator;"), (500, u "serialPersistentFields"), (0, u "[Ljava/io/ObjectStreamField;"), (0, .class_ 1104), (0, u "java/lang/String$CaseInsensitiveComparator"), (1, .class_ 1107), (0, u "java/io/Serializable"), (0, .class_ 1109), (0, u "java/lang/Comparable"), (0, .class_ 1111), (0, u "java/lang/constant/Constable"), (0, .class_ 1113), (0, u "java/lang/constant/ConstantDesc"), (2, u "serialVersionUID"), (0, u "J"), (3, u "REPL"), (0, u "C"), (2, u "LATIN1"), (1, u "UTF16")] 323

def k12m0 : Method := { name := "<init>", desc := "()V", sig := { parameters := [], returnType := none }, accessFlags := 1, code := none }
/-- java/lang/String -/
def k12 : Class := { plain "java/lang/String" (some 0) with
  accessFlags := 49
  interfaces := #[7, 6, 10, 5, 11]
  cf := some (fileOf pool12 10 #[.nestMembers #[1103]] #[{ accessFlags := 1, nameIndex := 5, descriptorIndex := 6, attributes := #[] }] 49 2 #[1106, 1108, 575, 1110, 1112] #[{ accessFlags := 18, nameIndex := 13, descriptorIndex := 14, attributes := #[] }, { accessFlags := 18, nameIndex := 17, descriptorIndex := 18, attributes := #[] }, { accessFlags := 2, nameIndex := 21, descriptorIndex := 22, attributes := #[] }, { accessFlags := 2, nameIndex := 25, descriptorIndex := 26, attributes := #[] }, { accessFlags := 26, nameIndex := 1116, descriptorIndex := 1117, attributes := #[] }, { accessFlags := 24, nameIndex := 40, descriptorIndex := 26, attributes := #[] }, { accessFlags := 26, nameIndex := 1101, descriptorIndex := 1102, attributes := #[] }, { accessFlags := 26, nameIndex := 1121, descriptorIndex := 1122, attributes := #[] }, { accessFlags := 25, nameIndex := 599, descriptorIndex := 600, attributes := #[] }, { accessFlags := 24, nameIndex := 1125, descriptorIndex := 18, attributes := #[] }, { accessFlags := 24, nameIndex := 1127, descriptorIndex := 18, attributes := #[] }])
  fields := #[{ name := "value", type := (.array .byte), accessFlags := 18, slot := 0, constantValue := 0 }, { name := "coder", type := .byte, accessFlags := 18, slot := 1, constantValue := 0 }, { name := "hash", type := .int, accessFlags := 2, slot := 2, constantValue := 0 }, { name := "hashIsZero", type := .boolean, accessFlags := 2, slot := 3, constantValue := 0 }, { name := "serialVersionUID", type := .long, accessFlags := 26, slot := 0, constantValue := 0 }, { name := "COMPACT_STRINGS", type := .boolean, accessFlags := 24, slot := 1, constantValue := 0 }, { name := "serialPersistentFields", type := (.array (.object "java/io/ObjectStreamField")), accessFlags := 26, slot := 2, constantValue := 0 }, { name := "REPL", type := .char, accessFlags := 26, slot := 3, constantValue := 0 }, { name := "CASE_INSENSITIVE_ORDER", type := (.object "java/util/Comparator"), accessFlags := 25, slot := 4, constantValue := 0 }, { name := "LATIN1", type := .byte, accessFlags := 24, slot := 5, constantValue := 0 }, { name := "UTF16", type := .byte, accessFlags := 24, slot := 6, constantValue := 0 }]
  methods := #[k12m0]
  instanceTypes := #[(.array .byte), .byte, .int, .boolean]
  staticTypes := #[.long, .boolean, (.array (.object "java/io/ObjectStreamField")), .char, (.object "java/util/Comparator"), .byte, .byte]
  resolved := Array.replicate 1451 none
  statics := none }

def pool13 : Array CpInfo := pool [(2, .class_ 4), (1, u "java/lang/Object"), (0, u "<init>"), (0, u "()V"), (35, .class_ 44), (1, u "java/util/Objects"), (0, u "requireNonNull"), (48, u "(Ljava/lang/Object;Ljava/lang/String;)Ljava/lang/Object;")] 89

def k13m0 : Method := { name := "<init>", desc := "()V", sig := { parameters := [], returnType := none }, accessFlags := 2, code := none }
def k13c1 : Code := { maxStack := 3, maxLocals := 2, code := jdk_31_method_11_code, exceptionTable := #[], attributes := #[] }
def k13m1 : Method := { name := "requireNonNull", desc := "(Ljava/lang/Object;Ljava/lang/String;)Ljava/lang/Object;", sig := { parameters := [(.object "java/lang/Object"), (.object "java/lang/String")], returnType := some (.object "java/lang/Object") }, accessFlags := 9, code := some k13c1 }
/-- java/util/Objects -/
def k13 : Class := { plain "java/util/Objects" (some 0) with
  accessFlags := 49
  interfaces := #[]
  cf := some (fileOf pool13 42 #[] #[{ accessFlags := 2, nameIndex := 5, descriptorIndex := 6, attributes := #[] }, { accessFlags := 9, nameIndex := 45, descriptorIndex := 94, attributes := #[] }] 49 2 #[] #[])
  fields := #[]
  methods := #[k13m0, k13m1]
  instanceTypes := #[]
  staticTypes := #[]
  resolved := Array.replicate 184 none
  statics := none }

def pool14 : Array CpInfo := pool [(2, .class_ 4), (1, u "java/lang/Object"), (0, u "<init>"), (0, u "()V"), (1, .class_ 10), (1, u "java/lang/Number"), (2, .class_ 14), (0, u "java/io/Serializable"), (0, u "serialVersionUID"), (0, u "J")] 20

def k14m0 : Method := { name := "<init>", desc := "()V", sig := { parameters := [], returnType := none }, accessFlags := 1, code := none }
/-- java/lang/Number -/
def k14 : Class := { plain "java/lang/Number" (some 0) with
  accessFlags := 1057
  interfaces := #[7]
  cf := some (fileOf pool14 8 #[] #[{ accessFlags := 1, nameIndex := 5, descriptorIndex := 6, attributes := #[] }] 1057 2 #[13] #[{ accessFlags := 26, nameIndex := 15, descriptorIndex := 16, attributes := #[] }])
  fields := #[{ name := "serialVersionUID", type := .long, accessFlags := 26, slot := 0, constantValue := 0 }]
  methods := #[k14m0]
  instanceTypes := #[]
  staticTypes := #[.long]
  resolved := Array.replicate 37 none
  statics := none }

def pool15 : Array CpInfo := pool [(1, .class_ 2), (0, u "java/lang/Long"), (15, .class_ 20), (1, u "java/lang/Integer"), (80, u "(J)I"), (133, .class_ 237), (1, u "java/lang/Long$LongCache"), (33, .class_ 272), (0, u "java/lang/Number"), (2, u "value"), (0, u "J"), (27, u "compare"), (0, u "(JJ)I"), (4, u "(I)I"), (0, .methodref 18 312), (0, .nameAndType 313 310), (0, u "numberOfTrailingZeros"), (47, u "TYPE"), (0, u "Ljava/lang/Class;"), (0, .class_ 364), (0, u "java/lang/Comparable"), (0, .class_ 366), (0, u "java/lang/constant/Constable"), (0, .class_ 368), (0, u "java/lang/constant/ConstantDesc"), (0, u "MIN_VALUE"), (1, u "MAX_VALUE"), (4, u "SIZE"), (0, u "I"), (1, u "BYTES"), (1, u "serialVersionUID")] 142

def k15c0 : Code := { maxStack := 4, maxLocals := 4, code := jdk_35_method_42_code, exceptionTable := #[], attributes := #[] }
def k15m0 : Method := { name := "compare", desc := "(JJ)I", sig := { parameters := [.long, .long], returnType := some .int }, accessFlags := 9, code := some k15c0 }
def k15c1 : Code := { maxStack := 4, maxLocals := 3, code := jdk_35_method_49_code, exceptionTable := #[], attributes := #[] }
def k15m1 : Method := { name := "numberOfTrailingZeros", desc := "(J)I", sig := { parameters := [.long], returnType := some .int }, accessFlags := 9, code := some k15c1 }
/-- java/lang/Long -/
def k15 : Class := { plain "java/lang/Long" (some 14) with
  accessFlags := 49
  interfaces := #[6, 5, 11]
  cf := some (fileOf pool15 1 #[.nestMembers #[235]] #[{ accessFlags := 9, nameIndex := 304, descriptorIndex := 305, attributes := #[] }, { accessFlags := 9, nameIndex := 313, descriptorIndex := 101, attributes := #[] }] 49 271 #[363, 365, 367] #[{ accessFlags := 25, nameIndex := 369, descriptorIndex := 276, attributes := #[] }, { accessFlags := 25, nameIndex := 371, descriptorIndex := 276, attributes := #[] }, { accessFlags := 25, nameIndex := 361, descriptorIndex := 362, attributes := #[] }, { accessFlags := 18, nameIndex := 275, descriptorIndex := 276, attributes := #[] }, { accessFlags := 25, nameIndex := 376, descriptorIndex := 377, attributes := #[] }, { accessFlags := 25, nameIndex := 379, descriptorIndex := 377, attributes := #[] }, { accessFlags := 26, nameIndex := 381, descriptorIndex := 276, attributes := #[] }])
  fields := #[{ name := "MIN_VALUE", type := .long, accessFlags := 25, slot := 0, constantValue := 0 }, { name := "MAX_VALUE", type := .long, accessFlags := 25, slot := 1, constantValue := 0 }, { name := "TYPE", type := (.object "java/lang/Class"), accessFlags := 25, slot := 2, constantValue := 0 }, { name := "value", type := .long, accessFlags := 18, slot := 0, constantValue := 0 }, { name := "SIZE", type := .int, accessFlags := 25, slot := 3, constantValue := 0 }, { name := "BYTES", type := .int, accessFlags := 25, slot := 4, constantValue := 0 }, { name := "serialVersionUID", type := .long, accessFlags := 26, slot := 5, constantValue := 0 }]
  methods := #[k15m0, k15m1]
  instanceTypes := #[.long]
  staticTypes := #[.long, .long, (.object "java/lang/Class"), .int, .int, .long]
  resolved := Array.replicate 524 none
  statics := none }

def pool16 : Array CpInfo := pool [(1, .class_ 2), (0, u "java/lang/Integer"), (16, u "digits"), (0, u "[C"), (33, u "(I)I"), (30, u "DigitOnes"), (0, u "[B"), (2, u "DigitTens"), (99, .class_ 190), (0, u "java/lang/Integer$IntegerCache"), (3, u "I"), (8, .class_ 204), (0, u "java/lang/Number"), (2, u "value"), (56, .integer 65536), (37, u "TYPE"), (0, u "Ljava/lang/Class;"), (0, .class_ 305), (0, u "java/lang/Comparable"), (0, .class_ 307), (0, u "java/lang/constant/Constable"), (0, .class_ 309), (0, u "java/lang/constant/ConstantDesc"), (0, u "MIN_VALUE"), (1, u "MAX_VALUE"), (3, u "SIZE"), (1, u "BYTES"), (1, u "serialVersionUID"), (0, u "J"), (84, u "numberOfTrailingZeros")] 46

def k16c0 : Code := { maxStack := 3, maxLocals := 2, code := jdk_33_method_48_code, exceptionTable := #[], attributes := #[] }
def k16m0 : Method := { name := "numberOfTrailingZeros", desc := "(I)I", sig := { parameters := [.int], returnType := some .int }, accessFlags := 9, code := some k16c0 }
/-- java/lang/Integer -/
def k16 : Class := { plain "java/lang/Integer" (some 14) with
  accessFlags := 49
  interfaces := #[6, 5, 11]
  cf := some (fileOf pool16 1 #[.nestMembers #[189]] #[{ accessFlags := 9, nameIndex := 406, descriptorIndex := 54, attributes := #[] }] 49 203 #[304, 306, 308] #[{ accessFlags := 25, nameIndex := 310, descriptorIndex := 194, attributes := #[] }, { accessFlags := 25, nameIndex := 312, descriptorIndex := 194, attributes := #[] }, { accessFlags := 25, nameIndex := 302, descriptorIndex := 303, attributes := #[] }, { accessFlags := 24, nameIndex := 19, descriptorIndex := 20, attributes := #[] }, { accessFlags := 24, nameIndex := 89, descriptorIndex := 86, attributes := #[] }, { accessFlags := 24, nameIndex := 85, descriptorIndex := 86, attributes := #[] }, { accessFlags := 18, nameIndex := 207, descriptorIndex := 194, attributes := #[] }, { accessFlags := 25, nameIndex := 316, descriptorIndex := 194, attributes := #[] }, { accessFlags := 25, nameIndex := 318, descriptorIndex := 194, attributes := #[] }, { accessFlags := 26, nameIndex := 320, descriptorIndex := 321, attributes := #[] }])
  fields := #[{ name := "MIN_VALUE", type := .int, accessFlags := 25, slot := 0, constantValue := 0 }, { name := "MAX_VALUE", type := .int, accessFlags := 25, slot := 1, constantValue := 0 }, { name := "TYPE", type := (.object "java/lang/Class"), accessFlags := 25, slot := 2, constantValue := 0 }, { name := "digits", type := (.array .char), accessFlags := 24, slot := 3, constantValue := 0 }, { name := "DigitTens", type := (.array .byte), accessFlags := 24, slot := 4, constantValue := 0 }, { name := "DigitOnes", type := (.array .byte), accessFlags := 24, slot := 5, constantValue := 0 }, { name := "value", type := .int, accessFlags := 18, slot := 0, constantValue := 0 }, { name := "SIZE", type := .int, accessFlags := 25, slot := 6, constantValue := 0 }, { name := "BYTES", type := .int, accessFlags := 25, slot := 7, constantValue := 0 }, { name := "serialVersionUID", type := .long, accessFlags := 26, slot := 8, constantValue := 0 }]
  methods := #[k16m0]
  instanceTypes := #[.int]
  staticTypes := #[.int, .int, (.object "java/lang/Class"), (.array .char), (.array .byte), (.array .byte), .int, .int, .long]
  resolved := Array.replicate 453 none
  statics := none }

def pool17 : Array CpInfo := pool [(8, .class_ 10), (1, u "com/example/residuum/residuum/QuotientRounding$1"), (0, u "$SwitchMap$java$math$RoundingMode"), (0, u "[I"), (31, .class_ 45), (0, u "java/lang/Object"), (8, .class_ 55), (0, u "com/example/residuum/residuum/QuotientRounding")] 2

/-- com/example/residuum/residuum/QuotientRounding$1 -/
def k17 : Class := { plain "com/example/residuum/residuum/QuotientRounding$1" (some 0) with
  accessFlags := 4128
  interfaces := #[]
  cf := some (fileOf pool17 8 #[.nestHost 54] #[] 4128 44 #[] #[{ accessFlags := 4120, nameIndex := 11, descriptorIndex := 12, attributes := #[] }])
  fields := #[{ name := "$SwitchMap$java$math$RoundingMode", type := (.array .int), accessFlags := 4120, slot := 0, constantValue := 0 }]
  methods := #[]
  instanceTypes := #[]
  staticTypes := #[(.array .int)]
  resolved := Array.replicate 58 none
  statics := some 1 }

def pool18 : Array CpInfo := pool [(1, u "java/lang/Cloneable"), (0, .class_ 1), (0, u "java/lang/Object"), (0, .class_ 3)] 3

/-- java/lang/Cloneable -/
def k18 : Class := { plain "java/lang/Cloneable" (some 0) with
  accessFlags := 1537
  interfaces := #[]
  cf := some (fileOf pool18 2 #[] #[] 1537 4 #[] #[])
  fields := #[]
  methods := #[]
  instanceTypes := #[]
  staticTypes := #[]
  resolved := Array.replicate 8 none
  statics := none }

/-- the primitive byte -/
def k19 : Class := { plain "byte" none with kind := .primitive 'B', accessFlags := 0x411 }
/-- [B -/
def k20 : Class := { plain "[B" (some 0) with kind := .array 19 .byte, interfaces := #[18, 7], accessFlags := 1041 }

/-- the primitive int -/
def k21 : Class := { plain "int" none with kind := .primitive 'I', accessFlags := 0x411 }
/-- [I -/
def k22 : Class := { plain "[I" (some 0) with kind := .array 21 .int, interfaces := #[18, 7], accessFlags := 1041 }

def heap : Heap := #[{ cls := 9, slots := #[.null, .null, .ref 4, .ref 3, .null, .null, .null, .null, .null], vm := .statics 9 },
  { cls := 17, slots := #[.ref 2], vm := .statics 17 },
  { cls := 22, slots := #[.int 2, .int 1, .int 3, .int 4, .int 5, .int 6, .int 7, .int 8], vm := .none },
  { cls := 9, slots := #[.ref 5, .int 3, .int 0, .int 3], vm := .none },
  { cls := 9, slots := #[.ref 6, .int 2, .int 0, .int 2], vm := .none },
  { cls := 12, slots := #[.null, .int 0, .int 0, .int 0], vm := .none },
  { cls := 12, slots := #[.null, .int 0, .int 0, .int 0], vm := .none }]
def classes : Array Class := #[k0, k1, k2, k3, k4, k5, k6, k7, k8, k9, k10, k11, k12, k13, k14, k15, k16, k17, k18, k19, k20, k21, k22]
def interned : List (Array UInt16 × Addr) := []
def slotsUsed : Nat := 34
def theMethod : MethodId := ⟨1, 1⟩
def args0 : Array Value := #[.int 7, .int 3]
def aboutOver (below : List Frame) : State where
  vm := { classes := classes, interned := interned.toArray }
  heap := heap
  slotsUsed := slotsUsed
  threads := #[{ frames := .invoking theMethod args0 :: below }]
def below0 : List Frame := [.native { method := ⟨0, 0⟩, args := #[] }]
def about1 : State := aboutOver below0
def p0 : Program := .bare "" "" ""
def e0 : Env := launch0.env 0 0 0
theorem w_frames : about1.frames = Frame.invoking theMethod args0 :: below0 := rfl
set_option maxRecDepth 65536 in
theorem w_args : argsFit about1.vm theMethod args0 = true := by decide +kernel
set_option maxRecDepth 65536 in
theorem w_heap : heapFits about1 = true := by decide +kernel
set_option maxRecDepth 65536 in
theorem w_runnable : about1.curStatus? = some .runnable := by decide +kernel
set_option maxRecDepth 65536 in
theorem w_alone : about1.alone = true := by decide +kernel
set_option maxRecDepth 65536 in
theorem w_named : about1.methodNamed? x = some theMethod := by decide +kernel
set_option maxRecDepth 65536 in
theorem w_hears : about1.hears theMethod below0 = true := by decide +kernel
set_option maxRecDepth 65536 in
theorem w_ripe : about1.ripe theMethod args0 below0 = true := by decide +kernel
theorem w_running : about1.status = .running := rfl
set_option maxRecDepth 65536 in
theorem w_room : about1.hasRoom e0.platform room_1 = true :=
  launch0.hasRoom_least _ room_1 (by decide +kernel) (by decide +kernel) (by decide +kernel) (by decide +kernel) (by decide +kernel) (by decide +kernel)
theorem allAtoms_all (ts : List Jvm.Cond) (a : Array Jvm.Value) (st : Jvm.State) : (allAtoms ts).before a st = ts.all (fun c => c.before a st) := by
  induction ts with
  | nil => rfl
  | cons c t ih =>
    show (Jvm.Cond.and c (allAtoms t)).before a st = _
    rw [Jvm.Cond.before_and, ih, List.all_cons]
def words1 : List Jvm.Cond := Jvm.Cond.code x code maxLocals ret :: tables_1
/-- a 'code' word, met by the world's own term for the bytes: nothing is compared byte by byte -/
theorem code_word {y : MethodName} {bytes : ByteArray} {mx : Nat} {rt : Option FieldType} {a : Array Value} {s : State} {m : MethodId} {meth : Method} {c : Code} (h1 : s.methodNamed? y = some m) (h2 : s.vm.method? m = some meth) (h3 : meth.code = some c) (h4 : c.code = bytes)
    (h5 : (c.maxLocals == mx && c.exceptionTable.isEmpty && decide (c.maxStack ≤ mostOperands) && decide (meth.sig.returnType = rt) && !meth.locks && decide (parseMethodDescriptor y.desc = some meth.sig)) = true) : (Jvm.Cond.code y bytes mx rt).before a s = true := by
  simp only [Bool.and_eq_true, beq_iff_eq, Bool.not_eq_true', decide_eq_true_eq] at h5
  obtain ⟨⟨⟨⟨⟨g1, g2⟩, g3⟩, g4⟩, g5⟩, g6⟩ := h5
  simp [Cond.before, Cond.holds, Cond.value, h1, h2, h3, h4, g1, g2, g3, g4, g5, g6]
def isCode : Jvm.Cond → Bool
  | .code _ _ _ _ => true
  | _ => false
theorem all_split {L : List Jvm.Cond} {P : Jvm.Cond → Bool} (h1 : L.all (fun c => isCode c || P c) = true) (h2 : ∀ c ∈ L.filter isCode, P c = true) : L.all P = true := by
  refine List.all_eq_true.mpr fun c hc => ?_
  have h := List.all_eq_true.mp h1 c hc
  rcases Bool.eq_false_or_eq_true (isCode c) with hi | hi
  · exact h2 c (List.mem_filter.mpr ⟨hc, hi⟩)
  · simpa [hi] using h
set_option maxRecDepth 65536 in
theorem w_c0 : (Jvm.Cond.code x code maxLocals ret).before args0 about1 = true := code_word (m := ⟨1, 1⟩) (meth := k1m1) (c := k1c1) (by decide +kernel) rfl rfl rfl (by decide +kernel)
set_option maxRecDepth 65536 in
theorem w_c1 : (Jvm.Cond.code ({ cls := "java/lang/Math", name := "abs", desc := "(J)J" } : Jvm.MethodName) jdk_29_method_61_code (2 : Nat) (Option.some Jvm.ClassFile.FieldType.long)).before args0 about1 = true := code_word (m := ⟨2, 1⟩) (meth := k2m1) (c := k2c1) (by decide +kernel) rfl rfl rfl (by decide +kernel)
set_option maxRecDepth 65536 in
theorem w_c2 : (Jvm.Cond.code ({ cls := "com/example/residuum/residuum/Remainder", name := "euclidean", desc := "(II)I" } : Jvm.MethodName) prog_9_method_4_code (2 : Nat) (Option.some Jvm.ClassFile.FieldType.int)).before args0 about1 = true := code_word (m := ⟨3, 3⟩) (meth := k3m3) (c := k3c3) (by decide +kernel) rfl rfl rfl (by decide +kernel)
set_option maxRecDepth 65536 in
theorem w_c3 : (Jvm.Cond.code ({ cls := "com/example/residuum/residuum/QuotientRounding", name := "euclideanMode", desc := "(Z)Ljava/math/RoundingMode;" } : Jvm.MethodName) prog_7_method_3_code (2 : Nat) (Option.some (Jvm.ClassFile.FieldType.object "java/math/RoundingMode"))).before args0 about1 = true := code_word (m := ⟨4, 2⟩) (meth := k4m2) (c := k4c2) (by decide +kernel) rfl rfl rfl (by decide +kernel)
set_option maxRecDepth 65536 in
theorem w_c4 : (Jvm.Cond.code ({ cls := "com/example/residuum/residuum/Remainder", name := "remainder", desc := "(IILjava/math/RoundingMode;)I" } : Jvm.MethodName) prog_9_method_2_code (3 : Nat) (Option.some Jvm.ClassFile.FieldType.int)).before args0 about1 = true := code_word (m := ⟨3, 1⟩) (meth := k3m1) (c := k3c1) (by decide +kernel) rfl rfl rfl (by decide +kernel)
set_option maxRecDepth 65536 in
theorem w_c5 : (Jvm.Cond.code ({ cls := "com/example/residuum/residuum/Remainder", name := "remainder", desc := "(JJLjava/math/RoundingMode;)J" } : Jvm.MethodName) prog_9_method_3_code (14 : Nat) (Option.some Jvm.ClassFile.FieldType.long)).before args0 about1 = true := code_word (m := ⟨3, 2⟩) (meth := k3m2) (c := k3c2) (by decide +kernel) rfl rfl rfl (by decide +kernel)
set_option maxRecDepth 65536 in
theorem w_c6 : (Jvm.Cond.code ({ cls := "java/util/Objects", name := "requireNonNull", desc := "(Ljava/lang/Object;Ljava/lang/String;)Ljava/lang/Object;" } : Jvm.MethodName) jdk_31_method_11_code (2 : Nat) (Option.some (Jvm.ClassFile.FieldType.object "java/lang/Object"))).before args0 about1 = true := code_word (m := ⟨13, 1⟩) (meth := k13m1) (c := k13c1) (by decide +kernel) rfl rfl rfl (by decide +kernel)
set_option maxRecDepth 65536 in
theorem w_c7 : (Jvm.Cond.code ({ cls := "java/lang/Long", name := "compare", desc := "(JJ)I" } : Jvm.MethodName) jdk_35_method_42_code (4 : Nat) (Option.some Jvm.ClassFile.FieldType.int)).before args0 about1 = true := code_word (m := ⟨15, 0⟩) (meth := k15m0) (c := k15c0) (by decide +kernel) rfl rfl rfl (by decide +kernel)
set_option maxRecDepth 65536 in
theorem w_c8 : (Jvm.Cond.code ({ cls := "java/lang/Long", name := "numberOfTrailingZeros", desc := "(J)I" } : Jvm.MethodName) jdk_35_method_49_code (3 : Nat) (Option.some Jvm.ClassFile.FieldType.int)).before args0 about1 = true := code_word (m := ⟨15, 1⟩) (meth := k15m1) (c := k15c1) (by decide +kernel) rfl rfl rfl (by decide +kernel)
set_option maxRecDepth 65536 in
theorem w_c9 : (Jvm.Cond.code ({ cls := "java/lang/Integer", name := "numberOfTrailingZeros", desc := "(I)I" } : Jvm.MethodName) jdk_33_method_48_code (2 : Nat) (Option.some Jvm.ClassFile.FieldType.int)).before args0 about1 = true := code_word (m := ⟨16, 0⟩) (meth := k16m0) (c := k16c0) (by decide +kernel) rfl rfl rfl (by decide +kernel)
set_option maxRecDepth 65536 in
theorem w_c10 : (Jvm.Cond.code ({ cls := "com/example/residuum/residuum/QuotientRounding", name := "stepsAway", desc := "(Ljava/math/RoundingMode;ZIZ)Z" } : Jvm.MethodName) prog_7_method_2_code (5 : Nat) (Option.some Jvm.ClassFile.FieldType.boolean)).before args0 about1 = true := code_word (m := ⟨4, 1⟩) (meth := k4m1) (c := k4c1) (by decide +kernel) rfl rfl rfl (by decide +kernel)
set_option maxRecDepth 65536 in
theorem w_c11 : (Jvm.Cond.code ({ cls := "java/lang/Enum", name := "ordinal", desc := "()I" } : Jvm.MethodName) jdk_37_method_2_code (1 : Nat) (Option.some Jvm.ClassFile.FieldType.int)).before args0 about1 = true := code_word (m := ⟨8, 0⟩) (meth := k8m0) (c := k8c0) (by decide +kernel) rfl rfl rfl (by decide +kernel)
def codes1 : List Jvm.Cond := [Jvm.Cond.code x code maxLocals ret, Jvm.Cond.code ({ cls := "java/lang/Math", name := "abs", desc := "(J)J" } : Jvm.MethodName) jdk_29_method_61_code (2 : Nat) (Option.some Jvm.ClassFile.FieldType.long), Jvm.Cond.code ({ cls := "com/example/residuum/residuum/Remainder", name := "euclidean", desc := "(II)I" } : Jvm.MethodName) prog_9_method_4_code (2 : Nat) (Option.some Jvm.ClassFile.FieldType.int), Jvm.Cond.code ({ cls := "com/example/residuum/residuum/QuotientRounding", name := "euclideanMode", desc := "(Z)Ljava/math/RoundingMode;" } : Jvm.MethodName) prog_7_method_3_code (2 : Nat) (Option.some (Jvm.ClassFile.FieldType.object "java/math/RoundingMode")), Jvm.Cond.code ({ cls := "com/example/residuum/residuum/Remainder", name := "remainder", desc := "(IILjava/math/RoundingMode;)I" } : Jvm.MethodName) prog_9_method_2_code (3 : Nat) (Option.some Jvm.ClassFile.FieldType.int), Jvm.Cond.code ({ cls := "com/example/residuum/residuum/Remainder", name := "remainder", desc := "(JJLjava/math/RoundingMode;)J" } : Jvm.MethodName) prog_9_method_3_code (14 : Nat) (Option.some Jvm.ClassFile.FieldType.long), Jvm.Cond.code ({ cls := "java/util/Objects", name := "requireNonNull", desc := "(Ljava/lang/Object;Ljava/lang/String;)Ljava/lang/Object;" } : Jvm.MethodName) jdk_31_method_11_code (2 : Nat) (Option.some (Jvm.ClassFile.FieldType.object "java/lang/Object")), Jvm.Cond.code ({ cls := "java/lang/Long", name := "compare", desc := "(JJ)I" } : Jvm.MethodName) jdk_35_method_42_code (4 : Nat) (Option.some Jvm.ClassFile.FieldType.int), Jvm.Cond.code ({ cls := "java/lang/Long", name := "numberOfTrailingZeros", desc := "(J)I" } : Jvm.MethodName) jdk_35_method_49_code (3 : Nat) (Option.some Jvm.ClassFile.FieldType.int), Jvm.Cond.code ({ cls := "java/lang/Integer", name := "numberOfTrailingZeros", desc := "(I)I" } : Jvm.MethodName) jdk_33_method_48_code (2 : Nat) (Option.some Jvm.ClassFile.FieldType.int), Jvm.Cond.code ({ cls := "com/example/residuum/residuum/QuotientRounding", name := "stepsAway", desc := "(Ljava/math/RoundingMode;ZIZ)Z" } : Jvm.MethodName) prog_7_method_2_code (5 : Nat) (Option.some Jvm.ClassFile.FieldType.boolean), Jvm.Cond.code ({ cls := "java/lang/Enum", name := "ordinal", desc := "()I" } : Jvm.MethodName) jdk_37_method_2_code (1 : Nat) (Option.some Jvm.ClassFile.FieldType.int)]
set_option maxRecDepth 65536 in
theorem codes_eq : words1.filter isCode = codes1 := rfl
theorem w_codes : ∀ c ∈ words1.filter isCode, c.before args0 about1 = true := by
  rw [codes_eq]
  intro c hc
  simp only [codes1, List.mem_cons, List.not_mem_nil, or_false] at hc
  rcases hc with rfl | rfl | rfl | rfl | rfl | rfl | rfl | rfl | rfl | rfl | rfl | rfl
  · exact w_c0
  · exact w_c1
  · exact w_c2
  · exact w_c3
  · exact w_c4
  · exact w_c5
  · exact w_c6
  · exact w_c7
  · exact w_c8
  · exact w_c9
  · exact w_c10
  · exact w_c11
set_option maxRecDepth 65536 in
theorem w_t1 : (words1.take 24).all (fun c => isCode c || c.before args0 about1) = true := by decide +kernel
set_option maxRecDepth 65536 in
theorem w_t2 : ((words1.drop 24).take 24).all (fun c => isCode c || c.before args0 about1) = true := by decide +kernel
set_option maxRecDepth 65536 in
theorem w_t3 : ((words1.drop 24).drop 24).all (fun c => isCode c || c.before args0 about1) = true := by decide +kernel
theorem w_tables : (allAtoms (Jvm.Cond.code x code maxLocals ret :: tables_1)).before args0 about1 = true := by
  rw [allAtoms_all]
  show words1.all (fun c => c.before args0 about1) = true
  refine all_split ?_ w_codes
  rw [← List.take_append_drop 24 words1, List.all_append, w_t1, ← List.take_append_drop 24 (words1.drop 24), List.all_append, w_t2, w_t3]
  rfl
set_option maxRecDepth 65536 in
theorem w_rest : rest_1_c.before args0 about1 = true := by decide +kernel
set_option maxRecDepth 65536 in
theorem w_case : (Jvm.Cond.and given_1 narrow_1).before args0 about1 = true := by decide +kernel
theorem w_applies : (headSpec (Jvm.Cond.code x code maxLocals ret :: tables_1) room_1).applies x e0.platform about1 = true :=
  (Spec.applies_iff w_frames).mpr ⟨w_running, w_runnable, w_alone, w_named, w_hears, w_ripe, w_room, w_tables⟩
theorem atStart : AtStart classFile x code maxLocals ret World_1 tables_1 room_1 Calls_1 rest_1 Pre_1 launch0 p0 e0 about1 theMethod args0 below0 :=
  ⟨lists_1, trivial, launch0.admits_env _ _ _, launch0.least_env, fairChoices_fair.cas, fairChoices_fair.clock, w_frames, w_args, w_heap, w_applies, trivial, w_rest, w_case⟩
end start1
theorem witness_1 : WitnessClaimed_1 := ⟨start1.p0, start1.e0, start1.about1, start1.theMethod, start1.args0, start1.below0, start1.atStart⟩
end Jvm.Pilot.@@N@@
