import JvmDerived
import JvmDerived.Pilot.@@N@@Statement
import JvmDerived.Pilot.@@N@@Code
set_option linter.unusedVariables false
set_option linter.unusedSimpArgs false
namespace Jvm.Pilot.@@N@@
open Jvm Jvm.ClassFile Sem Op Lib Jvm.Free Jvm.Stand Jvm.LawKit Jvm.RoadKit Bundle Jvm.Pilot.@@N@@.Jvm.D
/-! ### how a walk is told: 'own_Go' says that from here the body comes to its end, and what holds there -/
section OwnKit
variable {p : Program} {l : Launch} {e : Env} {R : Room} {s : State} {m : MethodId} {args : Array Value} {below : List Frame} {meth : Method} {c : Code} {T T' : State} {locs : List Loc} {cells slots kc ks : Nat} {F : Option Value → State → Prop} {Q : Option Value → Heap → List Loc → Prop} {g g' : JFrame} {Z : State} {a0 : Array Value} {h0 : Heap}
def own_Go (p : Program) (e : Env) (below : List Frame) (F : Option Value → State → Prop) (T : State) (g : JFrame) : Prop :=
  ∃ U v, Steps p.tables e below (T.setTop g) U ∧ U.status = .running ∧ Ended U below (.returned v) ∧ F v U
def own_N (s : State) (kc ks : Nat) (Q : Option Value → Heap → List Loc → Prop) : Option Value → State → Prop := fun v U => ∃ L, Q v U.heap L ∧ FrameEnd s (.returned v) U L kc ks
def own_W (s : State) (kc ks : Nat) (Q : Option Value → Heap → List Loc → Prop) : Option Value → State → Prop := fun v U => ∃ L, Q v U.heap L ∧ ReturnedEndW s (.returned v) U L kc ks
theorem own_st (h : ∀ t, Steps p.tables e below (T'.setTop g') t → Steps p.tables e below (T.setTop g) t) (G : own_Go p e below F T' g') : own_Go p e below F T g := by
  obtain ⟨U, v, h1, r⟩ := G
  exact ⟨U, v, h _ h1, r⟩
theorem own_ret (X : Stand p l e R s m args below meth c T locs cells slots) (hx : p.tables.exec = Jvm.exec) (hlk : meth.locks = false) {pc : Nat} {Ls : Array Slot} {w : Value} {t : FieldType} {i : Instr} {rest : List Value} (hret : meth.sig.returnType = some t) (hn : narrow t w = w)
    (hi : (i = .ireturn ∧ (t = .int ∨ t = .boolean ∨ t = .byte ∨ t = .char ∨ t = .short) ∧ ∃ z, w = .int z) ∨ (i = .lreturn ∧ t = .long ∧ ∃ z, w = .long z) ∨ (i = .dreturn ∧ t = .double ∧ ∃ z, w = .double z) ∨ (i = .freturn ∧ t = .float ∧ ∃ z, w = .float z) ∨ (i = .areturn ∧ t.isReference = true ∧ w.isRef = true))
    (hd : decode c.code pc = .ok (i, 1)) (hc : cells ≤ kc) (hs : slots ≤ ks) (q : Q (some w) T.heap locs) : own_Go p e below (own_N s kc ks Q) T (mkF m pc Ls (w :: rest)) := by
  obtain ⟨fs, hr, hrun, hended, hW, hsame⟩ := X.leave (v := some w) (fun h => by rw [hret] at h; cases h) hlk
  exact ⟨_, _, retOut X hx hret hn hi hd hr, hrun, hended, _, q, ⟨_, rfl⟩, hW, hsame.mono hc hs⟩
theorem own_retV (X : Stand p l e R s m args below meth c T locs cells slots) (hx : p.tables.exec = Jvm.exec) (hlk : meth.locks = false) {pc : Nat} {Ls : Array Slot} (hret : meth.sig.returnType = none) (hd : decode c.code pc = .ok (.return_, 1)) (hc : cells ≤ kc) (hs : slots ≤ ks) (q : Q none T.heap locs) : own_Go p e below (own_N s kc ks Q) T (mkF m pc Ls []) := by
  obtain ⟨fs, hr, hrun, hended, hW, hsame⟩ := X.leave (v := none) (fun _ => rfl) hlk
  exact ⟨_, _, X.returnOut hx hret hd hr, hrun, hended, _, q, ⟨_, rfl⟩, hW, hsame.mono hc hs⟩
theorem own_he {h h' : Heap} {a : Addr} {c : Cell} (e : h' = h) (q : h[a]? = some c) : h'[a]? = some c := by rw [e]; exact q
theorem own_cat1 {w : Value} (h : w.isRef = true) : w.category = 1 := by
  rcases ref_cases h with rfl | ⟨a, rfl⟩ <;> rfl
/-- what a body does, begun at the heap h0 with these arguments -/
def own_Met (l : Launch) (Z : State) (h0 : Heap) (ws : List Jvm.Cond) (rm : Room) (y : MethodName) (bytes : ByteArray) (maxL : Nat) (ret : Option FieldType) (as' : Array Value) (Q : Option Value → Heap → List Loc → Prop) : Prop :=
  MetFree l y (head1 (Jvm.Cond.code y bytes maxL ret :: ws) rm) (fun a U => a = as' ∧ Z.Warmed39 U.vm ∧ U.heap = h0) (fun _ _ _ _ _ => True) (fun _ U o U' => ∃ v L, o = .returned v ∧ Q v U'.heap L ∧ FrameEnd U o U' L rm.cells rm.slots)
/-- it returns w and writes nothing -/
def own_Pure (l : Launch) (Z : State) (h0 : Heap) (ws : List Jvm.Cond) (rm : Room) (y : MethodName) (bytes : ByteArray) (maxL : Nat) (ret : Option FieldType) (as' : Array Value) (w : Option Value) : Prop :=
  own_Met l Z h0 ws rm y bytes maxL ret as' (fun v h L => v = w ∧ L = [] ∧ h = h0)
theorem own_body {ws : List Jvm.Cond} {rm : Room} {y : MethodName} {bytes : ByteArray} {maxL : Nat} {ret : Option FieldType} {as' : Array Value} (hpl : plainFor y = true)
    (H : ∀ (p : Program) (e : Env) (s : State) (m : MethodId) (below : List Frame) (meth : Method) (c : Code) (T : State), Stand p l e rm s m as' below meth c T [] 0 0 → p.tables.exec = Jvm.exec → c.code = bytes → c.maxLocals = maxL → s.vm.findClass y.cls = some m.cls → Z.Warmed39 s.vm → T.heap = h0 → meth.sig.returnType = ret → meth.locks = false → meth.name = y.name → s.methodNamed? y = some m →
      own_Go p e below (own_N s rm.cells rm.slots Q) T (entryFrame m as' maxL)) : own_Met l Z h0 ws rm y bytes maxL ret as' Q := by
  refine MetFree.of_bodySF hpl hisR ?_
  intro p e s m args below meth c s₁ Bd hml0 hP hK
  obtain ⟨rfl, hZ, hh⟩ := hP
  obtain ⟨U, v, h1, h2, h3, L, h4, h5⟩ := H p e s m below meth c s₁ (Stand.of_body Bd) Bd.exec Bd.bytes hml0 (findClass_of_methodNamed Bd.named) hZ (by rw [← hh, Bd.state]; rfl) Bd.returns Bd.notSynchronized (name_of_methodNamed Bd.named Bd.method).1 Bd.named
  exact ⟨U, _, h1, h2, h3, v, L, rfl, h4, h5⟩
theorem own_gS {rm : Room} {y : MethodName} {bytes : ByteArray} {maxL W index : Nat} {ret : Option FieldType} {own : String} {argsL rest : List Value} (X : Stand p l e R s m args below meth c T locs cells slots) (hx : p.tables.exec = Jvm.exec) (hZ : Z.Warmed39 s.vm) (hown : s.vm.findClass own = some m.cls)
    (w1 : (Jvm.Cond.methodLink own index y).before a0 Z = true) (w2 : (Jvm.Cond.static y).before a0 Z = true) (w3 : (Jvm.Cond.initialized y.cls).before a0 Z = true) (w4 : (Jvm.Cond.code y bytes maxL ret).before a0 Z = true) (hy : y.cls ≠ "java/lang/invoke/MethodHandle" ∧ y.cls ≠ "java/lang/invoke/VarHandle") (eT : T.heap = h0)
    (hM : own_Met l Z h0 [] rm y bytes maxL ret argsL.toArray Q) (hf : rm.frames + 1 ≤ R.frames) (hl : W + (maxL + 11) + rm.locals ≤ R.locals) (hc1 : cells + rm.cells ≤ R.cells) (hs1 : slots + rm.slots ≤ R.slots)
    (hg : g.method = m) (hsize : g.locals.size = c.maxLocals) (hlen : ∀ sig, parseMethodDescriptor y.desc = some sig → argsL.length = sig.parameters.length) (hstack : g.stack = argsL.reverse ++ rest) (hW : 2 * g.monitorRoom + (rest.map fun v => v.category).sum ≤ W) (hdg : decode c.code g.pc = .ok (.invokestatic index, 3)) :
    ∃ (v : Option Value) (T' : State) (L : List Loc), Stand p l e R s m args below meth c T' (locs ++ L) (cells + rm.cells) (slots + rm.slots) ∧ Q v T'.heap L ∧ ∀ target, Steps p.tables e below (T'.setTop { g with pc := g.pc + 3, stack := v.toList ++ rest }) target → Steps p.tables e below (T.setTop g) target := by
  obtain ⟨v, _, ⟨T1, L1, k1, n1⟩, -, X1, ⟨Lc, hq, l1, y1, z1⟩, st⟩ := Jvm.LawKit.callS X hx (y := y) hown (mvT hZ w1) (mvT hZ w2) (mvT hZ w3) (mvT hZ w4) hy (backOf (W := W) (Q := Q) hM hZ w4 w3 hf hl) (g := g) hg hsize (argsL := argsL) (rest := rest) hlen hstack hW hdg (fun _ _ => ⟨rfl, eT, hc1, hs1⟩)
  dsimp only [Pt.U, Pt.locs, Pt.cells, Pt.slots] at X1 l1 y1 z1 st hq
  subst l1 y1 z1
  exact ⟨v, T1, Lc, X1, hq, st⟩
theorem own_gV {rm : Room} {y z : MethodName} {bytes : ByteArray} {maxL W index : Nat} {ret : Option FieldType} {own C : String} {argsL rest : List Value} {b : Addr} (X : Stand p l e R s m args below meth c T locs cells slots) (hx : p.tables.exec = Jvm.exec) (hZ : Z.Warmed39 s.vm) (hown : s.vm.findClass own = some m.cls)
    (w1 : (Jvm.Cond.methodLink own index y).before a0 Z = true) (w2 : (Jvm.Cond.declares y).before a0 Z = true) (hnf : NotFace s y) (w5 : (Jvm.Cond.selects C y z).before a0 Z = true) (w6 : (Jvm.Cond.instanceMethod z).before a0 Z = true) (w3 : (Jvm.Cond.initialized z.cls).before a0 Z = true) (w4 : (Jvm.Cond.code z bytes maxL ret).before a0 Z = true) (hy : y.cls ≠ "java/lang/invoke/MethodHandle" ∧ y.cls ≠ "java/lang/invoke/VarHandle") (eT : T.heap = h0) (E : Exa Z h0 b C)
    (hM : own_Met l Z h0 [] rm z bytes maxL ret (.ref b :: argsL).toArray Q) (hf : rm.frames + 1 ≤ R.frames) (hl : W + (maxL + 11) + rm.locals ≤ R.locals) (hc1 : cells + rm.cells ≤ R.cells) (hs1 : slots + rm.slots ≤ R.slots)
    (hg : g.method = m) (hsize : g.locals.size = c.maxLocals) (hlen : ∀ sig, parseMethodDescriptor y.desc = some sig → argsL.length = sig.parameters.length) (hstack : g.stack = argsL.reverse ++ .ref b :: rest) (hW : 2 * g.monitorRoom + (rest.map fun v => v.category).sum ≤ W) (hdg : decode c.code g.pc = .ok (.invokevirtual index, 3)) :
    ∃ (v : Option Value) (T' : State) (L : List Loc), Stand p l e R s m args below meth c T' (locs ++ L) (cells + rm.cells) (slots + rm.slots) ∧ Q v T'.heap L ∧ ∀ target, Steps p.tables e below (T'.setTop { g with pc := g.pc + 3, stack := v.toList ++ rest }) target → Steps p.tables e below (T.setTop g) target := by
  obtain ⟨cq, kq, qa, qb, qc⟩ := isOf hZ eT E
  obtain ⟨v, _, ⟨T1, L1, k1, n1⟩, -, X1, ⟨Lc, hq, l1, y1, z1⟩, st⟩ := X.virtualBack hx (y := y) (z := z) hown (mvT hZ w1) (mvT hZ w2) hnf (mvT hZ w5) (mvT hZ w6) hy (backOf (W := W) (Q := Q) hM hZ w4 w3 hf hl) qa qc (g := g) hg hsize (Steps.refl _) (argsL := argsL) (rest := rest) hlen hstack hW hdg (fun _ _ => ⟨rfl, eT, hc1, hs1⟩)
  dsimp only [Pt.U, Pt.locs, Pt.cells, Pt.slots] at X1 l1 y1 z1 st hq
  subst l1 y1 z1
  exact ⟨v, T1, Lc, X1, hq, fun _ k => st.trans k⟩
theorem own_gVU {rm : Room} {y z : MethodName} {owner : String} {bytes : ByteArray} {maxL W index : Nat} {ret : Option FieldType} {own C : String} {argsL rest : List Value} {b : Addr} (X : Stand p l e R s m args below meth c T locs cells slots) (hx : p.tables.exec = Jvm.exec) (hZ : Z.Warmed39 s.vm) (hown : s.vm.findClass own = some m.cls)
    (w1 : (Jvm.Cond.methodLink own index y).before a0 Z = true) (wsm : (Jvm.Cond.sameMethod y.cls owner y.name y.desc).before a0 Z = true) (w2 : (Jvm.Cond.declares ⟨owner, y.name, y.desc⟩).before a0 Z = true) (ho : owner ≠ "java/lang/invoke/MethodHandle" ∧ owner ≠ "java/lang/invoke/VarHandle") (w5 : (Jvm.Cond.selects C y z).before a0 Z = true) (w6 : (Jvm.Cond.instanceMethod z).before a0 Z = true) (w3 : (Jvm.Cond.initialized z.cls).before a0 Z = true) (w4 : (Jvm.Cond.code z bytes maxL ret).before a0 Z = true) (eT : T.heap = h0) (E : Exa Z h0 b C)
    (hM : own_Met l Z h0 [] rm z bytes maxL ret (.ref b :: argsL).toArray Q) (hf : rm.frames + 1 ≤ R.frames) (hl : W + (maxL + 11) + rm.locals ≤ R.locals) (hc1 : cells + rm.cells ≤ R.cells) (hs1 : slots + rm.slots ≤ R.slots)
    (hg : g.method = m) (hsize : g.locals.size = c.maxLocals) (hlen : ∀ sig, parseMethodDescriptor y.desc = some sig → argsL.length = sig.parameters.length) (hstack : g.stack = argsL.reverse ++ .ref b :: rest) (hW : 2 * g.monitorRoom + (rest.map fun v => v.category).sum ≤ W) (hdg : decode c.code g.pc = .ok (.invokevirtual index, 3)) :
    ∃ (v : Option Value) (T' : State) (L : List Loc), Stand p l e R s m args below meth c T' (locs ++ L) (cells + rm.cells) (slots + rm.slots) ∧ Q v T'.heap L ∧ ∀ target, Steps p.tables e below (T'.setTop { g with pc := g.pc + 3, stack := v.toList ++ rest }) target → Steps p.tables e below (T.setTop g) target := by
  obtain ⟨cq, kq, qa, qb, qc⟩ := isOf hZ eT E
  obtain ⟨v, _, ⟨T1, L1, k1, n1⟩, -, X1, ⟨Lc, hq, l1, y1, z1⟩, st⟩ := X.virtualBackUp hx (x := y) (y := z) (owner := owner) hown (mvT hZ w1) (mvT hZ wsm) (mvT hZ w2) ho (mvT hZ w5) (mvT hZ w6) (backOf (W := W) (Q := Q) hM hZ w4 w3 hf hl) qa qc (g := g) hg hsize (Steps.refl _) (argsL := argsL) (rest := rest) hlen hstack hW hdg (fun _ _ => ⟨rfl, eT, hc1, hs1⟩)
  dsimp only [Pt.U, Pt.locs, Pt.cells, Pt.slots] at X1 l1 y1 z1 st hq
  subst l1 y1 z1
  exact ⟨v, T1, Lc, X1, hq, fun _ k => st.trans k⟩
/-- behind a call that writes nothing -/
theorem own_pure {w : Value} {rm : Room} {rest : List Value} (hc0 : rm.cells = 0) (hs0 : rm.slots = 0)
    (H : ∃ (v : Option Value) (T' : State) (L : List Loc), Stand p l e R s m args below meth c T' (locs ++ L) (cells + rm.cells) (slots + rm.slots) ∧ (v = some w ∧ L = [] ∧ T'.heap = h0) ∧ ∀ target, Steps p.tables e below (T'.setTop { g with pc := g.pc + 3, stack := v.toList ++ rest }) target → Steps p.tables e below (T.setTop g) target) :
    ∃ T', Stand p l e R s m args below meth c T' locs cells slots ∧ T'.heap = h0 ∧ ∀ target, Steps p.tables e below (T'.setTop { g with pc := g.pc + 3, stack := w :: rest }) target → Steps p.tables e below (T.setTop g) target := by
  obtain ⟨_, T', _, X', ⟨rfl, rfl, hh⟩, st⟩ := H
  rw [hc0, hs0, List.append_nil] at X'
  exact ⟨T', X', hh, st⟩
/-- what the case says of statics and fields, as facts of the start -/
theorem own_sx {C n d K : String} (h : (Jvm.Cond.exactly (Term.static C n d) K).value args s none s [] = some true) (wi : (Jvm.Cond.initialized C).before args s = true) (wl : (Jvm.Cond.laysStatic C n d).before args s = true) :
    ∃ a, (Term.static C n d).eval args s none [] s = some (.ref a) ∧ Exa s s.heap a K ∧ Sta s s.heap C n d (.ref a) := by
  obtain ⟨a, ev⟩ := exa_v h
  exact ⟨a, ev, Exa.start ev h, Sta.start ev (Or.inr ⟨wi, wl⟩)⟩
theorem own_fi {t : Term} {a : Addr} {C n d : String} {k : Int32} (ev : t.eval args s none [] s = some (.ref a)) (h : (Jvm.Cond.eq (Term.field t C n d) (Term.int k)).value args s none s [] = some true) : Fld s s.heap a C n d (.int k) := by
  have q := eqv_i (Term.int_eval k) h
  rw [fld_at ev] at q
  exact Fld.start q
theorem own_fn {t : Term} {a : Addr} {C n d : String} (ev : t.eval args s none [] s = some (.ref a)) (h : (Jvm.Cond.eq (Term.field t C n d) Term.null).value args s none s [] = some true) : Fld s s.heap a C n d .null := by
  have q := null_v h
  rw [fld_at ev] at q
  exact Fld.start q
theorem own_fx {t : Term} {a : Addr} {C n d K : String} (ev : t.eval args s none [] s = some (.ref a)) (h : (Jvm.Cond.exactly (Term.field t C n d) K).value args s none s [] = some true) : ∃ b, Fld s s.heap a C n d (.ref b) ∧ Exa s s.heap b K := by
  obtain ⟨b, q⟩ := exa_v h
  have E := Exa.start q h
  rw [fld_at ev] at q
  exact ⟨b, Fld.start q, E⟩
theorem own_eqr {t u : Term} {b : Addr} (eu : u.eval args s none [] s = some (.ref b)) (h : (Jvm.Cond.eq t u).value args s none s [] = some true) : t.eval args s none [] s = some (.ref b) := by
  obtain ⟨x, y, h1, h2, -⟩ := cmp_v (Or.inl h)
  rw [eu] at h2
  cases h2
  simp only [Cond.value, h1, eu] at h
  cases x <;> simp_all
theorem own_fs {t u : Term} {a b : Addr} {C n d : String} (ev : t.eval args s none [] s = some (.ref a)) (eu : u.eval args s none [] s = some (.ref b)) (h : (Jvm.Cond.eq (Term.field t C n d) u).value args s none s [] = some true) : Fld s s.heap a C n d (.ref b) := by
  have q := own_eqr eu h
  rw [fld_at ev] at q
  exact Fld.start q
theorem own_ax {C n d : String} {ty : FieldType} (h : (Jvm.Cond.arrayOf (Term.static C n d) ty).value args s none s [] = some true) (wi : (Jvm.Cond.initialized C).before args s = true) (wl : (Jvm.Cond.laysStatic C n d).before args s = true) :
    ∃ b cl, (Term.static C n d).eval args s none [] s = some (.ref b) ∧ Arr s s.heap b cl ty ∧ Sta s s.heap C n d (.ref b) := by
  obtain ⟨b, ev⟩ := arr_v h
  obtain ⟨cl, A⟩ := Arr.start ev h
  exact ⟨b, cl, ev, A, Sta.start ev (Or.inr ⟨wi, wl⟩)⟩
theorem own_len {t : Term} {b : Addr} {cl : Cell} {ty : FieldType} {k : Int32} (ev : t.eval args s none [] s = some (.ref b)) (A : Arr s s.heap b cl ty) (h : (Jvm.Cond.eq (Term.length t) (Term.int k)).value args s none s [] = some true) : cl.slots.size = k.toNatClampNeg := by
  have q := eqv_i (Term.int_eval k) h
  have ha : s.arrayAt? b = some cl := A.fin (Vm.Alike.refl _)
  by_cases hl : cl.slots.size < 2 ^ 31
  · rw [len_f ev ha hl] at q
    have e : cl.slots.size.toInt32 = k := Value.int.inj (Option.some.inj q)
    have e1 := len_toInt hl
    rw [← e]
    simp only [Int32.toNatClampNeg, e1]
    rfl
  · simp [Term.eval, ev, ha, hl] at q
theorem own_elr {t u : Term} {b x : Addr} {cl : Cell} {ty : FieldType} {k : Int32} (ev : t.eval args s none [] s = some (.ref b)) (A : Arr s s.heap b cl ty) (eu : u.eval args s none [] s = some (.ref x)) (h : (Jvm.Cond.eq (Term.elem t (Term.int k)) u).value args s none s [] = some true) : cl.slots[k.toNatClampNeg]? = some (.ref x) :=
  (elem_in (own_eqr eu h) ev (Term.int_eval k) A.1).2
theorem own_eln {t : Term} {b : Addr} {cl : Cell} {ty : FieldType} {k : Int32} (ev : t.eval args s none [] s = some (.ref b)) (A : Arr s s.heap b cl ty) (h : (Jvm.Cond.eq (Term.elem t (Term.int k)) Term.null).value args s none s [] = some true) : cl.slots[k.toNatClampNeg]? = some .null :=
  (elem_in (null_v h) ev (Term.int_eval k) A.1).2
theorem own_eli {t : Term} {b : Addr} {cl : Cell} {ty : FieldType} {k v : Int32} (ev : t.eval args s none [] s = some (.ref b)) (A : Arr s s.heap b cl ty) (h : (Jvm.Cond.eq (Term.elem t (Term.int k)) (Term.int v)).value args s none s [] = some true) : cl.slots[k.toNatClampNeg]? = some (.int v) :=
  (elem_in (eqv_i (Term.int_eval v) h) ev (Term.int_eval k) A.1).2
theorem own_args1 {k : Nat} (h : (Jvm.Cond.and (Jvm.Cond.count 1) (Jvm.Cond.isInt (Term.arg 0))).value args s none s [] = some true) : ∃ a : Int32, args = #[.int a] := by
  obtain ⟨h1, h2⟩ := and_e h
  have hs : args.size = 1 := by simpa [Cond.value] using h1
  obtain ⟨L⟩ := args
  match L, hs with
  | [w0], _ =>
    obtain ⟨i, e0⟩ := is_v h2
    obtain rfl : w0 = (.int i) := Option.some.inj e0
    exact ⟨i, rfl⟩
theorem own_args2 {k : Nat} (h : (Jvm.Cond.and (Jvm.Cond.count 2) (Jvm.Cond.and (Jvm.Cond.isInt (Term.arg 0)) (Jvm.Cond.isInt (Term.arg 1)))).value args s none s [] = some true) : ∃ a b : Int32, args = #[.int a, .int b] := by
  obtain ⟨h1, h2⟩ := and_e h
  obtain ⟨h2, h3⟩ := and_e h2
  have hs : args.size = 2 := by simpa [Cond.value] using h1
  obtain ⟨L⟩ := args
  match L, hs with
  | [w0, w1], _ =>
    obtain ⟨i, e0⟩ := is_v h2
    obtain ⟨j, e1⟩ := is_v h3
    obtain rfl : w0 = (.int i) := Option.some.inj e0
    obtain rfl : w1 = (.int j) := Option.some.inj e1
    exact ⟨i, j, rfl⟩
theorem own_weaken {ws : List Jvm.Cond} {rm : Room} {y : MethodName} {bytes : ByteArray} {maxL : Nat} {ret : Option FieldType} {as' : Array Value} {w : Value} {n0 : Nat} (M : own_Pure l Z h0 ws rm y bytes maxL ret as' (some w)) : own_Met l Z h0 ws rm y bytes maxL ret as' (fun v h L => v = some w ∧ Fr n0 L) := by
  intro p e ha hc hk s m args below hf happ hP hK
  obtain ⟨n, o, h1, h2, h3, v, L, h4, ⟨h5, h6, h7⟩, h8⟩ := M p e ha hc hk s m args below hf happ hP hK
  exact ⟨n, o, h1, h2, h3, v, L, h4, ⟨h5, by rw [h6]; exact Fr.nil n0⟩, h8⟩
end OwnKit
section OwnWide
variable {p : Program} {l : Launch} {e : Env} {R : Room} {s : State} {m : MethodId} {args : Array Value} {below : List Frame} {meth : Method} {c : Code} {T T' : State} {locs : List Loc} {cells slots kc ks k0 : Nat} {F : Option Value → State → Prop} {Q : Option Value → Heap → List Loc → Prop} {g g' : JFrame} {Z : State} {a0 : Array Value} {h0 : Heap} {vm0 : Vm}
theorem own_retW (X : Stand p l e R (s.setVm vm0) m args below meth c T locs cells slots) (hx : p.tables.exec = Jvm.exec) (hlk : meth.locks = false) (hS : s.Since vm0 k0) (hk : k0 ≤ T.heap.size) {pc : Nat} {Ls : Array Slot} {w : Value} {t : FieldType} {i : Instr} {rest : List Value} (hret : meth.sig.returnType = some t) (hn : narrow t w = w)
    (hi : (i = .ireturn ∧ (t = .int ∨ t = .boolean ∨ t = .byte ∨ t = .char ∨ t = .short) ∧ ∃ z, w = .int z) ∨ (i = .lreturn ∧ t = .long ∧ ∃ z, w = .long z) ∨ (i = .dreturn ∧ t = .double ∧ ∃ z, w = .double z) ∨ (i = .freturn ∧ t = .float ∧ ∃ z, w = .float z) ∨ (i = .areturn ∧ t.isReference = true ∧ w.isRef = true))
    (hd : decode c.code pc = .ok (i, 1)) (hc : cells ≤ kc) (hs : slots ≤ ks) (q : Q (some w) T.heap locs) : own_Go p e below (own_W s kc ks Q) T (mkF m pc Ls (w :: rest)) := by
  obtain ⟨fs, hr, hrun, hended, h1, h2, h3, h4⟩ := X.leaveW hS hk (v := some w) (fun h => by rw [hret] at h; cases h) hlk
  exact ⟨_, _, retOut X hx hret hn hi hd hr, hrun, hended, _, q, h1, h2, h3, h4.mono hc hs⟩
theorem own_retVW (X : Stand p l e R (s.setVm vm0) m args below meth c T locs cells slots) (hx : p.tables.exec = Jvm.exec) (hlk : meth.locks = false) (hS : s.Since vm0 k0) (hk : k0 ≤ T.heap.size) {pc : Nat} {Ls : Array Slot} (hret : meth.sig.returnType = none) (hd : decode c.code pc = .ok (.return_, 1)) (hc : cells ≤ kc) (hs : slots ≤ ks) (q : Q none T.heap locs) : own_Go p e below (own_W s kc ks Q) T (mkF m pc Ls []) := by
  obtain ⟨fs, hr, hrun, hended, h1, h2, h3, h4⟩ := X.leaveW hS hk (v := none) (fun _ => rfl) hlk
  exact ⟨_, _, X.returnOut hx hret hd hr, hrun, hended, _, q, h1, h2, h3, h4.mono hc hs⟩
def own_MetW (l : Launch) (Z : State) (h0 : Heap) (ws : List Jvm.Cond) (rm : Room) (y : MethodName) (bytes : ByteArray) (maxL : Nat) (ret : Option FieldType) (as' : Array Value) (Q : Option Value → Heap → List Loc → Prop) : Prop :=
  MetFree l y (head1 (Jvm.Cond.code y bytes maxL ret :: ws) rm) (fun a U => a = as' ∧ Z.Warmed39 U.vm ∧ U.heap = h0) (fun _ _ _ _ _ => True) (fun _ U o U' => ∃ v L, o = .returned v ∧ Q v U'.heap L ∧ ReturnedEndW U o U' L rm.cells rm.slots)
theorem own_bodyW {ws : List Jvm.Cond} {rm : Room} {y : MethodName} {bytes : ByteArray} {maxL : Nat} {ret : Option FieldType} {as' : Array Value} (hpl : plainFor y = true)
    (H : ∀ (p : Program) (e : Env) (s : State) (m : MethodId) (below : List Frame) (meth : Method) (c : Code) (T : State) (vm0 : Vm) (k0 : Nat), Stand p l e rm (s.setVm vm0) m as' below meth c T [] 0 0 → s.Since vm0 k0 → k0 ≤ h0.size → p.tables.exec = Jvm.exec → c.code = bytes → c.maxLocals = maxL → (s.setVm vm0).vm.findClass y.cls = some m.cls → Z.Warmed39 (s.setVm vm0).vm → T.heap = h0 → meth.sig.returnType = ret → meth.locks = false → meth.name = y.name → s.methodNamed? y = some m →
      own_Go p e below (own_W s rm.cells rm.slots Q) T (entryFrame m as' maxL)) : own_MetW l Z h0 ws rm y bytes maxL ret as' Q := by
  refine MetFree.of_bodySF hpl hisR ?_
  intro p e s m args below meth c s₁ Bd hml0 hP hK
  obtain ⟨rfl, hZ, hh⟩ := hP
  obtain ⟨U, v, h1, h2, h3, L, h4, h5⟩ := H p e s m below meth c s₁ s.vm 0 (Stand.of_body Bd) ((State.WarmedH.refl s).since 0) (Nat.zero_le _) Bd.exec Bd.bytes hml0 (findClass_of_methodNamed Bd.named) hZ (by rw [← hh, Bd.state]; rfl) Bd.returns Bd.notSynchronized (name_of_methodNamed Bd.named Bd.method).1 Bd.named
  exact ⟨U, _, h1, h2, h3, v, L, rfl, h4, h5⟩
theorem own_gSW {rm : Room} {y : MethodName} {bytes : ByteArray} {maxL W index : Nat} {ret : Option FieldType} {own : String} {argsL rest : List Value} (X : Stand p l e R (s.setVm vm0) m args below meth c T locs cells slots) (hS : s.Since vm0 k0) (hk : k0 ≤ h0.size) (hx : p.tables.exec = Jvm.exec) (hZ : Z.Warmed39 (s.setVm vm0).vm) (hown : (s.setVm vm0).vm.findClass own = some m.cls)
    (w1 : (Jvm.Cond.methodLink own index y).before a0 Z = true) (w2 : (Jvm.Cond.static y).before a0 Z = true) (w3 : (Jvm.Cond.initialized y.cls).before a0 Z = true) (w4 : (Jvm.Cond.code y bytes maxL ret).before a0 Z = true) (hy : y.cls ≠ "java/lang/invoke/MethodHandle" ∧ y.cls ≠ "java/lang/invoke/VarHandle") (eT : T.heap = h0)
    (hM : own_MetW l Z h0 [] rm y bytes maxL ret argsL.toArray Q) (hf : rm.frames + 1 ≤ R.frames) (hl : W + (maxL + 11) + rm.locals ≤ R.locals) (hc1 : cells + rm.cells ≤ R.cells) (hs1 : slots + rm.slots ≤ R.slots)
    (hg : g.method = m) (hsize : g.locals.size = c.maxLocals) (hlen : ∀ sig, parseMethodDescriptor y.desc = some sig → argsL.length = sig.parameters.length) (hstack : g.stack = argsL.reverse ++ rest) (hW : 2 * g.monitorRoom + (rest.map fun v => v.category).sum ≤ W) (hdg : decode c.code g.pc = .ok (.invokestatic index, 3)) :
    ∃ (v : Option Value) (T' : State) (L : List Loc) (k1 : Nat), Stand p l e R (s.setVm T'.vm) m args below meth c T' (locs ++ L) (cells + rm.cells) (slots + rm.slots) ∧ Q v T'.heap L ∧ s.Since T'.vm k1 ∧ k1 ≤ T'.heap.size ∧ Z.Warmed39 (s.setVm T'.vm).vm ∧ (s.setVm T'.vm).vm.findClass own = some m.cls ∧
      ∀ target, Steps p.tables e below (T'.setTop { g with pc := g.pc + 3, stack := v.toList ++ rest }) target → Steps p.tables e below (T.setTop g) target := by
  obtain ⟨v, _, ⟨T1, L1, n1, n2⟩, -, X1, hS1, hgr, ⟨Lc, hq, l1, y1, z1⟩, st⟩ := callSS X hx (y := y) hown (mvT hZ w1) (mvT hZ w2) (mvT hZ w3) (mvT hZ w4) hy (backOfS (W := W) (Q := Q) hM hZ w4 w3 hf hl) (g := g) hg hsize (argsL := argsL) (rest := rest) hlen hstack hW hdg (fun _ _ => ⟨rfl, eT, hc1, hs1⟩)
  dsimp only [Pt.U, Pt.locs, Pt.cells, Pt.slots] at X1 l1 y1 z1 st hq hS1 hgr
  subst l1 y1 z1
  exact ⟨v, T1, Lc, T1.heap.size, X1, hq, hS.trans hS1 (Nat.le_trans hk (by rw [← eT]; exact hgr)), Nat.le_refl _, State.Warmed39.trans (t := s.setVm vm0) hZ hS1.1, by rw [show (s.setVm T1.vm).vm = T1.vm from rfl, hS1.1.alike.findClass]; exact hown, fun _ k => st.trans k⟩
theorem own_gI {rm : Room} {y : MethodName} {bytes : ByteArray} {maxL W index : Nat} {own : String} {argsL rest : List Value} {b : Addr} (X : Stand p l e R s m args below meth c T locs cells slots) (hx : p.tables.exec = Jvm.exec) (hZ : Z.Warmed39 s.vm) (hy1 : y.name = "<init>") (hown : s.vm.findClass own = some m.cls)
    (w1 : (Jvm.Cond.methodLink own index y).before a0 Z = true) (w2 : (Jvm.Cond.instanceMethod y).before a0 Z = true) (w3 : (Jvm.Cond.initialized y.cls).before a0 Z = true) (w4 : (Jvm.Cond.code y bytes maxL none).before a0 Z = true) (hy : y.cls ≠ "java/lang/invoke/MethodHandle" ∧ y.cls ≠ "java/lang/invoke/VarHandle") (eT : T.heap = h0)
    (hM : own_Met l Z h0 [] rm y bytes maxL none (.ref b :: argsL).toArray Q) (hf : rm.frames + 1 ≤ R.frames) (hl : W + (maxL + 11) + rm.locals ≤ R.locals) (hc1 : cells + rm.cells ≤ R.cells) (hs1 : slots + rm.slots ≤ R.slots)
    (hg : g.method = m) (hsize : g.locals.size = c.maxLocals) (hlen : ∀ sig, parseMethodDescriptor y.desc = some sig → argsL.length = sig.parameters.length) (hstack : g.stack = argsL.reverse ++ .ref b :: rest) (hW : 2 * g.monitorRoom + (rest.map fun v => v.category).sum ≤ W) (hdg : decode c.code g.pc = .ok (.invokespecial index, 3)) :
    ∃ (v : Option Value) (T' : State) (L : List Loc), Stand p l e R s m args below meth c T' (locs ++ L) (cells + rm.cells) (slots + rm.slots) ∧ Q v T'.heap L ∧ ∀ target, Steps p.tables e below (T'.setTop { g with pc := g.pc + 3, stack := v.toList ++ rest }) target → Steps p.tables e below (T.setTop g) target := by
  obtain ⟨v, _, ⟨T1, L1, k1, n1⟩, -, X1, ⟨Lc, hq, l1, y1, z1⟩, st⟩ := X.specialBack hx (y := y) hy1 hown (mvT hZ w1) (mvT hZ w2) (mvT hZ w4) hy (backOf (W := W) (Q := Q) hM hZ w4 w3 hf hl) (g := g) hg hsize (Steps.refl _) (a := b) (argsL := argsL) (rest := rest) hlen hstack hW hdg (fun _ _ => ⟨rfl, eT, hc1, hs1⟩)
  dsimp only [Pt.U, Pt.locs, Pt.cells, Pt.slots] at X1 l1 y1 z1 st hq
  subst l1 y1 z1
  exact ⟨v, T1, Lc, X1, hq, fun _ k => st.trans k⟩
theorem own_gIW {rm : Room} {y : MethodName} {bytes : ByteArray} {maxL W index : Nat} {own : String} {argsL rest : List Value} {b : Addr} (X : Stand p l e R (s.setVm vm0) m args below meth c T locs cells slots) (hS : s.Since vm0 k0) (hk : k0 ≤ h0.size) (hx : p.tables.exec = Jvm.exec) (hZ : Z.Warmed39 (s.setVm vm0).vm) (hy1 : y.name = "<init>") (hown : (s.setVm vm0).vm.findClass own = some m.cls)
    (w1 : (Jvm.Cond.methodLink own index y).before a0 Z = true) (w2 : (Jvm.Cond.instanceMethod y).before a0 Z = true) (w3 : (Jvm.Cond.initialized y.cls).before a0 Z = true) (w4 : (Jvm.Cond.code y bytes maxL none).before a0 Z = true) (hy : y.cls ≠ "java/lang/invoke/MethodHandle" ∧ y.cls ≠ "java/lang/invoke/VarHandle") (eT : T.heap = h0)
    (hM : own_MetW l Z h0 [] rm y bytes maxL none (.ref b :: argsL).toArray Q) (hf : rm.frames + 1 ≤ R.frames) (hl : W + (maxL + 11) + rm.locals ≤ R.locals) (hc1 : cells + rm.cells ≤ R.cells) (hs1 : slots + rm.slots ≤ R.slots)
    (hg : g.method = m) (hsize : g.locals.size = c.maxLocals) (hlen : ∀ sig, parseMethodDescriptor y.desc = some sig → argsL.length = sig.parameters.length) (hstack : g.stack = argsL.reverse ++ .ref b :: rest) (hW : 2 * g.monitorRoom + (rest.map fun v => v.category).sum ≤ W) (hdg : decode c.code g.pc = .ok (.invokespecial index, 3)) :
    ∃ (v : Option Value) (T' : State) (L : List Loc) (k1 : Nat), Stand p l e R (s.setVm T'.vm) m args below meth c T' (locs ++ L) (cells + rm.cells) (slots + rm.slots) ∧ Q v T'.heap L ∧ s.Since T'.vm k1 ∧ k1 ≤ T'.heap.size ∧ Z.Warmed39 (s.setVm T'.vm).vm ∧ (s.setVm T'.vm).vm.findClass own = some m.cls ∧
      ∀ target, Steps p.tables e below (T'.setTop { g with pc := g.pc + 3, stack := v.toList ++ rest }) target → Steps p.tables e below (T.setTop g) target := by
  obtain ⟨v, _, ⟨T1, L1, n1, n2⟩, -, X1, hS1, hgr, ⟨Lc, hq, l1, y1, z1⟩, st⟩ := X.specialBackS hx (y := y) hy1 hown (mvT hZ w1) (mvT hZ w2) (mvT hZ w4) hy (backOfS (W := W) (Q := Q) hM hZ w4 w3 hf hl) (g := g) hg hsize (Steps.refl _) (a := b) (argsL := argsL) (rest := rest) hlen hstack hW hdg (fun _ _ => ⟨rfl, eT, hc1, hs1⟩)
  dsimp only [Pt.U, Pt.locs, Pt.cells, Pt.slots] at X1 l1 y1 z1 st hq hS1 hgr
  subst l1 y1 z1
  exact ⟨v, T1, Lc, T1.heap.size, X1, hq, hS.trans hS1 (Nat.le_trans hk (by rw [← eT]; exact hgr)), Nat.le_refl _, State.Warmed39.trans (t := s.setVm vm0) hZ hS1.1, by rw [show (s.setVm T1.vm).vm = T1.vm from rfl, hS1.1.alike.findClass]; exact hown, fun _ k => st.trans k⟩
theorem own_ext_wr {h h' h1 : Heap} {a : Addr} {sl : Nat} {v : Value} (E : Ext h h1) (W : Wr h1 h' a sl v) (q : h.size ≤ a) : Ext h h' := by
  obtain ⟨cell, c1, -, -, rfl⟩ := W
  refine ⟨by simpa using E.1, fun x c hx => ?_⟩
  have hlt : x < h.size := (Array.getElem?_eq_some_iff.mp hx).1
  have hne : a ≠ x := Nat.ne_of_gt (Nat.lt_of_lt_of_le hlt q)
  rw [Array.getElem?_setIfInBounds_ne hne]
  exact E.2 _ _ hx
theorem own_ext_keep {h h' h1 : Heap} {ws : List Addr} (E : Ext h h1) (K : Keep h1 h' ws) (q : ∀ x ∈ ws, h.size ≤ x) : Ext h h' :=
  ⟨Nat.le_trans E.1 K.1, fun x c hx => K.2.1 x c (E.2 _ _ hx) fun z => absurd (Array.getElem?_eq_some_iff.mp hx).1 (Nat.not_lt.mpr (q x z))⟩
theorem own_ext_tr {h h1 h2 : Heap} (E : Ext h h1) (E' : Ext h1 h2) : Ext h h2 := ⟨Nat.le_trans E.1 E'.1, fun x c hx => E'.2 _ _ (E.2 _ _ hx)⟩
theorem own_ext_rf (h : Heap) : Ext h h := ⟨Nat.le_refl _, fun _ _ q => q⟩
theorem own_fr_mono {n0 k : Nat} {L : List Loc} (h : n0 ≤ k) (N : Fr k L) : Fr n0 L := fun y hy => Nat.le_trans h (N y hy)
theorem own_i8 (x : Int32) : x.toInt8.toInt32.toInt8.toInt32 = x.toInt8.toInt32 := by simp
end OwnWide

theorem own_pn_0 : plainName "com/example/rollback_rules/rollbackrules/decision/DesignationEqualsPinLaw" = true := by first | (simp [plainName, overriddenIn]; done) | decide +kernel
theorem own_pn_1 : plainName "java/util/Objects" = true := by first | (simp [plainName, overriddenIn]; done) | decide +kernel
theorem own_pn_2 : plainName "com/example/rollback_rules/rollbackrules/decision/Designation" = true := by first | (simp [plainName, overriddenIn]; done) | decide +kernel
theorem own_pn_3 : plainName "java/lang/Number" = true := by first | (simp [plainName, overriddenIn]; done) | decide +kernel
theorem own_pn_4 : plainName "java/lang/Integer" = true := by first | (simp [plainName, overriddenIn]; done) | decide +kernel
theorem own_pd_0 : parseMethodDescriptor "(Ljava/lang/Object;Ljava/lang/String;)Ljava/lang/Object;" = some ⟨[(.object "java/lang/Object"), (.object "java/lang/String")], some (.object "java/lang/Object")⟩ := by decide +kernel
theorem own_pd_1 : parseMethodDescriptor "()V" = some ⟨[], none⟩ := by decide +kernel
theorem own_pd_2 : parseMethodDescriptor "(I)V" = some ⟨[.int], none⟩ := by decide +kernel
theorem own_pd_3 : parseMethodDescriptor "(I)Lcom/example/rollback_rules/rollbackrules/decision/Designation$Source;" = some ⟨[.int], some (.object "com/example/rollback_rules/rollbackrules/decision/Designation$Source")⟩ := by decide +kernel
theorem own_pd_4 : parseMethodDescriptor "(Lcom/example/rollback_rules/rollbackrules/decision/Designation$Source;ZZ)V" = some ⟨[(.object "com/example/rollback_rules/rollbackrules/decision/Designation$Source"), .boolean, .boolean], none⟩ := by decide +kernel
theorem own_pd_5 : parseMethodDescriptor "(Ljava/lang/Object;)Z" = some ⟨[(.object "java/lang/Object")], some .boolean⟩ := by decide +kernel
theorem own_pd_6 : parseMethodDescriptor "(I)Ljava/lang/Integer;" = some ⟨[.int], some (.object "java/lang/Integer")⟩ := by decide +kernel
theorem own_d_method_2_code_0 : decode method_2_code 0 = .ok (.iload_n 0, 1) := by decide +kernel
theorem own_d_method_2_code_1 : decode method_2_code 1 = .ok (.ifCond .ne 7, 3) := by decide +kernel
theorem own_d_method_2_code_4 : decode method_2_code 4 = .ok (.getstatic 7, 3) := by decide +kernel
theorem own_d_method_2_code_7 : decode method_2_code 7 = .ok (.areturn, 1) := by decide +kernel
theorem own_d_method_2_code_8 : decode method_2_code 8 = .ok (.iload_n 0, 1) := by decide +kernel
theorem own_d_method_2_code_9 : decode method_2_code 9 = .ok (.iconst 1, 1) := by decide +kernel
theorem own_d_method_2_code_10 : decode method_2_code 10 = .ok (.if_icmp .ne 7, 3) := by decide +kernel
theorem own_d_method_2_code_13 : decode method_2_code 13 = .ok (.getstatic 13, 3) := by decide +kernel
theorem own_d_method_2_code_16 : decode method_2_code 16 = .ok (.areturn, 1) := by decide +kernel
theorem own_d_method_2_code_17 : decode method_2_code 17 = .ok (.iload_n 0, 1) := by decide +kernel
theorem own_d_method_2_code_18 : decode method_2_code 18 = .ok (.iconst 2, 1) := by decide +kernel
theorem own_d_method_2_code_19 : decode method_2_code 19 = .ok (.if_icmp .ne 7, 3) := by decide +kernel
theorem own_d_method_2_code_22 : decode method_2_code 22 = .ok (.getstatic 16, 3) := by decide +kernel
theorem own_d_method_2_code_25 : decode method_2_code 25 = .ok (.areturn, 1) := by decide +kernel
theorem own_d_method_2_code_26 : decode method_2_code 26 = .ok (.getstatic 19, 3) := by decide +kernel
theorem own_d_method_2_code_29 : decode method_2_code 29 = .ok (.areturn, 1) := by decide +kernel
theorem own_d_jdk_31_method_11_code_0 : decode jdk_31_method_11_code 0 = .ok (.aload_n 0, 1) := by decide +kernel
theorem own_d_jdk_31_method_11_code_1 : decode jdk_31_method_11_code 1 = .ok (.ifnonnull 12, 3) := by decide +kernel
theorem own_d_jdk_31_method_11_code_13 : decode jdk_31_method_11_code 13 = .ok (.aload_n 0, 1) := by decide +kernel
theorem own_d_jdk_31_method_11_code_14 : decode jdk_31_method_11_code 14 = .ok (.areturn, 1) := by decide +kernel
theorem own_d_prog_57_method_1_code_0 : decode prog_57_method_1_code 0 = .ok (.aload_n 0, 1) := by decide +kernel
theorem own_d_prog_57_method_1_code_1 : decode prog_57_method_1_code 1 = .ok (.invokespecial 1, 3) := by decide +kernel
theorem own_d_prog_57_method_1_code_4 : decode prog_57_method_1_code 4 = .ok (.aload_n 0, 1) := by decide +kernel
theorem own_d_prog_57_method_1_code_5 : decode prog_57_method_1_code 5 = .ok (.aload_n 1, 1) := by decide +kernel
theorem own_d_prog_57_method_1_code_6 : decode prog_57_method_1_code 6 = .ok (.ldc 7, 2) := by decide +kernel
theorem own_d_prog_57_method_1_code_8 : decode prog_57_method_1_code 8 = .ok (.invokestatic 9, 3) := by decide +kernel
theorem own_d_prog_57_method_1_code_11 : decode prog_57_method_1_code 11 = .ok (.checkcast 15, 3) := by decide +kernel
theorem own_d_prog_57_method_1_code_14 : decode prog_57_method_1_code 14 = .ok (.putfield 17, 3) := by decide +kernel
theorem own_d_prog_57_method_1_code_17 : decode prog_57_method_1_code 17 = .ok (.aload_n 0, 1) := by decide +kernel
theorem own_d_prog_57_method_1_code_18 : decode prog_57_method_1_code 18 = .ok (.iload_n 2, 1) := by decide +kernel
theorem own_d_prog_57_method_1_code_19 : decode prog_57_method_1_code 19 = .ok (.putfield 22, 3) := by decide +kernel
theorem own_d_prog_57_method_1_code_22 : decode prog_57_method_1_code 22 = .ok (.aload_n 0, 1) := by decide +kernel
theorem own_d_prog_57_method_1_code_23 : decode prog_57_method_1_code 23 = .ok (.iload_n 3, 1) := by decide +kernel
theorem own_d_prog_57_method_1_code_24 : decode prog_57_method_1_code 24 = .ok (.putfield 26, 3) := by decide +kernel
theorem own_d_prog_57_method_1_code_27 : decode prog_57_method_1_code 27 = .ok (.return_, 1) := by decide +kernel
theorem own_d_prog_57_method_8_code_0 : decode prog_57_method_8_code 0 = .ok (.aload_n 1, 1) := by decide +kernel
theorem own_d_prog_57_method_8_code_1 : decode prog_57_method_8_code 1 = .ok (.instanceof 18, 3) := by decide +kernel
theorem own_d_prog_57_method_8_code_4 : decode prog_57_method_8_code 4 = .ok (.ifCond .eq 45, 3) := by decide +kernel
theorem own_d_prog_57_method_8_code_49 : decode prog_57_method_8_code 49 = .ok (.iconst 0, 1) := by decide +kernel
theorem own_d_prog_57_method_8_code_50 : decode prog_57_method_8_code 50 = .ok (.ireturn, 1) := by decide +kernel
theorem own_d_prog_57_method_8_code_7 : decode prog_57_method_8_code 7 = .ok (.aload_n 1, 1) := by decide +kernel
theorem own_d_prog_57_method_8_code_8 : decode prog_57_method_8_code 8 = .ok (.checkcast 18, 3) := by decide +kernel
theorem own_d_prog_57_method_8_code_11 : decode prog_57_method_8_code 11 = .ok (.astore_n 2, 1) := by decide +kernel
theorem own_d_prog_57_method_8_code_12 : decode prog_57_method_8_code 12 = .ok (.aload_n 0, 1) := by decide +kernel
theorem own_d_prog_57_method_8_code_13 : decode prog_57_method_8_code 13 = .ok (.getfield 17, 3) := by decide +kernel
theorem own_d_prog_57_method_8_code_16 : decode prog_57_method_8_code 16 = .ok (.aload_n 2, 1) := by decide +kernel
theorem own_d_prog_57_method_8_code_17 : decode prog_57_method_8_code 17 = .ok (.getfield 17, 3) := by decide +kernel
theorem own_d_prog_57_method_8_code_20 : decode prog_57_method_8_code 20 = .ok (.if_acmp .ne 29, 3) := by decide +kernel
theorem own_d_prog_57_method_8_code_23 : decode prog_57_method_8_code 23 = .ok (.aload_n 0, 1) := by decide +kernel
theorem own_d_prog_57_method_8_code_24 : decode prog_57_method_8_code 24 = .ok (.getfield 22, 3) := by decide +kernel
theorem own_d_prog_57_method_8_code_27 : decode prog_57_method_8_code 27 = .ok (.aload_n 2, 1) := by decide +kernel
theorem own_d_prog_57_method_8_code_28 : decode prog_57_method_8_code 28 = .ok (.getfield 22, 3) := by decide +kernel
theorem own_d_prog_57_method_8_code_31 : decode prog_57_method_8_code 31 = .ok (.if_icmp .ne 18, 3) := by decide +kernel
theorem own_d_prog_57_method_8_code_34 : decode prog_57_method_8_code 34 = .ok (.aload_n 0, 1) := by decide +kernel
theorem own_d_prog_57_method_8_code_35 : decode prog_57_method_8_code 35 = .ok (.getfield 26, 3) := by decide +kernel
theorem own_d_prog_57_method_8_code_38 : decode prog_57_method_8_code 38 = .ok (.aload_n 2, 1) := by decide +kernel
theorem own_d_prog_57_method_8_code_39 : decode prog_57_method_8_code 39 = .ok (.getfield 26, 3) := by decide +kernel
theorem own_d_prog_57_method_8_code_42 : decode prog_57_method_8_code 42 = .ok (.if_icmp .ne 7, 3) := by decide +kernel
theorem own_d_prog_57_method_8_code_45 : decode prog_57_method_8_code 45 = .ok (.iconst 1, 1) := by decide +kernel
theorem own_d_prog_57_method_8_code_46 : decode prog_57_method_8_code 46 = .ok (.goto 4, 3) := by decide +kernel
theorem own_d_jdk_18_method_1_code_0 : decode jdk_18_method_1_code 0 = .ok (.aload_n 0, 1) := by decide +kernel
theorem own_d_jdk_18_method_1_code_1 : decode jdk_18_method_1_code 1 = .ok (.invokespecial 1, 3) := by decide +kernel
theorem own_d_jdk_18_method_1_code_4 : decode jdk_18_method_1_code 4 = .ok (.return_, 1) := by decide +kernel
theorem own_d_jdk_33_method_23_code_0 : decode jdk_33_method_23_code 0 = .ok (.aload_n 0, 1) := by decide +kernel
theorem own_d_jdk_33_method_23_code_1 : decode jdk_33_method_23_code 1 = .ok (.invokespecial 202, 3) := by decide +kernel
theorem own_d_jdk_33_method_23_code_4 : decode jdk_33_method_23_code 4 = .ok (.aload_n 0, 1) := by decide +kernel
theorem own_d_jdk_33_method_23_code_5 : decode jdk_33_method_23_code 5 = .ok (.iload_n 1, 1) := by decide +kernel
theorem own_d_jdk_33_method_23_code_6 : decode jdk_33_method_23_code 6 = .ok (.putfield 205, 3) := by decide +kernel
theorem own_d_jdk_33_method_23_code_9 : decode jdk_33_method_23_code 9 = .ok (.return_, 1) := by decide +kernel
theorem own_d_jdk_33_method_22_code_0 : decode jdk_33_method_22_code 0 = .ok (.iload_n 0, 1) := by decide +kernel
theorem own_d_jdk_33_method_22_code_1 : decode jdk_33_method_22_code 1 = .ok (.bipush (-128), 2) := by decide +kernel
theorem own_d_jdk_33_method_22_code_3 : decode jdk_33_method_22_code 3 = .ok (.if_icmp .lt 20, 3) := by decide +kernel
theorem own_d_jdk_33_method_22_code_6 : decode jdk_33_method_22_code 6 = .ok (.iload_n 0, 1) := by decide +kernel
theorem own_d_jdk_33_method_22_code_7 : decode jdk_33_method_22_code 7 = .ok (.getstatic 191, 3) := by decide +kernel
theorem own_d_jdk_33_method_22_code_10 : decode jdk_33_method_22_code 10 = .ok (.if_icmp .gt 13, 3) := by decide +kernel
theorem own_d_jdk_33_method_22_code_13 : decode jdk_33_method_22_code 13 = .ok (.getstatic 195, 3) := by decide +kernel
theorem own_d_jdk_33_method_22_code_16 : decode jdk_33_method_22_code 16 = .ok (.iload_n 0, 1) := by decide +kernel
theorem own_d_jdk_33_method_22_code_17 : decode jdk_33_method_22_code 17 = .ok (.sipush 128, 3) := by decide +kernel
theorem own_d_jdk_33_method_22_code_20 : decode jdk_33_method_22_code 20 = .ok (.iadd, 1) := by decide +kernel
theorem own_d_jdk_33_method_22_code_21 : decode jdk_33_method_22_code 21 = .ok (.aaload, 1) := by decide +kernel
theorem own_d_jdk_33_method_22_code_22 : decode jdk_33_method_22_code 22 = .ok (.areturn, 1) := by decide +kernel
theorem own_d_jdk_33_method_22_code_23 : decode jdk_33_method_22_code 23 = .ok (.new 1, 3) := by decide +kernel
theorem own_d_jdk_33_method_22_code_26 : decode jdk_33_method_22_code 26 = .ok (.dup, 1) := by decide +kernel
theorem own_d_jdk_33_method_22_code_27 : decode jdk_33_method_22_code 27 = .ok (.iload_n 0, 1) := by decide +kernel
theorem own_d_jdk_33_method_22_code_28 : decode jdk_33_method_22_code 28 = .ok (.invokespecial 199, 3) := by decide +kernel
theorem own_d_jdk_33_method_22_code_31 : decode jdk_33_method_22_code 31 = .ok (.areturn, 1) := by decide +kernel
def own_Box (Z : State) (h : Heap) (cl : Cell) : Prop := ∀ j : Int32, ¬ (j < 0 ∨ cl.slots.size ≤ j.toNatClampNeg) → ∃ b, cl.slots[j.toNatClampNeg]? = some (.ref b) ∧ Exa Z h b "java/lang/Integer"
theorem own_Box.ext {Z : State} {h h' : Heap} {cl : Cell} (F : own_Box Z h cl) (E : Ext h h') : own_Box Z h' cl := fun j hj => by
  obtain ⟨b, q, r⟩ := F j hj
  exact ⟨b, q, r.ext E⟩
theorem own_box {args : Array Value} {s : State} {t : Term} {b : Addr} {cl : Cell} {F : Jvm.Cond} (ev : ∀ idx, t.eval args s none idx s = some (.ref b)) (A : Arr s s.heap b cl (.object "java/lang/Integer")) (h : (Jvm.Cond.all t (.and (.exactly (.elem t (.index 0)) "java/lang/Integer") F)).value args s none s [] = some true) : own_Box s s.heap cl := fun j hj => by
  have nn : ¬ j < 0 := fun q => hj (Or.inl q)
  obtain ⟨u1, -⟩ := and_e (Cond.all_elim (ev []) (A.fin (Vm.Alike.refl _)) h j.toNatClampNeg (Nat.lt_of_not_le fun x => hj (Or.inr x)))
  obtain ⟨bx, eb⟩ := exa_v u1
  exact ⟨bx, (elem_f (ev _) (idx_at nn) (A.fin (Vm.Alike.refl _)) nn).symm.trans eb, exa_at eb u1⟩
theorem own_vo_in {i : Int32} {cl : Cell} (h1 : ¬ i < (-128 : Int32)) (h2 : ¬ (127 : Int32) < i) (hz : cl.slots.size = (256 : Int32).toNatClampNeg) : ¬ ((i + (128 : Int32)) < 0 ∨ cl.slots.size ≤ (i + (128 : Int32)).toNatClampNeg) := by
  have e0 : (0 : Int32).toInt = 0 := rfl
  have e1 : (-128 : Int32).toInt = -128 := rfl
  have e2 : (127 : Int32).toInt = 127 := rfl
  have e3 : (128 : Int32).toInt = 128 := rfl
  have e4 : (256 : Int32).toNatClampNeg = 256 := rfl
  rw [Int32.lt_iff_toInt_lt, e1] at h1
  rw [Int32.lt_iff_toInt_lt, e2] at h2
  have q := c_iadd i 128
  have r := rng32 (i + 128)
  rw [e3] at q
  rw [hz, e4, Int32.lt_iff_toInt_lt, e0, Int32.toNatClampNeg]
  omega
theorem own_notDes {Z : State} {a0 : Array Value} (hw : ∀ d ∈ tables_1, d.before a0 Z = true) : ∃ c t, Z.vm.findClass "java/lang/Integer" = some c ∧ Z.vm.findClass "com/example/rollback_rules/rollbackrules/decision/Designation" = some t ∧ Z.vm.assignable c t = false := by
  have w1 : (Jvm.Cond.superclass "java/lang/Integer" "java/lang/Number").before a0 Z = true := hw _ (List.mem_of_getElem? (i := 70) rfl)
  have w2 : (Jvm.Cond.superclass "java/lang/Number" "java/lang/Object").before a0 Z = true := hw _ (List.mem_of_getElem? (i := 71) rfl)
  have w3 : (Jvm.Cond.noSuperclass "java/lang/Object").before a0 Z = true := hw _ (List.mem_of_getElem? (i := 72) rfl)
  have wi : (Jvm.Cond.instantiable "com/example/rollback_rules/rollbackrules/decision/Designation" 3).before a0 Z = true := hw _ (List.mem_of_getElem? (i := 1) rfl)
  obtain ⟨t, kt, t1, t2, t3, t4, -⟩ := Cond.instantiable_spec wi
  have hroot : NS Z "java/lang/Object" "com/example/rollback_rules/rollbackrules/decision/Designation" := by
    obtain ⟨c, k, h1, h2, h3, -⟩ := Cond.noSuperclass_spec w3
    refine ⟨c, t, h1, t1, fun fuel => ?_⟩
    cases fuel with
    | zero => rfl
    | succ f =>
      have hne := ids_ne h1 t1 (by decide)
      simp [Vm.isSubclassAux, hne, h2, h3]
  obtain ⟨c, t', n1, n2, n3⟩ := NS.step w1 (NS.step w2 hroot (by decide)) (by decide)
  cases t1.symm.trans n2
  obtain ⟨p, k, kp, h1, h2, h3, h4, h5, -⟩ := Cond.superclass_spec n1 w1
  refine ⟨c, t, n1, t1, ?_⟩
  have hne := ids_ne n1 t1 (by decide)
  have hni : kt.isInterface = false := by
    simp only [Bool.or_eq_false_iff] at t4
    exact t4.1
  show Z.vm.assignableAux (255 + 1) c t = false
  simp [Vm.assignableAux, hne, h2, t2, h5, t3, hni, Vm.isSubclass, n3]
theorem own_args3 {args : Array Value} {s : State} (h : given_1.value args s none s [] = some true) : ∃ a b c : Int32, args = #[.int a, .int b, .int c] := by
  obtain ⟨h1, h2⟩ := and_e h
  obtain ⟨g0, h2⟩ := and_e h2
  obtain ⟨g1, g2⟩ := and_e h2
  have hs : args.size = 3 := by simpa [Cond.value] using h1
  obtain ⟨L⟩ := args
  match L, hs with
  | [w0, w1, w2], _ =>
    obtain ⟨i0, e0⟩ := is_v g0
    obtain ⟨i1, e1⟩ := is_v g1
    obtain ⟨i2, e2⟩ := is_v g2
    obtain rfl : w0 = (.int i0) := Option.some.inj e0
    obtain rfl : w1 = (.int i1) := Option.some.inj e1
    obtain rfl : w2 = (.int i2) := Option.some.inj e2
    exact ⟨i0, i1, i2, rfl⟩
theorem own_nb {r : Int32} (h : r = 0 ∨ r = 1) : narrow .boolean (.int r) = .int r := by rcases h with rfl | rfl <;> rfl
theorem own_fb {r : Int32} (h : r = 0 ∨ r = 1) : fits .boolean (.int r) = true := by rcases h with rfl | rfl <;> rfl
theorem own_and3 (x : Int32) : (x &&& (3 : Int32)) = (0 : Int32) ∨ (x &&& (3 : Int32)) = (1 : Int32) ∨ (x &&& (3 : Int32)) = (2 : Int32) ∨ (x &&& (3 : Int32)) = (3 : Int32) := by
  have e1 : (x &&& (3 : Int32)).toInt = x.toInt % (2 ^ 2 : Nat) := c_mask x _ 2 (by decide) (by decide)
  have h : (x &&& (3 : Int32)).toInt = 0 ∨ (x &&& (3 : Int32)).toInt = 1 ∨ (x &&& (3 : Int32)).toInt = 2 ∨ (x &&& (3 : Int32)).toInt = 3 := by omega
  rcases h with h | h | h | h
  · exact Or.inl (Int32.toInt_inj.mp h)
  · exact Or.inr (Or.inl (Int32.toInt_inj.mp h))
  · exact Or.inr (Or.inr (Or.inl (Int32.toInt_inj.mp h)))
  · exact Or.inr (Or.inr (Or.inr (Int32.toInt_inj.mp h)))
theorem own_wS {Z : State} {a0 : Array Value} (hw : ∀ d ∈ tables_1, d.before a0 Z = true) : ∀ a ∈ Bundle.stringAtoms, a.before a0 Z = true := by
  intro a ha
  simp only [Bundle.stringAtoms, List.mem_cons, List.not_mem_nil, or_false] at ha
  rcases ha with rfl | rfl | rfl | rfl | rfl | rfl | rfl
  · exact hw _ (List.mem_of_getElem? (i := 17) rfl)
  · exact hw _ (List.mem_of_getElem? (i := 18) rfl)
  · exact hw _ (List.mem_of_getElem? (i := 19) rfl)
  · exact hw _ (List.mem_of_getElem? (i := 20) rfl)
  · exact hw _ (List.mem_of_getElem? (i := 21) rfl)
  · exact hw _ (List.mem_of_getElem? (i := 22) rfl)
  · exact hw _ (List.mem_of_getElem? (i := 23) rfl)
def own_E (Z : State) (h0 : Heap) (a_ANNOTATION : Addr) (a_CLASS_RULE : Addr) (a_DESCRIPTOR : Addr) (a_METHOD_RULE : Addr) (a_cache : Addr) (cl_cache : Cell) : Prop :=
  (Sta Z h0 "com/example/rollback_rules/rollbackrules/decision/Designation$Source" "ANNOTATION" "Lcom/example/rollback_rules/rollbackrules/decision/Designation$Source;" (.ref a_ANNOTATION)) ∧
  (Sta Z h0 "com/example/rollback_rules/rollbackrules/decision/Designation$Source" "CLASS_RULE" "Lcom/example/rollback_rules/rollbackrules/decision/Designation$Source;" (.ref a_CLASS_RULE)) ∧
  (Sta Z h0 "com/example/rollback_rules/rollbackrules/decision/Designation$Source" "DESCRIPTOR" "Lcom/example/rollback_rules/rollbackrules/decision/Designation$Source;" (.ref a_DESCRIPTOR)) ∧
  (Sta Z h0 "com/example/rollback_rules/rollbackrules/decision/Designation$Source" "METHOD_RULE" "Lcom/example/rollback_rules/rollbackrules/decision/Designation$Source;" (.ref a_METHOD_RULE)) ∧
  (Exa Z h0 a_ANNOTATION "com/example/rollback_rules/rollbackrules/decision/Designation$Source") ∧
  (Exa Z h0 a_CLASS_RULE "com/example/rollback_rules/rollbackrules/decision/Designation$Source") ∧
  (Exa Z h0 a_DESCRIPTOR "com/example/rollback_rules/rollbackrules/decision/Designation$Source") ∧
  (Exa Z h0 a_METHOD_RULE "com/example/rollback_rules/rollbackrules/decision/Designation$Source") ∧
  (Fld Z h0 a_ANNOTATION "java/lang/Enum" "ordinal" "I" (.int (0 : Int32))) ∧
  (Fld Z h0 a_CLASS_RULE "java/lang/Enum" "ordinal" "I" (.int (3 : Int32))) ∧
  (Fld Z h0 a_DESCRIPTOR "java/lang/Enum" "ordinal" "I" (.int (1 : Int32))) ∧
  (Fld Z h0 a_METHOD_RULE "java/lang/Enum" "ordinal" "I" (.int (2 : Int32))) ∧
  (Sta Z h0 "java/lang/Integer$IntegerCache" "high" "I" (.int (127 : Int32))) ∧
  (Sta Z h0 "java/lang/Integer$IntegerCache" "cache" "[Ljava/lang/Integer;" (.ref a_cache)) ∧
  (Arr Z h0 a_cache cl_cache (.object "java/lang/Integer")) ∧
  (cl_cache.slots.size = (256 : Int32).toNatClampNeg) ∧
  (own_Box Z h0 cl_cache) ∧ True
theorem own_p_S_ANNOTATION {Z : State} {h0 : Heap} {a_ANNOTATION : Addr} {a_CLASS_RULE : Addr} {a_DESCRIPTOR : Addr} {a_METHOD_RULE : Addr} {a_cache : Addr} {cl_cache : Cell} (hE : own_E Z h0 a_ANNOTATION a_CLASS_RULE a_DESCRIPTOR a_METHOD_RULE a_cache cl_cache) : Sta Z h0 "com/example/rollback_rules/rollbackrules/decision/Designation$Source" "ANNOTATION" "Lcom/example/rollback_rules/rollbackrules/decision/Designation$Source;" (.ref a_ANNOTATION) := hE.1
theorem own_p_S_CLASS_RULE {Z : State} {h0 : Heap} {a_ANNOTATION : Addr} {a_CLASS_RULE : Addr} {a_DESCRIPTOR : Addr} {a_METHOD_RULE : Addr} {a_cache : Addr} {cl_cache : Cell} (hE : own_E Z h0 a_ANNOTATION a_CLASS_RULE a_DESCRIPTOR a_METHOD_RULE a_cache cl_cache) : Sta Z h0 "com/example/rollback_rules/rollbackrules/decision/Designation$Source" "CLASS_RULE" "Lcom/example/rollback_rules/rollbackrules/decision/Designation$Source;" (.ref a_CLASS_RULE) := hE.2.1
theorem own_p_S_DESCRIPTOR {Z : State} {h0 : Heap} {a_ANNOTATION : Addr} {a_CLASS_RULE : Addr} {a_DESCRIPTOR : Addr} {a_METHOD_RULE : Addr} {a_cache : Addr} {cl_cache : Cell} (hE : own_E Z h0 a_ANNOTATION a_CLASS_RULE a_DESCRIPTOR a_METHOD_RULE a_cache cl_cache) : Sta Z h0 "com/example/rollback_rules/rollbackrules/decision/Designation$Source" "DESCRIPTOR" "Lcom/example/rollback_rules/rollbackrules/decision/Designation$Source;" (.ref a_DESCRIPTOR) := hE.2.2.1
theorem own_p_S_METHOD_RULE {Z : State} {h0 : Heap} {a_ANNOTATION : Addr} {a_CLASS_RULE : Addr} {a_DESCRIPTOR : Addr} {a_METHOD_RULE : Addr} {a_cache : Addr} {cl_cache : Cell} (hE : own_E Z h0 a_ANNOTATION a_CLASS_RULE a_DESCRIPTOR a_METHOD_RULE a_cache cl_cache) : Sta Z h0 "com/example/rollback_rules/rollbackrules/decision/Designation$Source" "METHOD_RULE" "Lcom/example/rollback_rules/rollbackrules/decision/Designation$Source;" (.ref a_METHOD_RULE) := hE.2.2.2.1
theorem own_p_E_ANNOTATION {Z : State} {h0 : Heap} {a_ANNOTATION : Addr} {a_CLASS_RULE : Addr} {a_DESCRIPTOR : Addr} {a_METHOD_RULE : Addr} {a_cache : Addr} {cl_cache : Cell} (hE : own_E Z h0 a_ANNOTATION a_CLASS_RULE a_DESCRIPTOR a_METHOD_RULE a_cache cl_cache) : Exa Z h0 a_ANNOTATION "com/example/rollback_rules/rollbackrules/decision/Designation$Source" := hE.2.2.2.2.1
theorem own_p_E_CLASS_RULE {Z : State} {h0 : Heap} {a_ANNOTATION : Addr} {a_CLASS_RULE : Addr} {a_DESCRIPTOR : Addr} {a_METHOD_RULE : Addr} {a_cache : Addr} {cl_cache : Cell} (hE : own_E Z h0 a_ANNOTATION a_CLASS_RULE a_DESCRIPTOR a_METHOD_RULE a_cache cl_cache) : Exa Z h0 a_CLASS_RULE "com/example/rollback_rules/rollbackrules/decision/Designation$Source" := hE.2.2.2.2.2.1
theorem own_p_E_DESCRIPTOR {Z : State} {h0 : Heap} {a_ANNOTATION : Addr} {a_CLASS_RULE : Addr} {a_DESCRIPTOR : Addr} {a_METHOD_RULE : Addr} {a_cache : Addr} {cl_cache : Cell} (hE : own_E Z h0 a_ANNOTATION a_CLASS_RULE a_DESCRIPTOR a_METHOD_RULE a_cache cl_cache) : Exa Z h0 a_DESCRIPTOR "com/example/rollback_rules/rollbackrules/decision/Designation$Source" := hE.2.2.2.2.2.2.1
theorem own_p_E_METHOD_RULE {Z : State} {h0 : Heap} {a_ANNOTATION : Addr} {a_CLASS_RULE : Addr} {a_DESCRIPTOR : Addr} {a_METHOD_RULE : Addr} {a_cache : Addr} {cl_cache : Cell} (hE : own_E Z h0 a_ANNOTATION a_CLASS_RULE a_DESCRIPTOR a_METHOD_RULE a_cache cl_cache) : Exa Z h0 a_METHOD_RULE "com/example/rollback_rules/rollbackrules/decision/Designation$Source" := hE.2.2.2.2.2.2.2.1
theorem own_p_F_ANNOTATION_ordinal {Z : State} {h0 : Heap} {a_ANNOTATION : Addr} {a_CLASS_RULE : Addr} {a_DESCRIPTOR : Addr} {a_METHOD_RULE : Addr} {a_cache : Addr} {cl_cache : Cell} (hE : own_E Z h0 a_ANNOTATION a_CLASS_RULE a_DESCRIPTOR a_METHOD_RULE a_cache cl_cache) : Fld Z h0 a_ANNOTATION "java/lang/Enum" "ordinal" "I" (.int (0 : Int32)) := hE.2.2.2.2.2.2.2.2.1
theorem own_p_F_CLASS_RULE_ordinal {Z : State} {h0 : Heap} {a_ANNOTATION : Addr} {a_CLASS_RULE : Addr} {a_DESCRIPTOR : Addr} {a_METHOD_RULE : Addr} {a_cache : Addr} {cl_cache : Cell} (hE : own_E Z h0 a_ANNOTATION a_CLASS_RULE a_DESCRIPTOR a_METHOD_RULE a_cache cl_cache) : Fld Z h0 a_CLASS_RULE "java/lang/Enum" "ordinal" "I" (.int (3 : Int32)) := hE.2.2.2.2.2.2.2.2.2.1
theorem own_p_F_DESCRIPTOR_ordinal {Z : State} {h0 : Heap} {a_ANNOTATION : Addr} {a_CLASS_RULE : Addr} {a_DESCRIPTOR : Addr} {a_METHOD_RULE : Addr} {a_cache : Addr} {cl_cache : Cell} (hE : own_E Z h0 a_ANNOTATION a_CLASS_RULE a_DESCRIPTOR a_METHOD_RULE a_cache cl_cache) : Fld Z h0 a_DESCRIPTOR "java/lang/Enum" "ordinal" "I" (.int (1 : Int32)) := hE.2.2.2.2.2.2.2.2.2.2.1
theorem own_p_F_METHOD_RULE_ordinal {Z : State} {h0 : Heap} {a_ANNOTATION : Addr} {a_CLASS_RULE : Addr} {a_DESCRIPTOR : Addr} {a_METHOD_RULE : Addr} {a_cache : Addr} {cl_cache : Cell} (hE : own_E Z h0 a_ANNOTATION a_CLASS_RULE a_DESCRIPTOR a_METHOD_RULE a_cache cl_cache) : Fld Z h0 a_METHOD_RULE "java/lang/Enum" "ordinal" "I" (.int (2 : Int32)) := hE.2.2.2.2.2.2.2.2.2.2.2.1
theorem own_p_S_high {Z : State} {h0 : Heap} {a_ANNOTATION : Addr} {a_CLASS_RULE : Addr} {a_DESCRIPTOR : Addr} {a_METHOD_RULE : Addr} {a_cache : Addr} {cl_cache : Cell} (hE : own_E Z h0 a_ANNOTATION a_CLASS_RULE a_DESCRIPTOR a_METHOD_RULE a_cache cl_cache) : Sta Z h0 "java/lang/Integer$IntegerCache" "high" "I" (.int (127 : Int32)) := hE.2.2.2.2.2.2.2.2.2.2.2.2.1
theorem own_p_S_cache {Z : State} {h0 : Heap} {a_ANNOTATION : Addr} {a_CLASS_RULE : Addr} {a_DESCRIPTOR : Addr} {a_METHOD_RULE : Addr} {a_cache : Addr} {cl_cache : Cell} (hE : own_E Z h0 a_ANNOTATION a_CLASS_RULE a_DESCRIPTOR a_METHOD_RULE a_cache cl_cache) : Sta Z h0 "java/lang/Integer$IntegerCache" "cache" "[Ljava/lang/Integer;" (.ref a_cache) := hE.2.2.2.2.2.2.2.2.2.2.2.2.2.1
theorem own_p_A_cache {Z : State} {h0 : Heap} {a_ANNOTATION : Addr} {a_CLASS_RULE : Addr} {a_DESCRIPTOR : Addr} {a_METHOD_RULE : Addr} {a_cache : Addr} {cl_cache : Cell} (hE : own_E Z h0 a_ANNOTATION a_CLASS_RULE a_DESCRIPTOR a_METHOD_RULE a_cache cl_cache) : Arr Z h0 a_cache cl_cache (.object "java/lang/Integer") := hE.2.2.2.2.2.2.2.2.2.2.2.2.2.2.1
theorem own_p_Z_cache {Z : State} {h0 : Heap} {a_ANNOTATION : Addr} {a_CLASS_RULE : Addr} {a_DESCRIPTOR : Addr} {a_METHOD_RULE : Addr} {a_cache : Addr} {cl_cache : Cell} (hE : own_E Z h0 a_ANNOTATION a_CLASS_RULE a_DESCRIPTOR a_METHOD_RULE a_cache cl_cache) : cl_cache.slots.size = (256 : Int32).toNatClampNeg := hE.2.2.2.2.2.2.2.2.2.2.2.2.2.2.2.1
theorem own_p_Y_cache {Z : State} {h0 : Heap} {a_ANNOTATION : Addr} {a_CLASS_RULE : Addr} {a_DESCRIPTOR : Addr} {a_METHOD_RULE : Addr} {a_cache : Addr} {cl_cache : Cell} (hE : own_E Z h0 a_ANNOTATION a_CLASS_RULE a_DESCRIPTOR a_METHOD_RULE a_cache cl_cache) : own_Box Z h0 cl_cache := hE.2.2.2.2.2.2.2.2.2.2.2.2.2.2.2.2.1
theorem own_E_ext {Z : State} {h0 h' : Heap} {a_ANNOTATION : Addr} {a_CLASS_RULE : Addr} {a_DESCRIPTOR : Addr} {a_METHOD_RULE : Addr} {a_cache : Addr} {cl_cache : Cell} (hE : own_E Z h0 a_ANNOTATION a_CLASS_RULE a_DESCRIPTOR a_METHOD_RULE a_cache cl_cache) (E : Ext h0 h') : own_E Z h' a_ANNOTATION a_CLASS_RULE a_DESCRIPTOR a_METHOD_RULE a_cache cl_cache := ⟨(own_p_S_ANNOTATION hE).ext E, (own_p_S_CLASS_RULE hE).ext E, (own_p_S_DESCRIPTOR hE).ext E, (own_p_S_METHOD_RULE hE).ext E, (own_p_E_ANNOTATION hE).ext E, (own_p_E_CLASS_RULE hE).ext E, (own_p_E_DESCRIPTOR hE).ext E, (own_p_E_METHOD_RULE hE).ext E, (own_p_F_ANNOTATION_ordinal hE).ext E, (own_p_F_CLASS_RULE_ordinal hE).ext E, (own_p_F_DESCRIPTOR_ordinal hE).ext E, (own_p_F_METHOD_RULE_ordinal hE).ext E, (own_p_S_high hE).ext E, (own_p_S_cache hE).ext E, (own_p_A_cache hE).ext E, own_p_Z_cache hE, (own_p_Y_cache hE).ext E, trivial⟩
def own_src (a_ANNOTATION a_DESCRIPTOR a_METHOD_RULE a_CLASS_RULE : Addr) (v : Int32) : Addr := if v = (0 : Int32) then a_ANNOTATION else if v = (1 : Int32) then a_DESCRIPTOR else if v = (2 : Int32) then a_METHOD_RULE else a_CLASS_RULE
theorem own_src_exa {Z : State} {h0 : Heap} {a_ANNOTATION : Addr} {a_CLASS_RULE : Addr} {a_DESCRIPTOR : Addr} {a_METHOD_RULE : Addr} {a_cache : Addr} {cl_cache : Cell} (hE : own_E Z h0 a_ANNOTATION a_CLASS_RULE a_DESCRIPTOR a_METHOD_RULE a_cache cl_cache) (v : Int32) : Exa Z h0 (own_src a_ANNOTATION a_DESCRIPTOR a_METHOD_RULE a_CLASS_RULE v) "com/example/rollback_rules/rollbackrules/decision/Designation$Source" := by
  unfold own_src
  split
  · exact own_p_E_ANNOTATION hE
  split
  · exact own_p_E_DESCRIPTOR hE
  split
  · exact own_p_E_METHOD_RULE hE
  · exact own_p_E_CLASS_RULE hE
theorem own_src_ne {Z : State} {h0 : Heap} {a_ANNOTATION : Addr} {a_CLASS_RULE : Addr} {a_DESCRIPTOR : Addr} {a_METHOD_RULE : Addr} {a_cache : Addr} {cl_cache : Cell} (hE : own_E Z h0 a_ANNOTATION a_CLASS_RULE a_DESCRIPTOR a_METHOD_RULE a_cache cl_cache) {u v : Int32} (hu : u = 0 ∨ u = 1 ∨ u = 2 ∨ u = 3) (hv : v = 0 ∨ v = 1 ∨ v = 2 ∨ v = 3) (hn : ¬ u = v) : own_src a_ANNOTATION a_DESCRIPTOR a_METHOD_RULE a_CLASS_RULE u ≠ own_src a_ANNOTATION a_DESCRIPTOR a_METHOD_RULE a_CLASS_RULE v := by
  have q0 := own_p_F_ANNOTATION_ordinal hE
  have q1 := own_p_F_DESCRIPTOR_ordinal hE
  have q2 := own_p_F_METHOD_RULE_ordinal hE
  have q3 := own_p_F_CLASS_RULE_ordinal hE
  rcases hu with rfl | rfl | rfl | rfl <;> rcases hv with rfl | rfl | rfl | rfl <;> first | exact absurd rfl hn | (simp only [own_src]; first | exact Fld.ne q0 q1 (by decide) | exact Fld.ne q0 q2 (by decide) | exact Fld.ne q0 q3 (by decide) | exact Fld.ne q1 q0 (by decide) | exact Fld.ne q1 q2 (by decide) | exact Fld.ne q1 q3 (by decide) | exact Fld.ne q2 q0 (by decide) | exact Fld.ne q2 q1 (by decide) | exact Fld.ne q2 q3 (by decide) | exact Fld.ne q3 q0 (by decide) | exact Fld.ne q3 q1 (by decide) | exact Fld.ne q3 q2 (by decide))
set_option maxRecDepth 65536 in
set_option maxHeartbeats 40000000 in
theorem own_srcP (l : Launch) (Z : State) (a0 : Array Value) (hw : ∀ d ∈ tables_1, d.before a0 Z = true) (h0 : Heap) (a_ANNOTATION : Addr) (a_CLASS_RULE : Addr) (a_DESCRIPTOR : Addr) (a_METHOD_RULE : Addr) (a_cache : Addr) (cl_cache : Cell) (hE : own_E Z h0 a_ANNOTATION a_CLASS_RULE a_DESCRIPTOR a_METHOD_RULE a_cache cl_cache) (i : Int32) :
    own_Pure l Z h0 [] ({ frames := 0, cells := 0, slots := 0, locals := 0 } : Room) (⟨"com/example/rollback_rules/rollbackrules/decision/DesignationEqualsPinLaw", "src", "(I)Lcom/example/rollback_rules/rollbackrules/decision/Designation$Source;"⟩ : MethodName) method_2_code 1 (some (.object "com/example/rollback_rules/rollbackrules/decision/Designation$Source")) #[(.int i)] (some (.ref (own_src a_ANNOTATION a_DESCRIPTOR a_METHOD_RULE a_CLASS_RULE i))) := by
  refine own_body (plainFor_of_name own_pn_0) ?_
  intro p e s m below meth c T0 X0 hx hby hml hown hZ e0 hret hlk hnm hnamed
  replace hown : s.vm.findClass "com/example/rollback_rules/rollbackrules/decision/DesignationEqualsPinLaw" = some m.cls := hown
  replace hml : c.maxLocals = 1 := hml
  have ef : entryFrame m #[(.int i)] 1 = mkF m 0 #[.val (.int i)] [] := by first | (simp [entryFrame, mkF, argsToLocals, Value.category]; done) | rfl
  rw [ef]
  have S_ANNOTATION := own_p_S_ANNOTATION hE
  have S_CLASS_RULE := own_p_S_CLASS_RULE hE
  have S_DESCRIPTOR := own_p_S_DESCRIPTOR hE
  have S_METHOD_RULE := own_p_S_METHOD_RULE hE
  refine own_st (T' := T0) (g' := (mkF m 1 #[.val (.int i)] [(.int i)])) (fun _ k => XS.iloadN X0.here hx rfl (hb hby own_d_method_2_code_0) rfl k) ?_
  by_cases hc1_1 : i = (0 : Int32)
  ·
    refine own_st (T' := T0) (g' := (mkF m 4 #[.val (.int i)] [])) (fun _ k => XS.ifNo X0.here hx rfl (hb hby own_d_method_2_code_1) rfl ((if0 _ _).trans (teq hc1_1).2) k) ?_
    obtain ⟨T2, X2, e2, st2⟩ := getS2 X0 hx hZ hown (host := "") (Or.inl (hw _ (List.mem_of_getElem? (i := 7) rfl))) Via.refl e0 S_ANNOTATION (g := (mkF m 4 #[.val (.int i)] [])) rfl (hb hby own_d_method_2_code_4)
    refine own_st (T' := T2) (g' := (mkF m 7 #[.val (.int i)] [(.ref a_ANNOTATION)])) st2 ?_
    exact own_ret X2 hx hlk hret rfl (Or.inr (Or.inr (Or.inr (Or.inr ⟨rfl, rfl, rfl⟩)))) (hb hby own_d_method_2_code_7) (by decide) (by decide) ⟨(by rw [hc1_1]; simp [own_src]), rfl, e2⟩
  ·
    refine own_st (T' := T0) (g' := (mkF m 8 #[.val (.int i)] [])) (fun _ k => XS.ifYes X0.here hx rfl (pc0 := 1) (pc' := 8) rfl (hb hby own_d_method_2_code_1) rfl ((if0 _ _).trans (feq hc1_1).2) (by decide) (by decide) k) ?_
    refine own_st (T' := T0) (g' := (mkF m 9 #[.val (.int i)] [(.int i)])) (fun _ k => XS.iloadN X0.here hx rfl (hb hby own_d_method_2_code_8) rfl k) ?_
    refine own_st (T' := T0) (g' := (mkF m 10 #[.val (.int i)] [(.int (1 : Int32)), (.int i)])) (fun _ k => XS.iconst X0.here hx rfl (hb hby own_d_method_2_code_9) k) ?_
    by_cases hc10_3 : i = (1 : Int32)
    ·
      refine own_st (T' := T0) (g' := (mkF m 13 #[.val (.int i)] [])) (fun _ k => XS.icmpNo X0.here hx rfl (hb hby own_d_method_2_code_10) rfl (teq hc10_3).2 k) ?_
      obtain ⟨T4, X4, e4, st4⟩ := getS2 X0 hx hZ hown (host := "") (Or.inl (hw _ (List.mem_of_getElem? (i := 45) rfl))) Via.refl e0 S_DESCRIPTOR (g := (mkF m 13 #[.val (.int i)] [])) rfl (hb hby own_d_method_2_code_13)
      refine own_st (T' := T4) (g' := (mkF m 16 #[.val (.int i)] [(.ref a_DESCRIPTOR)])) st4 ?_
      exact own_ret X4 hx hlk hret rfl (Or.inr (Or.inr (Or.inr (Or.inr ⟨rfl, rfl, rfl⟩)))) (hb hby own_d_method_2_code_16) (by decide) (by decide) ⟨(by rw [hc10_3]; simp [own_src]), rfl, e4⟩
    ·
      refine own_st (T' := T0) (g' := (mkF m 17 #[.val (.int i)] [])) (fun _ k => XS.icmpYes X0.here hx rfl (pc0 := 10) (pc' := 17) rfl (hb hby own_d_method_2_code_10) rfl (feq hc10_3).2 (by decide) (by decide) k) ?_
      refine own_st (T' := T0) (g' := (mkF m 18 #[.val (.int i)] [(.int i)])) (fun _ k => XS.iloadN X0.here hx rfl (hb hby own_d_method_2_code_17) rfl k) ?_
      refine own_st (T' := T0) (g' := (mkF m 19 #[.val (.int i)] [(.int (2 : Int32)), (.int i)])) (fun _ k => XS.iconst X0.here hx rfl (hb hby own_d_method_2_code_18) k) ?_
      by_cases hc19_5 : i = (2 : Int32)
      ·
        refine own_st (T' := T0) (g' := (mkF m 22 #[.val (.int i)] [])) (fun _ k => XS.icmpNo X0.here hx rfl (hb hby own_d_method_2_code_19) rfl (teq hc19_5).2 k) ?_
        obtain ⟨T6, X6, e6, st6⟩ := getS2 X0 hx hZ hown (host := "") (Or.inl (hw _ (List.mem_of_getElem? (i := 47) rfl))) Via.refl e0 S_METHOD_RULE (g := (mkF m 22 #[.val (.int i)] [])) rfl (hb hby own_d_method_2_code_22)
        refine own_st (T' := T6) (g' := (mkF m 25 #[.val (.int i)] [(.ref a_METHOD_RULE)])) st6 ?_
        exact own_ret X6 hx hlk hret rfl (Or.inr (Or.inr (Or.inr (Or.inr ⟨rfl, rfl, rfl⟩)))) (hb hby own_d_method_2_code_25) (by decide) (by decide) ⟨(by rw [hc19_5]; simp [own_src]), rfl, e6⟩
      ·
        refine own_st (T' := T0) (g' := (mkF m 26 #[.val (.int i)] [])) (fun _ k => XS.icmpYes X0.here hx rfl (pc0 := 19) (pc' := 26) rfl (hb hby own_d_method_2_code_19) rfl (feq hc19_5).2 (by decide) (by decide) k) ?_
        obtain ⟨T7, X7, e7, st7⟩ := getS2 X0 hx hZ hown (host := "") (Or.inl (hw _ (List.mem_of_getElem? (i := 36) rfl))) Via.refl e0 S_CLASS_RULE (g := (mkF m 26 #[.val (.int i)] [])) rfl (hb hby own_d_method_2_code_26)
        refine own_st (T' := T7) (g' := (mkF m 29 #[.val (.int i)] [(.ref a_CLASS_RULE)])) st7 ?_
        exact own_ret X7 hx hlk hret rfl (Or.inr (Or.inr (Or.inr (Or.inr ⟨rfl, rfl, rfl⟩)))) (hb hby own_d_method_2_code_29) (by decide) (by decide) ⟨(by simp [own_src, hc1_1, hc10_3, hc19_5]), rfl, e7⟩
set_option maxRecDepth 65536 in
set_option maxHeartbeats 40000000 in
theorem own_rnn (l : Launch) (Z : State) (a0 : Array Value) (hw : ∀ d ∈ tables_1, d.before a0 Z = true) (h0 : Heap) (y0 y1 : Addr) :
    own_Pure l Z h0 [] ({ frames := 0, cells := 0, slots := 0, locals := 0 } : Room) (⟨"java/util/Objects", "requireNonNull", "(Ljava/lang/Object;Ljava/lang/String;)Ljava/lang/Object;"⟩ : MethodName) jdk_31_method_11_code 2 (some (.object "java/lang/Object")) #[(.ref y0), (.ref y1)] (some (.ref y0)) := by
  refine own_body (plainFor_of_name own_pn_1) ?_
  intro p e s m below meth c T0 X0 hx hby hml hown hZ e0 hret hlk hnm hnamed
  replace hown : s.vm.findClass "java/util/Objects" = some m.cls := hown
  replace hml : c.maxLocals = 2 := hml
  have ef : entryFrame m #[(.ref y0), (.ref y1)] 2 = mkF m 0 #[.val (.ref y0), .val (.ref y1)] [] := by first | (simp [entryFrame, mkF, argsToLocals, Value.category]; done) | rfl
  rw [ef]
  refine own_st (T' := T0) (g' := (mkF m 1 #[.val (.ref y0), .val (.ref y1)] [(.ref y0)])) (fun _ k => XS.aloadN X0.here hx rfl (hb hby own_d_jdk_31_method_11_code_0) rfl rfl k) ?_
  refine own_st (T' := T0) (g' := (mkF m 13 #[.val (.ref y0), .val (.ref y1)] [])) (fun _ k => XS.ifnonnullYes X0.here hx rfl (pc0 := 1) (pc' := 13) rfl (hb hby own_d_jdk_31_method_11_code_1) rfl (by decide) (by decide) k) ?_
  refine own_st (T' := T0) (g' := (mkF m 14 #[.val (.ref y0), .val (.ref y1)] [(.ref y0)])) (fun _ k => XS.aloadN X0.here hx rfl (hb hby own_d_jdk_31_method_11_code_13) rfl rfl k) ?_
  exact own_ret X0 hx hlk hret rfl (Or.inr (Or.inr (Or.inr (Or.inr ⟨rfl, rfl, rfl⟩)))) (hb hby own_d_jdk_31_method_11_code_14) (by decide) (by decide) ⟨rfl, rfl, e0⟩
set_option maxRecDepth 65536 in
set_option maxHeartbeats 40000000 in
theorem own_init (l : Launch) (Z : State) (a0 : Array Value) (hw : ∀ d ∈ tables_1, d.before a0 Z = true) (h0 : Heap)  (o s1 : Addr) (r i1 : Int32) (h_r : r = 0 ∨ r = 1) (h_i1 : i1 = 0 ∨ i1 = 1) (n0 : Nat) (g_o : n0 ≤ o) (E_o : Exa Z h0 o "com/example/rollback_rules/rollbackrules/decision/Designation") (E_s1 : Exa Z h0 s1 "com/example/rollback_rules/rollbackrules/decision/Designation$Source") (F_source_o : Fld Z h0 o "com/example/rollback_rules/rollbackrules/decision/Designation" "source" "Lcom/example/rollback_rules/rollbackrules/decision/Designation$Source;" .null) (F_rollback_o : Fld Z h0 o "com/example/rollback_rules/rollbackrules/decision/Designation" "rollback" "Z" (.int (0 : Int32))) (F_inherited_o : Fld Z h0 o "com/example/rollback_rules/rollbackrules/decision/Designation" "inherited" "Z" (.int (0 : Int32))) :
    own_MetW l Z h0 [] ({ frames := 1, cells := 2, slots := 28, locals := 14 } : Room) (⟨"com/example/rollback_rules/rollbackrules/decision/Designation", "<init>", "(Lcom/example/rollback_rules/rollbackrules/decision/Designation$Source;ZZ)V"⟩ : MethodName) prog_57_method_1_code 4 none #[(.ref o), (.ref s1), (.int r), (.int i1)] (fun v h L => v = none ∧ Fr n0 L ∧ Keep h0 h [o] ∧ Exa Z h o "com/example/rollback_rules/rollbackrules/decision/Designation" ∧ Fld Z h o "com/example/rollback_rules/rollbackrules/decision/Designation" "source" "Lcom/example/rollback_rules/rollbackrules/decision/Designation$Source;" (.ref s1) ∧ Fld Z h o "com/example/rollback_rules/rollbackrules/decision/Designation" "rollback" "Z" (.int r) ∧ Fld Z h o "com/example/rollback_rules/rollbackrules/decision/Designation" "inherited" "Z" (.int i1)) := by
  refine own_bodyW (plainFor_of_name own_pn_2) ?_
  intro p e s m below meth c T0 vm0 k0 X0 hS hk hx hby hml hown hZ e0 hret hlk hnm hnamed
  replace hown : (s.setVm vm0).vm.findClass "com/example/rollback_rules/rollbackrules/decision/Designation" = some m.cls := hown
  replace hml : c.maxLocals = 4 := hml
  have ef : entryFrame m #[(.ref o), (.ref s1), (.int r), (.int i1)] 4 = mkF m 0 #[.val (.ref o), .val (.ref s1), .val (.int r), .val (.int i1)] [] := by first | (simp [entryFrame, mkF, argsToLocals, Value.category]; done) | rfl
  rw [ef]
  have K0 := Keep.refl h0 [o]
  have Nf := Fr.nil n0
  refine own_st (T' := T0) (g' := (mkF m 1 #[.val (.ref o), .val (.ref s1), .val (.int r), .val (.int i1)] [(.ref o)])) (fun _ k => XS.aloadN X0.here hx rfl (hb hby own_d_prog_57_method_1_code_0) rfl rfl k) ?_
  obtain ⟨T1, X1, e1, st1⟩ := initO X0 hx hZ hown (hw _ (List.mem_of_getElem? (i := 13) rfl)) (hw _ (List.mem_of_getElem? (i := 14) rfl)) (hw _ (List.mem_of_getElem? (i := 15) rfl)) e0 (g := (mkF m 1 #[.val (.ref o), .val (.ref s1), .val (.int r), .val (.int i1)] [(.ref o)])) rfl (by rw [hml]; rfl) rfl (hb hby own_d_prog_57_method_1_code_1) (by decide) (W := 0) (by show 2 * 0 + _ ≤ _; exact Nat.le_of_eq rfl) (by decide)
  refine own_st (T' := T1) (g' := (mkF m 4 #[.val (.ref o), .val (.ref s1), .val (.int r), .val (.int i1)] [])) st1 ?_
  refine own_st (T' := T1) (g' := (mkF m 5 #[.val (.ref o), .val (.ref s1), .val (.int r), .val (.int i1)] [(.ref o)])) (fun _ k => XS.aloadN X1.here hx rfl (hb hby own_d_prog_57_method_1_code_4) rfl rfl k) ?_
  refine own_st (T' := T1) (g' := (mkF m 6 #[.val (.ref o), .val (.ref s1), .val (.int r), .val (.int i1)] [(.ref s1), (.ref o)])) (fun _ k => XS.aloadN X1.here hx rfl (hb hby own_d_prog_57_method_1_code_5) rfl rfl k) ?_
  obtain ⟨a2, T2, h2, k2, X2, e2, E2, hS, hk, hZ, hown, st2⟩ := ldcS X1 hx hZ hown (hw _ (List.mem_of_getElem? (i := 16) rfl)) (own_wS hw) e1 hS hk (g := (mkF m 6 #[.val (.ref o), .val (.ref s1), .val (.int r), .val (.int i1)] [(.ref s1), (.ref o)])) rfl (hb hby own_d_prog_57_method_1_code_6) (n := 24) (by decide) (by decide) (by decide) (by decide)
  have E_o := E_o.ext E2
  have E_s1 := E_s1.ext E2
  have F_source_o := F_source_o.ext E2
  have F_rollback_o := F_rollback_o.ext E2
  have F_inherited_o := F_inherited_o.ext E2
  have K0 := K0.ext E2
  refine own_st (T' := T2) (g' := (mkF m 8 #[.val (.ref o), .val (.ref s1), .val (.int r), .val (.int i1)] [(.ref a2), (.ref s1), (.ref o)])) st2 ?_
  obtain ⟨T3, X3, e3, st3⟩ := own_pure (w := (.ref s1)) rfl rfl (own_gS X2 hx hZ hown (hw _ (List.mem_of_getElem? (i := 24) rfl)) (hw _ (List.mem_of_getElem? (i := 25) rfl)) (hw _ (List.mem_of_getElem? (i := 26) rfl)) (hw _ (List.mem_of_getElem? (i := 27) rfl)) (by decide) e2 (own_rnn l Z a0 hw h2 s1 a2) (by decide) (by decide) (by decide) (by decide) (Q := fun v h L => v = some (.ref s1) ∧ L = [] ∧ h = h2) (W := 1) (g := (mkF m 8 #[.val (.ref o), .val (.ref s1), .val (.int r), .val (.int i1)] [(.ref a2), (.ref s1), (.ref o)])) (argsL := [(.ref s1), (.ref a2)]) (rest := [(.ref o)]) rfl (by rw [hml]; rfl) (lenOf own_pd_0 rfl) rfl (by show 2 * 0 + _ ≤ _; exact Nat.le_of_eq rfl) (hb hby own_d_prog_57_method_1_code_8))
  refine own_st (T' := T3) (g' := (mkF m 11 #[.val (.ref o), .val (.ref s1), .val (.int r), .val (.int i1)] [(.ref s1), (.ref o)])) st3 ?_
  obtain ⟨T4, X4, e4, st4⟩ := castY X3 hx hZ hown (hw _ (List.mem_of_getElem? (i := 28) rfl)) e3 (Ins.self E_s1) (g := (mkF m 11 #[.val (.ref o), .val (.ref s1), .val (.int r), .val (.int i1)] [(.ref s1), (.ref o)])) rfl rfl (hb hby own_d_prog_57_method_1_code_11)
  refine own_st (T' := T4) (g' := (mkF m 14 #[.val (.ref o), .val (.ref s1), .val (.int r), .val (.int i1)] [(.ref s1), (.ref o)])) st4 ?_
  obtain ⟨T5, h5, X5, e5, W5, st5⟩ := putF X4 hx hZ hown (host := "") (Or.inl (hw _ (List.mem_of_getElem? (i := 30) rfl))) Via.refl e4 F_source_o E_o (Or.inr ⟨(hw _ (List.mem_of_getElem? (i := 31) rfl)), rfl, hnm⟩) (hw _ (List.mem_of_getElem? (i := 1) rfl)) (ty := (.object "com/example/rollback_rules/rollbackrules/decision/Designation$Source")) (by decide) rfl rfl (g := (mkF m 14 #[.val (.ref o), .val (.ref s1), .val (.int r), .val (.int i1)] [(.ref s1), (.ref o)])) rfl rfl (hb hby own_d_prog_57_method_1_code_14)
  have E_o := E_o.wr W5
  have E_s1 := E_s1.wr W5
  have K0 := K0.wr W5 (Or.inl (List.mem_of_getElem? (i := 0) rfl))
  have hk := (Wr.size W5) ▸ hk
  have F_source_o := F_source_o.same W5
  have F_rollback_o := F_rollback_o.other W5 (Or.inr (slot_ne (Or.inr (hw _ (List.mem_of_getElem? (i := 33) rfl))) (Or.inr (hw _ (List.mem_of_getElem? (i := 31) rfl))) (by decide) (t := .boolean) (t' := (.object "com/example/rollback_rules/rollbackrules/decision/Designation$Source")) (by decide) (by decide)))
  have F_inherited_o := F_inherited_o.other W5 (Or.inr (slot_ne (Or.inr (hw _ (List.mem_of_getElem? (i := 35) rfl))) (Or.inr (hw _ (List.mem_of_getElem? (i := 31) rfl))) (by decide) (t := .boolean) (t' := (.object "com/example/rollback_rules/rollbackrules/decision/Designation$Source")) (by decide) (by decide)))
  have Nf := Fr.snoc X5 Nf g_o
  refine own_st (T' := T5) (g' := (mkF m 17 #[.val (.ref o), .val (.ref s1), .val (.int r), .val (.int i1)] [])) st5 ?_
  refine own_st (T' := T5) (g' := (mkF m 18 #[.val (.ref o), .val (.ref s1), .val (.int r), .val (.int i1)] [(.ref o)])) (fun _ k => XS.aloadN X5.here hx rfl (hb hby own_d_prog_57_method_1_code_17) rfl rfl k) ?_
  refine own_st (T' := T5) (g' := (mkF m 19 #[.val (.ref o), .val (.ref s1), .val (.int r), .val (.int i1)] [(.int r), (.ref o)])) (fun _ k => XS.iloadN X5.here hx rfl (hb hby own_d_prog_57_method_1_code_18) rfl k) ?_
  obtain ⟨T6, h6, X6, e6, W6, st6⟩ := putF X5 hx hZ hown (host := "") (Or.inl (hw _ (List.mem_of_getElem? (i := 32) rfl))) Via.refl e5 F_rollback_o E_o (Or.inr ⟨(hw _ (List.mem_of_getElem? (i := 33) rfl)), rfl, hnm⟩) (hw _ (List.mem_of_getElem? (i := 1) rfl)) (ty := .boolean) (by decide) (own_nb h_r) (own_fb h_r) (g := (mkF m 19 #[.val (.ref o), .val (.ref s1), .val (.int r), .val (.int i1)] [(.int r), (.ref o)])) rfl rfl (hb hby own_d_prog_57_method_1_code_19)
  have E_o := E_o.wr W6
  have E_s1 := E_s1.wr W6
  have K0 := K0.wr W6 (Or.inl (List.mem_of_getElem? (i := 0) rfl))
  have hk := (Wr.size W6) ▸ hk
  have F_source_o := F_source_o.other W6 (Or.inr (slot_ne (Or.inr (hw _ (List.mem_of_getElem? (i := 31) rfl))) (Or.inr (hw _ (List.mem_of_getElem? (i := 33) rfl))) (by decide) (t := (.object "com/example/rollback_rules/rollbackrules/decision/Designation$Source")) (t' := .boolean) (by decide) (by decide)))
  have F_rollback_o := F_rollback_o.same W6
  have F_inherited_o := F_inherited_o.other W6 (Or.inr (slot_ne (Or.inr (hw _ (List.mem_of_getElem? (i := 35) rfl))) (Or.inr (hw _ (List.mem_of_getElem? (i := 33) rfl))) (by decide) (t := .boolean) (t' := .boolean) (by decide) (by decide)))
  have Nf := Fr.snoc X6 Nf g_o
  refine own_st (T' := T6) (g' := (mkF m 22 #[.val (.ref o), .val (.ref s1), .val (.int r), .val (.int i1)] [])) st6 ?_
  refine own_st (T' := T6) (g' := (mkF m 23 #[.val (.ref o), .val (.ref s1), .val (.int r), .val (.int i1)] [(.ref o)])) (fun _ k => XS.aloadN X6.here hx rfl (hb hby own_d_prog_57_method_1_code_22) rfl rfl k) ?_
  refine own_st (T' := T6) (g' := (mkF m 24 #[.val (.ref o), .val (.ref s1), .val (.int r), .val (.int i1)] [(.int i1), (.ref o)])) (fun _ k => XS.iloadN X6.here hx rfl (hb hby own_d_prog_57_method_1_code_23) rfl k) ?_
  obtain ⟨T7, h7, X7, e7, W7, st7⟩ := putF X6 hx hZ hown (host := "") (Or.inl (hw _ (List.mem_of_getElem? (i := 34) rfl))) Via.refl e6 F_inherited_o E_o (Or.inr ⟨(hw _ (List.mem_of_getElem? (i := 35) rfl)), rfl, hnm⟩) (hw _ (List.mem_of_getElem? (i := 1) rfl)) (ty := .boolean) (by decide) (own_nb h_i1) (own_fb h_i1) (g := (mkF m 24 #[.val (.ref o), .val (.ref s1), .val (.int r), .val (.int i1)] [(.int i1), (.ref o)])) rfl rfl (hb hby own_d_prog_57_method_1_code_24)
  have E_o := E_o.wr W7
  have E_s1 := E_s1.wr W7
  have K0 := K0.wr W7 (Or.inl (List.mem_of_getElem? (i := 0) rfl))
  have hk := (Wr.size W7) ▸ hk
  have F_source_o := F_source_o.other W7 (Or.inr (slot_ne (Or.inr (hw _ (List.mem_of_getElem? (i := 31) rfl))) (Or.inr (hw _ (List.mem_of_getElem? (i := 35) rfl))) (by decide) (t := (.object "com/example/rollback_rules/rollbackrules/decision/Designation$Source")) (t' := .boolean) (by decide) (by decide)))
  have F_rollback_o := F_rollback_o.other W7 (Or.inr (slot_ne (Or.inr (hw _ (List.mem_of_getElem? (i := 33) rfl))) (Or.inr (hw _ (List.mem_of_getElem? (i := 35) rfl))) (by decide) (t := .boolean) (t' := .boolean) (by decide) (by decide)))
  have F_inherited_o := F_inherited_o.same W7
  have Nf := Fr.snoc X7 Nf g_o
  refine own_st (T' := T7) (g' := (mkF m 27 #[.val (.ref o), .val (.ref s1), .val (.int r), .val (.int i1)] [])) st7 ?_
  exact own_retVW X7 hx hlk hS (by rw [e7]; exact hk) hret (hb hby own_d_prog_57_method_1_code_27) (by decide) (by decide) (by rw [e7]; exact ⟨rfl, Nf, K0, E_o, F_source_o, F_rollback_o, F_inherited_o⟩)
set_option maxRecDepth 65536 in
set_option maxHeartbeats 40000000 in
theorem own_eq_null (l : Launch) (Z : State) (a0 : Array Value) (hw : ∀ d ∈ tables_1, d.before a0 Z = true) (h0 : Heap)  (o : Addr)  :
    own_Met l Z h0 [] ({ frames := 0, cells := 0, slots := 0, locals := 0 } : Room) (⟨"com/example/rollback_rules/rollbackrules/decision/Designation", "equals", "(Ljava/lang/Object;)Z"⟩ : MethodName) prog_57_method_8_code 3 (some .boolean) #[(.ref o), .null] (fun v h L => v = some (.int (0 : Int32)) ∧ L = [] ∧ h = h0) := by
  refine own_body (plainFor_of_name own_pn_2) ?_
  intro p e s m below meth c T0 X0 hx hby hml hown hZ e0 hret hlk hnm hnamed
  replace hown : s.vm.findClass "com/example/rollback_rules/rollbackrules/decision/Designation" = some m.cls := hown
  replace hml : c.maxLocals = 3 := hml
  have ef : entryFrame m #[(.ref o), .null] 3 = mkF m 0 #[.val (.ref o), .val .null, .unset] [] := by first | (simp [entryFrame, mkF, argsToLocals, Value.category]; done) | rfl
  rw [ef]
  have Nf := Fr.nil 0
  refine own_st (T' := T0) (g' := (mkF m 1 #[.val (.ref o), .val .null, .unset] [.null])) (fun _ k => XS.aloadN X0.here hx rfl (hb hby own_d_prog_57_method_8_code_0) rfl rfl k) ?_
  refine own_st (T' := T0) (g' := (mkF m 4 #[.val (.ref o), .val .null, .unset] [(.int (0 : Int32))])) (fun _ k => X0.instanceofNull hx (g := (mkF m 1 #[.val (.ref o), .val .null, .unset] [.null])) rfl rfl (hb hby own_d_prog_57_method_8_code_1) _ k) ?_
  refine own_st (T' := T0) (g' := (mkF m 49 #[.val (.ref o), .val .null, .unset] [])) (fun _ k => XS.ifYes X0.here hx rfl (pc0 := 4) (pc' := 49) rfl (hb hby own_d_prog_57_method_8_code_4) rfl (by decide) (by decide) (by decide) k) ?_
  refine own_st (T' := T0) (g' := (mkF m 50 #[.val (.ref o), .val .null, .unset] [(.int (0 : Int32))])) (fun _ k => XS.iconst X0.here hx rfl (hb hby own_d_prog_57_method_8_code_49) k) ?_
  exact own_ret X0 hx hlk hret rfl (Or.inl ⟨rfl, Or.inr (Or.inl rfl), _, rfl⟩) (hb hby own_d_prog_57_method_8_code_50) (by decide) (by decide) ⟨rfl, rfl, e0⟩
set_option maxRecDepth 65536 in
set_option maxHeartbeats 40000000 in
theorem own_eq_int (l : Launch) (Z : State) (a0 : Array Value) (hw : ∀ d ∈ tables_1, d.before a0 Z = true) (h0 : Heap)  (o o2 : Addr) (E_o2 : Exa Z h0 o2 "java/lang/Integer")  :
    own_Met l Z h0 [] ({ frames := 0, cells := 0, slots := 0, locals := 0 } : Room) (⟨"com/example/rollback_rules/rollbackrules/decision/Designation", "equals", "(Ljava/lang/Object;)Z"⟩ : MethodName) prog_57_method_8_code 3 (some .boolean) #[(.ref o), (.ref o2)] (fun v h L => v = some (.int (0 : Int32)) ∧ L = [] ∧ h = h0) := by
  refine own_body (plainFor_of_name own_pn_2) ?_
  intro p e s m below meth c T0 X0 hx hby hml hown hZ e0 hret hlk hnm hnamed
  replace hown : s.vm.findClass "com/example/rollback_rules/rollbackrules/decision/Designation" = some m.cls := hown
  replace hml : c.maxLocals = 3 := hml
  have ef : entryFrame m #[(.ref o), (.ref o2)] 3 = mkF m 0 #[.val (.ref o), .val (.ref o2), .unset] [] := by first | (simp [entryFrame, mkF, argsToLocals, Value.category]; done) | rfl
  rw [ef]
  have Nf := Fr.nil 0
  refine own_st (T' := T0) (g' := (mkF m 1 #[.val (.ref o), .val (.ref o2), .unset] [(.ref o2)])) (fun _ k => XS.aloadN X0.here hx rfl (hb hby own_d_prog_57_method_8_code_0) rfl rfl k) ?_
  obtain ⟨T1, X1, e1, st1⟩ := instNo X0 hx hZ hown (hw _ (List.mem_of_getElem? (i := 43) rfl)) e0 E_o2 (own_notDes hw) (g := (mkF m 1 #[.val (.ref o), .val (.ref o2), .unset] [(.ref o2)])) rfl rfl (hb hby own_d_prog_57_method_8_code_1)
  refine own_st (T' := T1) (g' := (mkF m 4 #[.val (.ref o), .val (.ref o2), .unset] [(.int (0 : Int32))])) st1 ?_
  refine own_st (T' := T1) (g' := (mkF m 49 #[.val (.ref o), .val (.ref o2), .unset] [])) (fun _ k => XS.ifYes X1.here hx rfl (pc0 := 4) (pc' := 49) rfl (hb hby own_d_prog_57_method_8_code_4) rfl (by decide) (by decide) (by decide) k) ?_
  refine own_st (T' := T1) (g' := (mkF m 50 #[.val (.ref o), .val (.ref o2), .unset] [(.int (0 : Int32))])) (fun _ k => XS.iconst X1.here hx rfl (hb hby own_d_prog_57_method_8_code_49) k) ?_
  exact own_ret X1 hx hlk hret rfl (Or.inl ⟨rfl, Or.inr (Or.inl rfl), _, rfl⟩) (hb hby own_d_prog_57_method_8_code_50) (by decide) (by decide) ⟨rfl, rfl, e1⟩
set_option maxRecDepth 65536 in
set_option maxHeartbeats 40000000 in
theorem own_eq_self (l : Launch) (Z : State) (a0 : Array Value) (hw : ∀ d ∈ tables_1, d.before a0 Z = true) (h0 : Heap)  (o s1 : Addr) (r i1 : Int32) (E_o : Exa Z h0 o "com/example/rollback_rules/rollbackrules/decision/Designation") (F_source_o : Fld Z h0 o "com/example/rollback_rules/rollbackrules/decision/Designation" "source" "Lcom/example/rollback_rules/rollbackrules/decision/Designation$Source;" (.ref s1)) (F_rollback_o : Fld Z h0 o "com/example/rollback_rules/rollbackrules/decision/Designation" "rollback" "Z" (.int r)) (F_inherited_o : Fld Z h0 o "com/example/rollback_rules/rollbackrules/decision/Designation" "inherited" "Z" (.int i1))  :
    own_Met l Z h0 [] ({ frames := 0, cells := 0, slots := 0, locals := 0 } : Room) (⟨"com/example/rollback_rules/rollbackrules/decision/Designation", "equals", "(Ljava/lang/Object;)Z"⟩ : MethodName) prog_57_method_8_code 3 (some .boolean) #[(.ref o), (.ref o)] (fun v h L => v = some (.int (1 : Int32)) ∧ L = [] ∧ h = h0) := by
  refine own_body (plainFor_of_name own_pn_2) ?_
  intro p e s m below meth c T0 X0 hx hby hml hown hZ e0 hret hlk hnm hnamed
  replace hown : s.vm.findClass "com/example/rollback_rules/rollbackrules/decision/Designation" = some m.cls := hown
  replace hml : c.maxLocals = 3 := hml
  have ef : entryFrame m #[(.ref o), (.ref o)] 3 = mkF m 0 #[.val (.ref o), .val (.ref o), .unset] [] := by first | (simp [entryFrame, mkF, argsToLocals, Value.category]; done) | rfl
  rw [ef]
  have Nf := Fr.nil 0
  refine own_st (T' := T0) (g' := (mkF m 1 #[.val (.ref o), .val (.ref o), .unset] [(.ref o)])) (fun _ k => XS.aloadN X0.here hx rfl (hb hby own_d_prog_57_method_8_code_0) rfl rfl k) ?_
  obtain ⟨T1, X1, e1, st1⟩ := instY X0 hx hZ hown (hw _ (List.mem_of_getElem? (i := 43) rfl)) e0 (Ins.self E_o) (g := (mkF m 1 #[.val (.ref o), .val (.ref o), .unset] [(.ref o)])) rfl rfl (hb hby own_d_prog_57_method_8_code_1)
  refine own_st (T' := T1) (g' := (mkF m 4 #[.val (.ref o), .val (.ref o), .unset] [(.int (1 : Int32))])) st1 ?_
  refine own_st (T' := T1) (g' := (mkF m 7 #[.val (.ref o), .val (.ref o), .unset] [])) (fun _ k => XS.ifNo X1.here hx rfl (hb hby own_d_prog_57_method_8_code_4) rfl (by decide) k) ?_
  refine own_st (T' := T1) (g' := (mkF m 8 #[.val (.ref o), .val (.ref o), .unset] [(.ref o)])) (fun _ k => XS.aloadN X1.here hx rfl (hb hby own_d_prog_57_method_8_code_7) rfl rfl k) ?_
  obtain ⟨T2, X2, e2, st2⟩ := castY X1 hx hZ hown (hw _ (List.mem_of_getElem? (i := 43) rfl)) e1 (Ins.self E_o) (g := (mkF m 8 #[.val (.ref o), .val (.ref o), .unset] [(.ref o)])) rfl rfl (hb hby own_d_prog_57_method_8_code_8)
  refine own_st (T' := T2) (g' := (mkF m 11 #[.val (.ref o), .val (.ref o), .unset] [(.ref o)])) st2 ?_
  refine own_st (T' := T2) (g' := (mkF m 12 #[.val (.ref o), .val (.ref o), .val (.ref o)] [])) (fun _ k => XS.astoreN X2.here hx rfl (hb hby own_d_prog_57_method_8_code_11) rfl rfl (l' := #[.val (.ref o), .val (.ref o), .val (.ref o)]) rfl k) ?_
  refine own_st (T' := T2) (g' := (mkF m 13 #[.val (.ref o), .val (.ref o), .val (.ref o)] [(.ref o)])) (fun _ k => XS.aloadN X2.here hx rfl (hb hby own_d_prog_57_method_8_code_12) rfl rfl k) ?_
  obtain ⟨T3, X3, e3, st3⟩ := getF X2 hx hZ hown (host := "") (Or.inl (hw _ (List.mem_of_getElem? (i := 30) rfl))) Via.refl e2 F_source_o (g := (mkF m 13 #[.val (.ref o), .val (.ref o), .val (.ref o)] [(.ref o)])) rfl rfl (hb hby own_d_prog_57_method_8_code_13)
  refine own_st (T' := T3) (g' := (mkF m 16 #[.val (.ref o), .val (.ref o), .val (.ref o)] [(.ref s1)])) st3 ?_
  refine own_st (T' := T3) (g' := (mkF m 17 #[.val (.ref o), .val (.ref o), .val (.ref o)] [(.ref o), (.ref s1)])) (fun _ k => XS.aloadN X3.here hx rfl (hb hby own_d_prog_57_method_8_code_16) rfl rfl k) ?_
  obtain ⟨T4, X4, e4, st4⟩ := getF X3 hx hZ hown (host := "") (Or.inl (hw _ (List.mem_of_getElem? (i := 30) rfl))) Via.refl e3 F_source_o (g := (mkF m 17 #[.val (.ref o), .val (.ref o), .val (.ref o)] [(.ref o), (.ref s1)])) rfl rfl (hb hby own_d_prog_57_method_8_code_17)
  refine own_st (T' := T4) (g' := (mkF m 20 #[.val (.ref o), .val (.ref o), .val (.ref o)] [(.ref s1), (.ref s1)])) st4 ?_
  refine own_st (T' := T4) (g' := (mkF m 23 #[.val (.ref o), .val (.ref o), .val (.ref o)] [])) (fun _ k => Jvm.RoadKit.acmp (g := (mkF m 20 #[.val (.ref o), .val (.ref o), .val (.ref o)] [(.ref s1), (.ref s1)])) X4 hx rfl rfl rfl (pc0 := 20) (pc' := 23) (same := true) rfl (hb hby own_d_prog_57_method_8_code_20) rfl (decide_eq_true rfl) (by decide) (by decide) k) ?_
  refine own_st (T' := T4) (g' := (mkF m 24 #[.val (.ref o), .val (.ref o), .val (.ref o)] [(.ref o)])) (fun _ k => XS.aloadN X4.here hx rfl (hb hby own_d_prog_57_method_8_code_23) rfl rfl k) ?_
  obtain ⟨T5, X5, e5, st5⟩ := getF X4 hx hZ hown (host := "") (Or.inl (hw _ (List.mem_of_getElem? (i := 32) rfl))) Via.refl e4 F_rollback_o (g := (mkF m 24 #[.val (.ref o), .val (.ref o), .val (.ref o)] [(.ref o)])) rfl rfl (hb hby own_d_prog_57_method_8_code_24)
  refine own_st (T' := T5) (g' := (mkF m 27 #[.val (.ref o), .val (.ref o), .val (.ref o)] [(.int r)])) st5 ?_
  refine own_st (T' := T5) (g' := (mkF m 28 #[.val (.ref o), .val (.ref o), .val (.ref o)] [(.ref o), (.int r)])) (fun _ k => XS.aloadN X5.here hx rfl (hb hby own_d_prog_57_method_8_code_27) rfl rfl k) ?_
  obtain ⟨T6, X6, e6, st6⟩ := getF X5 hx hZ hown (host := "") (Or.inl (hw _ (List.mem_of_getElem? (i := 32) rfl))) Via.refl e5 F_rollback_o (g := (mkF m 28 #[.val (.ref o), .val (.ref o), .val (.ref o)] [(.ref o), (.int r)])) rfl rfl (hb hby own_d_prog_57_method_8_code_28)
  refine own_st (T' := T6) (g' := (mkF m 31 #[.val (.ref o), .val (.ref o), .val (.ref o)] [(.int r), (.int r)])) st6 ?_
  refine own_st (T' := T6) (g' := (mkF m 34 #[.val (.ref o), .val (.ref o), .val (.ref o)] [])) (fun _ k => XS.icmpNo X6.here hx rfl (hb hby own_d_prog_57_method_8_code_31) rfl (teq rfl).2 k) ?_
  refine own_st (T' := T6) (g' := (mkF m 35 #[.val (.ref o), .val (.ref o), .val (.ref o)] [(.ref o)])) (fun _ k => XS.aloadN X6.here hx rfl (hb hby own_d_prog_57_method_8_code_34) rfl rfl k) ?_
  obtain ⟨T7, X7, e7, st7⟩ := getF X6 hx hZ hown (host := "") (Or.inl (hw _ (List.mem_of_getElem? (i := 34) rfl))) Via.refl e6 F_inherited_o (g := (mkF m 35 #[.val (.ref o), .val (.ref o), .val (.ref o)] [(.ref o)])) rfl rfl (hb hby own_d_prog_57_method_8_code_35)
  refine own_st (T' := T7) (g' := (mkF m 38 #[.val (.ref o), .val (.ref o), .val (.ref o)] [(.int i1)])) st7 ?_
  refine own_st (T' := T7) (g' := (mkF m 39 #[.val (.ref o), .val (.ref o), .val (.ref o)] [(.ref o), (.int i1)])) (fun _ k => XS.aloadN X7.here hx rfl (hb hby own_d_prog_57_method_8_code_38) rfl rfl k) ?_
  obtain ⟨T8, X8, e8, st8⟩ := getF X7 hx hZ hown (host := "") (Or.inl (hw _ (List.mem_of_getElem? (i := 34) rfl))) Via.refl e7 F_inherited_o (g := (mkF m 39 #[.val (.ref o), .val (.ref o), .val (.ref o)] [(.ref o), (.int i1)])) rfl rfl (hb hby own_d_prog_57_method_8_code_39)
  refine own_st (T' := T8) (g' := (mkF m 42 #[.val (.ref o), .val (.ref o), .val (.ref o)] [(.int i1), (.int i1)])) st8 ?_
  refine own_st (T' := T8) (g' := (mkF m 45 #[.val (.ref o), .val (.ref o), .val (.ref o)] [])) (fun _ k => XS.icmpNo X8.here hx rfl (hb hby own_d_prog_57_method_8_code_42) rfl (teq rfl).2 k) ?_
  refine own_st (T' := T8) (g' := (mkF m 46 #[.val (.ref o), .val (.ref o), .val (.ref o)] [(.int (1 : Int32))])) (fun _ k => XS.iconst X8.here hx rfl (hb hby own_d_prog_57_method_8_code_45) k) ?_
  refine own_st (T' := T8) (g' := (mkF m 50 #[.val (.ref o), .val (.ref o), .val (.ref o)] [(.int (1 : Int32))])) (fun _ k => XS.goto X8.here hx rfl (pc0 := 46) (pc' := 50) rfl (hb hby own_d_prog_57_method_8_code_46) (by decide) (by decide) k) ?_
  exact own_ret X8 hx hlk hret rfl (Or.inl ⟨rfl, Or.inr (Or.inl rfl), _, rfl⟩) (hb hby own_d_prog_57_method_8_code_50) (by decide) (by decide) ⟨rfl, rfl, e8⟩
set_option maxRecDepth 65536 in
set_option maxHeartbeats 40000000 in
theorem own_eq_s (l : Launch) (Z : State) (a0 : Array Value) (hw : ∀ d ∈ tables_1, d.before a0 Z = true) (h0 : Heap)  (o o2 s1 s1' : Addr) (r r' i1 i1' : Int32) (E_o2 : Exa Z h0 o2 "com/example/rollback_rules/rollbackrules/decision/Designation") (F_source_o : Fld Z h0 o "com/example/rollback_rules/rollbackrules/decision/Designation" "source" "Lcom/example/rollback_rules/rollbackrules/decision/Designation$Source;" (.ref s1)) (F_rollback_o : Fld Z h0 o "com/example/rollback_rules/rollbackrules/decision/Designation" "rollback" "Z" (.int r)) (F_inherited_o : Fld Z h0 o "com/example/rollback_rules/rollbackrules/decision/Designation" "inherited" "Z" (.int i1)) (F_source_o2 : Fld Z h0 o2 "com/example/rollback_rules/rollbackrules/decision/Designation" "source" "Lcom/example/rollback_rules/rollbackrules/decision/Designation$Source;" (.ref s1')) (F_rollback_o2 : Fld Z h0 o2 "com/example/rollback_rules/rollbackrules/decision/Designation" "rollback" "Z" (.int r')) (F_inherited_o2 : Fld Z h0 o2 "com/example/rollback_rules/rollbackrules/decision/Designation" "inherited" "Z" (.int i1')) (hs : ¬ s1 = s1') :
    own_Met l Z h0 [] ({ frames := 0, cells := 0, slots := 0, locals := 0 } : Room) (⟨"com/example/rollback_rules/rollbackrules/decision/Designation", "equals", "(Ljava/lang/Object;)Z"⟩ : MethodName) prog_57_method_8_code 3 (some .boolean) #[(.ref o), (.ref o2)] (fun v h L => v = some (.int (0 : Int32)) ∧ L = [] ∧ h = h0) := by
  refine own_body (plainFor_of_name own_pn_2) ?_
  intro p e s m below meth c T0 X0 hx hby hml hown hZ e0 hret hlk hnm hnamed
  replace hown : s.vm.findClass "com/example/rollback_rules/rollbackrules/decision/Designation" = some m.cls := hown
  replace hml : c.maxLocals = 3 := hml
  have ef : entryFrame m #[(.ref o), (.ref o2)] 3 = mkF m 0 #[.val (.ref o), .val (.ref o2), .unset] [] := by first | (simp [entryFrame, mkF, argsToLocals, Value.category]; done) | rfl
  rw [ef]
  have Nf := Fr.nil 0
  refine own_st (T' := T0) (g' := (mkF m 1 #[.val (.ref o), .val (.ref o2), .unset] [(.ref o2)])) (fun _ k => XS.aloadN X0.here hx rfl (hb hby own_d_prog_57_method_8_code_0) rfl rfl k) ?_
  obtain ⟨T1, X1, e1, st1⟩ := instY X0 hx hZ hown (hw _ (List.mem_of_getElem? (i := 43) rfl)) e0 (Ins.self E_o2) (g := (mkF m 1 #[.val (.ref o), .val (.ref o2), .unset] [(.ref o2)])) rfl rfl (hb hby own_d_prog_57_method_8_code_1)
  refine own_st (T' := T1) (g' := (mkF m 4 #[.val (.ref o), .val (.ref o2), .unset] [(.int (1 : Int32))])) st1 ?_
  refine own_st (T' := T1) (g' := (mkF m 7 #[.val (.ref o), .val (.ref o2), .unset] [])) (fun _ k => XS.ifNo X1.here hx rfl (hb hby own_d_prog_57_method_8_code_4) rfl (by decide) k) ?_
  refine own_st (T' := T1) (g' := (mkF m 8 #[.val (.ref o), .val (.ref o2), .unset] [(.ref o2)])) (fun _ k => XS.aloadN X1.here hx rfl (hb hby own_d_prog_57_method_8_code_7) rfl rfl k) ?_
  obtain ⟨T2, X2, e2, st2⟩ := castY X1 hx hZ hown (hw _ (List.mem_of_getElem? (i := 43) rfl)) e1 (Ins.self E_o2) (g := (mkF m 8 #[.val (.ref o), .val (.ref o2), .unset] [(.ref o2)])) rfl rfl (hb hby own_d_prog_57_method_8_code_8)
  refine own_st (T' := T2) (g' := (mkF m 11 #[.val (.ref o), .val (.ref o2), .unset] [(.ref o2)])) st2 ?_
  refine own_st (T' := T2) (g' := (mkF m 12 #[.val (.ref o), .val (.ref o2), .val (.ref o2)] [])) (fun _ k => XS.astoreN X2.here hx rfl (hb hby own_d_prog_57_method_8_code_11) rfl rfl (l' := #[.val (.ref o), .val (.ref o2), .val (.ref o2)]) rfl k) ?_
  refine own_st (T' := T2) (g' := (mkF m 13 #[.val (.ref o), .val (.ref o2), .val (.ref o2)] [(.ref o)])) (fun _ k => XS.aloadN X2.here hx rfl (hb hby own_d_prog_57_method_8_code_12) rfl rfl k) ?_
  obtain ⟨T3, X3, e3, st3⟩ := getF X2 hx hZ hown (host := "") (Or.inl (hw _ (List.mem_of_getElem? (i := 30) rfl))) Via.refl e2 F_source_o (g := (mkF m 13 #[.val (.ref o), .val (.ref o2), .val (.ref o2)] [(.ref o)])) rfl rfl (hb hby own_d_prog_57_method_8_code_13)
  refine own_st (T' := T3) (g' := (mkF m 16 #[.val (.ref o), .val (.ref o2), .val (.ref o2)] [(.ref s1)])) st3 ?_
  refine own_st (T' := T3) (g' := (mkF m 17 #[.val (.ref o), .val (.ref o2), .val (.ref o2)] [(.ref o2), (.ref s1)])) (fun _ k => XS.aloadN X3.here hx rfl (hb hby own_d_prog_57_method_8_code_16) rfl rfl k) ?_
  obtain ⟨T4, X4, e4, st4⟩ := getF X3 hx hZ hown (host := "") (Or.inl (hw _ (List.mem_of_getElem? (i := 30) rfl))) Via.refl e3 F_source_o2 (g := (mkF m 17 #[.val (.ref o), .val (.ref o2), .val (.ref o2)] [(.ref o2), (.ref s1)])) rfl rfl (hb hby own_d_prog_57_method_8_code_17)
  refine own_st (T' := T4) (g' := (mkF m 20 #[.val (.ref o), .val (.ref o2), .val (.ref o2)] [(.ref s1'), (.ref s1)])) st4 ?_
  refine own_st (T' := T4) (g' := (mkF m 49 #[.val (.ref o), .val (.ref o2), .val (.ref o2)] [])) (fun _ k => Jvm.RoadKit.acmp (g := (mkF m 20 #[.val (.ref o), .val (.ref o2), .val (.ref o2)] [(.ref s1'), (.ref s1)])) X4 hx rfl rfl rfl (pc0 := 20) (pc' := 49) (same := false) rfl (hb hby own_d_prog_57_method_8_code_20) rfl (decide_eq_false fun q => hs (Value.ref.inj q)) (by decide) (by decide) k) ?_
  refine own_st (T' := T4) (g' := (mkF m 50 #[.val (.ref o), .val (.ref o2), .val (.ref o2)] [(.int (0 : Int32))])) (fun _ k => XS.iconst X4.here hx rfl (hb hby own_d_prog_57_method_8_code_49) k) ?_
  exact own_ret X4 hx hlk hret rfl (Or.inl ⟨rfl, Or.inr (Or.inl rfl), _, rfl⟩) (hb hby own_d_prog_57_method_8_code_50) (by decide) (by decide) ⟨rfl, rfl, e4⟩
set_option maxRecDepth 65536 in
set_option maxHeartbeats 40000000 in
theorem own_eq_r (l : Launch) (Z : State) (a0 : Array Value) (hw : ∀ d ∈ tables_1, d.before a0 Z = true) (h0 : Heap)  (o o2 s1 s1' : Addr) (r r' i1 i1' : Int32) (E_o2 : Exa Z h0 o2 "com/example/rollback_rules/rollbackrules/decision/Designation") (F_source_o : Fld Z h0 o "com/example/rollback_rules/rollbackrules/decision/Designation" "source" "Lcom/example/rollback_rules/rollbackrules/decision/Designation$Source;" (.ref s1)) (F_rollback_o : Fld Z h0 o "com/example/rollback_rules/rollbackrules/decision/Designation" "rollback" "Z" (.int r)) (F_inherited_o : Fld Z h0 o "com/example/rollback_rules/rollbackrules/decision/Designation" "inherited" "Z" (.int i1)) (F_source_o2 : Fld Z h0 o2 "com/example/rollback_rules/rollbackrules/decision/Designation" "source" "Lcom/example/rollback_rules/rollbackrules/decision/Designation$Source;" (.ref s1')) (F_rollback_o2 : Fld Z h0 o2 "com/example/rollback_rules/rollbackrules/decision/Designation" "rollback" "Z" (.int r')) (F_inherited_o2 : Fld Z h0 o2 "com/example/rollback_rules/rollbackrules/decision/Designation" "inherited" "Z" (.int i1')) (hs : s1 = s1') (hr : ¬ r = r') :
    own_Met l Z h0 [] ({ frames := 0, cells := 0, slots := 0, locals := 0 } : Room) (⟨"com/example/rollback_rules/rollbackrules/decision/Designation", "equals", "(Ljava/lang/Object;)Z"⟩ : MethodName) prog_57_method_8_code 3 (some .boolean) #[(.ref o), (.ref o2)] (fun v h L => v = some (.int (0 : Int32)) ∧ L = [] ∧ h = h0) := by
  refine own_body (plainFor_of_name own_pn_2) ?_
  intro p e s m below meth c T0 X0 hx hby hml hown hZ e0 hret hlk hnm hnamed
  replace hown : s.vm.findClass "com/example/rollback_rules/rollbackrules/decision/Designation" = some m.cls := hown
  replace hml : c.maxLocals = 3 := hml
  have ef : entryFrame m #[(.ref o), (.ref o2)] 3 = mkF m 0 #[.val (.ref o), .val (.ref o2), .unset] [] := by first | (simp [entryFrame, mkF, argsToLocals, Value.category]; done) | rfl
  rw [ef]
  have Nf := Fr.nil 0
  refine own_st (T' := T0) (g' := (mkF m 1 #[.val (.ref o), .val (.ref o2), .unset] [(.ref o2)])) (fun _ k => XS.aloadN X0.here hx rfl (hb hby own_d_prog_57_method_8_code_0) rfl rfl k) ?_
  obtain ⟨T1, X1, e1, st1⟩ := instY X0 hx hZ hown (hw _ (List.mem_of_getElem? (i := 43) rfl)) e0 (Ins.self E_o2) (g := (mkF m 1 #[.val (.ref o), .val (.ref o2), .unset] [(.ref o2)])) rfl rfl (hb hby own_d_prog_57_method_8_code_1)
  refine own_st (T' := T1) (g' := (mkF m 4 #[.val (.ref o), .val (.ref o2), .unset] [(.int (1 : Int32))])) st1 ?_
  refine own_st (T' := T1) (g' := (mkF m 7 #[.val (.ref o), .val (.ref o2), .unset] [])) (fun _ k => XS.ifNo X1.here hx rfl (hb hby own_d_prog_57_method_8_code_4) rfl (by decide) k) ?_
  refine own_st (T' := T1) (g' := (mkF m 8 #[.val (.ref o), .val (.ref o2), .unset] [(.ref o2)])) (fun _ k => XS.aloadN X1.here hx rfl (hb hby own_d_prog_57_method_8_code_7) rfl rfl k) ?_
  obtain ⟨T2, X2, e2, st2⟩ := castY X1 hx hZ hown (hw _ (List.mem_of_getElem? (i := 43) rfl)) e1 (Ins.self E_o2) (g := (mkF m 8 #[.val (.ref o), .val (.ref o2), .unset] [(.ref o2)])) rfl rfl (hb hby own_d_prog_57_method_8_code_8)
  refine own_st (T' := T2) (g' := (mkF m 11 #[.val (.ref o), .val (.ref o2), .unset] [(.ref o2)])) st2 ?_
  refine own_st (T' := T2) (g' := (mkF m 12 #[.val (.ref o), .val (.ref o2), .val (.ref o2)] [])) (fun _ k => XS.astoreN X2.here hx rfl (hb hby own_d_prog_57_method_8_code_11) rfl rfl (l' := #[.val (.ref o), .val (.ref o2), .val (.ref o2)]) rfl k) ?_
  refine own_st (T' := T2) (g' := (mkF m 13 #[.val (.ref o), .val (.ref o2), .val (.ref o2)] [(.ref o)])) (fun _ k => XS.aloadN X2.here hx rfl (hb hby own_d_prog_57_method_8_code_12) rfl rfl k) ?_
  obtain ⟨T3, X3, e3, st3⟩ := getF X2 hx hZ hown (host := "") (Or.inl (hw _ (List.mem_of_getElem? (i := 30) rfl))) Via.refl e2 F_source_o (g := (mkF m 13 #[.val (.ref o), .val (.ref o2), .val (.ref o2)] [(.ref o)])) rfl rfl (hb hby own_d_prog_57_method_8_code_13)
  refine own_st (T' := T3) (g' := (mkF m 16 #[.val (.ref o), .val (.ref o2), .val (.ref o2)] [(.ref s1)])) st3 ?_
  refine own_st (T' := T3) (g' := (mkF m 17 #[.val (.ref o), .val (.ref o2), .val (.ref o2)] [(.ref o2), (.ref s1)])) (fun _ k => XS.aloadN X3.here hx rfl (hb hby own_d_prog_57_method_8_code_16) rfl rfl k) ?_
  obtain ⟨T4, X4, e4, st4⟩ := getF X3 hx hZ hown (host := "") (Or.inl (hw _ (List.mem_of_getElem? (i := 30) rfl))) Via.refl e3 F_source_o2 (g := (mkF m 17 #[.val (.ref o), .val (.ref o2), .val (.ref o2)] [(.ref o2), (.ref s1)])) rfl rfl (hb hby own_d_prog_57_method_8_code_17)
  refine own_st (T' := T4) (g' := (mkF m 20 #[.val (.ref o), .val (.ref o2), .val (.ref o2)] [(.ref s1'), (.ref s1)])) st4 ?_
  refine own_st (T' := T4) (g' := (mkF m 23 #[.val (.ref o), .val (.ref o2), .val (.ref o2)] [])) (fun _ k => Jvm.RoadKit.acmp (g := (mkF m 20 #[.val (.ref o), .val (.ref o2), .val (.ref o2)] [(.ref s1'), (.ref s1)])) X4 hx rfl rfl rfl (pc0 := 20) (pc' := 23) (same := true) rfl (hb hby own_d_prog_57_method_8_code_20) rfl (decide_eq_true (congrArg Value.ref hs)) (by decide) (by decide) k) ?_
  refine own_st (T' := T4) (g' := (mkF m 24 #[.val (.ref o), .val (.ref o2), .val (.ref o2)] [(.ref o)])) (fun _ k => XS.aloadN X4.here hx rfl (hb hby own_d_prog_57_method_8_code_23) rfl rfl k) ?_
  obtain ⟨T5, X5, e5, st5⟩ := getF X4 hx hZ hown (host := "") (Or.inl (hw _ (List.mem_of_getElem? (i := 32) rfl))) Via.refl e4 F_rollback_o (g := (mkF m 24 #[.val (.ref o), .val (.ref o2), .val (.ref o2)] [(.ref o)])) rfl rfl (hb hby own_d_prog_57_method_8_code_24)
  refine own_st (T' := T5) (g' := (mkF m 27 #[.val (.ref o), .val (.ref o2), .val (.ref o2)] [(.int r)])) st5 ?_
  refine own_st (T' := T5) (g' := (mkF m 28 #[.val (.ref o), .val (.ref o2), .val (.ref o2)] [(.ref o2), (.int r)])) (fun _ k => XS.aloadN X5.here hx rfl (hb hby own_d_prog_57_method_8_code_27) rfl rfl k) ?_
  obtain ⟨T6, X6, e6, st6⟩ := getF X5 hx hZ hown (host := "") (Or.inl (hw _ (List.mem_of_getElem? (i := 32) rfl))) Via.refl e5 F_rollback_o2 (g := (mkF m 28 #[.val (.ref o), .val (.ref o2), .val (.ref o2)] [(.ref o2), (.int r)])) rfl rfl (hb hby own_d_prog_57_method_8_code_28)
  refine own_st (T' := T6) (g' := (mkF m 31 #[.val (.ref o), .val (.ref o2), .val (.ref o2)] [(.int r'), (.int r)])) st6 ?_
  refine own_st (T' := T6) (g' := (mkF m 49 #[.val (.ref o), .val (.ref o2), .val (.ref o2)] [])) (fun _ k => XS.icmpYes X6.here hx rfl (pc0 := 31) (pc' := 49) rfl (hb hby own_d_prog_57_method_8_code_31) rfl (feq hr).2 (by decide) (by decide) k) ?_
  refine own_st (T' := T6) (g' := (mkF m 50 #[.val (.ref o), .val (.ref o2), .val (.ref o2)] [(.int (0 : Int32))])) (fun _ k => XS.iconst X6.here hx rfl (hb hby own_d_prog_57_method_8_code_49) k) ?_
  exact own_ret X6 hx hlk hret rfl (Or.inl ⟨rfl, Or.inr (Or.inl rfl), _, rfl⟩) (hb hby own_d_prog_57_method_8_code_50) (by decide) (by decide) ⟨rfl, rfl, e6⟩
set_option maxRecDepth 65536 in
set_option maxHeartbeats 40000000 in
theorem own_eq_i (l : Launch) (Z : State) (a0 : Array Value) (hw : ∀ d ∈ tables_1, d.before a0 Z = true) (h0 : Heap)  (o o2 s1 s1' : Addr) (r r' i1 i1' : Int32) (E_o2 : Exa Z h0 o2 "com/example/rollback_rules/rollbackrules/decision/Designation") (F_source_o : Fld Z h0 o "com/example/rollback_rules/rollbackrules/decision/Designation" "source" "Lcom/example/rollback_rules/rollbackrules/decision/Designation$Source;" (.ref s1)) (F_rollback_o : Fld Z h0 o "com/example/rollback_rules/rollbackrules/decision/Designation" "rollback" "Z" (.int r)) (F_inherited_o : Fld Z h0 o "com/example/rollback_rules/rollbackrules/decision/Designation" "inherited" "Z" (.int i1)) (F_source_o2 : Fld Z h0 o2 "com/example/rollback_rules/rollbackrules/decision/Designation" "source" "Lcom/example/rollback_rules/rollbackrules/decision/Designation$Source;" (.ref s1')) (F_rollback_o2 : Fld Z h0 o2 "com/example/rollback_rules/rollbackrules/decision/Designation" "rollback" "Z" (.int r')) (F_inherited_o2 : Fld Z h0 o2 "com/example/rollback_rules/rollbackrules/decision/Designation" "inherited" "Z" (.int i1')) (hs : s1 = s1') (hr : r = r') (hi : ¬ i1 = i1') :
    own_Met l Z h0 [] ({ frames := 0, cells := 0, slots := 0, locals := 0 } : Room) (⟨"com/example/rollback_rules/rollbackrules/decision/Designation", "equals", "(Ljava/lang/Object;)Z"⟩ : MethodName) prog_57_method_8_code 3 (some .boolean) #[(.ref o), (.ref o2)] (fun v h L => v = some (.int (0 : Int32)) ∧ L = [] ∧ h = h0) := by
  refine own_body (plainFor_of_name own_pn_2) ?_
  intro p e s m below meth c T0 X0 hx hby hml hown hZ e0 hret hlk hnm hnamed
  replace hown : s.vm.findClass "com/example/rollback_rules/rollbackrules/decision/Designation" = some m.cls := hown
  replace hml : c.maxLocals = 3 := hml
  have ef : entryFrame m #[(.ref o), (.ref o2)] 3 = mkF m 0 #[.val (.ref o), .val (.ref o2), .unset] [] := by first | (simp [entryFrame, mkF, argsToLocals, Value.category]; done) | rfl
  rw [ef]
  have Nf := Fr.nil 0
  refine own_st (T' := T0) (g' := (mkF m 1 #[.val (.ref o), .val (.ref o2), .unset] [(.ref o2)])) (fun _ k => XS.aloadN X0.here hx rfl (hb hby own_d_prog_57_method_8_code_0) rfl rfl k) ?_
  obtain ⟨T1, X1, e1, st1⟩ := instY X0 hx hZ hown (hw _ (List.mem_of_getElem? (i := 43) rfl)) e0 (Ins.self E_o2) (g := (mkF m 1 #[.val (.ref o), .val (.ref o2), .unset] [(.ref o2)])) rfl rfl (hb hby own_d_prog_57_method_8_code_1)
  refine own_st (T' := T1) (g' := (mkF m 4 #[.val (.ref o), .val (.ref o2), .unset] [(.int (1 : Int32))])) st1 ?_
  refine own_st (T' := T1) (g' := (mkF m 7 #[.val (.ref o), .val (.ref o2), .unset] [])) (fun _ k => XS.ifNo X1.here hx rfl (hb hby own_d_prog_57_method_8_code_4) rfl (by decide) k) ?_
  refine own_st (T' := T1) (g' := (mkF m 8 #[.val (.ref o), .val (.ref o2), .unset] [(.ref o2)])) (fun _ k => XS.aloadN X1.here hx rfl (hb hby own_d_prog_57_method_8_code_7) rfl rfl k) ?_
  obtain ⟨T2, X2, e2, st2⟩ := castY X1 hx hZ hown (hw _ (List.mem_of_getElem? (i := 43) rfl)) e1 (Ins.self E_o2) (g := (mkF m 8 #[.val (.ref o), .val (.ref o2), .unset] [(.ref o2)])) rfl rfl (hb hby own_d_prog_57_method_8_code_8)
  refine own_st (T' := T2) (g' := (mkF m 11 #[.val (.ref o), .val (.ref o2), .unset] [(.ref o2)])) st2 ?_
  refine own_st (T' := T2) (g' := (mkF m 12 #[.val (.ref o), .val (.ref o2), .val (.ref o2)] [])) (fun _ k => XS.astoreN X2.here hx rfl (hb hby own_d_prog_57_method_8_code_11) rfl rfl (l' := #[.val (.ref o), .val (.ref o2), .val (.ref o2)]) rfl k) ?_
  refine own_st (T' := T2) (g' := (mkF m 13 #[.val (.ref o), .val (.ref o2), .val (.ref o2)] [(.ref o)])) (fun _ k => XS.aloadN X2.here hx rfl (hb hby own_d_prog_57_method_8_code_12) rfl rfl k) ?_
  obtain ⟨T3, X3, e3, st3⟩ := getF X2 hx hZ hown (host := "") (Or.inl (hw _ (List.mem_of_getElem? (i := 30) rfl))) Via.refl e2 F_source_o (g := (mkF m 13 #[.val (.ref o), .val (.ref o2), .val (.ref o2)] [(.ref o)])) rfl rfl (hb hby own_d_prog_57_method_8_code_13)
  refine own_st (T' := T3) (g' := (mkF m 16 #[.val (.ref o), .val (.ref o2), .val (.ref o2)] [(.ref s1)])) st3 ?_
  refine own_st (T' := T3) (g' := (mkF m 17 #[.val (.ref o), .val (.ref o2), .val (.ref o2)] [(.ref o2), (.ref s1)])) (fun _ k => XS.aloadN X3.here hx rfl (hb hby own_d_prog_57_method_8_code_16) rfl rfl k) ?_
  obtain ⟨T4, X4, e4, st4⟩ := getF X3 hx hZ hown (host := "") (Or.inl (hw _ (List.mem_of_getElem? (i := 30) rfl))) Via.refl e3 F_source_o2 (g := (mkF m 17 #[.val (.ref o), .val (.ref o2), .val (.ref o2)] [(.ref o2), (.ref s1)])) rfl rfl (hb hby own_d_prog_57_method_8_code_17)
  refine own_st (T' := T4) (g' := (mkF m 20 #[.val (.ref o), .val (.ref o2), .val (.ref o2)] [(.ref s1'), (.ref s1)])) st4 ?_
  refine own_st (T' := T4) (g' := (mkF m 23 #[.val (.ref o), .val (.ref o2), .val (.ref o2)] [])) (fun _ k => Jvm.RoadKit.acmp (g := (mkF m 20 #[.val (.ref o), .val (.ref o2), .val (.ref o2)] [(.ref s1'), (.ref s1)])) X4 hx rfl rfl rfl (pc0 := 20) (pc' := 23) (same := true) rfl (hb hby own_d_prog_57_method_8_code_20) rfl (decide_eq_true (congrArg Value.ref hs)) (by decide) (by decide) k) ?_
  refine own_st (T' := T4) (g' := (mkF m 24 #[.val (.ref o), .val (.ref o2), .val (.ref o2)] [(.ref o)])) (fun _ k => XS.aloadN X4.here hx rfl (hb hby own_d_prog_57_method_8_code_23) rfl rfl k) ?_
  obtain ⟨T5, X5, e5, st5⟩ := getF X4 hx hZ hown (host := "") (Or.inl (hw _ (List.mem_of_getElem? (i := 32) rfl))) Via.refl e4 F_rollback_o (g := (mkF m 24 #[.val (.ref o), .val (.ref o2), .val (.ref o2)] [(.ref o)])) rfl rfl (hb hby own_d_prog_57_method_8_code_24)
  refine own_st (T' := T5) (g' := (mkF m 27 #[.val (.ref o), .val (.ref o2), .val (.ref o2)] [(.int r)])) st5 ?_
  refine own_st (T' := T5) (g' := (mkF m 28 #[.val (.ref o), .val (.ref o2), .val (.ref o2)] [(.ref o2), (.int r)])) (fun _ k => XS.aloadN X5.here hx rfl (hb hby own_d_prog_57_method_8_code_27) rfl rfl k) ?_
  obtain ⟨T6, X6, e6, st6⟩ := getF X5 hx hZ hown (host := "") (Or.inl (hw _ (List.mem_of_getElem? (i := 32) rfl))) Via.refl e5 F_rollback_o2 (g := (mkF m 28 #[.val (.ref o), .val (.ref o2), .val (.ref o2)] [(.ref o2), (.int r)])) rfl rfl (hb hby own_d_prog_57_method_8_code_28)
  refine own_st (T' := T6) (g' := (mkF m 31 #[.val (.ref o), .val (.ref o2), .val (.ref o2)] [(.int r'), (.int r)])) st6 ?_
  refine own_st (T' := T6) (g' := (mkF m 34 #[.val (.ref o), .val (.ref o2), .val (.ref o2)] [])) (fun _ k => XS.icmpNo X6.here hx rfl (hb hby own_d_prog_57_method_8_code_31) rfl (teq hr).2 k) ?_
  refine own_st (T' := T6) (g' := (mkF m 35 #[.val (.ref o), .val (.ref o2), .val (.ref o2)] [(.ref o)])) (fun _ k => XS.aloadN X6.here hx rfl (hb hby own_d_prog_57_method_8_code_34) rfl rfl k) ?_
  obtain ⟨T7, X7, e7, st7⟩ := getF X6 hx hZ hown (host := "") (Or.inl (hw _ (List.mem_of_getElem? (i := 34) rfl))) Via.refl e6 F_inherited_o (g := (mkF m 35 #[.val (.ref o), .val (.ref o2), .val (.ref o2)] [(.ref o)])) rfl rfl (hb hby own_d_prog_57_method_8_code_35)
  refine own_st (T' := T7) (g' := (mkF m 38 #[.val (.ref o), .val (.ref o2), .val (.ref o2)] [(.int i1)])) st7 ?_
  refine own_st (T' := T7) (g' := (mkF m 39 #[.val (.ref o), .val (.ref o2), .val (.ref o2)] [(.ref o2), (.int i1)])) (fun _ k => XS.aloadN X7.here hx rfl (hb hby own_d_prog_57_method_8_code_38) rfl rfl k) ?_
  obtain ⟨T8, X8, e8, st8⟩ := getF X7 hx hZ hown (host := "") (Or.inl (hw _ (List.mem_of_getElem? (i := 34) rfl))) Via.refl e7 F_inherited_o2 (g := (mkF m 39 #[.val (.ref o), .val (.ref o2), .val (.ref o2)] [(.ref o2), (.int i1)])) rfl rfl (hb hby own_d_prog_57_method_8_code_39)
  refine own_st (T' := T8) (g' := (mkF m 42 #[.val (.ref o), .val (.ref o2), .val (.ref o2)] [(.int i1'), (.int i1)])) st8 ?_
  refine own_st (T' := T8) (g' := (mkF m 49 #[.val (.ref o), .val (.ref o2), .val (.ref o2)] [])) (fun _ k => XS.icmpYes X8.here hx rfl (pc0 := 42) (pc' := 49) rfl (hb hby own_d_prog_57_method_8_code_42) rfl (feq hi).2 (by decide) (by decide) k) ?_
  refine own_st (T' := T8) (g' := (mkF m 50 #[.val (.ref o), .val (.ref o2), .val (.ref o2)] [(.int (0 : Int32))])) (fun _ k => XS.iconst X8.here hx rfl (hb hby own_d_prog_57_method_8_code_49) k) ?_
  exact own_ret X8 hx hlk hret rfl (Or.inl ⟨rfl, Or.inr (Or.inl rfl), _, rfl⟩) (hb hby own_d_prog_57_method_8_code_50) (by decide) (by decide) ⟨rfl, rfl, e8⟩
set_option maxRecDepth 65536 in
set_option maxHeartbeats 40000000 in
theorem own_eq_all (l : Launch) (Z : State) (a0 : Array Value) (hw : ∀ d ∈ tables_1, d.before a0 Z = true) (h0 : Heap)  (o o2 s1 s1' : Addr) (r r' i1 i1' : Int32) (E_o2 : Exa Z h0 o2 "com/example/rollback_rules/rollbackrules/decision/Designation") (F_source_o : Fld Z h0 o "com/example/rollback_rules/rollbackrules/decision/Designation" "source" "Lcom/example/rollback_rules/rollbackrules/decision/Designation$Source;" (.ref s1)) (F_rollback_o : Fld Z h0 o "com/example/rollback_rules/rollbackrules/decision/Designation" "rollback" "Z" (.int r)) (F_inherited_o : Fld Z h0 o "com/example/rollback_rules/rollbackrules/decision/Designation" "inherited" "Z" (.int i1)) (F_source_o2 : Fld Z h0 o2 "com/example/rollback_rules/rollbackrules/decision/Designation" "source" "Lcom/example/rollback_rules/rollbackrules/decision/Designation$Source;" (.ref s1')) (F_rollback_o2 : Fld Z h0 o2 "com/example/rollback_rules/rollbackrules/decision/Designation" "rollback" "Z" (.int r')) (F_inherited_o2 : Fld Z h0 o2 "com/example/rollback_rules/rollbackrules/decision/Designation" "inherited" "Z" (.int i1')) (hs : s1 = s1') (hr : r = r') (hi : i1 = i1') :
    own_Met l Z h0 [] ({ frames := 0, cells := 0, slots := 0, locals := 0 } : Room) (⟨"com/example/rollback_rules/rollbackrules/decision/Designation", "equals", "(Ljava/lang/Object;)Z"⟩ : MethodName) prog_57_method_8_code 3 (some .boolean) #[(.ref o), (.ref o2)] (fun v h L => v = some (.int (1 : Int32)) ∧ L = [] ∧ h = h0) := by
  refine own_body (plainFor_of_name own_pn_2) ?_
  intro p e s m below meth c T0 X0 hx hby hml hown hZ e0 hret hlk hnm hnamed
  replace hown : s.vm.findClass "com/example/rollback_rules/rollbackrules/decision/Designation" = some m.cls := hown
  replace hml : c.maxLocals = 3 := hml
  have ef : entryFrame m #[(.ref o), (.ref o2)] 3 = mkF m 0 #[.val (.ref o), .val (.ref o2), .unset] [] := by first | (simp [entryFrame, mkF, argsToLocals, Value.category]; done) | rfl
  rw [ef]
  have Nf := Fr.nil 0
  refine own_st (T' := T0) (g' := (mkF m 1 #[.val (.ref o), .val (.ref o2), .unset] [(.ref o2)])) (fun _ k => XS.aloadN X0.here hx rfl (hb hby own_d_prog_57_method_8_code_0) rfl rfl k) ?_
  obtain ⟨T1, X1, e1, st1⟩ := instY X0 hx hZ hown (hw _ (List.mem_of_getElem? (i := 43) rfl)) e0 (Ins.self E_o2) (g := (mkF m 1 #[.val (.ref o), .val (.ref o2), .unset] [(.ref o2)])) rfl rfl (hb hby own_d_prog_57_method_8_code_1)
  refine own_st (T' := T1) (g' := (mkF m 4 #[.val (.ref o), .val (.ref o2), .unset] [(.int (1 : Int32))])) st1 ?_
  refine own_st (T' := T1) (g' := (mkF m 7 #[.val (.ref o), .val (.ref o2), .unset] [])) (fun _ k => XS.ifNo X1.here hx rfl (hb hby own_d_prog_57_method_8_code_4) rfl (by decide) k) ?_
  refine own_st (T' := T1) (g' := (mkF m 8 #[.val (.ref o), .val (.ref o2), .unset] [(.ref o2)])) (fun _ k => XS.aloadN X1.here hx rfl (hb hby own_d_prog_57_method_8_code_7) rfl rfl k) ?_
  obtain ⟨T2, X2, e2, st2⟩ := castY X1 hx hZ hown (hw _ (List.mem_of_getElem? (i := 43) rfl)) e1 (Ins.self E_o2) (g := (mkF m 8 #[.val (.ref o), .val (.ref o2), .unset] [(.ref o2)])) rfl rfl (hb hby own_d_prog_57_method_8_code_8)
  refine own_st (T' := T2) (g' := (mkF m 11 #[.val (.ref o), .val (.ref o2), .unset] [(.ref o2)])) st2 ?_
  refine own_st (T' := T2) (g' := (mkF m 12 #[.val (.ref o), .val (.ref o2), .val (.ref o2)] [])) (fun _ k => XS.astoreN X2.here hx rfl (hb hby own_d_prog_57_method_8_code_11) rfl rfl (l' := #[.val (.ref o), .val (.ref o2), .val (.ref o2)]) rfl k) ?_
  refine own_st (T' := T2) (g' := (mkF m 13 #[.val (.ref o), .val (.ref o2), .val (.ref o2)] [(.ref o)])) (fun _ k => XS.aloadN X2.here hx rfl (hb hby own_d_prog_57_method_8_code_12) rfl rfl k) ?_
  obtain ⟨T3, X3, e3, st3⟩ := getF X2 hx hZ hown (host := "") (Or.inl (hw _ (List.mem_of_getElem? (i := 30) rfl))) Via.refl e2 F_source_o (g := (mkF m 13 #[.val (.ref o), .val (.ref o2), .val (.ref o2)] [(.ref o)])) rfl rfl (hb hby own_d_prog_57_method_8_code_13)
  refine own_st (T' := T3) (g' := (mkF m 16 #[.val (.ref o), .val (.ref o2), .val (.ref o2)] [(.ref s1)])) st3 ?_
  refine own_st (T' := T3) (g' := (mkF m 17 #[.val (.ref o), .val (.ref o2), .val (.ref o2)] [(.ref o2), (.ref s1)])) (fun _ k => XS.aloadN X3.here hx rfl (hb hby own_d_prog_57_method_8_code_16) rfl rfl k) ?_
  obtain ⟨T4, X4, e4, st4⟩ := getF X3 hx hZ hown (host := "") (Or.inl (hw _ (List.mem_of_getElem? (i := 30) rfl))) Via.refl e3 F_source_o2 (g := (mkF m 17 #[.val (.ref o), .val (.ref o2), .val (.ref o2)] [(.ref o2), (.ref s1)])) rfl rfl (hb hby own_d_prog_57_method_8_code_17)
  refine own_st (T' := T4) (g' := (mkF m 20 #[.val (.ref o), .val (.ref o2), .val (.ref o2)] [(.ref s1'), (.ref s1)])) st4 ?_
  refine own_st (T' := T4) (g' := (mkF m 23 #[.val (.ref o), .val (.ref o2), .val (.ref o2)] [])) (fun _ k => Jvm.RoadKit.acmp (g := (mkF m 20 #[.val (.ref o), .val (.ref o2), .val (.ref o2)] [(.ref s1'), (.ref s1)])) X4 hx rfl rfl rfl (pc0 := 20) (pc' := 23) (same := true) rfl (hb hby own_d_prog_57_method_8_code_20) rfl (decide_eq_true (congrArg Value.ref hs)) (by decide) (by decide) k) ?_
  refine own_st (T' := T4) (g' := (mkF m 24 #[.val (.ref o), .val (.ref o2), .val (.ref o2)] [(.ref o)])) (fun _ k => XS.aloadN X4.here hx rfl (hb hby own_d_prog_57_method_8_code_23) rfl rfl k) ?_
  obtain ⟨T5, X5, e5, st5⟩ := getF X4 hx hZ hown (host := "") (Or.inl (hw _ (List.mem_of_getElem? (i := 32) rfl))) Via.refl e4 F_rollback_o (g := (mkF m 24 #[.val (.ref o), .val (.ref o2), .val (.ref o2)] [(.ref o)])) rfl rfl (hb hby own_d_prog_57_method_8_code_24)
  refine own_st (T' := T5) (g' := (mkF m 27 #[.val (.ref o), .val (.ref o2), .val (.ref o2)] [(.int r)])) st5 ?_
  refine own_st (T' := T5) (g' := (mkF m 28 #[.val (.ref o), .val (.ref o2), .val (.ref o2)] [(.ref o2), (.int r)])) (fun _ k => XS.aloadN X5.here hx rfl (hb hby own_d_prog_57_method_8_code_27) rfl rfl k) ?_
  obtain ⟨T6, X6, e6, st6⟩ := getF X5 hx hZ hown (host := "") (Or.inl (hw _ (List.mem_of_getElem? (i := 32) rfl))) Via.refl e5 F_rollback_o2 (g := (mkF m 28 #[.val (.ref o), .val (.ref o2), .val (.ref o2)] [(.ref o2), (.int r)])) rfl rfl (hb hby own_d_prog_57_method_8_code_28)
  refine own_st (T' := T6) (g' := (mkF m 31 #[.val (.ref o), .val (.ref o2), .val (.ref o2)] [(.int r'), (.int r)])) st6 ?_
  refine own_st (T' := T6) (g' := (mkF m 34 #[.val (.ref o), .val (.ref o2), .val (.ref o2)] [])) (fun _ k => XS.icmpNo X6.here hx rfl (hb hby own_d_prog_57_method_8_code_31) rfl (teq hr).2 k) ?_
  refine own_st (T' := T6) (g' := (mkF m 35 #[.val (.ref o), .val (.ref o2), .val (.ref o2)] [(.ref o)])) (fun _ k => XS.aloadN X6.here hx rfl (hb hby own_d_prog_57_method_8_code_34) rfl rfl k) ?_
  obtain ⟨T7, X7, e7, st7⟩ := getF X6 hx hZ hown (host := "") (Or.inl (hw _ (List.mem_of_getElem? (i := 34) rfl))) Via.refl e6 F_inherited_o (g := (mkF m 35 #[.val (.ref o), .val (.ref o2), .val (.ref o2)] [(.ref o)])) rfl rfl (hb hby own_d_prog_57_method_8_code_35)
  refine own_st (T' := T7) (g' := (mkF m 38 #[.val (.ref o), .val (.ref o2), .val (.ref o2)] [(.int i1)])) st7 ?_
  refine own_st (T' := T7) (g' := (mkF m 39 #[.val (.ref o), .val (.ref o2), .val (.ref o2)] [(.ref o2), (.int i1)])) (fun _ k => XS.aloadN X7.here hx rfl (hb hby own_d_prog_57_method_8_code_38) rfl rfl k) ?_
  obtain ⟨T8, X8, e8, st8⟩ := getF X7 hx hZ hown (host := "") (Or.inl (hw _ (List.mem_of_getElem? (i := 34) rfl))) Via.refl e7 F_inherited_o2 (g := (mkF m 39 #[.val (.ref o), .val (.ref o2), .val (.ref o2)] [(.ref o2), (.int i1)])) rfl rfl (hb hby own_d_prog_57_method_8_code_39)
  refine own_st (T' := T8) (g' := (mkF m 42 #[.val (.ref o), .val (.ref o2), .val (.ref o2)] [(.int i1'), (.int i1)])) st8 ?_
  refine own_st (T' := T8) (g' := (mkF m 45 #[.val (.ref o), .val (.ref o2), .val (.ref o2)] [])) (fun _ k => XS.icmpNo X8.here hx rfl (hb hby own_d_prog_57_method_8_code_42) rfl (teq hi).2 k) ?_
  refine own_st (T' := T8) (g' := (mkF m 46 #[.val (.ref o), .val (.ref o2), .val (.ref o2)] [(.int (1 : Int32))])) (fun _ k => XS.iconst X8.here hx rfl (hb hby own_d_prog_57_method_8_code_45) k) ?_
  refine own_st (T' := T8) (g' := (mkF m 50 #[.val (.ref o), .val (.ref o2), .val (.ref o2)] [(.int (1 : Int32))])) (fun _ k => XS.goto X8.here hx rfl (pc0 := 46) (pc' := 50) rfl (hb hby own_d_prog_57_method_8_code_46) (by decide) (by decide) k) ?_
  exact own_ret X8 hx hlk hret rfl (Or.inl ⟨rfl, Or.inr (Or.inl rfl), _, rfl⟩) (hb hby own_d_prog_57_method_8_code_50) (by decide) (by decide) ⟨rfl, rfl, e8⟩
set_option maxRecDepth 65536 in
set_option maxHeartbeats 40000000 in
theorem own_num (l : Launch) (Z : State) (a0 : Array Value) (hw : ∀ d ∈ tables_1, d.before a0 Z = true) (h0 : Heap)  (o : Addr) :
    own_Met l Z h0 [] ({ frames := 1, cells := 0, slots := 0, locals := 12 } : Room) (⟨"java/lang/Number", "<init>", "()V"⟩ : MethodName) jdk_18_method_1_code 1 none #[(.ref o)] (fun v h L => v = none ∧ L = [] ∧ h = h0) := by
  refine own_body (plainFor_of_name own_pn_3) ?_
  intro p e s m below meth c T0 X0 hx hby hml hown hZ e0 hret hlk hnm hnamed
  replace hown : s.vm.findClass "java/lang/Number" = some m.cls := hown
  replace hml : c.maxLocals = 1 := hml
  have ef : entryFrame m #[(.ref o)] 1 = mkF m 0 #[.val (.ref o)] [] := by first | (simp [entryFrame, mkF, argsToLocals, Value.category]; done) | rfl
  rw [ef]
  have Nf := Fr.nil 0
  refine own_st (T' := T0) (g' := (mkF m 1 #[.val (.ref o)] [(.ref o)])) (fun _ k => XS.aloadN X0.here hx rfl (hb hby own_d_jdk_18_method_1_code_0) rfl rfl k) ?_
  obtain ⟨T1, X1, e1, st1⟩ := initO X0 hx hZ hown (hw _ (List.mem_of_getElem? (i := 67) rfl)) (hw _ (List.mem_of_getElem? (i := 14) rfl)) (hw _ (List.mem_of_getElem? (i := 15) rfl)) e0 (g := (mkF m 1 #[.val (.ref o)] [(.ref o)])) rfl (by rw [hml]; rfl) rfl (hb hby own_d_jdk_18_method_1_code_1) (by decide) (W := 0) (by show 2 * 0 + _ ≤ _; exact Nat.le_of_eq rfl) (by decide)
  refine own_st (T' := T1) (g' := (mkF m 4 #[.val (.ref o)] [])) st1 ?_
  exact own_retV X1 hx hlk hret (hb hby own_d_jdk_18_method_1_code_4) (by decide) (by decide) ⟨rfl, rfl, e1⟩
set_option maxRecDepth 65536 in
set_option maxHeartbeats 40000000 in
theorem own_iinit (l : Launch) (Z : State) (a0 : Array Value) (hw : ∀ d ∈ tables_1, d.before a0 Z = true) (h0 : Heap)  (o : Addr) (x : Int32) (n0 : Nat) (g_o : n0 ≤ o) (E_o : Exa Z h0 o "java/lang/Integer") (F_value_o : Fld Z h0 o "java/lang/Integer" "value" "I" (.int (0 : Int32))) :
    own_Met l Z h0 [] ({ frames := 2, cells := 0, slots := 0, locals := 24 } : Room) (⟨"java/lang/Integer", "<init>", "(I)V"⟩ : MethodName) jdk_33_method_23_code 2 none #[(.ref o), (.int x)] (fun v h L => v = none ∧ Fr n0 L ∧ Keep h0 h [o] ∧ Exa Z h o "java/lang/Integer") := by
  refine own_body (plainFor_of_name own_pn_4) ?_
  intro p e s m below meth c T0 X0 hx hby hml hown hZ e0 hret hlk hnm hnamed
  replace hown : s.vm.findClass "java/lang/Integer" = some m.cls := hown
  replace hml : c.maxLocals = 2 := hml
  have ef : entryFrame m #[(.ref o), (.int x)] 2 = mkF m 0 #[.val (.ref o), .val (.int x)] [] := by first | (simp [entryFrame, mkF, argsToLocals, Value.category]; done) | rfl
  rw [ef]
  have K0 := Keep.refl h0 [o]
  have Nf := Fr.nil n0
  refine own_st (T' := T0) (g' := (mkF m 1 #[.val (.ref o), .val (.int x)] [(.ref o)])) (fun _ k => XS.aloadN X0.here hx rfl (hb hby own_d_jdk_33_method_23_code_0) rfl rfl k) ?_
  obtain ⟨v1, T1, L1, X1, hQ1, st1⟩ := own_gI X0 hx hZ rfl hown (hw _ (List.mem_of_getElem? (i := 61) rfl)) (hw _ (List.mem_of_getElem? (i := 62) rfl)) (hw _ (List.mem_of_getElem? (i := 65) rfl)) (hw _ (List.mem_of_getElem? (i := 66) rfl)) (by decide) e0 (own_num l Z a0 hw h0 o) (by decide) (by decide) (by decide) (by decide) (Q := (fun v h L => v = none ∧ L = [] ∧ h = h0)) (W := 0) (g := (mkF m 1 #[.val (.ref o), .val (.int x)] [(.ref o)])) (argsL := []) (rest := []) rfl (by rw [hml]; rfl) (lenOf own_pd_1 rfl) rfl (by show 2 * 0 + _ ≤ _; exact Nat.le_of_eq rfl) (hb hby own_d_jdk_33_method_23_code_1)
  obtain ⟨rfl, rfl, hh1⟩ := hQ1
  rw [List.append_nil] at X1
  refine own_st (T' := T1) (g' := (mkF m 4 #[.val (.ref o), .val (.int x)] [])) st1 ?_
  refine own_st (T' := T1) (g' := (mkF m 5 #[.val (.ref o), .val (.int x)] [(.ref o)])) (fun _ k => XS.aloadN X1.here hx rfl (hb hby own_d_jdk_33_method_23_code_4) rfl rfl k) ?_
  refine own_st (T' := T1) (g' := (mkF m 6 #[.val (.ref o), .val (.int x)] [(.int x), (.ref o)])) (fun _ k => XS.iloadN X1.here hx rfl (hb hby own_d_jdk_33_method_23_code_5) rfl k) ?_
  obtain ⟨T2, h2, X2, e2, W2, st2⟩ := putF X1 hx hZ hown (host := "") (Or.inl (hw _ (List.mem_of_getElem? (i := 68) rfl))) Via.refl hh1 F_value_o E_o (Or.inr ⟨(hw _ (List.mem_of_getElem? (i := 69) rfl)), rfl, hnm⟩) (hw _ (List.mem_of_getElem? (i := 56) rfl)) (ty := .int) (by decide) rfl rfl (g := (mkF m 6 #[.val (.ref o), .val (.int x)] [(.int x), (.ref o)])) rfl rfl (hb hby own_d_jdk_33_method_23_code_6)
  have E_o := E_o.wr W2
  have K0 := K0.wr W2 (Or.inl (List.mem_of_getElem? (i := 0) rfl))
  have F_value_o := F_value_o.same W2
  have Nf := Fr.snoc X2 Nf g_o
  refine own_st (T' := T2) (g' := (mkF m 9 #[.val (.ref o), .val (.int x)] [])) st2 ?_
  exact own_retV X2 hx hlk hret (hb hby own_d_jdk_33_method_23_code_9) (by decide) (by decide) (by rw [e2]; exact ⟨rfl, Nf, K0, E_o⟩)
set_option maxRecDepth 65536 in
set_option maxHeartbeats 40000000 in
theorem own_vo (l : Launch) (Z : State) (a0 : Array Value) (hw : ∀ d ∈ tables_1, d.before a0 Z = true) (h0 : Heap) (a_ANNOTATION : Addr) (a_CLASS_RULE : Addr) (a_DESCRIPTOR : Addr) (a_METHOD_RULE : Addr) (a_cache : Addr) (cl_cache : Cell) (hE : own_E Z h0 a_ANNOTATION a_CLASS_RULE a_DESCRIPTOR a_METHOD_RULE a_cache cl_cache) (i : Int32)  :
    own_Met l Z h0 [] ({ frames := 3, cells := 1, slots := 1, locals := 38 } : Room) (⟨"java/lang/Integer", "valueOf", "(I)Ljava/lang/Integer;"⟩ : MethodName) jdk_33_method_22_code 1 (some (.object "java/lang/Integer")) #[(.int i)] (fun v h L => ∃ b, v = some (.ref b) ∧ Fr h0.size L ∧ Ext h0 h ∧ Exa Z h b "java/lang/Integer") := by
  refine own_body (plainFor_of_name own_pn_4) ?_
  intro p e s m below meth c T0 X0 hx hby hml hown hZ e0 hret hlk hnm hnamed
  replace hown : s.vm.findClass "java/lang/Integer" = some m.cls := hown
  replace hml : c.maxLocals = 1 := hml
  have ef : entryFrame m #[(.int i)] 1 = mkF m 0 #[.val (.int i)] [] := by first | (simp [entryFrame, mkF, argsToLocals, Value.category]; done) | rfl
  rw [ef]
  have E0 := own_ext_rf h0
  have Nf := Fr.nil h0.size
  refine own_st (T' := T0) (g' := (mkF m 1 #[.val (.int i)] [(.int i)])) (fun _ k => XS.iloadN X0.here hx rfl (hb hby own_d_jdk_33_method_22_code_0) rfl k) ?_
  refine own_st (T' := T0) (g' := (mkF m 3 #[.val (.int i)] [(.int (-128 : Int32)), (.int i)])) (fun _ k => XS.bipush X0.here hx rfl (hb hby own_d_jdk_33_method_22_code_1) k) ?_
  by_cases hc3_1 : i < (-128 : Int32)
  ·
    refine own_st (T' := T0) (g' := (mkF m 23 #[.val (.int i)] [])) (fun _ k => XS.icmpYes X0.here hx rfl (pc0 := 3) (pc' := 23) rfl (hb hby own_d_jdk_33_method_22_code_3) rfl (tlt hc3_1).1 (by decide) (by decide) k) ?_
    obtain ⟨T2, h2, X2, e2, E2, A2, D2, -, st2⟩ := newO X0 hx hZ hown (hw _ (List.mem_of_getElem? (i := 55) rfl)) (hw _ (List.mem_of_getElem? (i := 56) rfl)) (hw _ (List.mem_of_getElem? (i := 51) rfl)) e0 (g := (mkF m 23 #[.val (.int i)] [])) rfl (hb hby own_d_jdk_33_method_22_code_23) (by decide) (by decide)
    obtain ⟨b2, gb_b2⟩ : ∃ z, z = h0.size := ⟨_, rfl⟩
    rw [← gb_b2] at A2 D2 st2
    have g_b2 : h0.size ≤ b2 := Nat.le_trans E0.1 (Nat.le_of_eq gb_b2.symm)
    have E0 := own_ext_tr E0 E2
    have E_b2 := A2
    have F_value_b2 : Fld Z h2 b2 "java/lang/Integer" "value" "I" (.int (0 : Int32)) := D2 (Or.inr (hw _ (List.mem_of_getElem? (i := 69) rfl))) (ty := .int) (by decide)
    refine own_st (T' := T2) (g' := (mkF m 26 #[.val (.int i)] [(.ref b2)])) st2 ?_
    refine own_st (T' := T2) (g' := (mkF m 27 #[.val (.int i)] [(.ref b2), (.ref b2)])) (fun _ k => XS.dup X2.here hx rfl (hb hby own_d_jdk_33_method_22_code_26) rfl rfl k) ?_
    refine own_st (T' := T2) (g' := (mkF m 28 #[.val (.int i)] [(.int i), (.ref b2), (.ref b2)])) (fun _ k => XS.iloadN X2.here hx rfl (hb hby own_d_jdk_33_method_22_code_27) rfl k) ?_
    obtain ⟨v3, T3, L3, X3, hQ3, st3⟩ := own_gI X2 hx hZ rfl hown (hw _ (List.mem_of_getElem? (i := 57) rfl)) (hw _ (List.mem_of_getElem? (i := 58) rfl)) (hw _ (List.mem_of_getElem? (i := 51) rfl)) (hw _ (List.mem_of_getElem? (i := 60) rfl)) (by decide) e2 (own_iinit l Z a0 hw h2 b2 i h0.size g_b2 E_b2 F_value_b2) (by decide) (by decide) (by decide) (by decide) (Q := (fun v h L => v = none ∧ Fr h0.size L ∧ Keep h2 h [b2] ∧ Exa Z h b2 "java/lang/Integer")) (W := 1) (g := (mkF m 28 #[.val (.int i)] [(.int i), (.ref b2), (.ref b2)])) (argsL := [(.int i)]) (rest := [(.ref b2)]) rfl (by rw [hml]; rfl) (lenOf own_pd_2 rfl) rfl (by show 2 * 0 + _ ≤ _; exact Nat.le_of_eq rfl) (hb hby own_d_jdk_33_method_22_code_28)
    obtain ⟨rfl, NL3, K3, EE3⟩ := hQ3
    have E_b2 := EE3
    have E0 := own_ext_keep E0 K3 (allS g_b2 all0)
    have Nf := Fr.app Nf NL3
    refine own_st (T' := T3) (g' := (mkF m 31 #[.val (.int i)] [(.ref b2)])) st3 ?_
    exact own_ret X3 hx hlk hret rfl (Or.inr (Or.inr (Or.inr (Or.inr ⟨rfl, rfl, rfl⟩)))) (hb hby own_d_jdk_33_method_22_code_31) (by decide) (by decide) ⟨b2, rfl, Nf, E0, E_b2⟩
  ·
    refine own_st (T' := T0) (g' := (mkF m 6 #[.val (.int i)] [])) (fun _ k => XS.icmpNo X0.here hx rfl (hb hby own_d_jdk_33_method_22_code_3) rfl (flt hc3_1).1 k) ?_
    refine own_st (T' := T0) (g' := (mkF m 7 #[.val (.int i)] [(.int i)])) (fun _ k => XS.iloadN X0.here hx rfl (hb hby own_d_jdk_33_method_22_code_6) rfl k) ?_
    obtain ⟨T4, X4, e4, st4⟩ := getS2 X0 hx hZ hown (host := "") (Or.inl (hw _ (List.mem_of_getElem? (i := 53) rfl))) Via.refl e0 (own_p_S_high hE) (g := (mkF m 7 #[.val (.int i)] [(.int i)])) rfl (hb hby own_d_jdk_33_method_22_code_7)
    refine own_st (T' := T4) (g' := (mkF m 10 #[.val (.int i)] [(.int (127 : Int32)), (.int i)])) st4 ?_
    by_cases hc10_5 : (127 : Int32) < i
    ·
      refine own_st (T' := T4) (g' := (mkF m 23 #[.val (.int i)] [])) (fun _ k => XS.icmpYes X4.here hx rfl (pc0 := 10) (pc' := 23) rfl (hb hby own_d_jdk_33_method_22_code_10) rfl (tlt hc10_5).2.2.1 (by decide) (by decide) k) ?_
      obtain ⟨T6, h6, X6, e6, E6, A6, D6, -, st6⟩ := newO X4 hx hZ hown (hw _ (List.mem_of_getElem? (i := 55) rfl)) (hw _ (List.mem_of_getElem? (i := 56) rfl)) (hw _ (List.mem_of_getElem? (i := 51) rfl)) e4 (g := (mkF m 23 #[.val (.int i)] [])) rfl (hb hby own_d_jdk_33_method_22_code_23) (by decide) (by decide)
      obtain ⟨b6, gb_b6⟩ : ∃ z, z = h0.size := ⟨_, rfl⟩
      rw [← gb_b6] at A6 D6 st6
      have g_b6 : h0.size ≤ b6 := Nat.le_trans E0.1 (Nat.le_of_eq gb_b6.symm)
      have E0 := own_ext_tr E0 E6
      have E_b6 := A6
      have F_value_b6 : Fld Z h6 b6 "java/lang/Integer" "value" "I" (.int (0 : Int32)) := D6 (Or.inr (hw _ (List.mem_of_getElem? (i := 69) rfl))) (ty := .int) (by decide)
      refine own_st (T' := T6) (g' := (mkF m 26 #[.val (.int i)] [(.ref b6)])) st6 ?_
      refine own_st (T' := T6) (g' := (mkF m 27 #[.val (.int i)] [(.ref b6), (.ref b6)])) (fun _ k => XS.dup X6.here hx rfl (hb hby own_d_jdk_33_method_22_code_26) rfl rfl k) ?_
      refine own_st (T' := T6) (g' := (mkF m 28 #[.val (.int i)] [(.int i), (.ref b6), (.ref b6)])) (fun _ k => XS.iloadN X6.here hx rfl (hb hby own_d_jdk_33_method_22_code_27) rfl k) ?_
      obtain ⟨v7, T7, L7, X7, hQ7, st7⟩ := own_gI X6 hx hZ rfl hown (hw _ (List.mem_of_getElem? (i := 57) rfl)) (hw _ (List.mem_of_getElem? (i := 58) rfl)) (hw _ (List.mem_of_getElem? (i := 51) rfl)) (hw _ (List.mem_of_getElem? (i := 60) rfl)) (by decide) e6 (own_iinit l Z a0 hw h6 b6 i h0.size g_b6 E_b6 F_value_b6) (by decide) (by decide) (by decide) (by decide) (Q := (fun v h L => v = none ∧ Fr h0.size L ∧ Keep h6 h [b6] ∧ Exa Z h b6 "java/lang/Integer")) (W := 1) (g := (mkF m 28 #[.val (.int i)] [(.int i), (.ref b6), (.ref b6)])) (argsL := [(.int i)]) (rest := [(.ref b6)]) rfl (by rw [hml]; rfl) (lenOf own_pd_2 rfl) rfl (by show 2 * 0 + _ ≤ _; exact Nat.le_of_eq rfl) (hb hby own_d_jdk_33_method_22_code_28)
      obtain ⟨rfl, NL7, K7, EE7⟩ := hQ7
      have E_b6 := EE7
      have E0 := own_ext_keep E0 K7 (allS g_b6 all0)
      have Nf := Fr.app Nf NL7
      refine own_st (T' := T7) (g' := (mkF m 31 #[.val (.int i)] [(.ref b6)])) st7 ?_
      exact own_ret X7 hx hlk hret rfl (Or.inr (Or.inr (Or.inr (Or.inr ⟨rfl, rfl, rfl⟩)))) (hb hby own_d_jdk_33_method_22_code_31) (by decide) (by decide) ⟨b6, rfl, Nf, E0, E_b6⟩
    ·
      refine own_st (T' := T4) (g' := (mkF m 13 #[.val (.int i)] [])) (fun _ k => XS.icmpNo X4.here hx rfl (hb hby own_d_jdk_33_method_22_code_10) rfl (flt hc10_5).2.2.1 k) ?_
      obtain ⟨T8, X8, e8, st8⟩ := getS2 X4 hx hZ hown (host := "") (Or.inl (hw _ (List.mem_of_getElem? (i := 73) rfl))) Via.refl e4 (own_p_S_cache hE) (g := (mkF m 13 #[.val (.int i)] [])) rfl (hb hby own_d_jdk_33_method_22_code_13)
      refine own_st (T' := T8) (g' := (mkF m 16 #[.val (.int i)] [(.ref a_cache)])) st8 ?_
      refine own_st (T' := T8) (g' := (mkF m 17 #[.val (.int i)] [(.int i), (.ref a_cache)])) (fun _ k => XS.iloadN X8.here hx rfl (hb hby own_d_jdk_33_method_22_code_16) rfl k) ?_
      refine own_st (T' := T8) (g' := (mkF m 20 #[.val (.int i)] [(.int (128 : Int32)), (.int i), (.ref a_cache)])) (fun _ k => XS.sipush X8.here hx rfl (hb hby own_d_jdk_33_method_22_code_17) k) ?_
      refine own_st (T' := T8) (g' := (mkF m 21 #[.val (.int i)] [(.int (i + (128 : Int32))), (.ref a_cache)])) (fun _ k => XS.iadd X8.here hx rfl (hb hby own_d_jdk_33_method_22_code_20) rfl k) ?_
      have hin9 := own_vo_in hc3_1 hc10_5 (own_p_Z_cache hE)
      obtain ⟨bx9, hat9, EX9⟩ := own_p_Y_cache hE _ hin9
      have A9 := own_p_A_cache hE
      refine own_st (T' := T8) (g' := (mkF m 22 #[.val (.int i)] [(.ref bx9)])) (fun _ k => X8.aaload hx (j := (i + (128 : Int32))) (v := (.ref bx9)) (own_he e8 A9.1) (State.isArrayOf_alike hZ.alike A9.2.1) rfl A9.2.2 hin9 hat9 (g := (mkF m 21 #[.val (.int i)] [(.int (i + (128 : Int32))), (.ref a_cache)])) rfl rfl (hb hby own_d_jdk_33_method_22_code_21) _ k) ?_
      exact own_ret X8 hx hlk hret rfl (Or.inr (Or.inr (Or.inr (Or.inr ⟨rfl, rfl, rfl⟩)))) (hb hby own_d_jdk_33_method_22_code_22) (by decide) (by decide) (by rw [e8]; exact ⟨bx9, rfl, Nf, E0, EX9⟩)
set_option maxRecDepth 65536 in
set_option maxHeartbeats 40000000 in
theorem own_lawP (l : Launch) (Z : State) (a0 : Array Value) (hw : ∀ d ∈ tables_1, d.before a0 Z = true) (h0 : Heap) (a_ANNOTATION : Addr) (a_CLASS_RULE : Addr) (a_DESCRIPTOR : Addr) (a_METHOD_RULE : Addr) (a_cache : Addr) (cl_cache : Cell) (hE : own_E Z h0 a_ANNOTATION a_CLASS_RULE a_DESCRIPTOR a_METHOD_RULE a_cache cl_cache) (i : Int32) (j : Int32) (kk : Int32)  :
    own_MetW l Z h0 tables_1 room_1 x code maxLocals ret #[(.int i), (.int j), (.int kk)] (fun v h L => v = some (.int (1 : Int32)) ∧ Fr h0.size L) := by
  refine own_bodyW (plainFor_of_name own_pn_0) ?_
  intro p e s m below meth c T0 vm0 k0 X0 hS hk hx hby hml hown hZ e0 hret hlk hnm hnamed
  replace hown : (s.setVm vm0).vm.findClass "com/example/rollback_rules/rollbackrules/decision/DesignationEqualsPinLaw" = some m.cls := hown
  replace hml : c.maxLocals = 15 := hml
  have ef : entryFrame m #[(.int i), (.int j), (.int kk)] maxLocals = mkF m 0 #[.val (.int i), .val (.int j), .val (.int kk), .unset, .unset, .unset, .unset, .unset, .unset, .unset, .unset, .unset, .unset, .unset, .unset] [] := by first | (simp [entryFrame, mkF, argsToLocals, Value.category, maxLocals]; done) | rfl
  rw [ef]
  have hE0 := hE
  have E0 := own_ext_rf h0
  have Nf := Fr.nil h0.size
  refine own_st (T' := T0) (g' := (mkF m 1 #[.val (.int i), .val (.int j), .val (.int kk), .unset, .unset, .unset, .unset, .unset, .unset, .unset, .unset, .unset, .unset, .unset, .unset] [(.int i)])) (fun _ k => XS.iloadN X0.here hx rfl (hb hby at_0) rfl k) ?_
  refine own_st (T' := T0) (g' := (mkF m 2 #[.val (.int i), .val (.int j), .val (.int kk), .unset, .unset, .unset, .unset, .unset, .unset, .unset, .unset, .unset, .unset, .unset, .unset] [(.int (3 : Int32)), (.int i)])) (fun _ k => XS.iconst X0.here hx rfl (hb hby at_1) k) ?_
  refine own_st (T' := T0) (g' := (mkF m 3 #[.val (.int i), .val (.int j), .val (.int kk), .unset, .unset, .unset, .unset, .unset, .unset, .unset, .unset, .unset, .unset, .unset, .unset] [(.int (i &&& (3 : Int32)))])) (fun _ k => XS.iand X0.here hx rfl (hb hby at_2) rfl k) ?_
  have csa := own_and3 i
  obtain ⟨sa, esa⟩ : ∃ z, z = (i &&& (3 : Int32)) := ⟨_, rfl⟩
  rw [← esa]
  rw [← esa] at csa
  refine own_st (T' := T0) (g' := (mkF m 4 #[.val (.int i), .val (.int j), .val (.int kk), .val (.int sa), .unset, .unset, .unset, .unset, .unset, .unset, .unset, .unset, .unset, .unset, .unset] [])) (fun _ k => XS.istoreN X0.here hx rfl (hb hby at_3) rfl (l' := #[.val (.int i), .val (.int j), .val (.int kk), .val (.int sa), .unset, .unset, .unset, .unset, .unset, .unset, .unset, .unset, .unset, .unset, .unset]) rfl k) ?_
  refine own_st (T' := T0) (g' := (mkF m 5 #[.val (.int i), .val (.int j), .val (.int kk), .val (.int sa), .unset, .unset, .unset, .unset, .unset, .unset, .unset, .unset, .unset, .unset, .unset] [(.int j)])) (fun _ k => XS.iloadN X0.here hx rfl (hb hby at_4) rfl k) ?_
  refine own_st (T' := T0) (g' := (mkF m 6 #[.val (.int i), .val (.int j), .val (.int kk), .val (.int sa), .unset, .unset, .unset, .unset, .unset, .unset, .unset, .unset, .unset, .unset, .unset] [(.int (3 : Int32)), (.int j)])) (fun _ k => XS.iconst X0.here hx rfl (hb hby at_5) k) ?_
  refine own_st (T' := T0) (g' := (mkF m 7 #[.val (.int i), .val (.int j), .val (.int kk), .val (.int sa), .unset, .unset, .unset, .unset, .unset, .unset, .unset, .unset, .unset, .unset, .unset] [(.int (j &&& (3 : Int32)))])) (fun _ k => XS.iand X0.here hx rfl (hb hby at_6) rfl k) ?_
  have csb := own_and3 j
  obtain ⟨sb, esb⟩ : ∃ z, z = (j &&& (3 : Int32)) := ⟨_, rfl⟩
  rw [← esb]
  rw [← esb] at csb
  refine own_st (T' := T0) (g' := (mkF m 9 #[.val (.int i), .val (.int j), .val (.int kk), .val (.int sa), .val (.int sb), .unset, .unset, .unset, .unset, .unset, .unset, .unset, .unset, .unset, .unset] [])) (fun _ k => XS.istore X0.here hx rfl (hb hby at_7) rfl (l' := #[.val (.int i), .val (.int j), .val (.int kk), .val (.int sa), .val (.int sb), .unset, .unset, .unset, .unset, .unset, .unset, .unset, .unset, .unset, .unset]) rfl k) ?_
  have K22 : ∀ (ra : Int32) (h_ra : ra = 0 ∨ ra = 1), own_Go p e below (own_W s room_1.cells room_1.slots (fun v h L => v = some (.int (1 : Int32)) ∧ Fr h0.size L)) T0 (mkF m 22 #[.val (.int i), .val (.int j), .val (.int kk), .val (.int sa), .val (.int sb), .val (.int ra), .unset, .unset, .unset, .unset, .unset, .unset, .unset, .unset, .unset] []) := by
    intro ra h_ra
    have K36 : ∀ (ia : Int32) (h_ia : ia = 0 ∨ ia = 1), own_Go p e below (own_W s room_1.cells room_1.slots (fun v h L => v = some (.int (1 : Int32)) ∧ Fr h0.size L)) T0 (mkF m 36 #[.val (.int i), .val (.int j), .val (.int kk), .val (.int sa), .val (.int sb), .val (.int ra), .val (.int ia), .unset, .unset, .unset, .unset, .unset, .unset, .unset, .unset] []) := by
      intro ia h_ia
      have K49 : ∀ (rb : Int32) (h_rb : rb = 0 ∨ rb = 1), own_Go p e below (own_W s room_1.cells room_1.slots (fun v h L => v = some (.int (1 : Int32)) ∧ Fr h0.size L)) T0 (mkF m 49 #[.val (.int i), .val (.int j), .val (.int kk), .val (.int sa), .val (.int sb), .val (.int ra), .val (.int ia), .val (.int rb), .unset, .unset, .unset, .unset, .unset, .unset, .unset] []) := by
        intro rb h_rb
        have K63 : ∀ (ib : Int32) (h_ib : ib = 0 ∨ ib = 1), own_Go p e below (own_W s room_1.cells room_1.slots (fun v h L => v = some (.int (1 : Int32)) ∧ Fr h0.size L)) T0 (mkF m 63 #[.val (.int i), .val (.int j), .val (.int kk), .val (.int sa), .val (.int sb), .val (.int ra), .val (.int ia), .val (.int rb), .val (.int ib), .unset, .unset, .unset, .unset, .unset, .unset] []) := by
          intro ib h_ib
          obtain ⟨T1, h1, X1, e1, E1, A1, D1, -, st1⟩ := newO X0 hx hZ hown (hw _ (List.mem_of_getElem? (i := 0) rfl)) (hw _ (List.mem_of_getElem? (i := 1) rfl)) (hw _ (List.mem_of_getElem? (i := 2) rfl)) e0 (g := (mkF m 63 #[.val (.int i), .val (.int j), .val (.int kk), .val (.int sa), .val (.int sb), .val (.int ra), .val (.int ia), .val (.int rb), .val (.int ib), .unset, .unset, .unset, .unset, .unset, .unset] [])) rfl (hb hby at_63) (by decide) (by decide)
          obtain ⟨b1, gb_b1⟩ : ∃ z, z = h0.size := ⟨_, rfl⟩
          rw [← gb_b1] at A1 D1 st1
          have g_b1 : h0.size ≤ b1 := Nat.le_trans E0.1 (Nat.le_of_eq gb_b1.symm)
          have E0 := own_ext_tr E0 E1
          have hE := own_E_ext hE0 E0
          have hk := Nat.le_trans hk E1.1
          have E_b1 := A1
          have F_source_b1 : Fld Z h1 b1 "com/example/rollback_rules/rollbackrules/decision/Designation" "source" "Lcom/example/rollback_rules/rollbackrules/decision/Designation$Source;" .null := D1 (Or.inr (hw _ (List.mem_of_getElem? (i := 31) rfl))) (ty := (.object "com/example/rollback_rules/rollbackrules/decision/Designation$Source")) (by decide)
          have F_rollback_b1 : Fld Z h1 b1 "com/example/rollback_rules/rollbackrules/decision/Designation" "rollback" "Z" (.int (0 : Int32)) := D1 (Or.inr (hw _ (List.mem_of_getElem? (i := 33) rfl))) (ty := .boolean) (by decide)
          have F_inherited_b1 : Fld Z h1 b1 "com/example/rollback_rules/rollbackrules/decision/Designation" "inherited" "Z" (.int (0 : Int32)) := D1 (Or.inr (hw _ (List.mem_of_getElem? (i := 35) rfl))) (ty := .boolean) (by decide)
          refine own_st (T' := T1) (g' := (mkF m 66 #[.val (.int i), .val (.int j), .val (.int kk), .val (.int sa), .val (.int sb), .val (.int ra), .val (.int ia), .val (.int rb), .val (.int ib), .unset, .unset, .unset, .unset, .unset, .unset] [(.ref b1)])) st1 ?_
          refine own_st (T' := T1) (g' := (mkF m 67 #[.val (.int i), .val (.int j), .val (.int kk), .val (.int sa), .val (.int sb), .val (.int ra), .val (.int ia), .val (.int rb), .val (.int ib), .unset, .unset, .unset, .unset, .unset, .unset] [(.ref b1), (.ref b1)])) (fun _ k => XS.dup X1.here hx rfl (hb hby at_66) rfl rfl k) ?_
          refine own_st (T' := T1) (g' := (mkF m 68 #[.val (.int i), .val (.int j), .val (.int kk), .val (.int sa), .val (.int sb), .val (.int ra), .val (.int ia), .val (.int rb), .val (.int ib), .unset, .unset, .unset, .unset, .unset, .unset] [(.int sa), (.ref b1), (.ref b1)])) (fun _ k => XS.iloadN X1.here hx rfl (hb hby at_67) rfl k) ?_
          obtain ⟨T2, X2, e2, st2⟩ := own_pure (w := (.ref (own_src a_ANNOTATION a_DESCRIPTOR a_METHOD_RULE a_CLASS_RULE sa))) rfl rfl (own_gS X1 hx hZ hown (hw _ (List.mem_of_getElem? (i := 3) rfl)) (hw _ (List.mem_of_getElem? (i := 4) rfl)) (hw _ (List.mem_of_getElem? (i := 5) rfl)) (hw _ (List.mem_of_getElem? (i := 6) rfl)) (by decide) e1 (own_srcP l Z a0 hw h1 a_ANNOTATION a_CLASS_RULE a_DESCRIPTOR a_METHOD_RULE a_cache cl_cache hE sa) (by decide) (by decide) (by decide) (by decide) (Q := fun v h L => v = some (.ref (own_src a_ANNOTATION a_DESCRIPTOR a_METHOD_RULE a_CLASS_RULE sa)) ∧ L = [] ∧ h = h1) (W := 2) (g := (mkF m 68 #[.val (.int i), .val (.int j), .val (.int kk), .val (.int sa), .val (.int sb), .val (.int ra), .val (.int ia), .val (.int rb), .val (.int ib), .unset, .unset, .unset, .unset, .unset, .unset] [(.int sa), (.ref b1), (.ref b1)])) (argsL := [(.int sa)]) (rest := [(.ref b1), (.ref b1)]) rfl (by rw [hml]; rfl) (lenOf own_pd_3 rfl) rfl (by show 2 * 0 + _ ≤ _; exact Nat.le_of_eq rfl) (hb hby at_68))
          refine own_st (T' := T2) (g' := (mkF m 71 #[.val (.int i), .val (.int j), .val (.int kk), .val (.int sa), .val (.int sb), .val (.int ra), .val (.int ia), .val (.int rb), .val (.int ib), .unset, .unset, .unset, .unset, .unset, .unset] [(.ref (own_src a_ANNOTATION a_DESCRIPTOR a_METHOD_RULE a_CLASS_RULE sa)), (.ref b1), (.ref b1)])) st2 ?_
          obtain ⟨s1, es1⟩ : ∃ z, z = (own_src a_ANNOTATION a_DESCRIPTOR a_METHOD_RULE a_CLASS_RULE sa) := ⟨_, rfl⟩
          rw [← es1]
          have E_s1 : Exa Z h1 s1 "com/example/rollback_rules/rollbackrules/decision/Designation$Source" := es1 ▸ own_src_exa hE sa
          refine own_st (T' := T2) (g' := (mkF m 73 #[.val (.int i), .val (.int j), .val (.int kk), .val (.int sa), .val (.int sb), .val (.int ra), .val (.int ia), .val (.int rb), .val (.int ib), .unset, .unset, .unset, .unset, .unset, .unset] [(.int ra), (.ref s1), (.ref b1), (.ref b1)])) (fun _ k => XS.iload X2.here hx rfl (hb hby at_71) rfl k) ?_
          refine own_st (T' := T2) (g' := (mkF m 75 #[.val (.int i), .val (.int j), .val (.int kk), .val (.int sa), .val (.int sb), .val (.int ra), .val (.int ia), .val (.int rb), .val (.int ib), .unset, .unset, .unset, .unset, .unset, .unset] [(.int ia), (.int ra), (.ref s1), (.ref b1), (.ref b1)])) (fun _ k => XS.iload X2.here hx rfl (hb hby at_73) rfl k) ?_
          obtain ⟨v3, T3, L3, k3, X3, hQ3, hS, hk, hZ, hown, st3⟩ := own_gIW X2 hS hk hx hZ rfl hown (hw _ (List.mem_of_getElem? (i := 10) rfl)) (hw _ (List.mem_of_getElem? (i := 11) rfl)) (hw _ (List.mem_of_getElem? (i := 2) rfl)) (hw _ (List.mem_of_getElem? (i := 12) rfl)) (by decide) e2 (own_init l Z a0 hw h1 b1 s1 ra ia h_ra h_ia h0.size g_b1 E_b1 E_s1 F_source_b1 F_rollback_b1 F_inherited_b1) (by decide) (by decide) (by decide) (by decide) (Q := (fun v h L => v = none ∧ Fr h0.size L ∧ Keep h1 h [b1] ∧ Exa Z h b1 "com/example/rollback_rules/rollbackrules/decision/Designation" ∧ Fld Z h b1 "com/example/rollback_rules/rollbackrules/decision/Designation" "source" "Lcom/example/rollback_rules/rollbackrules/decision/Designation$Source;" (.ref s1) ∧ Fld Z h b1 "com/example/rollback_rules/rollbackrules/decision/Designation" "rollback" "Z" (.int ra) ∧ Fld Z h b1 "com/example/rollback_rules/rollbackrules/decision/Designation" "inherited" "Z" (.int ia))) (W := 1) (g := (mkF m 75 #[.val (.int i), .val (.int j), .val (.int kk), .val (.int sa), .val (.int sb), .val (.int ra), .val (.int ia), .val (.int rb), .val (.int ib), .unset, .unset, .unset, .unset, .unset, .unset] [(.int ia), (.int ra), (.ref s1), (.ref b1), (.ref b1)])) (argsL := [(.ref s1), (.int ra), (.int ia)]) (rest := [(.ref b1)]) rfl (by rw [hml]; rfl) (lenOf own_pd_4 rfl) rfl (by show 2 * 0 + _ ≤ _; exact Nat.le_of_eq rfl) (hb hby at_75)
          obtain ⟨rfl, NL3, K3, EE3, FA3, FB3, FC3⟩ := hQ3
          have E_s1 := E_s1.keep K3
          have E_b1 := EE3
          have F_source_b1 := FA3
          have F_rollback_b1 := FB3
          have F_inherited_b1 := FC3
          have E0 := own_ext_keep E0 K3 (allS g_b1 all0)
          have hE := own_E_ext hE0 E0
          have Nf := Fr.app Nf NL3
          refine own_st (T' := T3) (g' := (mkF m 78 #[.val (.int i), .val (.int j), .val (.int kk), .val (.int sa), .val (.int sb), .val (.int ra), .val (.int ia), .val (.int rb), .val (.int ib), .unset, .unset, .unset, .unset, .unset, .unset] [(.ref b1)])) st3 ?_
          refine own_st (T' := T3) (g' := (mkF m 80 #[.val (.int i), .val (.int j), .val (.int kk), .val (.int sa), .val (.int sb), .val (.int ra), .val (.int ia), .val (.int rb), .val (.int ib), .val (.ref b1), .unset, .unset, .unset, .unset, .unset] [])) (fun _ k => XS.astore X3.here hx rfl (hb hby at_78) rfl rfl (l' := #[.val (.int i), .val (.int j), .val (.int kk), .val (.int sa), .val (.int sb), .val (.int ra), .val (.int ia), .val (.int rb), .val (.int ib), .val (.ref b1), .unset, .unset, .unset, .unset, .unset]) rfl k) ?_
          obtain ⟨T4, h4, X4, e4, E4, A4, D4, -, st4⟩ := newO X3 hx hZ hown (hw _ (List.mem_of_getElem? (i := 0) rfl)) (hw _ (List.mem_of_getElem? (i := 1) rfl)) (hw _ (List.mem_of_getElem? (i := 2) rfl)) rfl (g := (mkF m 80 #[.val (.int i), .val (.int j), .val (.int kk), .val (.int sa), .val (.int sb), .val (.int ra), .val (.int ia), .val (.int rb), .val (.int ib), .val (.ref b1), .unset, .unset, .unset, .unset, .unset] [])) rfl (hb hby at_80) (by decide) (by decide)
          obtain ⟨b4, gb_b4⟩ : ∃ z, z = T3.heap.size := ⟨_, rfl⟩
          rw [← gb_b4] at A4 D4 st4
          have ne_b1_b4 : b1 ≠ b4 := Nat.ne_of_lt (Nat.lt_of_lt_of_le E_b1.lt (Nat.le_of_eq gb_b4.symm))
          have g_b4 : h0.size ≤ b4 := Nat.le_trans E0.1 (Nat.le_of_eq gb_b4.symm)
          have E_b1 := E_b1.ext E4
          have F_source_b1 := F_source_b1.ext E4
          have F_rollback_b1 := F_rollback_b1.ext E4
          have F_inherited_b1 := F_inherited_b1.ext E4
          have E_s1 := E_s1.ext E4
          have E0 := own_ext_tr E0 E4
          have hE := own_E_ext hE0 E0
          have hk := Nat.le_trans hk E4.1
          have E_b4 := A4
          have F_source_b4 : Fld Z h4 b4 "com/example/rollback_rules/rollbackrules/decision/Designation" "source" "Lcom/example/rollback_rules/rollbackrules/decision/Designation$Source;" .null := D4 (Or.inr (hw _ (List.mem_of_getElem? (i := 31) rfl))) (ty := (.object "com/example/rollback_rules/rollbackrules/decision/Designation$Source")) (by decide)
          have F_rollback_b4 : Fld Z h4 b4 "com/example/rollback_rules/rollbackrules/decision/Designation" "rollback" "Z" (.int (0 : Int32)) := D4 (Or.inr (hw _ (List.mem_of_getElem? (i := 33) rfl))) (ty := .boolean) (by decide)
          have F_inherited_b4 : Fld Z h4 b4 "com/example/rollback_rules/rollbackrules/decision/Designation" "inherited" "Z" (.int (0 : Int32)) := D4 (Or.inr (hw _ (List.mem_of_getElem? (i := 35) rfl))) (ty := .boolean) (by decide)
          refine own_st (T' := T4) (g' := (mkF m 83 #[.val (.int i), .val (.int j), .val (.int kk), .val (.int sa), .val (.int sb), .val (.int ra), .val (.int ia), .val (.int rb), .val (.int ib), .val (.ref b1), .unset, .unset, .unset, .unset, .unset] [(.ref b4)])) st4 ?_
          refine own_st (T' := T4) (g' := (mkF m 84 #[.val (.int i), .val (.int j), .val (.int kk), .val (.int sa), .val (.int sb), .val (.int ra), .val (.int ia), .val (.int rb), .val (.int ib), .val (.ref b1), .unset, .unset, .unset, .unset, .unset] [(.ref b4), (.ref b4)])) (fun _ k => XS.dup X4.here hx rfl (hb hby at_83) rfl rfl k) ?_
          refine own_st (T' := T4) (g' := (mkF m 86 #[.val (.int i), .val (.int j), .val (.int kk), .val (.int sa), .val (.int sb), .val (.int ra), .val (.int ia), .val (.int rb), .val (.int ib), .val (.ref b1), .unset, .unset, .unset, .unset, .unset] [(.int sb), (.ref b4), (.ref b4)])) (fun _ k => XS.iload X4.here hx rfl (hb hby at_84) rfl k) ?_
          obtain ⟨T5, X5, e5, st5⟩ := own_pure (w := (.ref (own_src a_ANNOTATION a_DESCRIPTOR a_METHOD_RULE a_CLASS_RULE sb))) rfl rfl (own_gS X4 hx hZ hown (hw _ (List.mem_of_getElem? (i := 3) rfl)) (hw _ (List.mem_of_getElem? (i := 4) rfl)) (hw _ (List.mem_of_getElem? (i := 5) rfl)) (hw _ (List.mem_of_getElem? (i := 6) rfl)) (by decide) e4 (own_srcP l Z a0 hw h4 a_ANNOTATION a_CLASS_RULE a_DESCRIPTOR a_METHOD_RULE a_cache cl_cache hE sb) (by decide) (by decide) (by decide) (by decide) (Q := fun v h L => v = some (.ref (own_src a_ANNOTATION a_DESCRIPTOR a_METHOD_RULE a_CLASS_RULE sb)) ∧ L = [] ∧ h = h4) (W := 2) (g := (mkF m 86 #[.val (.int i), .val (.int j), .val (.int kk), .val (.int sa), .val (.int sb), .val (.int ra), .val (.int ia), .val (.int rb), .val (.int ib), .val (.ref b1), .unset, .unset, .unset, .unset, .unset] [(.int sb), (.ref b4), (.ref b4)])) (argsL := [(.int sb)]) (rest := [(.ref b4), (.ref b4)]) rfl (by rw [hml]; rfl) (lenOf own_pd_3 rfl) rfl (by show 2 * 0 + _ ≤ _; exact Nat.le_of_eq rfl) (hb hby at_86))
          refine own_st (T' := T5) (g' := (mkF m 89 #[.val (.int i), .val (.int j), .val (.int kk), .val (.int sa), .val (.int sb), .val (.int ra), .val (.int ia), .val (.int rb), .val (.int ib), .val (.ref b1), .unset, .unset, .unset, .unset, .unset] [(.ref (own_src a_ANNOTATION a_DESCRIPTOR a_METHOD_RULE a_CLASS_RULE sb)), (.ref b4), (.ref b4)])) st5 ?_
          obtain ⟨s2, es2⟩ : ∃ z, z = (own_src a_ANNOTATION a_DESCRIPTOR a_METHOD_RULE a_CLASS_RULE sb) := ⟨_, rfl⟩
          rw [← es2]
          have E_s2 : Exa Z h4 s2 "com/example/rollback_rules/rollbackrules/decision/Designation$Source" := es2 ▸ own_src_exa hE sb
          refine own_st (T' := T5) (g' := (mkF m 91 #[.val (.int i), .val (.int j), .val (.int kk), .val (.int sa), .val (.int sb), .val (.int ra), .val (.int ia), .val (.int rb), .val (.int ib), .val (.ref b1), .unset, .unset, .unset, .unset, .unset] [(.int rb), (.ref s2), (.ref b4), (.ref b4)])) (fun _ k => XS.iload X5.here hx rfl (hb hby at_89) rfl k) ?_
          refine own_st (T' := T5) (g' := (mkF m 93 #[.val (.int i), .val (.int j), .val (.int kk), .val (.int sa), .val (.int sb), .val (.int ra), .val (.int ia), .val (.int rb), .val (.int ib), .val (.ref b1), .unset, .unset, .unset, .unset, .unset] [(.int ib), (.int rb), (.ref s2), (.ref b4), (.ref b4)])) (fun _ k => XS.iload X5.here hx rfl (hb hby at_91) rfl k) ?_
          obtain ⟨v6, T6, L6, k6, X6, hQ6, hS, hk, hZ, hown, st6⟩ := own_gIW X5 hS hk hx hZ rfl hown (hw _ (List.mem_of_getElem? (i := 10) rfl)) (hw _ (List.mem_of_getElem? (i := 11) rfl)) (hw _ (List.mem_of_getElem? (i := 2) rfl)) (hw _ (List.mem_of_getElem? (i := 12) rfl)) (by decide) e5 (own_init l Z a0 hw h4 b4 s2 rb ib h_rb h_ib h0.size g_b4 E_b4 E_s2 F_source_b4 F_rollback_b4 F_inherited_b4) (by decide) (by decide) (by decide) (by decide) (Q := (fun v h L => v = none ∧ Fr h0.size L ∧ Keep h4 h [b4] ∧ Exa Z h b4 "com/example/rollback_rules/rollbackrules/decision/Designation" ∧ Fld Z h b4 "com/example/rollback_rules/rollbackrules/decision/Designation" "source" "Lcom/example/rollback_rules/rollbackrules/decision/Designation$Source;" (.ref s2) ∧ Fld Z h b4 "com/example/rollback_rules/rollbackrules/decision/Designation" "rollback" "Z" (.int rb) ∧ Fld Z h b4 "com/example/rollback_rules/rollbackrules/decision/Designation" "inherited" "Z" (.int ib))) (W := 1) (g := (mkF m 93 #[.val (.int i), .val (.int j), .val (.int kk), .val (.int sa), .val (.int sb), .val (.int ra), .val (.int ia), .val (.int rb), .val (.int ib), .val (.ref b1), .unset, .unset, .unset, .unset, .unset] [(.int ib), (.int rb), (.ref s2), (.ref b4), (.ref b4)])) (argsL := [(.ref s2), (.int rb), (.int ib)]) (rest := [(.ref b4)]) rfl (by rw [hml]; rfl) (lenOf own_pd_4 rfl) rfl (by show 2 * 0 + _ ≤ _; exact Nat.le_of_eq rfl) (hb hby at_93)
          obtain ⟨rfl, NL6, K6, EE6, FA6, FB6, FC6⟩ := hQ6
          have E_b1 := E_b1.keep K6
          have F_source_b1 := F_source_b1.keep K6 (ninS ne_b1_b4 nin0)
          have F_rollback_b1 := F_rollback_b1.keep K6 (ninS ne_b1_b4 nin0)
          have F_inherited_b1 := F_inherited_b1.keep K6 (ninS ne_b1_b4 nin0)
          have E_s1 := E_s1.keep K6
          have E_s2 := E_s2.keep K6
          have E_b4 := EE6
          have F_source_b4 := FA6
          have F_rollback_b4 := FB6
          have F_inherited_b4 := FC6
          have E0 := own_ext_keep E0 K6 (allS g_b4 all0)
          have hE := own_E_ext hE0 E0
          have Nf := Fr.app Nf NL6
          refine own_st (T' := T6) (g' := (mkF m 96 #[.val (.int i), .val (.int j), .val (.int kk), .val (.int sa), .val (.int sb), .val (.int ra), .val (.int ia), .val (.int rb), .val (.int ib), .val (.ref b1), .unset, .unset, .unset, .unset, .unset] [(.ref b4)])) st6 ?_
          refine own_st (T' := T6) (g' := (mkF m 98 #[.val (.int i), .val (.int j), .val (.int kk), .val (.int sa), .val (.int sb), .val (.int ra), .val (.int ia), .val (.int rb), .val (.int ib), .val (.ref b1), .val (.ref b4), .unset, .unset, .unset, .unset] [])) (fun _ k => XS.astore X6.here hx rfl (hb hby at_96) rfl rfl (l' := #[.val (.int i), .val (.int j), .val (.int kk), .val (.int sa), .val (.int sb), .val (.int ra), .val (.int ia), .val (.int rb), .val (.int ib), .val (.ref b1), .val (.ref b4), .unset, .unset, .unset, .unset]) rfl k) ?_
          refine own_st (T' := T6) (g' := (mkF m 99 #[.val (.int i), .val (.int j), .val (.int kk), .val (.int sa), .val (.int sb), .val (.int ra), .val (.int ia), .val (.int rb), .val (.int ib), .val (.ref b1), .val (.ref b4), .unset, .unset, .unset, .unset] [(.int kk)])) (fun _ k => XS.iloadN X6.here hx rfl (hb hby at_98) rfl k) ?_
          refine own_st (T' := T6) (g' := (mkF m 100 #[.val (.int i), .val (.int j), .val (.int kk), .val (.int sa), .val (.int sb), .val (.int ra), .val (.int ia), .val (.int rb), .val (.int ib), .val (.ref b1), .val (.ref b4), .unset, .unset, .unset, .unset] [(.int (3 : Int32)), (.int kk)])) (fun _ k => XS.iconst X6.here hx rfl (hb hby at_99) k) ?_
          refine own_st (T' := T6) (g' := (mkF m 101 #[.val (.int i), .val (.int j), .val (.int kk), .val (.int sa), .val (.int sb), .val (.int ra), .val (.int ia), .val (.int rb), .val (.int ib), .val (.ref b1), .val (.ref b4), .unset, .unset, .unset, .unset] [(.int (kk &&& (3 : Int32)))])) (fun _ k => XS.iand X6.here hx rfl (hb hby at_100) rfl k) ?_
          have hE9 := own_and3 kk
          rcases hE9 with hE9 | hE9 | hE9 | hE9
          ·
            rw [hE9]
            refine own_st (T' := T6) (g' := (mkF m 103 #[.val (.int i), .val (.int j), .val (.int kk), .val (.int sa), .val (.int sb), .val (.int ra), .val (.int ia), .val (.int rb), .val (.int ib), .val (.ref b1), .val (.ref b4), .val (.int (0 : Int32)), .unset, .unset, .unset] [])) (fun _ k => XS.istore X6.here hx rfl (hb hby at_101) rfl (l' := #[.val (.int i), .val (.int j), .val (.int kk), .val (.int sa), .val (.int sb), .val (.int ra), .val (.int ia), .val (.int rb), .val (.int ib), .val (.ref b1), .val (.ref b4), .val (.int (0 : Int32)), .unset, .unset, .unset]) rfl k) ?_
            refine own_st (T' := T6) (g' := (mkF m 105 #[.val (.int i), .val (.int j), .val (.int kk), .val (.int sa), .val (.int sb), .val (.int ra), .val (.int ia), .val (.int rb), .val (.int ib), .val (.ref b1), .val (.ref b4), .val (.int (0 : Int32)), .unset, .unset, .unset] [(.int (0 : Int32))])) (fun _ k => XS.iload X6.here hx rfl (hb hby at_103) rfl k) ?_
            refine own_st (T' := T6) (g' := (mkF m 108 #[.val (.int i), .val (.int j), .val (.int kk), .val (.int sa), .val (.int sb), .val (.int ra), .val (.int ia), .val (.int rb), .val (.int ib), .val (.ref b1), .val (.ref b4), .val (.int (0 : Int32)), .unset, .unset, .unset] [])) (fun _ k => XS.ifNo X6.here hx rfl (hb hby at_105) rfl (by decide) k) ?_
            refine own_st (T' := T6) (g' := (mkF m 109 #[.val (.int i), .val (.int j), .val (.int kk), .val (.int sa), .val (.int sb), .val (.int ra), .val (.int ia), .val (.int rb), .val (.int ib), .val (.ref b1), .val (.ref b4), .val (.int (0 : Int32)), .unset, .unset, .unset] [.null])) (fun _ k => XS.aconstNull X6.here hx rfl (hb hby at_108) k) ?_
            refine own_st (T' := T6) (g' := (mkF m 111 #[.val (.int i), .val (.int j), .val (.int kk), .val (.int sa), .val (.int sb), .val (.int ra), .val (.int ia), .val (.int rb), .val (.int ib), .val (.ref b1), .val (.ref b4), .val (.int (0 : Int32)), .val .null, .unset, .unset] [])) (fun _ k => XS.astore X6.here hx rfl (hb hby at_109) rfl rfl (l' := #[.val (.int i), .val (.int j), .val (.int kk), .val (.int sa), .val (.int sb), .val (.int ra), .val (.int ia), .val (.int rb), .val (.int ib), .val (.ref b1), .val (.ref b4), .val (.int (0 : Int32)), .val .null, .unset, .unset]) rfl k) ?_
            refine own_st (T' := T6) (g' := (mkF m 133 #[.val (.int i), .val (.int j), .val (.int kk), .val (.int sa), .val (.int sb), .val (.int ra), .val (.int ia), .val (.int rb), .val (.int ib), .val (.ref b1), .val (.ref b4), .val (.int (0 : Int32)), .val .null, .unset, .unset] [])) (fun _ k => XS.goto X6.here hx rfl (pc0 := 111) (pc' := 133) rfl (hb hby at_111) (by decide) (by decide) k) ?_
            refine own_st (T' := T6) (g' := (mkF m 135 #[.val (.int i), .val (.int j), .val (.int kk), .val (.int sa), .val (.int sb), .val (.int ra), .val (.int ia), .val (.int rb), .val (.int ib), .val (.ref b1), .val (.ref b4), .val (.int (0 : Int32)), .val .null, .unset, .unset] [(.int (0 : Int32))])) (fun _ k => XS.iload X6.here hx rfl (hb hby at_133) rfl k) ?_
            refine own_st (T' := T6) (g' := (mkF m 136 #[.val (.int i), .val (.int j), .val (.int kk), .val (.int sa), .val (.int sb), .val (.int ra), .val (.int ia), .val (.int rb), .val (.int ib), .val (.ref b1), .val (.ref b4), .val (.int (0 : Int32)), .val .null, .unset, .unset] [(.int (2 : Int32)), (.int (0 : Int32))])) (fun _ k => XS.iconst X6.here hx rfl (hb hby at_135) k) ?_
            refine own_st (T' := T6) (g' := (mkF m 163 #[.val (.int i), .val (.int j), .val (.int kk), .val (.int sa), .val (.int sb), .val (.int ra), .val (.int ia), .val (.int rb), .val (.int ib), .val (.ref b1), .val (.ref b4), .val (.int (0 : Int32)), .val .null, .unset, .unset] [])) (fun _ k => XS.icmpYes X6.here hx rfl (pc0 := 136) (pc' := 163) rfl (hb hby at_136) rfl (by decide) (by decide) (by decide) k) ?_
            refine own_st (T' := T6) (g' := (mkF m 164 #[.val (.int i), .val (.int j), .val (.int kk), .val (.int sa), .val (.int sb), .val (.int ra), .val (.int ia), .val (.int rb), .val (.int ib), .val (.ref b1), .val (.ref b4), .val (.int (0 : Int32)), .val .null, .unset, .unset] [(.int (0 : Int32))])) (fun _ k => XS.iconst X6.here hx rfl (hb hby at_163) k) ?_
            refine own_st (T' := T6) (g' := (mkF m 166 #[.val (.int i), .val (.int j), .val (.int kk), .val (.int sa), .val (.int sb), .val (.int ra), .val (.int ia), .val (.int rb), .val (.int ib), .val (.ref b1), .val (.ref b4), .val (.int (0 : Int32)), .val .null, .val (.int (0 : Int32)), .unset] [])) (fun _ k => XS.istore X6.here hx rfl (hb hby at_164) rfl (l' := #[.val (.int i), .val (.int j), .val (.int kk), .val (.int sa), .val (.int sb), .val (.int ra), .val (.int ia), .val (.int rb), .val (.int ib), .val (.ref b1), .val (.ref b4), .val (.int (0 : Int32)), .val .null, .val (.int (0 : Int32)), .unset]) rfl k) ?_
            refine own_st (T' := T6) (g' := (mkF m 168 #[.val (.int i), .val (.int j), .val (.int kk), .val (.int sa), .val (.int sb), .val (.int ra), .val (.int ia), .val (.int rb), .val (.int ib), .val (.ref b1), .val (.ref b4), .val (.int (0 : Int32)), .val .null, .val (.int (0 : Int32)), .unset] [(.ref b1)])) (fun _ k => XS.aload X6.here hx rfl (hb hby at_166) rfl rfl k) ?_
            refine own_st (T' := T6) (g' := (mkF m 170 #[.val (.int i), .val (.int j), .val (.int kk), .val (.int sa), .val (.int sb), .val (.int ra), .val (.int ia), .val (.int rb), .val (.int ib), .val (.ref b1), .val (.ref b4), .val (.int (0 : Int32)), .val .null, .val (.int (0 : Int32)), .unset] [.null, (.ref b1)])) (fun _ k => XS.aload X6.here hx rfl (hb hby at_168) rfl rfl k) ?_
            obtain ⟨T7, X7, e7, st7⟩ := own_pure (w := (.int (0 : Int32))) rfl rfl (own_gV X6 hx hZ hown (hw _ (List.mem_of_getElem? (i := 38) rfl)) (hw _ (List.mem_of_getElem? (i := 39) rfl)) (notFace_of_selects (args := #[]) (mvT hZ (hw _ (List.mem_of_getElem? (i := 41) rfl)))) (hw _ (List.mem_of_getElem? (i := 41) rfl)) (hw _ (List.mem_of_getElem? (i := 40) rfl)) (hw _ (List.mem_of_getElem? (i := 2) rfl)) (hw _ (List.mem_of_getElem? (i := 42) rfl)) (by decide) rfl E_b1 (own_eq_null l Z a0 hw T6.heap b1) (by decide) (by decide) (by decide) (by decide) (Q := fun v h L => v = some (.int (0 : Int32)) ∧ L = [] ∧ h = T6.heap) (W := 0) (g := (mkF m 170 #[.val (.int i), .val (.int j), .val (.int kk), .val (.int sa), .val (.int sb), .val (.int ra), .val (.int ia), .val (.int rb), .val (.int ib), .val (.ref b1), .val (.ref b4), .val (.int (0 : Int32)), .val .null, .val (.int (0 : Int32)), .unset] [.null, (.ref b1)])) (argsL := [.null]) (rest := []) rfl (by rw [hml]; rfl) (lenOf own_pd_5 rfl) rfl (by show 2 * 0 + _ ≤ _; exact Nat.le_of_eq rfl) (hb hby at_170))
            refine own_st (T' := T7) (g' := (mkF m 173 #[.val (.int i), .val (.int j), .val (.int kk), .val (.int sa), .val (.int sb), .val (.int ra), .val (.int ia), .val (.int rb), .val (.int ib), .val (.ref b1), .val (.ref b4), .val (.int (0 : Int32)), .val .null, .val (.int (0 : Int32)), .unset] [(.int (0 : Int32))])) st7 ?_
            refine own_st (T' := T7) (g' := (mkF m 175 #[.val (.int i), .val (.int j), .val (.int kk), .val (.int sa), .val (.int sb), .val (.int ra), .val (.int ia), .val (.int rb), .val (.int ib), .val (.ref b1), .val (.ref b4), .val (.int (0 : Int32)), .val .null, .val (.int (0 : Int32)), .val (.int (0 : Int32))] [])) (fun _ k => XS.istore X7.here hx rfl (hb hby at_173) rfl (l' := #[.val (.int i), .val (.int j), .val (.int kk), .val (.int sa), .val (.int sb), .val (.int ra), .val (.int ia), .val (.int rb), .val (.int ib), .val (.ref b1), .val (.ref b4), .val (.int (0 : Int32)), .val .null, .val (.int (0 : Int32)), .val (.int (0 : Int32))]) rfl k) ?_
            refine own_st (T' := T7) (g' := (mkF m 177 #[.val (.int i), .val (.int j), .val (.int kk), .val (.int sa), .val (.int sb), .val (.int ra), .val (.int ia), .val (.int rb), .val (.int ib), .val (.ref b1), .val (.ref b4), .val (.int (0 : Int32)), .val .null, .val (.int (0 : Int32)), .val (.int (0 : Int32))] [(.int (0 : Int32))])) (fun _ k => XS.iload X7.here hx rfl (hb hby at_175) rfl k) ?_
            refine own_st (T' := T7) (g' := (mkF m 179 #[.val (.int i), .val (.int j), .val (.int kk), .val (.int sa), .val (.int sb), .val (.int ra), .val (.int ia), .val (.int rb), .val (.int ib), .val (.ref b1), .val (.ref b4), .val (.int (0 : Int32)), .val .null, .val (.int (0 : Int32)), .val (.int (0 : Int32))] [(.int (0 : Int32)), (.int (0 : Int32))])) (fun _ k => XS.iload X7.here hx rfl (hb hby at_177) rfl k) ?_
            refine own_st (T' := T7) (g' := (mkF m 184 #[.val (.int i), .val (.int j), .val (.int kk), .val (.int sa), .val (.int sb), .val (.int ra), .val (.int ia), .val (.int rb), .val (.int ib), .val (.ref b1), .val (.ref b4), .val (.int (0 : Int32)), .val .null, .val (.int (0 : Int32)), .val (.int (0 : Int32))] [])) (fun _ k => XS.icmpYes X7.here hx rfl (pc0 := 179) (pc' := 184) rfl (hb hby at_179) rfl (by decide) (by decide) (by decide) k) ?_
            refine own_st (T' := T7) (g' := (mkF m 186 #[.val (.int i), .val (.int j), .val (.int kk), .val (.int sa), .val (.int sb), .val (.int ra), .val (.int ia), .val (.int rb), .val (.int ib), .val (.ref b1), .val (.ref b4), .val (.int (0 : Int32)), .val .null, .val (.int (0 : Int32)), .val (.int (0 : Int32))] [(.ref b1)])) (fun _ k => XS.aload X7.here hx rfl (hb hby at_184) rfl rfl k) ?_
            refine own_st (T' := T7) (g' := (mkF m 188 #[.val (.int i), .val (.int j), .val (.int kk), .val (.int sa), .val (.int sb), .val (.int ra), .val (.int ia), .val (.int rb), .val (.int ib), .val (.ref b1), .val (.ref b4), .val (.int (0 : Int32)), .val .null, .val (.int (0 : Int32)), .val (.int (0 : Int32))] [(.ref b1), (.ref b1)])) (fun _ k => XS.aload X7.here hx rfl (hb hby at_186) rfl rfl k) ?_
            obtain ⟨T8, X8, e8, st8⟩ := own_pure (w := (.int (1 : Int32))) rfl rfl (own_gV X7 hx hZ hown (hw _ (List.mem_of_getElem? (i := 38) rfl)) (hw _ (List.mem_of_getElem? (i := 39) rfl)) (notFace_of_selects (args := #[]) (mvT hZ (hw _ (List.mem_of_getElem? (i := 41) rfl)))) (hw _ (List.mem_of_getElem? (i := 41) rfl)) (hw _ (List.mem_of_getElem? (i := 40) rfl)) (hw _ (List.mem_of_getElem? (i := 2) rfl)) (hw _ (List.mem_of_getElem? (i := 42) rfl)) (by decide) e7 E_b1 (own_eq_self l Z a0 hw T6.heap b1 s1 ra ia E_b1 F_source_b1 F_rollback_b1 F_inherited_b1) (by decide) (by decide) (by decide) (by decide) (Q := fun v h L => v = some (.int (1 : Int32)) ∧ L = [] ∧ h = T6.heap) (W := 0) (g := (mkF m 188 #[.val (.int i), .val (.int j), .val (.int kk), .val (.int sa), .val (.int sb), .val (.int ra), .val (.int ia), .val (.int rb), .val (.int ib), .val (.ref b1), .val (.ref b4), .val (.int (0 : Int32)), .val .null, .val (.int (0 : Int32)), .val (.int (0 : Int32))] [(.ref b1), (.ref b1)])) (argsL := [(.ref b1)]) (rest := []) rfl (by rw [hml]; rfl) (lenOf own_pd_5 rfl) rfl (by show 2 * 0 + _ ≤ _; exact Nat.le_of_eq rfl) (hb hby at_188))
            refine own_st (T' := T8) (g' := (mkF m 191 #[.val (.int i), .val (.int j), .val (.int kk), .val (.int sa), .val (.int sb), .val (.int ra), .val (.int ia), .val (.int rb), .val (.int ib), .val (.ref b1), .val (.ref b4), .val (.int (0 : Int32)), .val .null, .val (.int (0 : Int32)), .val (.int (0 : Int32))] [(.int (1 : Int32))])) st8 ?_
            refine own_st (T' := T8) (g' := (mkF m 196 #[.val (.int i), .val (.int j), .val (.int kk), .val (.int sa), .val (.int sb), .val (.int ra), .val (.int ia), .val (.int rb), .val (.int ib), .val (.ref b1), .val (.ref b4), .val (.int (0 : Int32)), .val .null, .val (.int (0 : Int32)), .val (.int (0 : Int32))] [])) (fun _ k => XS.ifYes X8.here hx rfl (pc0 := 191) (pc' := 196) rfl (hb hby at_191) rfl (by decide) (by decide) (by decide) k) ?_
            refine own_st (T' := T8) (g' := (mkF m 198 #[.val (.int i), .val (.int j), .val (.int kk), .val (.int sa), .val (.int sb), .val (.int ra), .val (.int ia), .val (.int rb), .val (.int ib), .val (.ref b1), .val (.ref b4), .val (.int (0 : Int32)), .val .null, .val (.int (0 : Int32)), .val (.int (0 : Int32))] [(.int (0 : Int32))])) (fun _ k => XS.iload X8.here hx rfl (hb hby at_196) rfl k) ?_
            refine own_st (T' := T8) (g' := (mkF m 199 #[.val (.int i), .val (.int j), .val (.int kk), .val (.int sa), .val (.int sb), .val (.int ra), .val (.int ia), .val (.int rb), .val (.int ib), .val (.ref b1), .val (.ref b4), .val (.int (0 : Int32)), .val .null, .val (.int (0 : Int32)), .val (.int (0 : Int32))] [(.int (2 : Int32)), (.int (0 : Int32))])) (fun _ k => XS.iconst X8.here hx rfl (hb hby at_198) k) ?_
            refine own_st (T' := T8) (g' := (mkF m 216 #[.val (.int i), .val (.int j), .val (.int kk), .val (.int sa), .val (.int sb), .val (.int ra), .val (.int ia), .val (.int rb), .val (.int ib), .val (.ref b1), .val (.ref b4), .val (.int (0 : Int32)), .val .null, .val (.int (0 : Int32)), .val (.int (0 : Int32))] [])) (fun _ k => XS.icmpYes X8.here hx rfl (pc0 := 199) (pc' := 216) rfl (hb hby at_199) rfl (by decide) (by decide) (by decide) k) ?_
            refine own_st (T' := T8) (g' := (mkF m 217 #[.val (.int i), .val (.int j), .val (.int kk), .val (.int sa), .val (.int sb), .val (.int ra), .val (.int ia), .val (.int rb), .val (.int ib), .val (.ref b1), .val (.ref b4), .val (.int (0 : Int32)), .val .null, .val (.int (0 : Int32)), .val (.int (0 : Int32))] [(.int (1 : Int32))])) (fun _ k => XS.iconst X8.here hx rfl (hb hby at_216) k) ?_
            exact own_retW X8 hx hlk hS (by rw [e8]; exact hk) hret rfl (Or.inl ⟨rfl, Or.inr (Or.inl rfl), _, rfl⟩) (hb hby at_217) (by decide) (by decide) ⟨rfl, Nf⟩
          ·
            rw [hE9]
            refine own_st (T' := T6) (g' := (mkF m 103 #[.val (.int i), .val (.int j), .val (.int kk), .val (.int sa), .val (.int sb), .val (.int ra), .val (.int ia), .val (.int rb), .val (.int ib), .val (.ref b1), .val (.ref b4), .val (.int (1 : Int32)), .unset, .unset, .unset] [])) (fun _ k => XS.istore X6.here hx rfl (hb hby at_101) rfl (l' := #[.val (.int i), .val (.int j), .val (.int kk), .val (.int sa), .val (.int sb), .val (.int ra), .val (.int ia), .val (.int rb), .val (.int ib), .val (.ref b1), .val (.ref b4), .val (.int (1 : Int32)), .unset, .unset, .unset]) rfl k) ?_
            refine own_st (T' := T6) (g' := (mkF m 105 #[.val (.int i), .val (.int j), .val (.int kk), .val (.int sa), .val (.int sb), .val (.int ra), .val (.int ia), .val (.int rb), .val (.int ib), .val (.ref b1), .val (.ref b4), .val (.int (1 : Int32)), .unset, .unset, .unset] [(.int (1 : Int32))])) (fun _ k => XS.iload X6.here hx rfl (hb hby at_103) rfl k) ?_
            refine own_st (T' := T6) (g' := (mkF m 114 #[.val (.int i), .val (.int j), .val (.int kk), .val (.int sa), .val (.int sb), .val (.int ra), .val (.int ia), .val (.int rb), .val (.int ib), .val (.ref b1), .val (.ref b4), .val (.int (1 : Int32)), .unset, .unset, .unset] [])) (fun _ k => XS.ifYes X6.here hx rfl (pc0 := 105) (pc' := 114) rfl (hb hby at_105) rfl (by decide) (by decide) (by decide) k) ?_
            refine own_st (T' := T6) (g' := (mkF m 116 #[.val (.int i), .val (.int j), .val (.int kk), .val (.int sa), .val (.int sb), .val (.int ra), .val (.int ia), .val (.int rb), .val (.int ib), .val (.ref b1), .val (.ref b4), .val (.int (1 : Int32)), .unset, .unset, .unset] [(.int (1 : Int32))])) (fun _ k => XS.iload X6.here hx rfl (hb hby at_114) rfl k) ?_
            refine own_st (T' := T6) (g' := (mkF m 117 #[.val (.int i), .val (.int j), .val (.int kk), .val (.int sa), .val (.int sb), .val (.int ra), .val (.int ia), .val (.int rb), .val (.int ib), .val (.ref b1), .val (.ref b4), .val (.int (1 : Int32)), .unset, .unset, .unset] [(.int (1 : Int32)), (.int (1 : Int32))])) (fun _ k => XS.iconst X6.here hx rfl (hb hby at_116) k) ?_
            refine own_st (T' := T6) (g' := (mkF m 120 #[.val (.int i), .val (.int j), .val (.int kk), .val (.int sa), .val (.int sb), .val (.int ra), .val (.int ia), .val (.int rb), .val (.int ib), .val (.ref b1), .val (.ref b4), .val (.int (1 : Int32)), .unset, .unset, .unset] [])) (fun _ k => XS.icmpNo X6.here hx rfl (hb hby at_117) rfl (by decide) k) ?_
            refine own_st (T' := T6) (g' := (mkF m 121 #[.val (.int i), .val (.int j), .val (.int kk), .val (.int sa), .val (.int sb), .val (.int ra), .val (.int ia), .val (.int rb), .val (.int ib), .val (.ref b1), .val (.ref b4), .val (.int (1 : Int32)), .unset, .unset, .unset] [(.int i)])) (fun _ k => XS.iloadN X6.here hx rfl (hb hby at_120) rfl k) ?_
            obtain ⟨v9, T9, L9, X9, hQ9, st9⟩ := own_gS X6  hx hZ hown (hw _ (List.mem_of_getElem? (i := 49) rfl)) (hw _ (List.mem_of_getElem? (i := 50) rfl)) (hw _ (List.mem_of_getElem? (i := 51) rfl)) (hw _ (List.mem_of_getElem? (i := 52) rfl)) (by decide) rfl (own_vo l Z a0 hw T6.heap a_ANNOTATION a_CLASS_RULE a_DESCRIPTOR a_METHOD_RULE a_cache cl_cache hE i) (by decide) (by decide) (by decide) (by decide) (Q := (fun v h L => ∃ b, v = some (.ref b) ∧ Fr T6.heap.size L ∧ Ext T6.heap h ∧ Exa Z h b "java/lang/Integer")) (W := 0) (g := (mkF m 121 #[.val (.int i), .val (.int j), .val (.int kk), .val (.int sa), .val (.int sb), .val (.int ra), .val (.int ia), .val (.int rb), .val (.int ib), .val (.ref b1), .val (.ref b4), .val (.int (1 : Int32)), .unset, .unset, .unset] [(.int i)])) (argsL := [(.int i)]) (rest := []) rfl (by rw [hml]; rfl) (lenOf own_pd_6 rfl) rfl (by show 2 * 0 + _ ≤ _; exact Nat.le_of_eq rfl) (hb hby at_121)
            obtain ⟨b9, rfl, NL9, EX9, EE9⟩ := hQ9
            have Nf := Fr.app Nf (own_fr_mono E0.1 NL9)
            have hk := Nat.le_trans hk EX9.1
            have E_b1 := E_b1.ext EX9
            have F_source_b1 := F_source_b1.ext EX9
            have F_rollback_b1 := F_rollback_b1.ext EX9
            have F_inherited_b1 := F_inherited_b1.ext EX9
            have E_s1 := E_s1.ext EX9
            have E_b4 := E_b4.ext EX9
            have F_source_b4 := F_source_b4.ext EX9
            have F_rollback_b4 := F_rollback_b4.ext EX9
            have F_inherited_b4 := F_inherited_b4.ext EX9
            have E_s2 := E_s2.ext EX9
            have E0 := own_ext_tr E0 EX9
            have hE := own_E_ext hE0 E0
            have E_b9 := EE9
            refine own_st (T' := T9) (g' := (mkF m 124 #[.val (.int i), .val (.int j), .val (.int kk), .val (.int sa), .val (.int sb), .val (.int ra), .val (.int ia), .val (.int rb), .val (.int ib), .val (.ref b1), .val (.ref b4), .val (.int (1 : Int32)), .unset, .unset, .unset] [(.ref b9)])) st9 ?_
            refine own_st (T' := T9) (g' := (mkF m 126 #[.val (.int i), .val (.int j), .val (.int kk), .val (.int sa), .val (.int sb), .val (.int ra), .val (.int ia), .val (.int rb), .val (.int ib), .val (.ref b1), .val (.ref b4), .val (.int (1 : Int32)), .val (.ref b9), .unset, .unset] [])) (fun _ k => XS.astore X9.here hx rfl (hb hby at_124) rfl rfl (l' := #[.val (.int i), .val (.int j), .val (.int kk), .val (.int sa), .val (.int sb), .val (.int ra), .val (.int ia), .val (.int rb), .val (.int ib), .val (.ref b1), .val (.ref b4), .val (.int (1 : Int32)), .val (.ref b9), .unset, .unset]) rfl k) ?_
            refine own_st (T' := T9) (g' := (mkF m 133 #[.val (.int i), .val (.int j), .val (.int kk), .val (.int sa), .val (.int sb), .val (.int ra), .val (.int ia), .val (.int rb), .val (.int ib), .val (.ref b1), .val (.ref b4), .val (.int (1 : Int32)), .val (.ref b9), .unset, .unset] [])) (fun _ k => XS.goto X9.here hx rfl (pc0 := 126) (pc' := 133) rfl (hb hby at_126) (by decide) (by decide) k) ?_
            refine own_st (T' := T9) (g' := (mkF m 135 #[.val (.int i), .val (.int j), .val (.int kk), .val (.int sa), .val (.int sb), .val (.int ra), .val (.int ia), .val (.int rb), .val (.int ib), .val (.ref b1), .val (.ref b4), .val (.int (1 : Int32)), .val (.ref b9), .unset, .unset] [(.int (1 : Int32))])) (fun _ k => XS.iload X9.here hx rfl (hb hby at_133) rfl k) ?_
            refine own_st (T' := T9) (g' := (mkF m 136 #[.val (.int i), .val (.int j), .val (.int kk), .val (.int sa), .val (.int sb), .val (.int ra), .val (.int ia), .val (.int rb), .val (.int ib), .val (.ref b1), .val (.ref b4), .val (.int (1 : Int32)), .val (.ref b9), .unset, .unset] [(.int (2 : Int32)), (.int (1 : Int32))])) (fun _ k => XS.iconst X9.here hx rfl (hb hby at_135) k) ?_
            refine own_st (T' := T9) (g' := (mkF m 163 #[.val (.int i), .val (.int j), .val (.int kk), .val (.int sa), .val (.int sb), .val (.int ra), .val (.int ia), .val (.int rb), .val (.int ib), .val (.ref b1), .val (.ref b4), .val (.int (1 : Int32)), .val (.ref b9), .unset, .unset] [])) (fun _ k => XS.icmpYes X9.here hx rfl (pc0 := 136) (pc' := 163) rfl (hb hby at_136) rfl (by decide) (by decide) (by decide) k) ?_
            refine own_st (T' := T9) (g' := (mkF m 164 #[.val (.int i), .val (.int j), .val (.int kk), .val (.int sa), .val (.int sb), .val (.int ra), .val (.int ia), .val (.int rb), .val (.int ib), .val (.ref b1), .val (.ref b4), .val (.int (1 : Int32)), .val (.ref b9), .unset, .unset] [(.int (0 : Int32))])) (fun _ k => XS.iconst X9.here hx rfl (hb hby at_163) k) ?_
            refine own_st (T' := T9) (g' := (mkF m 166 #[.val (.int i), .val (.int j), .val (.int kk), .val (.int sa), .val (.int sb), .val (.int ra), .val (.int ia), .val (.int rb), .val (.int ib), .val (.ref b1), .val (.ref b4), .val (.int (1 : Int32)), .val (.ref b9), .val (.int (0 : Int32)), .unset] [])) (fun _ k => XS.istore X9.here hx rfl (hb hby at_164) rfl (l' := #[.val (.int i), .val (.int j), .val (.int kk), .val (.int sa), .val (.int sb), .val (.int ra), .val (.int ia), .val (.int rb), .val (.int ib), .val (.ref b1), .val (.ref b4), .val (.int (1 : Int32)), .val (.ref b9), .val (.int (0 : Int32)), .unset]) rfl k) ?_
            refine own_st (T' := T9) (g' := (mkF m 168 #[.val (.int i), .val (.int j), .val (.int kk), .val (.int sa), .val (.int sb), .val (.int ra), .val (.int ia), .val (.int rb), .val (.int ib), .val (.ref b1), .val (.ref b4), .val (.int (1 : Int32)), .val (.ref b9), .val (.int (0 : Int32)), .unset] [(.ref b1)])) (fun _ k => XS.aload X9.here hx rfl (hb hby at_166) rfl rfl k) ?_
            refine own_st (T' := T9) (g' := (mkF m 170 #[.val (.int i), .val (.int j), .val (.int kk), .val (.int sa), .val (.int sb), .val (.int ra), .val (.int ia), .val (.int rb), .val (.int ib), .val (.ref b1), .val (.ref b4), .val (.int (1 : Int32)), .val (.ref b9), .val (.int (0 : Int32)), .unset] [(.ref b9), (.ref b1)])) (fun _ k => XS.aload X9.here hx rfl (hb hby at_168) rfl rfl k) ?_
            obtain ⟨T10, X10, e10, st10⟩ := own_pure (w := (.int (0 : Int32))) rfl rfl (own_gV X9 hx hZ hown (hw _ (List.mem_of_getElem? (i := 38) rfl)) (hw _ (List.mem_of_getElem? (i := 39) rfl)) (notFace_of_selects (args := #[]) (mvT hZ (hw _ (List.mem_of_getElem? (i := 41) rfl)))) (hw _ (List.mem_of_getElem? (i := 41) rfl)) (hw _ (List.mem_of_getElem? (i := 40) rfl)) (hw _ (List.mem_of_getElem? (i := 2) rfl)) (hw _ (List.mem_of_getElem? (i := 42) rfl)) (by decide) rfl E_b1 (own_eq_int l Z a0 hw T9.heap b1 b9 E_b9) (by decide) (by decide) (by decide) (by decide) (Q := fun v h L => v = some (.int (0 : Int32)) ∧ L = [] ∧ h = T9.heap) (W := 0) (g := (mkF m 170 #[.val (.int i), .val (.int j), .val (.int kk), .val (.int sa), .val (.int sb), .val (.int ra), .val (.int ia), .val (.int rb), .val (.int ib), .val (.ref b1), .val (.ref b4), .val (.int (1 : Int32)), .val (.ref b9), .val (.int (0 : Int32)), .unset] [(.ref b9), (.ref b1)])) (argsL := [(.ref b9)]) (rest := []) rfl (by rw [hml]; rfl) (lenOf own_pd_5 rfl) rfl (by show 2 * 0 + _ ≤ _; exact Nat.le_of_eq rfl) (hb hby at_170))
            refine own_st (T' := T10) (g' := (mkF m 173 #[.val (.int i), .val (.int j), .val (.int kk), .val (.int sa), .val (.int sb), .val (.int ra), .val (.int ia), .val (.int rb), .val (.int ib), .val (.ref b1), .val (.ref b4), .val (.int (1 : Int32)), .val (.ref b9), .val (.int (0 : Int32)), .unset] [(.int (0 : Int32))])) st10 ?_
            refine own_st (T' := T10) (g' := (mkF m 175 #[.val (.int i), .val (.int j), .val (.int kk), .val (.int sa), .val (.int sb), .val (.int ra), .val (.int ia), .val (.int rb), .val (.int ib), .val (.ref b1), .val (.ref b4), .val (.int (1 : Int32)), .val (.ref b9), .val (.int (0 : Int32)), .val (.int (0 : Int32))] [])) (fun _ k => XS.istore X10.here hx rfl (hb hby at_173) rfl (l' := #[.val (.int i), .val (.int j), .val (.int kk), .val (.int sa), .val (.int sb), .val (.int ra), .val (.int ia), .val (.int rb), .val (.int ib), .val (.ref b1), .val (.ref b4), .val (.int (1 : Int32)), .val (.ref b9), .val (.int (0 : Int32)), .val (.int (0 : Int32))]) rfl k) ?_
            refine own_st (T' := T10) (g' := (mkF m 177 #[.val (.int i), .val (.int j), .val (.int kk), .val (.int sa), .val (.int sb), .val (.int ra), .val (.int ia), .val (.int rb), .val (.int ib), .val (.ref b1), .val (.ref b4), .val (.int (1 : Int32)), .val (.ref b9), .val (.int (0 : Int32)), .val (.int (0 : Int32))] [(.int (0 : Int32))])) (fun _ k => XS.iload X10.here hx rfl (hb hby at_175) rfl k) ?_
            refine own_st (T' := T10) (g' := (mkF m 179 #[.val (.int i), .val (.int j), .val (.int kk), .val (.int sa), .val (.int sb), .val (.int ra), .val (.int ia), .val (.int rb), .val (.int ib), .val (.ref b1), .val (.ref b4), .val (.int (1 : Int32)), .val (.ref b9), .val (.int (0 : Int32)), .val (.int (0 : Int32))] [(.int (0 : Int32)), (.int (0 : Int32))])) (fun _ k => XS.iload X10.here hx rfl (hb hby at_177) rfl k) ?_
            refine own_st (T' := T10) (g' := (mkF m 184 #[.val (.int i), .val (.int j), .val (.int kk), .val (.int sa), .val (.int sb), .val (.int ra), .val (.int ia), .val (.int rb), .val (.int ib), .val (.ref b1), .val (.ref b4), .val (.int (1 : Int32)), .val (.ref b9), .val (.int (0 : Int32)), .val (.int (0 : Int32))] [])) (fun _ k => XS.icmpYes X10.here hx rfl (pc0 := 179) (pc' := 184) rfl (hb hby at_179) rfl (by decide) (by decide) (by decide) k) ?_
            refine own_st (T' := T10) (g' := (mkF m 186 #[.val (.int i), .val (.int j), .val (.int kk), .val (.int sa), .val (.int sb), .val (.int ra), .val (.int ia), .val (.int rb), .val (.int ib), .val (.ref b1), .val (.ref b4), .val (.int (1 : Int32)), .val (.ref b9), .val (.int (0 : Int32)), .val (.int (0 : Int32))] [(.ref b1)])) (fun _ k => XS.aload X10.here hx rfl (hb hby at_184) rfl rfl k) ?_
            refine own_st (T' := T10) (g' := (mkF m 188 #[.val (.int i), .val (.int j), .val (.int kk), .val (.int sa), .val (.int sb), .val (.int ra), .val (.int ia), .val (.int rb), .val (.int ib), .val (.ref b1), .val (.ref b4), .val (.int (1 : Int32)), .val (.ref b9), .val (.int (0 : Int32)), .val (.int (0 : Int32))] [(.ref b1), (.ref b1)])) (fun _ k => XS.aload X10.here hx rfl (hb hby at_186) rfl rfl k) ?_
            obtain ⟨T11, X11, e11, st11⟩ := own_pure (w := (.int (1 : Int32))) rfl rfl (own_gV X10 hx hZ hown (hw _ (List.mem_of_getElem? (i := 38) rfl)) (hw _ (List.mem_of_getElem? (i := 39) rfl)) (notFace_of_selects (args := #[]) (mvT hZ (hw _ (List.mem_of_getElem? (i := 41) rfl)))) (hw _ (List.mem_of_getElem? (i := 41) rfl)) (hw _ (List.mem_of_getElem? (i := 40) rfl)) (hw _ (List.mem_of_getElem? (i := 2) rfl)) (hw _ (List.mem_of_getElem? (i := 42) rfl)) (by decide) e10 E_b1 (own_eq_self l Z a0 hw T9.heap b1 s1 ra ia E_b1 F_source_b1 F_rollback_b1 F_inherited_b1) (by decide) (by decide) (by decide) (by decide) (Q := fun v h L => v = some (.int (1 : Int32)) ∧ L = [] ∧ h = T9.heap) (W := 0) (g := (mkF m 188 #[.val (.int i), .val (.int j), .val (.int kk), .val (.int sa), .val (.int sb), .val (.int ra), .val (.int ia), .val (.int rb), .val (.int ib), .val (.ref b1), .val (.ref b4), .val (.int (1 : Int32)), .val (.ref b9), .val (.int (0 : Int32)), .val (.int (0 : Int32))] [(.ref b1), (.ref b1)])) (argsL := [(.ref b1)]) (rest := []) rfl (by rw [hml]; rfl) (lenOf own_pd_5 rfl) rfl (by show 2 * 0 + _ ≤ _; exact Nat.le_of_eq rfl) (hb hby at_188))
            refine own_st (T' := T11) (g' := (mkF m 191 #[.val (.int i), .val (.int j), .val (.int kk), .val (.int sa), .val (.int sb), .val (.int ra), .val (.int ia), .val (.int rb), .val (.int ib), .val (.ref b1), .val (.ref b4), .val (.int (1 : Int32)), .val (.ref b9), .val (.int (0 : Int32)), .val (.int (0 : Int32))] [(.int (1 : Int32))])) st11 ?_
            refine own_st (T' := T11) (g' := (mkF m 196 #[.val (.int i), .val (.int j), .val (.int kk), .val (.int sa), .val (.int sb), .val (.int ra), .val (.int ia), .val (.int rb), .val (.int ib), .val (.ref b1), .val (.ref b4), .val (.int (1 : Int32)), .val (.ref b9), .val (.int (0 : Int32)), .val (.int (0 : Int32))] [])) (fun _ k => XS.ifYes X11.here hx rfl (pc0 := 191) (pc' := 196) rfl (hb hby at_191) rfl (by decide) (by decide) (by decide) k) ?_
            refine own_st (T' := T11) (g' := (mkF m 198 #[.val (.int i), .val (.int j), .val (.int kk), .val (.int sa), .val (.int sb), .val (.int ra), .val (.int ia), .val (.int rb), .val (.int ib), .val (.ref b1), .val (.ref b4), .val (.int (1 : Int32)), .val (.ref b9), .val (.int (0 : Int32)), .val (.int (0 : Int32))] [(.int (1 : Int32))])) (fun _ k => XS.iload X11.here hx rfl (hb hby at_196) rfl k) ?_
            refine own_st (T' := T11) (g' := (mkF m 199 #[.val (.int i), .val (.int j), .val (.int kk), .val (.int sa), .val (.int sb), .val (.int ra), .val (.int ia), .val (.int rb), .val (.int ib), .val (.ref b1), .val (.ref b4), .val (.int (1 : Int32)), .val (.ref b9), .val (.int (0 : Int32)), .val (.int (0 : Int32))] [(.int (2 : Int32)), (.int (1 : Int32))])) (fun _ k => XS.iconst X11.here hx rfl (hb hby at_198) k) ?_
            refine own_st (T' := T11) (g' := (mkF m 216 #[.val (.int i), .val (.int j), .val (.int kk), .val (.int sa), .val (.int sb), .val (.int ra), .val (.int ia), .val (.int rb), .val (.int ib), .val (.ref b1), .val (.ref b4), .val (.int (1 : Int32)), .val (.ref b9), .val (.int (0 : Int32)), .val (.int (0 : Int32))] [])) (fun _ k => XS.icmpYes X11.here hx rfl (pc0 := 199) (pc' := 216) rfl (hb hby at_199) rfl (by decide) (by decide) (by decide) k) ?_
            refine own_st (T' := T11) (g' := (mkF m 217 #[.val (.int i), .val (.int j), .val (.int kk), .val (.int sa), .val (.int sb), .val (.int ra), .val (.int ia), .val (.int rb), .val (.int ib), .val (.ref b1), .val (.ref b4), .val (.int (1 : Int32)), .val (.ref b9), .val (.int (0 : Int32)), .val (.int (0 : Int32))] [(.int (1 : Int32))])) (fun _ k => XS.iconst X11.here hx rfl (hb hby at_216) k) ?_
            exact own_retW X11 hx hlk hS (by rw [e11]; exact hk) hret rfl (Or.inl ⟨rfl, Or.inr (Or.inl rfl), _, rfl⟩) (hb hby at_217) (by decide) (by decide) ⟨rfl, Nf⟩
          ·
            rw [hE9]
            refine own_st (T' := T6) (g' := (mkF m 103 #[.val (.int i), .val (.int j), .val (.int kk), .val (.int sa), .val (.int sb), .val (.int ra), .val (.int ia), .val (.int rb), .val (.int ib), .val (.ref b1), .val (.ref b4), .val (.int (2 : Int32)), .unset, .unset, .unset] [])) (fun _ k => XS.istore X6.here hx rfl (hb hby at_101) rfl (l' := #[.val (.int i), .val (.int j), .val (.int kk), .val (.int sa), .val (.int sb), .val (.int ra), .val (.int ia), .val (.int rb), .val (.int ib), .val (.ref b1), .val (.ref b4), .val (.int (2 : Int32)), .unset, .unset, .unset]) rfl k) ?_
            refine own_st (T' := T6) (g' := (mkF m 105 #[.val (.int i), .val (.int j), .val (.int kk), .val (.int sa), .val (.int sb), .val (.int ra), .val (.int ia), .val (.int rb), .val (.int ib), .val (.ref b1), .val (.ref b4), .val (.int (2 : Int32)), .unset, .unset, .unset] [(.int (2 : Int32))])) (fun _ k => XS.iload X6.here hx rfl (hb hby at_103) rfl k) ?_
            refine own_st (T' := T6) (g' := (mkF m 114 #[.val (.int i), .val (.int j), .val (.int kk), .val (.int sa), .val (.int sb), .val (.int ra), .val (.int ia), .val (.int rb), .val (.int ib), .val (.ref b1), .val (.ref b4), .val (.int (2 : Int32)), .unset, .unset, .unset] [])) (fun _ k => XS.ifYes X6.here hx rfl (pc0 := 105) (pc' := 114) rfl (hb hby at_105) rfl (by decide) (by decide) (by decide) k) ?_
            refine own_st (T' := T6) (g' := (mkF m 116 #[.val (.int i), .val (.int j), .val (.int kk), .val (.int sa), .val (.int sb), .val (.int ra), .val (.int ia), .val (.int rb), .val (.int ib), .val (.ref b1), .val (.ref b4), .val (.int (2 : Int32)), .unset, .unset, .unset] [(.int (2 : Int32))])) (fun _ k => XS.iload X6.here hx rfl (hb hby at_114) rfl k) ?_
            refine own_st (T' := T6) (g' := (mkF m 117 #[.val (.int i), .val (.int j), .val (.int kk), .val (.int sa), .val (.int sb), .val (.int ra), .val (.int ia), .val (.int rb), .val (.int ib), .val (.ref b1), .val (.ref b4), .val (.int (2 : Int32)), .unset, .unset, .unset] [(.int (1 : Int32)), (.int (2 : Int32))])) (fun _ k => XS.iconst X6.here hx rfl (hb hby at_116) k) ?_
            refine own_st (T' := T6) (g' := (mkF m 129 #[.val (.int i), .val (.int j), .val (.int kk), .val (.int sa), .val (.int sb), .val (.int ra), .val (.int ia), .val (.int rb), .val (.int ib), .val (.ref b1), .val (.ref b4), .val (.int (2 : Int32)), .unset, .unset, .unset] [])) (fun _ k => XS.icmpYes X6.here hx rfl (pc0 := 117) (pc' := 129) rfl (hb hby at_117) rfl (by decide) (by decide) (by decide) k) ?_
            refine own_st (T' := T6) (g' := (mkF m 131 #[.val (.int i), .val (.int j), .val (.int kk), .val (.int sa), .val (.int sb), .val (.int ra), .val (.int ia), .val (.int rb), .val (.int ib), .val (.ref b1), .val (.ref b4), .val (.int (2 : Int32)), .unset, .unset, .unset] [(.ref b4)])) (fun _ k => XS.aload X6.here hx rfl (hb hby at_129) rfl rfl k) ?_
            refine own_st (T' := T6) (g' := (mkF m 133 #[.val (.int i), .val (.int j), .val (.int kk), .val (.int sa), .val (.int sb), .val (.int ra), .val (.int ia), .val (.int rb), .val (.int ib), .val (.ref b1), .val (.ref b4), .val (.int (2 : Int32)), .val (.ref b4), .unset, .unset] [])) (fun _ k => XS.astore X6.here hx rfl (hb hby at_131) rfl rfl (l' := #[.val (.int i), .val (.int j), .val (.int kk), .val (.int sa), .val (.int sb), .val (.int ra), .val (.int ia), .val (.int rb), .val (.int ib), .val (.ref b1), .val (.ref b4), .val (.int (2 : Int32)), .val (.ref b4), .unset, .unset]) rfl k) ?_
            refine own_st (T' := T6) (g' := (mkF m 135 #[.val (.int i), .val (.int j), .val (.int kk), .val (.int sa), .val (.int sb), .val (.int ra), .val (.int ia), .val (.int rb), .val (.int ib), .val (.ref b1), .val (.ref b4), .val (.int (2 : Int32)), .val (.ref b4), .unset, .unset] [(.int (2 : Int32))])) (fun _ k => XS.iload X6.here hx rfl (hb hby at_133) rfl k) ?_
            refine own_st (T' := T6) (g' := (mkF m 136 #[.val (.int i), .val (.int j), .val (.int kk), .val (.int sa), .val (.int sb), .val (.int ra), .val (.int ia), .val (.int rb), .val (.int ib), .val (.ref b1), .val (.ref b4), .val (.int (2 : Int32)), .val (.ref b4), .unset, .unset] [(.int (2 : Int32)), (.int (2 : Int32))])) (fun _ k => XS.iconst X6.here hx rfl (hb hby at_135) k) ?_
            refine own_st (T' := T6) (g' := (mkF m 139 #[.val (.int i), .val (.int j), .val (.int kk), .val (.int sa), .val (.int sb), .val (.int ra), .val (.int ia), .val (.int rb), .val (.int ib), .val (.ref b1), .val (.ref b4), .val (.int (2 : Int32)), .val (.ref b4), .unset, .unset] [])) (fun _ k => XS.icmpNo X6.here hx rfl (hb hby at_136) rfl (by decide) k) ?_
            refine own_st (T' := T6) (g' := (mkF m 140 #[.val (.int i), .val (.int j), .val (.int kk), .val (.int sa), .val (.int sb), .val (.int ra), .val (.int ia), .val (.int rb), .val (.int ib), .val (.ref b1), .val (.ref b4), .val (.int (2 : Int32)), .val (.ref b4), .unset, .unset] [(.int sa)])) (fun _ k => XS.iloadN X6.here hx rfl (hb hby at_139) rfl k) ?_
            refine own_st (T' := T6) (g' := (mkF m 142 #[.val (.int i), .val (.int j), .val (.int kk), .val (.int sa), .val (.int sb), .val (.int ra), .val (.int ia), .val (.int rb), .val (.int ib), .val (.ref b1), .val (.ref b4), .val (.int (2 : Int32)), .val (.ref b4), .unset, .unset] [(.int sb), (.int sa)])) (fun _ k => XS.iload X6.here hx rfl (hb hby at_140) rfl k) ?_
            by_cases hc142_12 : sa = sb
            ·
              refine own_st (T' := T6) (g' := (mkF m 145 #[.val (.int i), .val (.int j), .val (.int kk), .val (.int sa), .val (.int sb), .val (.int ra), .val (.int ia), .val (.int rb), .val (.int ib), .val (.ref b1), .val (.ref b4), .val (.int (2 : Int32)), .val (.ref b4), .unset, .unset] [])) (fun _ k => XS.icmpNo X6.here hx rfl (hb hby at_142) rfl (teq hc142_12).2 k) ?_
              refine own_st (T' := T6) (g' := (mkF m 147 #[.val (.int i), .val (.int j), .val (.int kk), .val (.int sa), .val (.int sb), .val (.int ra), .val (.int ia), .val (.int rb), .val (.int ib), .val (.ref b1), .val (.ref b4), .val (.int (2 : Int32)), .val (.ref b4), .unset, .unset] [(.int ra)])) (fun _ k => XS.iload X6.here hx rfl (hb hby at_145) rfl k) ?_
              refine own_st (T' := T6) (g' := (mkF m 149 #[.val (.int i), .val (.int j), .val (.int kk), .val (.int sa), .val (.int sb), .val (.int ra), .val (.int ia), .val (.int rb), .val (.int ib), .val (.ref b1), .val (.ref b4), .val (.int (2 : Int32)), .val (.ref b4), .unset, .unset] [(.int rb), (.int ra)])) (fun _ k => XS.iload X6.here hx rfl (hb hby at_147) rfl k) ?_
              by_cases hc149_13 : ra = rb
              ·
                refine own_st (T' := T6) (g' := (mkF m 152 #[.val (.int i), .val (.int j), .val (.int kk), .val (.int sa), .val (.int sb), .val (.int ra), .val (.int ia), .val (.int rb), .val (.int ib), .val (.ref b1), .val (.ref b4), .val (.int (2 : Int32)), .val (.ref b4), .unset, .unset] [])) (fun _ k => XS.icmpNo X6.here hx rfl (hb hby at_149) rfl (teq hc149_13).2 k) ?_
                refine own_st (T' := T6) (g' := (mkF m 154 #[.val (.int i), .val (.int j), .val (.int kk), .val (.int sa), .val (.int sb), .val (.int ra), .val (.int ia), .val (.int rb), .val (.int ib), .val (.ref b1), .val (.ref b4), .val (.int (2 : Int32)), .val (.ref b4), .unset, .unset] [(.int ia)])) (fun _ k => XS.iload X6.here hx rfl (hb hby at_152) rfl k) ?_
                refine own_st (T' := T6) (g' := (mkF m 156 #[.val (.int i), .val (.int j), .val (.int kk), .val (.int sa), .val (.int sb), .val (.int ra), .val (.int ia), .val (.int rb), .val (.int ib), .val (.ref b1), .val (.ref b4), .val (.int (2 : Int32)), .val (.ref b4), .unset, .unset] [(.int ib), (.int ia)])) (fun _ k => XS.iload X6.here hx rfl (hb hby at_154) rfl k) ?_
                by_cases hc156_14 : ia = ib
                ·
                  refine own_st (T' := T6) (g' := (mkF m 159 #[.val (.int i), .val (.int j), .val (.int kk), .val (.int sa), .val (.int sb), .val (.int ra), .val (.int ia), .val (.int rb), .val (.int ib), .val (.ref b1), .val (.ref b4), .val (.int (2 : Int32)), .val (.ref b4), .unset, .unset] [])) (fun _ k => XS.icmpNo X6.here hx rfl (hb hby at_156) rfl (teq hc156_14).2 k) ?_
                  refine own_st (T' := T6) (g' := (mkF m 160 #[.val (.int i), .val (.int j), .val (.int kk), .val (.int sa), .val (.int sb), .val (.int ra), .val (.int ia), .val (.int rb), .val (.int ib), .val (.ref b1), .val (.ref b4), .val (.int (2 : Int32)), .val (.ref b4), .unset, .unset] [(.int (1 : Int32))])) (fun _ k => XS.iconst X6.here hx rfl (hb hby at_159) k) ?_
                  refine own_st (T' := T6) (g' := (mkF m 164 #[.val (.int i), .val (.int j), .val (.int kk), .val (.int sa), .val (.int sb), .val (.int ra), .val (.int ia), .val (.int rb), .val (.int ib), .val (.ref b1), .val (.ref b4), .val (.int (2 : Int32)), .val (.ref b4), .unset, .unset] [(.int (1 : Int32))])) (fun _ k => XS.goto X6.here hx rfl (pc0 := 160) (pc' := 164) rfl (hb hby at_160) (by decide) (by decide) k) ?_
                  refine own_st (T' := T6) (g' := (mkF m 166 #[.val (.int i), .val (.int j), .val (.int kk), .val (.int sa), .val (.int sb), .val (.int ra), .val (.int ia), .val (.int rb), .val (.int ib), .val (.ref b1), .val (.ref b4), .val (.int (2 : Int32)), .val (.ref b4), .val (.int (1 : Int32)), .unset] [])) (fun _ k => XS.istore X6.here hx rfl (hb hby at_164) rfl (l' := #[.val (.int i), .val (.int j), .val (.int kk), .val (.int sa), .val (.int sb), .val (.int ra), .val (.int ia), .val (.int rb), .val (.int ib), .val (.ref b1), .val (.ref b4), .val (.int (2 : Int32)), .val (.ref b4), .val (.int (1 : Int32)), .unset]) rfl k) ?_
                  refine own_st (T' := T6) (g' := (mkF m 168 #[.val (.int i), .val (.int j), .val (.int kk), .val (.int sa), .val (.int sb), .val (.int ra), .val (.int ia), .val (.int rb), .val (.int ib), .val (.ref b1), .val (.ref b4), .val (.int (2 : Int32)), .val (.ref b4), .val (.int (1 : Int32)), .unset] [(.ref b1)])) (fun _ k => XS.aload X6.here hx rfl (hb hby at_166) rfl rfl k) ?_
                  refine own_st (T' := T6) (g' := (mkF m 170 #[.val (.int i), .val (.int j), .val (.int kk), .val (.int sa), .val (.int sb), .val (.int ra), .val (.int ia), .val (.int rb), .val (.int ib), .val (.ref b1), .val (.ref b4), .val (.int (2 : Int32)), .val (.ref b4), .val (.int (1 : Int32)), .unset] [(.ref b4), (.ref b1)])) (fun _ k => XS.aload X6.here hx rfl (hb hby at_168) rfl rfl k) ?_
                  obtain ⟨T15, X15, e15, st15⟩ := own_pure (w := (.int (1 : Int32))) rfl rfl (own_gV X6 hx hZ hown (hw _ (List.mem_of_getElem? (i := 38) rfl)) (hw _ (List.mem_of_getElem? (i := 39) rfl)) (notFace_of_selects (args := #[]) (mvT hZ (hw _ (List.mem_of_getElem? (i := 41) rfl)))) (hw _ (List.mem_of_getElem? (i := 41) rfl)) (hw _ (List.mem_of_getElem? (i := 40) rfl)) (hw _ (List.mem_of_getElem? (i := 2) rfl)) (hw _ (List.mem_of_getElem? (i := 42) rfl)) (by decide) rfl E_b1 (own_eq_all l Z a0 hw T6.heap b1 b4 s1 s2 ra rb ia ib E_b4 F_source_b1 F_rollback_b1 F_inherited_b1 F_source_b4 F_rollback_b4 F_inherited_b4 (by rw [es1, es2, hc142_12]) hc149_13 hc156_14) (by decide) (by decide) (by decide) (by decide) (Q := fun v h L => v = some (.int (1 : Int32)) ∧ L = [] ∧ h = T6.heap) (W := 0) (g := (mkF m 170 #[.val (.int i), .val (.int j), .val (.int kk), .val (.int sa), .val (.int sb), .val (.int ra), .val (.int ia), .val (.int rb), .val (.int ib), .val (.ref b1), .val (.ref b4), .val (.int (2 : Int32)), .val (.ref b4), .val (.int (1 : Int32)), .unset] [(.ref b4), (.ref b1)])) (argsL := [(.ref b4)]) (rest := []) rfl (by rw [hml]; rfl) (lenOf own_pd_5 rfl) rfl (by show 2 * 0 + _ ≤ _; exact Nat.le_of_eq rfl) (hb hby at_170))
                  refine own_st (T' := T15) (g' := (mkF m 173 #[.val (.int i), .val (.int j), .val (.int kk), .val (.int sa), .val (.int sb), .val (.int ra), .val (.int ia), .val (.int rb), .val (.int ib), .val (.ref b1), .val (.ref b4), .val (.int (2 : Int32)), .val (.ref b4), .val (.int (1 : Int32)), .unset] [(.int (1 : Int32))])) st15 ?_
                  refine own_st (T' := T15) (g' := (mkF m 175 #[.val (.int i), .val (.int j), .val (.int kk), .val (.int sa), .val (.int sb), .val (.int ra), .val (.int ia), .val (.int rb), .val (.int ib), .val (.ref b1), .val (.ref b4), .val (.int (2 : Int32)), .val (.ref b4), .val (.int (1 : Int32)), .val (.int (1 : Int32))] [])) (fun _ k => XS.istore X15.here hx rfl (hb hby at_173) rfl (l' := #[.val (.int i), .val (.int j), .val (.int kk), .val (.int sa), .val (.int sb), .val (.int ra), .val (.int ia), .val (.int rb), .val (.int ib), .val (.ref b1), .val (.ref b4), .val (.int (2 : Int32)), .val (.ref b4), .val (.int (1 : Int32)), .val (.int (1 : Int32))]) rfl k) ?_
                  refine own_st (T' := T15) (g' := (mkF m 177 #[.val (.int i), .val (.int j), .val (.int kk), .val (.int sa), .val (.int sb), .val (.int ra), .val (.int ia), .val (.int rb), .val (.int ib), .val (.ref b1), .val (.ref b4), .val (.int (2 : Int32)), .val (.ref b4), .val (.int (1 : Int32)), .val (.int (1 : Int32))] [(.int (1 : Int32))])) (fun _ k => XS.iload X15.here hx rfl (hb hby at_175) rfl k) ?_
                  refine own_st (T' := T15) (g' := (mkF m 179 #[.val (.int i), .val (.int j), .val (.int kk), .val (.int sa), .val (.int sb), .val (.int ra), .val (.int ia), .val (.int rb), .val (.int ib), .val (.ref b1), .val (.ref b4), .val (.int (2 : Int32)), .val (.ref b4), .val (.int (1 : Int32)), .val (.int (1 : Int32))] [(.int (1 : Int32)), (.int (1 : Int32))])) (fun _ k => XS.iload X15.here hx rfl (hb hby at_177) rfl k) ?_
                  refine own_st (T' := T15) (g' := (mkF m 184 #[.val (.int i), .val (.int j), .val (.int kk), .val (.int sa), .val (.int sb), .val (.int ra), .val (.int ia), .val (.int rb), .val (.int ib), .val (.ref b1), .val (.ref b4), .val (.int (2 : Int32)), .val (.ref b4), .val (.int (1 : Int32)), .val (.int (1 : Int32))] [])) (fun _ k => XS.icmpYes X15.here hx rfl (pc0 := 179) (pc' := 184) rfl (hb hby at_179) rfl (by decide) (by decide) (by decide) k) ?_
                  refine own_st (T' := T15) (g' := (mkF m 186 #[.val (.int i), .val (.int j), .val (.int kk), .val (.int sa), .val (.int sb), .val (.int ra), .val (.int ia), .val (.int rb), .val (.int ib), .val (.ref b1), .val (.ref b4), .val (.int (2 : Int32)), .val (.ref b4), .val (.int (1 : Int32)), .val (.int (1 : Int32))] [(.ref b1)])) (fun _ k => XS.aload X15.here hx rfl (hb hby at_184) rfl rfl k) ?_
                  refine own_st (T' := T15) (g' := (mkF m 188 #[.val (.int i), .val (.int j), .val (.int kk), .val (.int sa), .val (.int sb), .val (.int ra), .val (.int ia), .val (.int rb), .val (.int ib), .val (.ref b1), .val (.ref b4), .val (.int (2 : Int32)), .val (.ref b4), .val (.int (1 : Int32)), .val (.int (1 : Int32))] [(.ref b1), (.ref b1)])) (fun _ k => XS.aload X15.here hx rfl (hb hby at_186) rfl rfl k) ?_
                  obtain ⟨T16, X16, e16, st16⟩ := own_pure (w := (.int (1 : Int32))) rfl rfl (own_gV X15 hx hZ hown (hw _ (List.mem_of_getElem? (i := 38) rfl)) (hw _ (List.mem_of_getElem? (i := 39) rfl)) (notFace_of_selects (args := #[]) (mvT hZ (hw _ (List.mem_of_getElem? (i := 41) rfl)))) (hw _ (List.mem_of_getElem? (i := 41) rfl)) (hw _ (List.mem_of_getElem? (i := 40) rfl)) (hw _ (List.mem_of_getElem? (i := 2) rfl)) (hw _ (List.mem_of_getElem? (i := 42) rfl)) (by decide) e15 E_b1 (own_eq_self l Z a0 hw T6.heap b1 s1 ra ia E_b1 F_source_b1 F_rollback_b1 F_inherited_b1) (by decide) (by decide) (by decide) (by decide) (Q := fun v h L => v = some (.int (1 : Int32)) ∧ L = [] ∧ h = T6.heap) (W := 0) (g := (mkF m 188 #[.val (.int i), .val (.int j), .val (.int kk), .val (.int sa), .val (.int sb), .val (.int ra), .val (.int ia), .val (.int rb), .val (.int ib), .val (.ref b1), .val (.ref b4), .val (.int (2 : Int32)), .val (.ref b4), .val (.int (1 : Int32)), .val (.int (1 : Int32))] [(.ref b1), (.ref b1)])) (argsL := [(.ref b1)]) (rest := []) rfl (by rw [hml]; rfl) (lenOf own_pd_5 rfl) rfl (by show 2 * 0 + _ ≤ _; exact Nat.le_of_eq rfl) (hb hby at_188))
                  refine own_st (T' := T16) (g' := (mkF m 191 #[.val (.int i), .val (.int j), .val (.int kk), .val (.int sa), .val (.int sb), .val (.int ra), .val (.int ia), .val (.int rb), .val (.int ib), .val (.ref b1), .val (.ref b4), .val (.int (2 : Int32)), .val (.ref b4), .val (.int (1 : Int32)), .val (.int (1 : Int32))] [(.int (1 : Int32))])) st16 ?_
                  refine own_st (T' := T16) (g' := (mkF m 196 #[.val (.int i), .val (.int j), .val (.int kk), .val (.int sa), .val (.int sb), .val (.int ra), .val (.int ia), .val (.int rb), .val (.int ib), .val (.ref b1), .val (.ref b4), .val (.int (2 : Int32)), .val (.ref b4), .val (.int (1 : Int32)), .val (.int (1 : Int32))] [])) (fun _ k => XS.ifYes X16.here hx rfl (pc0 := 191) (pc' := 196) rfl (hb hby at_191) rfl (by decide) (by decide) (by decide) k) ?_
                  refine own_st (T' := T16) (g' := (mkF m 198 #[.val (.int i), .val (.int j), .val (.int kk), .val (.int sa), .val (.int sb), .val (.int ra), .val (.int ia), .val (.int rb), .val (.int ib), .val (.ref b1), .val (.ref b4), .val (.int (2 : Int32)), .val (.ref b4), .val (.int (1 : Int32)), .val (.int (1 : Int32))] [(.int (2 : Int32))])) (fun _ k => XS.iload X16.here hx rfl (hb hby at_196) rfl k) ?_
                  refine own_st (T' := T16) (g' := (mkF m 199 #[.val (.int i), .val (.int j), .val (.int kk), .val (.int sa), .val (.int sb), .val (.int ra), .val (.int ia), .val (.int rb), .val (.int ib), .val (.ref b1), .val (.ref b4), .val (.int (2 : Int32)), .val (.ref b4), .val (.int (1 : Int32)), .val (.int (1 : Int32))] [(.int (2 : Int32)), (.int (2 : Int32))])) (fun _ k => XS.iconst X16.here hx rfl (hb hby at_198) k) ?_
                  refine own_st (T' := T16) (g' := (mkF m 202 #[.val (.int i), .val (.int j), .val (.int kk), .val (.int sa), .val (.int sb), .val (.int ra), .val (.int ia), .val (.int rb), .val (.int ib), .val (.ref b1), .val (.ref b4), .val (.int (2 : Int32)), .val (.ref b4), .val (.int (1 : Int32)), .val (.int (1 : Int32))] [])) (fun _ k => XS.icmpNo X16.here hx rfl (hb hby at_199) rfl (by decide) k) ?_
                  refine own_st (T' := T16) (g' := (mkF m 204 #[.val (.int i), .val (.int j), .val (.int kk), .val (.int sa), .val (.int sb), .val (.int ra), .val (.int ia), .val (.int rb), .val (.int ib), .val (.ref b1), .val (.ref b4), .val (.int (2 : Int32)), .val (.ref b4), .val (.int (1 : Int32)), .val (.int (1 : Int32))] [(.ref b4)])) (fun _ k => XS.aload X16.here hx rfl (hb hby at_202) rfl rfl k) ?_
                  refine own_st (T' := T16) (g' := (mkF m 206 #[.val (.int i), .val (.int j), .val (.int kk), .val (.int sa), .val (.int sb), .val (.int ra), .val (.int ia), .val (.int rb), .val (.int ib), .val (.ref b1), .val (.ref b4), .val (.int (2 : Int32)), .val (.ref b4), .val (.int (1 : Int32)), .val (.int (1 : Int32))] [(.ref b1), (.ref b4)])) (fun _ k => XS.aload X16.here hx rfl (hb hby at_204) rfl rfl k) ?_
                  obtain ⟨T17, X17, e17, st17⟩ := own_pure (w := (.int (1 : Int32))) rfl rfl (own_gV X16 hx hZ hown (hw _ (List.mem_of_getElem? (i := 38) rfl)) (hw _ (List.mem_of_getElem? (i := 39) rfl)) (notFace_of_selects (args := #[]) (mvT hZ (hw _ (List.mem_of_getElem? (i := 41) rfl)))) (hw _ (List.mem_of_getElem? (i := 41) rfl)) (hw _ (List.mem_of_getElem? (i := 40) rfl)) (hw _ (List.mem_of_getElem? (i := 2) rfl)) (hw _ (List.mem_of_getElem? (i := 42) rfl)) (by decide) e16 E_b4 (own_eq_all l Z a0 hw T6.heap b4 b1 s2 s1 rb ra ib ia E_b1 F_source_b4 F_rollback_b4 F_inherited_b4 F_source_b1 F_rollback_b1 F_inherited_b1 (Eq.symm (by rw [es1, es2, hc142_12])) (Eq.symm hc149_13) (Eq.symm hc156_14)) (by decide) (by decide) (by decide) (by decide) (Q := fun v h L => v = some (.int (1 : Int32)) ∧ L = [] ∧ h = T6.heap) (W := 0) (g := (mkF m 206 #[.val (.int i), .val (.int j), .val (.int kk), .val (.int sa), .val (.int sb), .val (.int ra), .val (.int ia), .val (.int rb), .val (.int ib), .val (.ref b1), .val (.ref b4), .val (.int (2 : Int32)), .val (.ref b4), .val (.int (1 : Int32)), .val (.int (1 : Int32))] [(.ref b1), (.ref b4)])) (argsL := [(.ref b1)]) (rest := []) rfl (by rw [hml]; rfl) (lenOf own_pd_5 rfl) rfl (by show 2 * 0 + _ ≤ _; exact Nat.le_of_eq rfl) (hb hby at_206))
                  refine own_st (T' := T17) (g' := (mkF m 209 #[.val (.int i), .val (.int j), .val (.int kk), .val (.int sa), .val (.int sb), .val (.int ra), .val (.int ia), .val (.int rb), .val (.int ib), .val (.ref b1), .val (.ref b4), .val (.int (2 : Int32)), .val (.ref b4), .val (.int (1 : Int32)), .val (.int (1 : Int32))] [(.int (1 : Int32))])) st17 ?_
                  refine own_st (T' := T17) (g' := (mkF m 211 #[.val (.int i), .val (.int j), .val (.int kk), .val (.int sa), .val (.int sb), .val (.int ra), .val (.int ia), .val (.int rb), .val (.int ib), .val (.ref b1), .val (.ref b4), .val (.int (2 : Int32)), .val (.ref b4), .val (.int (1 : Int32)), .val (.int (1 : Int32))] [(.int (1 : Int32)), (.int (1 : Int32))])) (fun _ k => XS.iload X17.here hx rfl (hb hby at_209) rfl k) ?_
                  refine own_st (T' := T17) (g' := (mkF m 216 #[.val (.int i), .val (.int j), .val (.int kk), .val (.int sa), .val (.int sb), .val (.int ra), .val (.int ia), .val (.int rb), .val (.int ib), .val (.ref b1), .val (.ref b4), .val (.int (2 : Int32)), .val (.ref b4), .val (.int (1 : Int32)), .val (.int (1 : Int32))] [])) (fun _ k => XS.icmpYes X17.here hx rfl (pc0 := 211) (pc' := 216) rfl (hb hby at_211) rfl (by decide) (by decide) (by decide) k) ?_
                  refine own_st (T' := T17) (g' := (mkF m 217 #[.val (.int i), .val (.int j), .val (.int kk), .val (.int sa), .val (.int sb), .val (.int ra), .val (.int ia), .val (.int rb), .val (.int ib), .val (.ref b1), .val (.ref b4), .val (.int (2 : Int32)), .val (.ref b4), .val (.int (1 : Int32)), .val (.int (1 : Int32))] [(.int (1 : Int32))])) (fun _ k => XS.iconst X17.here hx rfl (hb hby at_216) k) ?_
                  exact own_retW X17 hx hlk hS (by rw [e17]; exact hk) hret rfl (Or.inl ⟨rfl, Or.inr (Or.inl rfl), _, rfl⟩) (hb hby at_217) (by decide) (by decide) ⟨rfl, Nf⟩
                ·
                  refine own_st (T' := T6) (g' := (mkF m 163 #[.val (.int i), .val (.int j), .val (.int kk), .val (.int sa), .val (.int sb), .val (.int ra), .val (.int ia), .val (.int rb), .val (.int ib), .val (.ref b1), .val (.ref b4), .val (.int (2 : Int32)), .val (.ref b4), .unset, .unset] [])) (fun _ k => XS.icmpYes X6.here hx rfl (pc0 := 156) (pc' := 163) rfl (hb hby at_156) rfl (feq hc156_14).2 (by decide) (by decide) k) ?_
                  refine own_st (T' := T6) (g' := (mkF m 164 #[.val (.int i), .val (.int j), .val (.int kk), .val (.int sa), .val (.int sb), .val (.int ra), .val (.int ia), .val (.int rb), .val (.int ib), .val (.ref b1), .val (.ref b4), .val (.int (2 : Int32)), .val (.ref b4), .unset, .unset] [(.int (0 : Int32))])) (fun _ k => XS.iconst X6.here hx rfl (hb hby at_163) k) ?_
                  refine own_st (T' := T6) (g' := (mkF m 166 #[.val (.int i), .val (.int j), .val (.int kk), .val (.int sa), .val (.int sb), .val (.int ra), .val (.int ia), .val (.int rb), .val (.int ib), .val (.ref b1), .val (.ref b4), .val (.int (2 : Int32)), .val (.ref b4), .val (.int (0 : Int32)), .unset] [])) (fun _ k => XS.istore X6.here hx rfl (hb hby at_164) rfl (l' := #[.val (.int i), .val (.int j), .val (.int kk), .val (.int sa), .val (.int sb), .val (.int ra), .val (.int ia), .val (.int rb), .val (.int ib), .val (.ref b1), .val (.ref b4), .val (.int (2 : Int32)), .val (.ref b4), .val (.int (0 : Int32)), .unset]) rfl k) ?_
                  refine own_st (T' := T6) (g' := (mkF m 168 #[.val (.int i), .val (.int j), .val (.int kk), .val (.int sa), .val (.int sb), .val (.int ra), .val (.int ia), .val (.int rb), .val (.int ib), .val (.ref b1), .val (.ref b4), .val (.int (2 : Int32)), .val (.ref b4), .val (.int (0 : Int32)), .unset] [(.ref b1)])) (fun _ k => XS.aload X6.here hx rfl (hb hby at_166) rfl rfl k) ?_
                  refine own_st (T' := T6) (g' := (mkF m 170 #[.val (.int i), .val (.int j), .val (.int kk), .val (.int sa), .val (.int sb), .val (.int ra), .val (.int ia), .val (.int rb), .val (.int ib), .val (.ref b1), .val (.ref b4), .val (.int (2 : Int32)), .val (.ref b4), .val (.int (0 : Int32)), .unset] [(.ref b4), (.ref b1)])) (fun _ k => XS.aload X6.here hx rfl (hb hby at_168) rfl rfl k) ?_
                  obtain ⟨T18, X18, e18, st18⟩ := own_pure (w := (.int (0 : Int32))) rfl rfl (own_gV X6 hx hZ hown (hw _ (List.mem_of_getElem? (i := 38) rfl)) (hw _ (List.mem_of_getElem? (i := 39) rfl)) (notFace_of_selects (args := #[]) (mvT hZ (hw _ (List.mem_of_getElem? (i := 41) rfl)))) (hw _ (List.mem_of_getElem? (i := 41) rfl)) (hw _ (List.mem_of_getElem? (i := 40) rfl)) (hw _ (List.mem_of_getElem? (i := 2) rfl)) (hw _ (List.mem_of_getElem? (i := 42) rfl)) (by decide) rfl E_b1 (own_eq_i l Z a0 hw T6.heap b1 b4 s1 s2 ra rb ia ib E_b4 F_source_b1 F_rollback_b1 F_inherited_b1 F_source_b4 F_rollback_b4 F_inherited_b4 (by rw [es1, es2, hc142_12]) hc149_13 hc156_14) (by decide) (by decide) (by decide) (by decide) (Q := fun v h L => v = some (.int (0 : Int32)) ∧ L = [] ∧ h = T6.heap) (W := 0) (g := (mkF m 170 #[.val (.int i), .val (.int j), .val (.int kk), .val (.int sa), .val (.int sb), .val (.int ra), .val (.int ia), .val (.int rb), .val (.int ib), .val (.ref b1), .val (.ref b4), .val (.int (2 : Int32)), .val (.ref b4), .val (.int (0 : Int32)), .unset] [(.ref b4), (.ref b1)])) (argsL := [(.ref b4)]) (rest := []) rfl (by rw [hml]; rfl) (lenOf own_pd_5 rfl) rfl (by show 2 * 0 + _ ≤ _; exact Nat.le_of_eq rfl) (hb hby at_170))
                  refine own_st (T' := T18) (g' := (mkF m 173 #[.val (.int i), .val (.int j), .val (.int kk), .val (.int sa), .val (.int sb), .val (.int ra), .val (.int ia), .val (.int rb), .val (.int ib), .val (.ref b1), .val (.ref b4), .val (.int (2 : Int32)), .val (.ref b4), .val (.int (0 : Int32)), .unset] [(.int (0 : Int32))])) st18 ?_
                  refine own_st (T' := T18) (g' := (mkF m 175 #[.val (.int i), .val (.int j), .val (.int kk), .val (.int sa), .val (.int sb), .val (.int ra), .val (.int ia), .val (.int rb), .val (.int ib), .val (.ref b1), .val (.ref b4), .val (.int (2 : Int32)), .val (.ref b4), .val (.int (0 : Int32)), .val (.int (0 : Int32))] [])) (fun _ k => XS.istore X18.here hx rfl (hb hby at_173) rfl (l' := #[.val (.int i), .val (.int j), .val (.int kk), .val (.int sa), .val (.int sb), .val (.int ra), .val (.int ia), .val (.int rb), .val (.int ib), .val (.ref b1), .val (.ref b4), .val (.int (2 : Int32)), .val (.ref b4), .val (.int (0 : Int32)), .val (.int (0 : Int32))]) rfl k) ?_
                  refine own_st (T' := T18) (g' := (mkF m 177 #[.val (.int i), .val (.int j), .val (.int kk), .val (.int sa), .val (.int sb), .val (.int ra), .val (.int ia), .val (.int rb), .val (.int ib), .val (.ref b1), .val (.ref b4), .val (.int (2 : Int32)), .val (.ref b4), .val (.int (0 : Int32)), .val (.int (0 : Int32))] [(.int (0 : Int32))])) (fun _ k => XS.iload X18.here hx rfl (hb hby at_175) rfl k) ?_
                  refine own_st (T' := T18) (g' := (mkF m 179 #[.val (.int i), .val (.int j), .val (.int kk), .val (.int sa), .val (.int sb), .val (.int ra), .val (.int ia), .val (.int rb), .val (.int ib), .val (.ref b1), .val (.ref b4), .val (.int (2 : Int32)), .val (.ref b4), .val (.int (0 : Int32)), .val (.int (0 : Int32))] [(.int (0 : Int32)), (.int (0 : Int32))])) (fun _ k => XS.iload X18.here hx rfl (hb hby at_177) rfl k) ?_
                  refine own_st (T' := T18) (g' := (mkF m 184 #[.val (.int i), .val (.int j), .val (.int kk), .val (.int sa), .val (.int sb), .val (.int ra), .val (.int ia), .val (.int rb), .val (.int ib), .val (.ref b1), .val (.ref b4), .val (.int (2 : Int32)), .val (.ref b4), .val (.int (0 : Int32)), .val (.int (0 : Int32))] [])) (fun _ k => XS.icmpYes X18.here hx rfl (pc0 := 179) (pc' := 184) rfl (hb hby at_179) rfl (by decide) (by decide) (by decide) k) ?_
                  refine own_st (T' := T18) (g' := (mkF m 186 #[.val (.int i), .val (.int j), .val (.int kk), .val (.int sa), .val (.int sb), .val (.int ra), .val (.int ia), .val (.int rb), .val (.int ib), .val (.ref b1), .val (.ref b4), .val (.int (2 : Int32)), .val (.ref b4), .val (.int (0 : Int32)), .val (.int (0 : Int32))] [(.ref b1)])) (fun _ k => XS.aload X18.here hx rfl (hb hby at_184) rfl rfl k) ?_
                  refine own_st (T' := T18) (g' := (mkF m 188 #[.val (.int i), .val (.int j), .val (.int kk), .val (.int sa), .val (.int sb), .val (.int ra), .val (.int ia), .val (.int rb), .val (.int ib), .val (.ref b1), .val (.ref b4), .val (.int (2 : Int32)), .val (.ref b4), .val (.int (0 : Int32)), .val (.int (0 : Int32))] [(.ref b1), (.ref b1)])) (fun _ k => XS.aload X18.here hx rfl (hb hby at_186) rfl rfl k) ?_
                  obtain ⟨T19, X19, e19, st19⟩ := own_pure (w := (.int (1 : Int32))) rfl rfl (own_gV X18 hx hZ hown (hw _ (List.mem_of_getElem? (i := 38) rfl)) (hw _ (List.mem_of_getElem? (i := 39) rfl)) (notFace_of_selects (args := #[]) (mvT hZ (hw _ (List.mem_of_getElem? (i := 41) rfl)))) (hw _ (List.mem_of_getElem? (i := 41) rfl)) (hw _ (List.mem_of_getElem? (i := 40) rfl)) (hw _ (List.mem_of_getElem? (i := 2) rfl)) (hw _ (List.mem_of_getElem? (i := 42) rfl)) (by decide) e18 E_b1 (own_eq_self l Z a0 hw T6.heap b1 s1 ra ia E_b1 F_source_b1 F_rollback_b1 F_inherited_b1) (by decide) (by decide) (by decide) (by decide) (Q := fun v h L => v = some (.int (1 : Int32)) ∧ L = [] ∧ h = T6.heap) (W := 0) (g := (mkF m 188 #[.val (.int i), .val (.int j), .val (.int kk), .val (.int sa), .val (.int sb), .val (.int ra), .val (.int ia), .val (.int rb), .val (.int ib), .val (.ref b1), .val (.ref b4), .val (.int (2 : Int32)), .val (.ref b4), .val (.int (0 : Int32)), .val (.int (0 : Int32))] [(.ref b1), (.ref b1)])) (argsL := [(.ref b1)]) (rest := []) rfl (by rw [hml]; rfl) (lenOf own_pd_5 rfl) rfl (by show 2 * 0 + _ ≤ _; exact Nat.le_of_eq rfl) (hb hby at_188))
                  refine own_st (T' := T19) (g' := (mkF m 191 #[.val (.int i), .val (.int j), .val (.int kk), .val (.int sa), .val (.int sb), .val (.int ra), .val (.int ia), .val (.int rb), .val (.int ib), .val (.ref b1), .val (.ref b4), .val (.int (2 : Int32)), .val (.ref b4), .val (.int (0 : Int32)), .val (.int (0 : Int32))] [(.int (1 : Int32))])) st19 ?_
                  refine own_st (T' := T19) (g' := (mkF m 196 #[.val (.int i), .val (.int j), .val (.int kk), .val (.int sa), .val (.int sb), .val (.int ra), .val (.int ia), .val (.int rb), .val (.int ib), .val (.ref b1), .val (.ref b4), .val (.int (2 : Int32)), .val (.ref b4), .val (.int (0 : Int32)), .val (.int (0 : Int32))] [])) (fun _ k => XS.ifYes X19.here hx rfl (pc0 := 191) (pc' := 196) rfl (hb hby at_191) rfl (by decide) (by decide) (by decide) k) ?_
                  refine own_st (T' := T19) (g' := (mkF m 198 #[.val (.int i), .val (.int j), .val (.int kk), .val (.int sa), .val (.int sb), .val (.int ra), .val (.int ia), .val (.int rb), .val (.int ib), .val (.ref b1), .val (.ref b4), .val (.int (2 : Int32)), .val (.ref b4), .val (.int (0 : Int32)), .val (.int (0 : Int32))] [(.int (2 : Int32))])) (fun _ k => XS.iload X19.here hx rfl (hb hby at_196) rfl k) ?_
                  refine own_st (T' := T19) (g' := (mkF m 199 #[.val (.int i), .val (.int j), .val (.int kk), .val (.int sa), .val (.int sb), .val (.int ra), .val (.int ia), .val (.int rb), .val (.int ib), .val (.ref b1), .val (.ref b4), .val (.int (2 : Int32)), .val (.ref b4), .val (.int (0 : Int32)), .val (.int (0 : Int32))] [(.int (2 : Int32)), (.int (2 : Int32))])) (fun _ k => XS.iconst X19.here hx rfl (hb hby at_198) k) ?_
                  refine own_st (T' := T19) (g' := (mkF m 202 #[.val (.int i), .val (.int j), .val (.int kk), .val (.int sa), .val (.int sb), .val (.int ra), .val (.int ia), .val (.int rb), .val (.int ib), .val (.ref b1), .val (.ref b4), .val (.int (2 : Int32)), .val (.ref b4), .val (.int (0 : Int32)), .val (.int (0 : Int32))] [])) (fun _ k => XS.icmpNo X19.here hx rfl (hb hby at_199) rfl (by decide) k) ?_
                  refine own_st (T' := T19) (g' := (mkF m 204 #[.val (.int i), .val (.int j), .val (.int kk), .val (.int sa), .val (.int sb), .val (.int ra), .val (.int ia), .val (.int rb), .val (.int ib), .val (.ref b1), .val (.ref b4), .val (.int (2 : Int32)), .val (.ref b4), .val (.int (0 : Int32)), .val (.int (0 : Int32))] [(.ref b4)])) (fun _ k => XS.aload X19.here hx rfl (hb hby at_202) rfl rfl k) ?_
                  refine own_st (T' := T19) (g' := (mkF m 206 #[.val (.int i), .val (.int j), .val (.int kk), .val (.int sa), .val (.int sb), .val (.int ra), .val (.int ia), .val (.int rb), .val (.int ib), .val (.ref b1), .val (.ref b4), .val (.int (2 : Int32)), .val (.ref b4), .val (.int (0 : Int32)), .val (.int (0 : Int32))] [(.ref b1), (.ref b4)])) (fun _ k => XS.aload X19.here hx rfl (hb hby at_204) rfl rfl k) ?_
                  obtain ⟨T20, X20, e20, st20⟩ := own_pure (w := (.int (0 : Int32))) rfl rfl (own_gV X19 hx hZ hown (hw _ (List.mem_of_getElem? (i := 38) rfl)) (hw _ (List.mem_of_getElem? (i := 39) rfl)) (notFace_of_selects (args := #[]) (mvT hZ (hw _ (List.mem_of_getElem? (i := 41) rfl)))) (hw _ (List.mem_of_getElem? (i := 41) rfl)) (hw _ (List.mem_of_getElem? (i := 40) rfl)) (hw _ (List.mem_of_getElem? (i := 2) rfl)) (hw _ (List.mem_of_getElem? (i := 42) rfl)) (by decide) e19 E_b4 (own_eq_i l Z a0 hw T6.heap b4 b1 s2 s1 rb ra ib ia E_b1 F_source_b4 F_rollback_b4 F_inherited_b4 F_source_b1 F_rollback_b1 F_inherited_b1 (Eq.symm (by rw [es1, es2, hc142_12])) (Eq.symm hc149_13) (Ne.symm hc156_14)) (by decide) (by decide) (by decide) (by decide) (Q := fun v h L => v = some (.int (0 : Int32)) ∧ L = [] ∧ h = T6.heap) (W := 0) (g := (mkF m 206 #[.val (.int i), .val (.int j), .val (.int kk), .val (.int sa), .val (.int sb), .val (.int ra), .val (.int ia), .val (.int rb), .val (.int ib), .val (.ref b1), .val (.ref b4), .val (.int (2 : Int32)), .val (.ref b4), .val (.int (0 : Int32)), .val (.int (0 : Int32))] [(.ref b1), (.ref b4)])) (argsL := [(.ref b1)]) (rest := []) rfl (by rw [hml]; rfl) (lenOf own_pd_5 rfl) rfl (by show 2 * 0 + _ ≤ _; exact Nat.le_of_eq rfl) (hb hby at_206))
                  refine own_st (T' := T20) (g' := (mkF m 209 #[.val (.int i), .val (.int j), .val (.int kk), .val (.int sa), .val (.int sb), .val (.int ra), .val (.int ia), .val (.int rb), .val (.int ib), .val (.ref b1), .val (.ref b4), .val (.int (2 : Int32)), .val (.ref b4), .val (.int (0 : Int32)), .val (.int (0 : Int32))] [(.int (0 : Int32))])) st20 ?_
                  refine own_st (T' := T20) (g' := (mkF m 211 #[.val (.int i), .val (.int j), .val (.int kk), .val (.int sa), .val (.int sb), .val (.int ra), .val (.int ia), .val (.int rb), .val (.int ib), .val (.ref b1), .val (.ref b4), .val (.int (2 : Int32)), .val (.ref b4), .val (.int (0 : Int32)), .val (.int (0 : Int32))] [(.int (0 : Int32)), (.int (0 : Int32))])) (fun _ k => XS.iload X20.here hx rfl (hb hby at_209) rfl k) ?_
                  refine own_st (T' := T20) (g' := (mkF m 216 #[.val (.int i), .val (.int j), .val (.int kk), .val (.int sa), .val (.int sb), .val (.int ra), .val (.int ia), .val (.int rb), .val (.int ib), .val (.ref b1), .val (.ref b4), .val (.int (2 : Int32)), .val (.ref b4), .val (.int (0 : Int32)), .val (.int (0 : Int32))] [])) (fun _ k => XS.icmpYes X20.here hx rfl (pc0 := 211) (pc' := 216) rfl (hb hby at_211) rfl (by decide) (by decide) (by decide) k) ?_
                  refine own_st (T' := T20) (g' := (mkF m 217 #[.val (.int i), .val (.int j), .val (.int kk), .val (.int sa), .val (.int sb), .val (.int ra), .val (.int ia), .val (.int rb), .val (.int ib), .val (.ref b1), .val (.ref b4), .val (.int (2 : Int32)), .val (.ref b4), .val (.int (0 : Int32)), .val (.int (0 : Int32))] [(.int (1 : Int32))])) (fun _ k => XS.iconst X20.here hx rfl (hb hby at_216) k) ?_
                  exact own_retW X20 hx hlk hS (by rw [e20]; exact hk) hret rfl (Or.inl ⟨rfl, Or.inr (Or.inl rfl), _, rfl⟩) (hb hby at_217) (by decide) (by decide) ⟨rfl, Nf⟩
              ·
                refine own_st (T' := T6) (g' := (mkF m 163 #[.val (.int i), .val (.int j), .val (.int kk), .val (.int sa), .val (.int sb), .val (.int ra), .val (.int ia), .val (.int rb), .val (.int ib), .val (.ref b1), .val (.ref b4), .val (.int (2 : Int32)), .val (.ref b4), .unset, .unset] [])) (fun _ k => XS.icmpYes X6.here hx rfl (pc0 := 149) (pc' := 163) rfl (hb hby at_149) rfl (feq hc149_13).2 (by decide) (by decide) k) ?_
                refine own_st (T' := T6) (g' := (mkF m 164 #[.val (.int i), .val (.int j), .val (.int kk), .val (.int sa), .val (.int sb), .val (.int ra), .val (.int ia), .val (.int rb), .val (.int ib), .val (.ref b1), .val (.ref b4), .val (.int (2 : Int32)), .val (.ref b4), .unset, .unset] [(.int (0 : Int32))])) (fun _ k => XS.iconst X6.here hx rfl (hb hby at_163) k) ?_
                refine own_st (T' := T6) (g' := (mkF m 166 #[.val (.int i), .val (.int j), .val (.int kk), .val (.int sa), .val (.int sb), .val (.int ra), .val (.int ia), .val (.int rb), .val (.int ib), .val (.ref b1), .val (.ref b4), .val (.int (2 : Int32)), .val (.ref b4), .val (.int (0 : Int32)), .unset] [])) (fun _ k => XS.istore X6.here hx rfl (hb hby at_164) rfl (l' := #[.val (.int i), .val (.int j), .val (.int kk), .val (.int sa), .val (.int sb), .val (.int ra), .val (.int ia), .val (.int rb), .val (.int ib), .val (.ref b1), .val (.ref b4), .val (.int (2 : Int32)), .val (.ref b4), .val (.int (0 : Int32)), .unset]) rfl k) ?_
                refine own_st (T' := T6) (g' := (mkF m 168 #[.val (.int i), .val (.int j), .val (.int kk), .val (.int sa), .val (.int sb), .val (.int ra), .val (.int ia), .val (.int rb), .val (.int ib), .val (.ref b1), .val (.ref b4), .val (.int (2 : Int32)), .val (.ref b4), .val (.int (0 : Int32)), .unset] [(.ref b1)])) (fun _ k => XS.aload X6.here hx rfl (hb hby at_166) rfl rfl k) ?_
                refine own_st (T' := T6) (g' := (mkF m 170 #[.val (.int i), .val (.int j), .val (.int kk), .val (.int sa), .val (.int sb), .val (.int ra), .val (.int ia), .val (.int rb), .val (.int ib), .val (.ref b1), .val (.ref b4), .val (.int (2 : Int32)), .val (.ref b4), .val (.int (0 : Int32)), .unset] [(.ref b4), (.ref b1)])) (fun _ k => XS.aload X6.here hx rfl (hb hby at_168) rfl rfl k) ?_
                obtain ⟨T21, X21, e21, st21⟩ := own_pure (w := (.int (0 : Int32))) rfl rfl (own_gV X6 hx hZ hown (hw _ (List.mem_of_getElem? (i := 38) rfl)) (hw _ (List.mem_of_getElem? (i := 39) rfl)) (notFace_of_selects (args := #[]) (mvT hZ (hw _ (List.mem_of_getElem? (i := 41) rfl)))) (hw _ (List.mem_of_getElem? (i := 41) rfl)) (hw _ (List.mem_of_getElem? (i := 40) rfl)) (hw _ (List.mem_of_getElem? (i := 2) rfl)) (hw _ (List.mem_of_getElem? (i := 42) rfl)) (by decide) rfl E_b1 (own_eq_r l Z a0 hw T6.heap b1 b4 s1 s2 ra rb ia ib E_b4 F_source_b1 F_rollback_b1 F_inherited_b1 F_source_b4 F_rollback_b4 F_inherited_b4 (by rw [es1, es2, hc142_12]) hc149_13) (by decide) (by decide) (by decide) (by decide) (Q := fun v h L => v = some (.int (0 : Int32)) ∧ L = [] ∧ h = T6.heap) (W := 0) (g := (mkF m 170 #[.val (.int i), .val (.int j), .val (.int kk), .val (.int sa), .val (.int sb), .val (.int ra), .val (.int ia), .val (.int rb), .val (.int ib), .val (.ref b1), .val (.ref b4), .val (.int (2 : Int32)), .val (.ref b4), .val (.int (0 : Int32)), .unset] [(.ref b4), (.ref b1)])) (argsL := [(.ref b4)]) (rest := []) rfl (by rw [hml]; rfl) (lenOf own_pd_5 rfl) rfl (by show 2 * 0 + _ ≤ _; exact Nat.le_of_eq rfl) (hb hby at_170))
                refine own_st (T' := T21) (g' := (mkF m 173 #[.val (.int i), .val (.int j), .val (.int kk), .val (.int sa), .val (.int sb), .val (.int ra), .val (.int ia), .val (.int rb), .val (.int ib), .val (.ref b1), .val (.ref b4), .val (.int (2 : Int32)), .val (.ref b4), .val (.int (0 : Int32)), .unset] [(.int (0 : Int32))])) st21 ?_
                refine own_st (T' := T21) (g' := (mkF m 175 #[.val (.int i), .val (.int j), .val (.int kk), .val (.int sa), .val (.int sb), .val (.int ra), .val (.int ia), .val (.int rb), .val (.int ib), .val (.ref b1), .val (.ref b4), .val (.int (2 : Int32)), .val (.ref b4), .val (.int (0 : Int32)), .val (.int (0 : Int32))] [])) (fun _ k => XS.istore X21.here hx rfl (hb hby at_173) rfl (l' := #[.val (.int i), .val (.int j), .val (.int kk), .val (.int sa), .val (.int sb), .val (.int ra), .val (.int ia), .val (.int rb), .val (.int ib), .val (.ref b1), .val (.ref b4), .val (.int (2 : Int32)), .val (.ref b4), .val (.int (0 : Int32)), .val (.int (0 : Int32))]) rfl k) ?_
                refine own_st (T' := T21) (g' := (mkF m 177 #[.val (.int i), .val (.int j), .val (.int kk), .val (.int sa), .val (.int sb), .val (.int ra), .val (.int ia), .val (.int rb), .val (.int ib), .val (.ref b1), .val (.ref b4), .val (.int (2 : Int32)), .val (.ref b4), .val (.int (0 : Int32)), .val (.int (0 : Int32))] [(.int (0 : Int32))])) (fun _ k => XS.iload X21.here hx rfl (hb hby at_175) rfl k) ?_
                refine own_st (T' := T21) (g' := (mkF m 179 #[.val (.int i), .val (.int j), .val (.int kk), .val (.int sa), .val (.int sb), .val (.int ra), .val (.int ia), .val (.int rb), .val (.int ib), .val (.ref b1), .val (.ref b4), .val (.int (2 : Int32)), .val (.ref b4), .val (.int (0 : Int32)), .val (.int (0 : Int32))] [(.int (0 : Int32)), (.int (0 : Int32))])) (fun _ k => XS.iload X21.here hx rfl (hb hby at_177) rfl k) ?_
                refine own_st (T' := T21) (g' := (mkF m 184 #[.val (.int i), .val (.int j), .val (.int kk), .val (.int sa), .val (.int sb), .val (.int ra), .val (.int ia), .val (.int rb), .val (.int ib), .val (.ref b1), .val (.ref b4), .val (.int (2 : Int32)), .val (.ref b4), .val (.int (0 : Int32)), .val (.int (0 : Int32))] [])) (fun _ k => XS.icmpYes X21.here hx rfl (pc0 := 179) (pc' := 184) rfl (hb hby at_179) rfl (by decide) (by decide) (by decide) k) ?_
                refine own_st (T' := T21) (g' := (mkF m 186 #[.val (.int i), .val (.int j), .val (.int kk), .val (.int sa), .val (.int sb), .val (.int ra), .val (.int ia), .val (.int rb), .val (.int ib), .val (.ref b1), .val (.ref b4), .val (.int (2 : Int32)), .val (.ref b4), .val (.int (0 : Int32)), .val (.int (0 : Int32))] [(.ref b1)])) (fun _ k => XS.aload X21.here hx rfl (hb hby at_184) rfl rfl k) ?_
                refine own_st (T' := T21) (g' := (mkF m 188 #[.val (.int i), .val (.int j), .val (.int kk), .val (.int sa), .val (.int sb), .val (.int ra), .val (.int ia), .val (.int rb), .val (.int ib), .val (.ref b1), .val (.ref b4), .val (.int (2 : Int32)), .val (.ref b4), .val (.int (0 : Int32)), .val (.int (0 : Int32))] [(.ref b1), (.ref b1)])) (fun _ k => XS.aload X21.here hx rfl (hb hby at_186) rfl rfl k) ?_
                obtain ⟨T22, X22, e22, st22⟩ := own_pure (w := (.int (1 : Int32))) rfl rfl (own_gV X21 hx hZ hown (hw _ (List.mem_of_getElem? (i := 38) rfl)) (hw _ (List.mem_of_getElem? (i := 39) rfl)) (notFace_of_selects (args := #[]) (mvT hZ (hw _ (List.mem_of_getElem? (i := 41) rfl)))) (hw _ (List.mem_of_getElem? (i := 41) rfl)) (hw _ (List.mem_of_getElem? (i := 40) rfl)) (hw _ (List.mem_of_getElem? (i := 2) rfl)) (hw _ (List.mem_of_getElem? (i := 42) rfl)) (by decide) e21 E_b1 (own_eq_self l Z a0 hw T6.heap b1 s1 ra ia E_b1 F_source_b1 F_rollback_b1 F_inherited_b1) (by decide) (by decide) (by decide) (by decide) (Q := fun v h L => v = some (.int (1 : Int32)) ∧ L = [] ∧ h = T6.heap) (W := 0) (g := (mkF m 188 #[.val (.int i), .val (.int j), .val (.int kk), .val (.int sa), .val (.int sb), .val (.int ra), .val (.int ia), .val (.int rb), .val (.int ib), .val (.ref b1), .val (.ref b4), .val (.int (2 : Int32)), .val (.ref b4), .val (.int (0 : Int32)), .val (.int (0 : Int32))] [(.ref b1), (.ref b1)])) (argsL := [(.ref b1)]) (rest := []) rfl (by rw [hml]; rfl) (lenOf own_pd_5 rfl) rfl (by show 2 * 0 + _ ≤ _; exact Nat.le_of_eq rfl) (hb hby at_188))
                refine own_st (T' := T22) (g' := (mkF m 191 #[.val (.int i), .val (.int j), .val (.int kk), .val (.int sa), .val (.int sb), .val (.int ra), .val (.int ia), .val (.int rb), .val (.int ib), .val (.ref b1), .val (.ref b4), .val (.int (2 : Int32)), .val (.ref b4), .val (.int (0 : Int32)), .val (.int (0 : Int32))] [(.int (1 : Int32))])) st22 ?_
                refine own_st (T' := T22) (g' := (mkF m 196 #[.val (.int i), .val (.int j), .val (.int kk), .val (.int sa), .val (.int sb), .val (.int ra), .val (.int ia), .val (.int rb), .val (.int ib), .val (.ref b1), .val (.ref b4), .val (.int (2 : Int32)), .val (.ref b4), .val (.int (0 : Int32)), .val (.int (0 : Int32))] [])) (fun _ k => XS.ifYes X22.here hx rfl (pc0 := 191) (pc' := 196) rfl (hb hby at_191) rfl (by decide) (by decide) (by decide) k) ?_
                refine own_st (T' := T22) (g' := (mkF m 198 #[.val (.int i), .val (.int j), .val (.int kk), .val (.int sa), .val (.int sb), .val (.int ra), .val (.int ia), .val (.int rb), .val (.int ib), .val (.ref b1), .val (.ref b4), .val (.int (2 : Int32)), .val (.ref b4), .val (.int (0 : Int32)), .val (.int (0 : Int32))] [(.int (2 : Int32))])) (fun _ k => XS.iload X22.here hx rfl (hb hby at_196) rfl k) ?_
                refine own_st (T' := T22) (g' := (mkF m 199 #[.val (.int i), .val (.int j), .val (.int kk), .val (.int sa), .val (.int sb), .val (.int ra), .val (.int ia), .val (.int rb), .val (.int ib), .val (.ref b1), .val (.ref b4), .val (.int (2 : Int32)), .val (.ref b4), .val (.int (0 : Int32)), .val (.int (0 : Int32))] [(.int (2 : Int32)), (.int (2 : Int32))])) (fun _ k => XS.iconst X22.here hx rfl (hb hby at_198) k) ?_
                refine own_st (T' := T22) (g' := (mkF m 202 #[.val (.int i), .val (.int j), .val (.int kk), .val (.int sa), .val (.int sb), .val (.int ra), .val (.int ia), .val (.int rb), .val (.int ib), .val (.ref b1), .val (.ref b4), .val (.int (2 : Int32)), .val (.ref b4), .val (.int (0 : Int32)), .val (.int (0 : Int32))] [])) (fun _ k => XS.icmpNo X22.here hx rfl (hb hby at_199) rfl (by decide) k) ?_
                refine own_st (T' := T22) (g' := (mkF m 204 #[.val (.int i), .val (.int j), .val (.int kk), .val (.int sa), .val (.int sb), .val (.int ra), .val (.int ia), .val (.int rb), .val (.int ib), .val (.ref b1), .val (.ref b4), .val (.int (2 : Int32)), .val (.ref b4), .val (.int (0 : Int32)), .val (.int (0 : Int32))] [(.ref b4)])) (fun _ k => XS.aload X22.here hx rfl (hb hby at_202) rfl rfl k) ?_
                refine own_st (T' := T22) (g' := (mkF m 206 #[.val (.int i), .val (.int j), .val (.int kk), .val (.int sa), .val (.int sb), .val (.int ra), .val (.int ia), .val (.int rb), .val (.int ib), .val (.ref b1), .val (.ref b4), .val (.int (2 : Int32)), .val (.ref b4), .val (.int (0 : Int32)), .val (.int (0 : Int32))] [(.ref b1), (.ref b4)])) (fun _ k => XS.aload X22.here hx rfl (hb hby at_204) rfl rfl k) ?_
                obtain ⟨T23, X23, e23, st23⟩ := own_pure (w := (.int (0 : Int32))) rfl rfl (own_gV X22 hx hZ hown (hw _ (List.mem_of_getElem? (i := 38) rfl)) (hw _ (List.mem_of_getElem? (i := 39) rfl)) (notFace_of_selects (args := #[]) (mvT hZ (hw _ (List.mem_of_getElem? (i := 41) rfl)))) (hw _ (List.mem_of_getElem? (i := 41) rfl)) (hw _ (List.mem_of_getElem? (i := 40) rfl)) (hw _ (List.mem_of_getElem? (i := 2) rfl)) (hw _ (List.mem_of_getElem? (i := 42) rfl)) (by decide) e22 E_b4 (own_eq_r l Z a0 hw T6.heap b4 b1 s2 s1 rb ra ib ia E_b1 F_source_b4 F_rollback_b4 F_inherited_b4 F_source_b1 F_rollback_b1 F_inherited_b1 (Eq.symm (by rw [es1, es2, hc142_12])) (Ne.symm hc149_13)) (by decide) (by decide) (by decide) (by decide) (Q := fun v h L => v = some (.int (0 : Int32)) ∧ L = [] ∧ h = T6.heap) (W := 0) (g := (mkF m 206 #[.val (.int i), .val (.int j), .val (.int kk), .val (.int sa), .val (.int sb), .val (.int ra), .val (.int ia), .val (.int rb), .val (.int ib), .val (.ref b1), .val (.ref b4), .val (.int (2 : Int32)), .val (.ref b4), .val (.int (0 : Int32)), .val (.int (0 : Int32))] [(.ref b1), (.ref b4)])) (argsL := [(.ref b1)]) (rest := []) rfl (by rw [hml]; rfl) (lenOf own_pd_5 rfl) rfl (by show 2 * 0 + _ ≤ _; exact Nat.le_of_eq rfl) (hb hby at_206))
                refine own_st (T' := T23) (g' := (mkF m 209 #[.val (.int i), .val (.int j), .val (.int kk), .val (.int sa), .val (.int sb), .val (.int ra), .val (.int ia), .val (.int rb), .val (.int ib), .val (.ref b1), .val (.ref b4), .val (.int (2 : Int32)), .val (.ref b4), .val (.int (0 : Int32)), .val (.int (0 : Int32))] [(.int (0 : Int32))])) st23 ?_
                refine own_st (T' := T23) (g' := (mkF m 211 #[.val (.int i), .val (.int j), .val (.int kk), .val (.int sa), .val (.int sb), .val (.int ra), .val (.int ia), .val (.int rb), .val (.int ib), .val (.ref b1), .val (.ref b4), .val (.int (2 : Int32)), .val (.ref b4), .val (.int (0 : Int32)), .val (.int (0 : Int32))] [(.int (0 : Int32)), (.int (0 : Int32))])) (fun _ k => XS.iload X23.here hx rfl (hb hby at_209) rfl k) ?_
                refine own_st (T' := T23) (g' := (mkF m 216 #[.val (.int i), .val (.int j), .val (.int kk), .val (.int sa), .val (.int sb), .val (.int ra), .val (.int ia), .val (.int rb), .val (.int ib), .val (.ref b1), .val (.ref b4), .val (.int (2 : Int32)), .val (.ref b4), .val (.int (0 : Int32)), .val (.int (0 : Int32))] [])) (fun _ k => XS.icmpYes X23.here hx rfl (pc0 := 211) (pc' := 216) rfl (hb hby at_211) rfl (by decide) (by decide) (by decide) k) ?_
                refine own_st (T' := T23) (g' := (mkF m 217 #[.val (.int i), .val (.int j), .val (.int kk), .val (.int sa), .val (.int sb), .val (.int ra), .val (.int ia), .val (.int rb), .val (.int ib), .val (.ref b1), .val (.ref b4), .val (.int (2 : Int32)), .val (.ref b4), .val (.int (0 : Int32)), .val (.int (0 : Int32))] [(.int (1 : Int32))])) (fun _ k => XS.iconst X23.here hx rfl (hb hby at_216) k) ?_
                exact own_retW X23 hx hlk hS (by rw [e23]; exact hk) hret rfl (Or.inl ⟨rfl, Or.inr (Or.inl rfl), _, rfl⟩) (hb hby at_217) (by decide) (by decide) ⟨rfl, Nf⟩
            ·
              refine own_st (T' := T6) (g' := (mkF m 163 #[.val (.int i), .val (.int j), .val (.int kk), .val (.int sa), .val (.int sb), .val (.int ra), .val (.int ia), .val (.int rb), .val (.int ib), .val (.ref b1), .val (.ref b4), .val (.int (2 : Int32)), .val (.ref b4), .unset, .unset] [])) (fun _ k => XS.icmpYes X6.here hx rfl (pc0 := 142) (pc' := 163) rfl (hb hby at_142) rfl (feq hc142_12).2 (by decide) (by decide) k) ?_
              refine own_st (T' := T6) (g' := (mkF m 164 #[.val (.int i), .val (.int j), .val (.int kk), .val (.int sa), .val (.int sb), .val (.int ra), .val (.int ia), .val (.int rb), .val (.int ib), .val (.ref b1), .val (.ref b4), .val (.int (2 : Int32)), .val (.ref b4), .unset, .unset] [(.int (0 : Int32))])) (fun _ k => XS.iconst X6.here hx rfl (hb hby at_163) k) ?_
              refine own_st (T' := T6) (g' := (mkF m 166 #[.val (.int i), .val (.int j), .val (.int kk), .val (.int sa), .val (.int sb), .val (.int ra), .val (.int ia), .val (.int rb), .val (.int ib), .val (.ref b1), .val (.ref b4), .val (.int (2 : Int32)), .val (.ref b4), .val (.int (0 : Int32)), .unset] [])) (fun _ k => XS.istore X6.here hx rfl (hb hby at_164) rfl (l' := #[.val (.int i), .val (.int j), .val (.int kk), .val (.int sa), .val (.int sb), .val (.int ra), .val (.int ia), .val (.int rb), .val (.int ib), .val (.ref b1), .val (.ref b4), .val (.int (2 : Int32)), .val (.ref b4), .val (.int (0 : Int32)), .unset]) rfl k) ?_
              refine own_st (T' := T6) (g' := (mkF m 168 #[.val (.int i), .val (.int j), .val (.int kk), .val (.int sa), .val (.int sb), .val (.int ra), .val (.int ia), .val (.int rb), .val (.int ib), .val (.ref b1), .val (.ref b4), .val (.int (2 : Int32)), .val (.ref b4), .val (.int (0 : Int32)), .unset] [(.ref b1)])) (fun _ k => XS.aload X6.here hx rfl (hb hby at_166) rfl rfl k) ?_
              refine own_st (T' := T6) (g' := (mkF m 170 #[.val (.int i), .val (.int j), .val (.int kk), .val (.int sa), .val (.int sb), .val (.int ra), .val (.int ia), .val (.int rb), .val (.int ib), .val (.ref b1), .val (.ref b4), .val (.int (2 : Int32)), .val (.ref b4), .val (.int (0 : Int32)), .unset] [(.ref b4), (.ref b1)])) (fun _ k => XS.aload X6.here hx rfl (hb hby at_168) rfl rfl k) ?_
              obtain ⟨T24, X24, e24, st24⟩ := own_pure (w := (.int (0 : Int32))) rfl rfl (own_gV X6 hx hZ hown (hw _ (List.mem_of_getElem? (i := 38) rfl)) (hw _ (List.mem_of_getElem? (i := 39) rfl)) (notFace_of_selects (args := #[]) (mvT hZ (hw _ (List.mem_of_getElem? (i := 41) rfl)))) (hw _ (List.mem_of_getElem? (i := 41) rfl)) (hw _ (List.mem_of_getElem? (i := 40) rfl)) (hw _ (List.mem_of_getElem? (i := 2) rfl)) (hw _ (List.mem_of_getElem? (i := 42) rfl)) (by decide) rfl E_b1 (own_eq_s l Z a0 hw T6.heap b1 b4 s1 s2 ra rb ia ib E_b4 F_source_b1 F_rollback_b1 F_inherited_b1 F_source_b4 F_rollback_b4 F_inherited_b4 (by rw [es1, es2]; exact own_src_ne hE csa csb hc142_12)) (by decide) (by decide) (by decide) (by decide) (Q := fun v h L => v = some (.int (0 : Int32)) ∧ L = [] ∧ h = T6.heap) (W := 0) (g := (mkF m 170 #[.val (.int i), .val (.int j), .val (.int kk), .val (.int sa), .val (.int sb), .val (.int ra), .val (.int ia), .val (.int rb), .val (.int ib), .val (.ref b1), .val (.ref b4), .val (.int (2 : Int32)), .val (.ref b4), .val (.int (0 : Int32)), .unset] [(.ref b4), (.ref b1)])) (argsL := [(.ref b4)]) (rest := []) rfl (by rw [hml]; rfl) (lenOf own_pd_5 rfl) rfl (by show 2 * 0 + _ ≤ _; exact Nat.le_of_eq rfl) (hb hby at_170))
              refine own_st (T' := T24) (g' := (mkF m 173 #[.val (.int i), .val (.int j), .val (.int kk), .val (.int sa), .val (.int sb), .val (.int ra), .val (.int ia), .val (.int rb), .val (.int ib), .val (.ref b1), .val (.ref b4), .val (.int (2 : Int32)), .val (.ref b4), .val (.int (0 : Int32)), .unset] [(.int (0 : Int32))])) st24 ?_
              refine own_st (T' := T24) (g' := (mkF m 175 #[.val (.int i), .val (.int j), .val (.int kk), .val (.int sa), .val (.int sb), .val (.int ra), .val (.int ia), .val (.int rb), .val (.int ib), .val (.ref b1), .val (.ref b4), .val (.int (2 : Int32)), .val (.ref b4), .val (.int (0 : Int32)), .val (.int (0 : Int32))] [])) (fun _ k => XS.istore X24.here hx rfl (hb hby at_173) rfl (l' := #[.val (.int i), .val (.int j), .val (.int kk), .val (.int sa), .val (.int sb), .val (.int ra), .val (.int ia), .val (.int rb), .val (.int ib), .val (.ref b1), .val (.ref b4), .val (.int (2 : Int32)), .val (.ref b4), .val (.int (0 : Int32)), .val (.int (0 : Int32))]) rfl k) ?_
              refine own_st (T' := T24) (g' := (mkF m 177 #[.val (.int i), .val (.int j), .val (.int kk), .val (.int sa), .val (.int sb), .val (.int ra), .val (.int ia), .val (.int rb), .val (.int ib), .val (.ref b1), .val (.ref b4), .val (.int (2 : Int32)), .val (.ref b4), .val (.int (0 : Int32)), .val (.int (0 : Int32))] [(.int (0 : Int32))])) (fun _ k => XS.iload X24.here hx rfl (hb hby at_175) rfl k) ?_
              refine own_st (T' := T24) (g' := (mkF m 179 #[.val (.int i), .val (.int j), .val (.int kk), .val (.int sa), .val (.int sb), .val (.int ra), .val (.int ia), .val (.int rb), .val (.int ib), .val (.ref b1), .val (.ref b4), .val (.int (2 : Int32)), .val (.ref b4), .val (.int (0 : Int32)), .val (.int (0 : Int32))] [(.int (0 : Int32)), (.int (0 : Int32))])) (fun _ k => XS.iload X24.here hx rfl (hb hby at_177) rfl k) ?_
              refine own_st (T' := T24) (g' := (mkF m 184 #[.val (.int i), .val (.int j), .val (.int kk), .val (.int sa), .val (.int sb), .val (.int ra), .val (.int ia), .val (.int rb), .val (.int ib), .val (.ref b1), .val (.ref b4), .val (.int (2 : Int32)), .val (.ref b4), .val (.int (0 : Int32)), .val (.int (0 : Int32))] [])) (fun _ k => XS.icmpYes X24.here hx rfl (pc0 := 179) (pc' := 184) rfl (hb hby at_179) rfl (by decide) (by decide) (by decide) k) ?_
              refine own_st (T' := T24) (g' := (mkF m 186 #[.val (.int i), .val (.int j), .val (.int kk), .val (.int sa), .val (.int sb), .val (.int ra), .val (.int ia), .val (.int rb), .val (.int ib), .val (.ref b1), .val (.ref b4), .val (.int (2 : Int32)), .val (.ref b4), .val (.int (0 : Int32)), .val (.int (0 : Int32))] [(.ref b1)])) (fun _ k => XS.aload X24.here hx rfl (hb hby at_184) rfl rfl k) ?_
              refine own_st (T' := T24) (g' := (mkF m 188 #[.val (.int i), .val (.int j), .val (.int kk), .val (.int sa), .val (.int sb), .val (.int ra), .val (.int ia), .val (.int rb), .val (.int ib), .val (.ref b1), .val (.ref b4), .val (.int (2 : Int32)), .val (.ref b4), .val (.int (0 : Int32)), .val (.int (0 : Int32))] [(.ref b1), (.ref b1)])) (fun _ k => XS.aload X24.here hx rfl (hb hby at_186) rfl rfl k) ?_
              obtain ⟨T25, X25, e25, st25⟩ := own_pure (w := (.int (1 : Int32))) rfl rfl (own_gV X24 hx hZ hown (hw _ (List.mem_of_getElem? (i := 38) rfl)) (hw _ (List.mem_of_getElem? (i := 39) rfl)) (notFace_of_selects (args := #[]) (mvT hZ (hw _ (List.mem_of_getElem? (i := 41) rfl)))) (hw _ (List.mem_of_getElem? (i := 41) rfl)) (hw _ (List.mem_of_getElem? (i := 40) rfl)) (hw _ (List.mem_of_getElem? (i := 2) rfl)) (hw _ (List.mem_of_getElem? (i := 42) rfl)) (by decide) e24 E_b1 (own_eq_self l Z a0 hw T6.heap b1 s1 ra ia E_b1 F_source_b1 F_rollback_b1 F_inherited_b1) (by decide) (by decide) (by decide) (by decide) (Q := fun v h L => v = some (.int (1 : Int32)) ∧ L = [] ∧ h = T6.heap) (W := 0) (g := (mkF m 188 #[.val (.int i), .val (.int j), .val (.int kk), .val (.int sa), .val (.int sb), .val (.int ra), .val (.int ia), .val (.int rb), .val (.int ib), .val (.ref b1), .val (.ref b4), .val (.int (2 : Int32)), .val (.ref b4), .val (.int (0 : Int32)), .val (.int (0 : Int32))] [(.ref b1), (.ref b1)])) (argsL := [(.ref b1)]) (rest := []) rfl (by rw [hml]; rfl) (lenOf own_pd_5 rfl) rfl (by show 2 * 0 + _ ≤ _; exact Nat.le_of_eq rfl) (hb hby at_188))
              refine own_st (T' := T25) (g' := (mkF m 191 #[.val (.int i), .val (.int j), .val (.int kk), .val (.int sa), .val (.int sb), .val (.int ra), .val (.int ia), .val (.int rb), .val (.int ib), .val (.ref b1), .val (.ref b4), .val (.int (2 : Int32)), .val (.ref b4), .val (.int (0 : Int32)), .val (.int (0 : Int32))] [(.int (1 : Int32))])) st25 ?_
              refine own_st (T' := T25) (g' := (mkF m 196 #[.val (.int i), .val (.int j), .val (.int kk), .val (.int sa), .val (.int sb), .val (.int ra), .val (.int ia), .val (.int rb), .val (.int ib), .val (.ref b1), .val (.ref b4), .val (.int (2 : Int32)), .val (.ref b4), .val (.int (0 : Int32)), .val (.int (0 : Int32))] [])) (fun _ k => XS.ifYes X25.here hx rfl (pc0 := 191) (pc' := 196) rfl (hb hby at_191) rfl (by decide) (by decide) (by decide) k) ?_
              refine own_st (T' := T25) (g' := (mkF m 198 #[.val (.int i), .val (.int j), .val (.int kk), .val (.int sa), .val (.int sb), .val (.int ra), .val (.int ia), .val (.int rb), .val (.int ib), .val (.ref b1), .val (.ref b4), .val (.int (2 : Int32)), .val (.ref b4), .val (.int (0 : Int32)), .val (.int (0 : Int32))] [(.int (2 : Int32))])) (fun _ k => XS.iload X25.here hx rfl (hb hby at_196) rfl k) ?_
              refine own_st (T' := T25) (g' := (mkF m 199 #[.val (.int i), .val (.int j), .val (.int kk), .val (.int sa), .val (.int sb), .val (.int ra), .val (.int ia), .val (.int rb), .val (.int ib), .val (.ref b1), .val (.ref b4), .val (.int (2 : Int32)), .val (.ref b4), .val (.int (0 : Int32)), .val (.int (0 : Int32))] [(.int (2 : Int32)), (.int (2 : Int32))])) (fun _ k => XS.iconst X25.here hx rfl (hb hby at_198) k) ?_
              refine own_st (T' := T25) (g' := (mkF m 202 #[.val (.int i), .val (.int j), .val (.int kk), .val (.int sa), .val (.int sb), .val (.int ra), .val (.int ia), .val (.int rb), .val (.int ib), .val (.ref b1), .val (.ref b4), .val (.int (2 : Int32)), .val (.ref b4), .val (.int (0 : Int32)), .val (.int (0 : Int32))] [])) (fun _ k => XS.icmpNo X25.here hx rfl (hb hby at_199) rfl (by decide) k) ?_
              refine own_st (T' := T25) (g' := (mkF m 204 #[.val (.int i), .val (.int j), .val (.int kk), .val (.int sa), .val (.int sb), .val (.int ra), .val (.int ia), .val (.int rb), .val (.int ib), .val (.ref b1), .val (.ref b4), .val (.int (2 : Int32)), .val (.ref b4), .val (.int (0 : Int32)), .val (.int (0 : Int32))] [(.ref b4)])) (fun _ k => XS.aload X25.here hx rfl (hb hby at_202) rfl rfl k) ?_
              refine own_st (T' := T25) (g' := (mkF m 206 #[.val (.int i), .val (.int j), .val (.int kk), .val (.int sa), .val (.int sb), .val (.int ra), .val (.int ia), .val (.int rb), .val (.int ib), .val (.ref b1), .val (.ref b4), .val (.int (2 : Int32)), .val (.ref b4), .val (.int (0 : Int32)), .val (.int (0 : Int32))] [(.ref b1), (.ref b4)])) (fun _ k => XS.aload X25.here hx rfl (hb hby at_204) rfl rfl k) ?_
              obtain ⟨T26, X26, e26, st26⟩ := own_pure (w := (.int (0 : Int32))) rfl rfl (own_gV X25 hx hZ hown (hw _ (List.mem_of_getElem? (i := 38) rfl)) (hw _ (List.mem_of_getElem? (i := 39) rfl)) (notFace_of_selects (args := #[]) (mvT hZ (hw _ (List.mem_of_getElem? (i := 41) rfl)))) (hw _ (List.mem_of_getElem? (i := 41) rfl)) (hw _ (List.mem_of_getElem? (i := 40) rfl)) (hw _ (List.mem_of_getElem? (i := 2) rfl)) (hw _ (List.mem_of_getElem? (i := 42) rfl)) (by decide) e25 E_b4 (own_eq_s l Z a0 hw T6.heap b4 b1 s2 s1 rb ra ib ia E_b1 F_source_b4 F_rollback_b4 F_inherited_b4 F_source_b1 F_rollback_b1 F_inherited_b1 (Ne.symm (by rw [es1, es2]; exact own_src_ne hE csa csb hc142_12))) (by decide) (by decide) (by decide) (by decide) (Q := fun v h L => v = some (.int (0 : Int32)) ∧ L = [] ∧ h = T6.heap) (W := 0) (g := (mkF m 206 #[.val (.int i), .val (.int j), .val (.int kk), .val (.int sa), .val (.int sb), .val (.int ra), .val (.int ia), .val (.int rb), .val (.int ib), .val (.ref b1), .val (.ref b4), .val (.int (2 : Int32)), .val (.ref b4), .val (.int (0 : Int32)), .val (.int (0 : Int32))] [(.ref b1), (.ref b4)])) (argsL := [(.ref b1)]) (rest := []) rfl (by rw [hml]; rfl) (lenOf own_pd_5 rfl) rfl (by show 2 * 0 + _ ≤ _; exact Nat.le_of_eq rfl) (hb hby at_206))
              refine own_st (T' := T26) (g' := (mkF m 209 #[.val (.int i), .val (.int j), .val (.int kk), .val (.int sa), .val (.int sb), .val (.int ra), .val (.int ia), .val (.int rb), .val (.int ib), .val (.ref b1), .val (.ref b4), .val (.int (2 : Int32)), .val (.ref b4), .val (.int (0 : Int32)), .val (.int (0 : Int32))] [(.int (0 : Int32))])) st26 ?_
              refine own_st (T' := T26) (g' := (mkF m 211 #[.val (.int i), .val (.int j), .val (.int kk), .val (.int sa), .val (.int sb), .val (.int ra), .val (.int ia), .val (.int rb), .val (.int ib), .val (.ref b1), .val (.ref b4), .val (.int (2 : Int32)), .val (.ref b4), .val (.int (0 : Int32)), .val (.int (0 : Int32))] [(.int (0 : Int32)), (.int (0 : Int32))])) (fun _ k => XS.iload X26.here hx rfl (hb hby at_209) rfl k) ?_
              refine own_st (T' := T26) (g' := (mkF m 216 #[.val (.int i), .val (.int j), .val (.int kk), .val (.int sa), .val (.int sb), .val (.int ra), .val (.int ia), .val (.int rb), .val (.int ib), .val (.ref b1), .val (.ref b4), .val (.int (2 : Int32)), .val (.ref b4), .val (.int (0 : Int32)), .val (.int (0 : Int32))] [])) (fun _ k => XS.icmpYes X26.here hx rfl (pc0 := 211) (pc' := 216) rfl (hb hby at_211) rfl (by decide) (by decide) (by decide) k) ?_
              refine own_st (T' := T26) (g' := (mkF m 217 #[.val (.int i), .val (.int j), .val (.int kk), .val (.int sa), .val (.int sb), .val (.int ra), .val (.int ia), .val (.int rb), .val (.int ib), .val (.ref b1), .val (.ref b4), .val (.int (2 : Int32)), .val (.ref b4), .val (.int (0 : Int32)), .val (.int (0 : Int32))] [(.int (1 : Int32))])) (fun _ k => XS.iconst X26.here hx rfl (hb hby at_216) k) ?_
              exact own_retW X26 hx hlk hS (by rw [e26]; exact hk) hret rfl (Or.inl ⟨rfl, Or.inr (Or.inl rfl), _, rfl⟩) (hb hby at_217) (by decide) (by decide) ⟨rfl, Nf⟩
          ·
            rw [hE9]
            refine own_st (T' := T6) (g' := (mkF m 103 #[.val (.int i), .val (.int j), .val (.int kk), .val (.int sa), .val (.int sb), .val (.int ra), .val (.int ia), .val (.int rb), .val (.int ib), .val (.ref b1), .val (.ref b4), .val (.int (3 : Int32)), .unset, .unset, .unset] [])) (fun _ k => XS.istore X6.here hx rfl (hb hby at_101) rfl (l' := #[.val (.int i), .val (.int j), .val (.int kk), .val (.int sa), .val (.int sb), .val (.int ra), .val (.int ia), .val (.int rb), .val (.int ib), .val (.ref b1), .val (.ref b4), .val (.int (3 : Int32)), .unset, .unset, .unset]) rfl k) ?_
            refine own_st (T' := T6) (g' := (mkF m 105 #[.val (.int i), .val (.int j), .val (.int kk), .val (.int sa), .val (.int sb), .val (.int ra), .val (.int ia), .val (.int rb), .val (.int ib), .val (.ref b1), .val (.ref b4), .val (.int (3 : Int32)), .unset, .unset, .unset] [(.int (3 : Int32))])) (fun _ k => XS.iload X6.here hx rfl (hb hby at_103) rfl k) ?_
            refine own_st (T' := T6) (g' := (mkF m 114 #[.val (.int i), .val (.int j), .val (.int kk), .val (.int sa), .val (.int sb), .val (.int ra), .val (.int ia), .val (.int rb), .val (.int ib), .val (.ref b1), .val (.ref b4), .val (.int (3 : Int32)), .unset, .unset, .unset] [])) (fun _ k => XS.ifYes X6.here hx rfl (pc0 := 105) (pc' := 114) rfl (hb hby at_105) rfl (by decide) (by decide) (by decide) k) ?_
            refine own_st (T' := T6) (g' := (mkF m 116 #[.val (.int i), .val (.int j), .val (.int kk), .val (.int sa), .val (.int sb), .val (.int ra), .val (.int ia), .val (.int rb), .val (.int ib), .val (.ref b1), .val (.ref b4), .val (.int (3 : Int32)), .unset, .unset, .unset] [(.int (3 : Int32))])) (fun _ k => XS.iload X6.here hx rfl (hb hby at_114) rfl k) ?_
            refine own_st (T' := T6) (g' := (mkF m 117 #[.val (.int i), .val (.int j), .val (.int kk), .val (.int sa), .val (.int sb), .val (.int ra), .val (.int ia), .val (.int rb), .val (.int ib), .val (.ref b1), .val (.ref b4), .val (.int (3 : Int32)), .unset, .unset, .unset] [(.int (1 : Int32)), (.int (3 : Int32))])) (fun _ k => XS.iconst X6.here hx rfl (hb hby at_116) k) ?_
            refine own_st (T' := T6) (g' := (mkF m 129 #[.val (.int i), .val (.int j), .val (.int kk), .val (.int sa), .val (.int sb), .val (.int ra), .val (.int ia), .val (.int rb), .val (.int ib), .val (.ref b1), .val (.ref b4), .val (.int (3 : Int32)), .unset, .unset, .unset] [])) (fun _ k => XS.icmpYes X6.here hx rfl (pc0 := 117) (pc' := 129) rfl (hb hby at_117) rfl (by decide) (by decide) (by decide) k) ?_
            refine own_st (T' := T6) (g' := (mkF m 131 #[.val (.int i), .val (.int j), .val (.int kk), .val (.int sa), .val (.int sb), .val (.int ra), .val (.int ia), .val (.int rb), .val (.int ib), .val (.ref b1), .val (.ref b4), .val (.int (3 : Int32)), .unset, .unset, .unset] [(.ref b4)])) (fun _ k => XS.aload X6.here hx rfl (hb hby at_129) rfl rfl k) ?_
            refine own_st (T' := T6) (g' := (mkF m 133 #[.val (.int i), .val (.int j), .val (.int kk), .val (.int sa), .val (.int sb), .val (.int ra), .val (.int ia), .val (.int rb), .val (.int ib), .val (.ref b1), .val (.ref b4), .val (.int (3 : Int32)), .val (.ref b4), .unset, .unset] [])) (fun _ k => XS.astore X6.here hx rfl (hb hby at_131) rfl rfl (l' := #[.val (.int i), .val (.int j), .val (.int kk), .val (.int sa), .val (.int sb), .val (.int ra), .val (.int ia), .val (.int rb), .val (.int ib), .val (.ref b1), .val (.ref b4), .val (.int (3 : Int32)), .val (.ref b4), .unset, .unset]) rfl k) ?_
            refine own_st (T' := T6) (g' := (mkF m 135 #[.val (.int i), .val (.int j), .val (.int kk), .val (.int sa), .val (.int sb), .val (.int ra), .val (.int ia), .val (.int rb), .val (.int ib), .val (.ref b1), .val (.ref b4), .val (.int (3 : Int32)), .val (.ref b4), .unset, .unset] [(.int (3 : Int32))])) (fun _ k => XS.iload X6.here hx rfl (hb hby at_133) rfl k) ?_
            refine own_st (T' := T6) (g' := (mkF m 136 #[.val (.int i), .val (.int j), .val (.int kk), .val (.int sa), .val (.int sb), .val (.int ra), .val (.int ia), .val (.int rb), .val (.int ib), .val (.ref b1), .val (.ref b4), .val (.int (3 : Int32)), .val (.ref b4), .unset, .unset] [(.int (2 : Int32)), (.int (3 : Int32))])) (fun _ k => XS.iconst X6.here hx rfl (hb hby at_135) k) ?_
            refine own_st (T' := T6) (g' := (mkF m 139 #[.val (.int i), .val (.int j), .val (.int kk), .val (.int sa), .val (.int sb), .val (.int ra), .val (.int ia), .val (.int rb), .val (.int ib), .val (.ref b1), .val (.ref b4), .val (.int (3 : Int32)), .val (.ref b4), .unset, .unset] [])) (fun _ k => XS.icmpNo X6.here hx rfl (hb hby at_136) rfl (by decide) k) ?_
            refine own_st (T' := T6) (g' := (mkF m 140 #[.val (.int i), .val (.int j), .val (.int kk), .val (.int sa), .val (.int sb), .val (.int ra), .val (.int ia), .val (.int rb), .val (.int ib), .val (.ref b1), .val (.ref b4), .val (.int (3 : Int32)), .val (.ref b4), .unset, .unset] [(.int sa)])) (fun _ k => XS.iloadN X6.here hx rfl (hb hby at_139) rfl k) ?_
            refine own_st (T' := T6) (g' := (mkF m 142 #[.val (.int i), .val (.int j), .val (.int kk), .val (.int sa), .val (.int sb), .val (.int ra), .val (.int ia), .val (.int rb), .val (.int ib), .val (.ref b1), .val (.ref b4), .val (.int (3 : Int32)), .val (.ref b4), .unset, .unset] [(.int sb), (.int sa)])) (fun _ k => XS.iload X6.here hx rfl (hb hby at_140) rfl k) ?_
            by_cases hc142_27 : sa = sb
            ·
              refine own_st (T' := T6) (g' := (mkF m 145 #[.val (.int i), .val (.int j), .val (.int kk), .val (.int sa), .val (.int sb), .val (.int ra), .val (.int ia), .val (.int rb), .val (.int ib), .val (.ref b1), .val (.ref b4), .val (.int (3 : Int32)), .val (.ref b4), .unset, .unset] [])) (fun _ k => XS.icmpNo X6.here hx rfl (hb hby at_142) rfl (teq hc142_27).2 k) ?_
              refine own_st (T' := T6) (g' := (mkF m 147 #[.val (.int i), .val (.int j), .val (.int kk), .val (.int sa), .val (.int sb), .val (.int ra), .val (.int ia), .val (.int rb), .val (.int ib), .val (.ref b1), .val (.ref b4), .val (.int (3 : Int32)), .val (.ref b4), .unset, .unset] [(.int ra)])) (fun _ k => XS.iload X6.here hx rfl (hb hby at_145) rfl k) ?_
              refine own_st (T' := T6) (g' := (mkF m 149 #[.val (.int i), .val (.int j), .val (.int kk), .val (.int sa), .val (.int sb), .val (.int ra), .val (.int ia), .val (.int rb), .val (.int ib), .val (.ref b1), .val (.ref b4), .val (.int (3 : Int32)), .val (.ref b4), .unset, .unset] [(.int rb), (.int ra)])) (fun _ k => XS.iload X6.here hx rfl (hb hby at_147) rfl k) ?_
              by_cases hc149_28 : ra = rb
              ·
                refine own_st (T' := T6) (g' := (mkF m 152 #[.val (.int i), .val (.int j), .val (.int kk), .val (.int sa), .val (.int sb), .val (.int ra), .val (.int ia), .val (.int rb), .val (.int ib), .val (.ref b1), .val (.ref b4), .val (.int (3 : Int32)), .val (.ref b4), .unset, .unset] [])) (fun _ k => XS.icmpNo X6.here hx rfl (hb hby at_149) rfl (teq hc149_28).2 k) ?_
                refine own_st (T' := T6) (g' := (mkF m 154 #[.val (.int i), .val (.int j), .val (.int kk), .val (.int sa), .val (.int sb), .val (.int ra), .val (.int ia), .val (.int rb), .val (.int ib), .val (.ref b1), .val (.ref b4), .val (.int (3 : Int32)), .val (.ref b4), .unset, .unset] [(.int ia)])) (fun _ k => XS.iload X6.here hx rfl (hb hby at_152) rfl k) ?_
                refine own_st (T' := T6) (g' := (mkF m 156 #[.val (.int i), .val (.int j), .val (.int kk), .val (.int sa), .val (.int sb), .val (.int ra), .val (.int ia), .val (.int rb), .val (.int ib), .val (.ref b1), .val (.ref b4), .val (.int (3 : Int32)), .val (.ref b4), .unset, .unset] [(.int ib), (.int ia)])) (fun _ k => XS.iload X6.here hx rfl (hb hby at_154) rfl k) ?_
                by_cases hc156_29 : ia = ib
                ·
                  refine own_st (T' := T6) (g' := (mkF m 159 #[.val (.int i), .val (.int j), .val (.int kk), .val (.int sa), .val (.int sb), .val (.int ra), .val (.int ia), .val (.int rb), .val (.int ib), .val (.ref b1), .val (.ref b4), .val (.int (3 : Int32)), .val (.ref b4), .unset, .unset] [])) (fun _ k => XS.icmpNo X6.here hx rfl (hb hby at_156) rfl (teq hc156_29).2 k) ?_
                  refine own_st (T' := T6) (g' := (mkF m 160 #[.val (.int i), .val (.int j), .val (.int kk), .val (.int sa), .val (.int sb), .val (.int ra), .val (.int ia), .val (.int rb), .val (.int ib), .val (.ref b1), .val (.ref b4), .val (.int (3 : Int32)), .val (.ref b4), .unset, .unset] [(.int (1 : Int32))])) (fun _ k => XS.iconst X6.here hx rfl (hb hby at_159) k) ?_
                  refine own_st (T' := T6) (g' := (mkF m 164 #[.val (.int i), .val (.int j), .val (.int kk), .val (.int sa), .val (.int sb), .val (.int ra), .val (.int ia), .val (.int rb), .val (.int ib), .val (.ref b1), .val (.ref b4), .val (.int (3 : Int32)), .val (.ref b4), .unset, .unset] [(.int (1 : Int32))])) (fun _ k => XS.goto X6.here hx rfl (pc0 := 160) (pc' := 164) rfl (hb hby at_160) (by decide) (by decide) k) ?_
                  refine own_st (T' := T6) (g' := (mkF m 166 #[.val (.int i), .val (.int j), .val (.int kk), .val (.int sa), .val (.int sb), .val (.int ra), .val (.int ia), .val (.int rb), .val (.int ib), .val (.ref b1), .val (.ref b4), .val (.int (3 : Int32)), .val (.ref b4), .val (.int (1 : Int32)), .unset] [])) (fun _ k => XS.istore X6.here hx rfl (hb hby at_164) rfl (l' := #[.val (.int i), .val (.int j), .val (.int kk), .val (.int sa), .val (.int sb), .val (.int ra), .val (.int ia), .val (.int rb), .val (.int ib), .val (.ref b1), .val (.ref b4), .val (.int (3 : Int32)), .val (.ref b4), .val (.int (1 : Int32)), .unset]) rfl k) ?_
                  refine own_st (T' := T6) (g' := (mkF m 168 #[.val (.int i), .val (.int j), .val (.int kk), .val (.int sa), .val (.int sb), .val (.int ra), .val (.int ia), .val (.int rb), .val (.int ib), .val (.ref b1), .val (.ref b4), .val (.int (3 : Int32)), .val (.ref b4), .val (.int (1 : Int32)), .unset] [(.ref b1)])) (fun _ k => XS.aload X6.here hx rfl (hb hby at_166) rfl rfl k) ?_
                  refine own_st (T' := T6) (g' := (mkF m 170 #[.val (.int i), .val (.int j), .val (.int kk), .val (.int sa), .val (.int sb), .val (.int ra), .val (.int ia), .val (.int rb), .val (.int ib), .val (.ref b1), .val (.ref b4), .val (.int (3 : Int32)), .val (.ref b4), .val (.int (1 : Int32)), .unset] [(.ref b4), (.ref b1)])) (fun _ k => XS.aload X6.here hx rfl (hb hby at_168) rfl rfl k) ?_
                  obtain ⟨T30, X30, e30, st30⟩ := own_pure (w := (.int (1 : Int32))) rfl rfl (own_gV X6 hx hZ hown (hw _ (List.mem_of_getElem? (i := 38) rfl)) (hw _ (List.mem_of_getElem? (i := 39) rfl)) (notFace_of_selects (args := #[]) (mvT hZ (hw _ (List.mem_of_getElem? (i := 41) rfl)))) (hw _ (List.mem_of_getElem? (i := 41) rfl)) (hw _ (List.mem_of_getElem? (i := 40) rfl)) (hw _ (List.mem_of_getElem? (i := 2) rfl)) (hw _ (List.mem_of_getElem? (i := 42) rfl)) (by decide) rfl E_b1 (own_eq_all l Z a0 hw T6.heap b1 b4 s1 s2 ra rb ia ib E_b4 F_source_b1 F_rollback_b1 F_inherited_b1 F_source_b4 F_rollback_b4 F_inherited_b4 (by rw [es1, es2, hc142_27]) hc149_28 hc156_29) (by decide) (by decide) (by decide) (by decide) (Q := fun v h L => v = some (.int (1 : Int32)) ∧ L = [] ∧ h = T6.heap) (W := 0) (g := (mkF m 170 #[.val (.int i), .val (.int j), .val (.int kk), .val (.int sa), .val (.int sb), .val (.int ra), .val (.int ia), .val (.int rb), .val (.int ib), .val (.ref b1), .val (.ref b4), .val (.int (3 : Int32)), .val (.ref b4), .val (.int (1 : Int32)), .unset] [(.ref b4), (.ref b1)])) (argsL := [(.ref b4)]) (rest := []) rfl (by rw [hml]; rfl) (lenOf own_pd_5 rfl) rfl (by show 2 * 0 + _ ≤ _; exact Nat.le_of_eq rfl) (hb hby at_170))
                  refine own_st (T' := T30) (g' := (mkF m 173 #[.val (.int i), .val (.int j), .val (.int kk), .val (.int sa), .val (.int sb), .val (.int ra), .val (.int ia), .val (.int rb), .val (.int ib), .val (.ref b1), .val (.ref b4), .val (.int (3 : Int32)), .val (.ref b4), .val (.int (1 : Int32)), .unset] [(.int (1 : Int32))])) st30 ?_
                  refine own_st (T' := T30) (g' := (mkF m 175 #[.val (.int i), .val (.int j), .val (.int kk), .val (.int sa), .val (.int sb), .val (.int ra), .val (.int ia), .val (.int rb), .val (.int ib), .val (.ref b1), .val (.ref b4), .val (.int (3 : Int32)), .val (.ref b4), .val (.int (1 : Int32)), .val (.int (1 : Int32))] [])) (fun _ k => XS.istore X30.here hx rfl (hb hby at_173) rfl (l' := #[.val (.int i), .val (.int j), .val (.int kk), .val (.int sa), .val (.int sb), .val (.int ra), .val (.int ia), .val (.int rb), .val (.int ib), .val (.ref b1), .val (.ref b4), .val (.int (3 : Int32)), .val (.ref b4), .val (.int (1 : Int32)), .val (.int (1 : Int32))]) rfl k) ?_
                  refine own_st (T' := T30) (g' := (mkF m 177 #[.val (.int i), .val (.int j), .val (.int kk), .val (.int sa), .val (.int sb), .val (.int ra), .val (.int ia), .val (.int rb), .val (.int ib), .val (.ref b1), .val (.ref b4), .val (.int (3 : Int32)), .val (.ref b4), .val (.int (1 : Int32)), .val (.int (1 : Int32))] [(.int (1 : Int32))])) (fun _ k => XS.iload X30.here hx rfl (hb hby at_175) rfl k) ?_
                  refine own_st (T' := T30) (g' := (mkF m 179 #[.val (.int i), .val (.int j), .val (.int kk), .val (.int sa), .val (.int sb), .val (.int ra), .val (.int ia), .val (.int rb), .val (.int ib), .val (.ref b1), .val (.ref b4), .val (.int (3 : Int32)), .val (.ref b4), .val (.int (1 : Int32)), .val (.int (1 : Int32))] [(.int (1 : Int32)), (.int (1 : Int32))])) (fun _ k => XS.iload X30.here hx rfl (hb hby at_177) rfl k) ?_
                  refine own_st (T' := T30) (g' := (mkF m 184 #[.val (.int i), .val (.int j), .val (.int kk), .val (.int sa), .val (.int sb), .val (.int ra), .val (.int ia), .val (.int rb), .val (.int ib), .val (.ref b1), .val (.ref b4), .val (.int (3 : Int32)), .val (.ref b4), .val (.int (1 : Int32)), .val (.int (1 : Int32))] [])) (fun _ k => XS.icmpYes X30.here hx rfl (pc0 := 179) (pc' := 184) rfl (hb hby at_179) rfl (by decide) (by decide) (by decide) k) ?_
                  refine own_st (T' := T30) (g' := (mkF m 186 #[.val (.int i), .val (.int j), .val (.int kk), .val (.int sa), .val (.int sb), .val (.int ra), .val (.int ia), .val (.int rb), .val (.int ib), .val (.ref b1), .val (.ref b4), .val (.int (3 : Int32)), .val (.ref b4), .val (.int (1 : Int32)), .val (.int (1 : Int32))] [(.ref b1)])) (fun _ k => XS.aload X30.here hx rfl (hb hby at_184) rfl rfl k) ?_
                  refine own_st (T' := T30) (g' := (mkF m 188 #[.val (.int i), .val (.int j), .val (.int kk), .val (.int sa), .val (.int sb), .val (.int ra), .val (.int ia), .val (.int rb), .val (.int ib), .val (.ref b1), .val (.ref b4), .val (.int (3 : Int32)), .val (.ref b4), .val (.int (1 : Int32)), .val (.int (1 : Int32))] [(.ref b1), (.ref b1)])) (fun _ k => XS.aload X30.here hx rfl (hb hby at_186) rfl rfl k) ?_
                  obtain ⟨T31, X31, e31, st31⟩ := own_pure (w := (.int (1 : Int32))) rfl rfl (own_gV X30 hx hZ hown (hw _ (List.mem_of_getElem? (i := 38) rfl)) (hw _ (List.mem_of_getElem? (i := 39) rfl)) (notFace_of_selects (args := #[]) (mvT hZ (hw _ (List.mem_of_getElem? (i := 41) rfl)))) (hw _ (List.mem_of_getElem? (i := 41) rfl)) (hw _ (List.mem_of_getElem? (i := 40) rfl)) (hw _ (List.mem_of_getElem? (i := 2) rfl)) (hw _ (List.mem_of_getElem? (i := 42) rfl)) (by decide) e30 E_b1 (own_eq_self l Z a0 hw T6.heap b1 s1 ra ia E_b1 F_source_b1 F_rollback_b1 F_inherited_b1) (by decide) (by decide) (by decide) (by decide) (Q := fun v h L => v = some (.int (1 : Int32)) ∧ L = [] ∧ h = T6.heap) (W := 0) (g := (mkF m 188 #[.val (.int i), .val (.int j), .val (.int kk), .val (.int sa), .val (.int sb), .val (.int ra), .val (.int ia), .val (.int rb), .val (.int ib), .val (.ref b1), .val (.ref b4), .val (.int (3 : Int32)), .val (.ref b4), .val (.int (1 : Int32)), .val (.int (1 : Int32))] [(.ref b1), (.ref b1)])) (argsL := [(.ref b1)]) (rest := []) rfl (by rw [hml]; rfl) (lenOf own_pd_5 rfl) rfl (by show 2 * 0 + _ ≤ _; exact Nat.le_of_eq rfl) (hb hby at_188))
                  refine own_st (T' := T31) (g' := (mkF m 191 #[.val (.int i), .val (.int j), .val (.int kk), .val (.int sa), .val (.int sb), .val (.int ra), .val (.int ia), .val (.int rb), .val (.int ib), .val (.ref b1), .val (.ref b4), .val (.int (3 : Int32)), .val (.ref b4), .val (.int (1 : Int32)), .val (.int (1 : Int32))] [(.int (1 : Int32))])) st31 ?_
                  refine own_st (T' := T31) (g' := (mkF m 196 #[.val (.int i), .val (.int j), .val (.int kk), .val (.int sa), .val (.int sb), .val (.int ra), .val (.int ia), .val (.int rb), .val (.int ib), .val (.ref b1), .val (.ref b4), .val (.int (3 : Int32)), .val (.ref b4), .val (.int (1 : Int32)), .val (.int (1 : Int32))] [])) (fun _ k => XS.ifYes X31.here hx rfl (pc0 := 191) (pc' := 196) rfl (hb hby at_191) rfl (by decide) (by decide) (by decide) k) ?_
                  refine own_st (T' := T31) (g' := (mkF m 198 #[.val (.int i), .val (.int j), .val (.int kk), .val (.int sa), .val (.int sb), .val (.int ra), .val (.int ia), .val (.int rb), .val (.int ib), .val (.ref b1), .val (.ref b4), .val (.int (3 : Int32)), .val (.ref b4), .val (.int (1 : Int32)), .val (.int (1 : Int32))] [(.int (3 : Int32))])) (fun _ k => XS.iload X31.here hx rfl (hb hby at_196) rfl k) ?_
                  refine own_st (T' := T31) (g' := (mkF m 199 #[.val (.int i), .val (.int j), .val (.int kk), .val (.int sa), .val (.int sb), .val (.int ra), .val (.int ia), .val (.int rb), .val (.int ib), .val (.ref b1), .val (.ref b4), .val (.int (3 : Int32)), .val (.ref b4), .val (.int (1 : Int32)), .val (.int (1 : Int32))] [(.int (2 : Int32)), (.int (3 : Int32))])) (fun _ k => XS.iconst X31.here hx rfl (hb hby at_198) k) ?_
                  refine own_st (T' := T31) (g' := (mkF m 202 #[.val (.int i), .val (.int j), .val (.int kk), .val (.int sa), .val (.int sb), .val (.int ra), .val (.int ia), .val (.int rb), .val (.int ib), .val (.ref b1), .val (.ref b4), .val (.int (3 : Int32)), .val (.ref b4), .val (.int (1 : Int32)), .val (.int (1 : Int32))] [])) (fun _ k => XS.icmpNo X31.here hx rfl (hb hby at_199) rfl (by decide) k) ?_
                  refine own_st (T' := T31) (g' := (mkF m 204 #[.val (.int i), .val (.int j), .val (.int kk), .val (.int sa), .val (.int sb), .val (.int ra), .val (.int ia), .val (.int rb), .val (.int ib), .val (.ref b1), .val (.ref b4), .val (.int (3 : Int32)), .val (.ref b4), .val (.int (1 : Int32)), .val (.int (1 : Int32))] [(.ref b4)])) (fun _ k => XS.aload X31.here hx rfl (hb hby at_202) rfl rfl k) ?_
                  refine own_st (T' := T31) (g' := (mkF m 206 #[.val (.int i), .val (.int j), .val (.int kk), .val (.int sa), .val (.int sb), .val (.int ra), .val (.int ia), .val (.int rb), .val (.int ib), .val (.ref b1), .val (.ref b4), .val (.int (3 : Int32)), .val (.ref b4), .val (.int (1 : Int32)), .val (.int (1 : Int32))] [(.ref b1), (.ref b4)])) (fun _ k => XS.aload X31.here hx rfl (hb hby at_204) rfl rfl k) ?_
                  obtain ⟨T32, X32, e32, st32⟩ := own_pure (w := (.int (1 : Int32))) rfl rfl (own_gV X31 hx hZ hown (hw _ (List.mem_of_getElem? (i := 38) rfl)) (hw _ (List.mem_of_getElem? (i := 39) rfl)) (notFace_of_selects (args := #[]) (mvT hZ (hw _ (List.mem_of_getElem? (i := 41) rfl)))) (hw _ (List.mem_of_getElem? (i := 41) rfl)) (hw _ (List.mem_of_getElem? (i := 40) rfl)) (hw _ (List.mem_of_getElem? (i := 2) rfl)) (hw _ (List.mem_of_getElem? (i := 42) rfl)) (by decide) e31 E_b4 (own_eq_all l Z a0 hw T6.heap b4 b1 s2 s1 rb ra ib ia E_b1 F_source_b4 F_rollback_b4 F_inherited_b4 F_source_b1 F_rollback_b1 F_inherited_b1 (Eq.symm (by rw [es1, es2, hc142_27])) (Eq.symm hc149_28) (Eq.symm hc156_29)) (by decide) (by decide) (by decide) (by decide) (Q := fun v h L => v = some (.int (1 : Int32)) ∧ L = [] ∧ h = T6.heap) (W := 0) (g := (mkF m 206 #[.val (.int i), .val (.int j), .val (.int kk), .val (.int sa), .val (.int sb), .val (.int ra), .val (.int ia), .val (.int rb), .val (.int ib), .val (.ref b1), .val (.ref b4), .val (.int (3 : Int32)), .val (.ref b4), .val (.int (1 : Int32)), .val (.int (1 : Int32))] [(.ref b1), (.ref b4)])) (argsL := [(.ref b1)]) (rest := []) rfl (by rw [hml]; rfl) (lenOf own_pd_5 rfl) rfl (by show 2 * 0 + _ ≤ _; exact Nat.le_of_eq rfl) (hb hby at_206))
                  refine own_st (T' := T32) (g' := (mkF m 209 #[.val (.int i), .val (.int j), .val (.int kk), .val (.int sa), .val (.int sb), .val (.int ra), .val (.int ia), .val (.int rb), .val (.int ib), .val (.ref b1), .val (.ref b4), .val (.int (3 : Int32)), .val (.ref b4), .val (.int (1 : Int32)), .val (.int (1 : Int32))] [(.int (1 : Int32))])) st32 ?_
                  refine own_st (T' := T32) (g' := (mkF m 211 #[.val (.int i), .val (.int j), .val (.int kk), .val (.int sa), .val (.int sb), .val (.int ra), .val (.int ia), .val (.int rb), .val (.int ib), .val (.ref b1), .val (.ref b4), .val (.int (3 : Int32)), .val (.ref b4), .val (.int (1 : Int32)), .val (.int (1 : Int32))] [(.int (1 : Int32)), (.int (1 : Int32))])) (fun _ k => XS.iload X32.here hx rfl (hb hby at_209) rfl k) ?_
                  refine own_st (T' := T32) (g' := (mkF m 216 #[.val (.int i), .val (.int j), .val (.int kk), .val (.int sa), .val (.int sb), .val (.int ra), .val (.int ia), .val (.int rb), .val (.int ib), .val (.ref b1), .val (.ref b4), .val (.int (3 : Int32)), .val (.ref b4), .val (.int (1 : Int32)), .val (.int (1 : Int32))] [])) (fun _ k => XS.icmpYes X32.here hx rfl (pc0 := 211) (pc' := 216) rfl (hb hby at_211) rfl (by decide) (by decide) (by decide) k) ?_
                  refine own_st (T' := T32) (g' := (mkF m 217 #[.val (.int i), .val (.int j), .val (.int kk), .val (.int sa), .val (.int sb), .val (.int ra), .val (.int ia), .val (.int rb), .val (.int ib), .val (.ref b1), .val (.ref b4), .val (.int (3 : Int32)), .val (.ref b4), .val (.int (1 : Int32)), .val (.int (1 : Int32))] [(.int (1 : Int32))])) (fun _ k => XS.iconst X32.here hx rfl (hb hby at_216) k) ?_
                  exact own_retW X32 hx hlk hS (by rw [e32]; exact hk) hret rfl (Or.inl ⟨rfl, Or.inr (Or.inl rfl), _, rfl⟩) (hb hby at_217) (by decide) (by decide) ⟨rfl, Nf⟩
                ·
                  refine own_st (T' := T6) (g' := (mkF m 163 #[.val (.int i), .val (.int j), .val (.int kk), .val (.int sa), .val (.int sb), .val (.int ra), .val (.int ia), .val (.int rb), .val (.int ib), .val (.ref b1), .val (.ref b4), .val (.int (3 : Int32)), .val (.ref b4), .unset, .unset] [])) (fun _ k => XS.icmpYes X6.here hx rfl (pc0 := 156) (pc' := 163) rfl (hb hby at_156) rfl (feq hc156_29).2 (by decide) (by decide) k) ?_
                  refine own_st (T' := T6) (g' := (mkF m 164 #[.val (.int i), .val (.int j), .val (.int kk), .val (.int sa), .val (.int sb), .val (.int ra), .val (.int ia), .val (.int rb), .val (.int ib), .val (.ref b1), .val (.ref b4), .val (.int (3 : Int32)), .val (.ref b4), .unset, .unset] [(.int (0 : Int32))])) (fun _ k => XS.iconst X6.here hx rfl (hb hby at_163) k) ?_
                  refine own_st (T' := T6) (g' := (mkF m 166 #[.val (.int i), .val (.int j), .val (.int kk), .val (.int sa), .val (.int sb), .val (.int ra), .val (.int ia), .val (.int rb), .val (.int ib), .val (.ref b1), .val (.ref b4), .val (.int (3 : Int32)), .val (.ref b4), .val (.int (0 : Int32)), .unset] [])) (fun _ k => XS.istore X6.here hx rfl (hb hby at_164) rfl (l' := #[.val (.int i), .val (.int j), .val (.int kk), .val (.int sa), .val (.int sb), .val (.int ra), .val (.int ia), .val (.int rb), .val (.int ib), .val (.ref b1), .val (.ref b4), .val (.int (3 : Int32)), .val (.ref b4), .val (.int (0 : Int32)), .unset]) rfl k) ?_
                  refine own_st (T' := T6) (g' := (mkF m 168 #[.val (.int i), .val (.int j), .val (.int kk), .val (.int sa), .val (.int sb), .val (.int ra), .val (.int ia), .val (.int rb), .val (.int ib), .val (.ref b1), .val (.ref b4), .val (.int (3 : Int32)), .val (.ref b4), .val (.int (0 : Int32)), .unset] [(.ref b1)])) (fun _ k => XS.aload X6.here hx rfl (hb hby at_166) rfl rfl k) ?_
                  refine own_st (T' := T6) (g' := (mkF m 170 #[.val (.int i), .val (.int j), .val (.int kk), .val (.int sa), .val (.int sb), .val (.int ra), .val (.int ia), .val (.int rb), .val (.int ib), .val (.ref b1), .val (.ref b4), .val (.int (3 : Int32)), .val (.ref b4), .val (.int (0 : Int32)), .unset] [(.ref b4), (.ref b1)])) (fun _ k => XS.aload X6.here hx rfl (hb hby at_168) rfl rfl k) ?_
                  obtain ⟨T33, X33, e33, st33⟩ := own_pure (w := (.int (0 : Int32))) rfl rfl (own_gV X6 hx hZ hown (hw _ (List.mem_of_getElem? (i := 38) rfl)) (hw _ (List.mem_of_getElem? (i := 39) rfl)) (notFace_of_selects (args := #[]) (mvT hZ (hw _ (List.mem_of_getElem? (i := 41) rfl)))) (hw _ (List.mem_of_getElem? (i := 41) rfl)) (hw _ (List.mem_of_getElem? (i := 40) rfl)) (hw _ (List.mem_of_getElem? (i := 2) rfl)) (hw _ (List.mem_of_getElem? (i := 42) rfl)) (by decide) rfl E_b1 (own_eq_i l Z a0 hw T6.heap b1 b4 s1 s2 ra rb ia ib E_b4 F_source_b1 F_rollback_b1 F_inherited_b1 F_source_b4 F_rollback_b4 F_inherited_b4 (by rw [es1, es2, hc142_27]) hc149_28 hc156_29) (by decide) (by decide) (by decide) (by decide) (Q := fun v h L => v = some (.int (0 : Int32)) ∧ L = [] ∧ h = T6.heap) (W := 0) (g := (mkF m 170 #[.val (.int i), .val (.int j), .val (.int kk), .val (.int sa), .val (.int sb), .val (.int ra), .val (.int ia), .val (.int rb), .val (.int ib), .val (.ref b1), .val (.ref b4), .val (.int (3 : Int32)), .val (.ref b4), .val (.int (0 : Int32)), .unset] [(.ref b4), (.ref b1)])) (argsL := [(.ref b4)]) (rest := []) rfl (by rw [hml]; rfl) (lenOf own_pd_5 rfl) rfl (by show 2 * 0 + _ ≤ _; exact Nat.le_of_eq rfl) (hb hby at_170))
                  refine own_st (T' := T33) (g' := (mkF m 173 #[.val (.int i), .val (.int j), .val (.int kk), .val (.int sa), .val (.int sb), .val (.int ra), .val (.int ia), .val (.int rb), .val (.int ib), .val (.ref b1), .val (.ref b4), .val (.int (3 : Int32)), .val (.ref b4), .val (.int (0 : Int32)), .unset] [(.int (0 : Int32))])) st33 ?_
                  refine own_st (T' := T33) (g' := (mkF m 175 #[.val (.int i), .val (.int j), .val (.int kk), .val (.int sa), .val (.int sb), .val (.int ra), .val (.int ia), .val (.int rb), .val (.int ib), .val (.ref b1), .val (.ref b4), .val (.int (3 : Int32)), .val (.ref b4), .val (.int (0 : Int32)), .val (.int (0 : Int32))] [])) (fun _ k => XS.istore X33.here hx rfl (hb hby at_173) rfl (l' := #[.val (.int i), .val (.int j), .val (.int kk), .val (.int sa), .val (.int sb), .val (.int ra), .val (.int ia), .val (.int rb), .val (.int ib), .val (.ref b1), .val (.ref b4), .val (.int (3 : Int32)), .val (.ref b4), .val (.int (0 : Int32)), .val (.int (0 : Int32))]) rfl k) ?_
                  refine own_st (T' := T33) (g' := (mkF m 177 #[.val (.int i), .val (.int j), .val (.int kk), .val (.int sa), .val (.int sb), .val (.int ra), .val (.int ia), .val (.int rb), .val (.int ib), .val (.ref b1), .val (.ref b4), .val (.int (3 : Int32)), .val (.ref b4), .val (.int (0 : Int32)), .val (.int (0 : Int32))] [(.int (0 : Int32))])) (fun _ k => XS.iload X33.here hx rfl (hb hby at_175) rfl k) ?_
                  refine own_st (T' := T33) (g' := (mkF m 179 #[.val (.int i), .val (.int j), .val (.int kk), .val (.int sa), .val (.int sb), .val (.int ra), .val (.int ia), .val (.int rb), .val (.int ib), .val (.ref b1), .val (.ref b4), .val (.int (3 : Int32)), .val (.ref b4), .val (.int (0 : Int32)), .val (.int (0 : Int32))] [(.int (0 : Int32)), (.int (0 : Int32))])) (fun _ k => XS.iload X33.here hx rfl (hb hby at_177) rfl k) ?_
                  refine own_st (T' := T33) (g' := (mkF m 184 #[.val (.int i), .val (.int j), .val (.int kk), .val (.int sa), .val (.int sb), .val (.int ra), .val (.int ia), .val (.int rb), .val (.int ib), .val (.ref b1), .val (.ref b4), .val (.int (3 : Int32)), .val (.ref b4), .val (.int (0 : Int32)), .val (.int (0 : Int32))] [])) (fun _ k => XS.icmpYes X33.here hx rfl (pc0 := 179) (pc' := 184) rfl (hb hby at_179) rfl (by decide) (by decide) (by decide) k) ?_
                  refine own_st (T' := T33) (g' := (mkF m 186 #[.val (.int i), .val (.int j), .val (.int kk), .val (.int sa), .val (.int sb), .val (.int ra), .val (.int ia), .val (.int rb), .val (.int ib), .val (.ref b1), .val (.ref b4), .val (.int (3 : Int32)), .val (.ref b4), .val (.int (0 : Int32)), .val (.int (0 : Int32))] [(.ref b1)])) (fun _ k => XS.aload X33.here hx rfl (hb hby at_184) rfl rfl k) ?_
                  refine own_st (T' := T33) (g' := (mkF m 188 #[.val (.int i), .val (.int j), .val (.int kk), .val (.int sa), .val (.int sb), .val (.int ra), .val (.int ia), .val (.int rb), .val (.int ib), .val (.ref b1), .val (.ref b4), .val (.int (3 : Int32)), .val (.ref b4), .val (.int (0 : Int32)), .val (.int (0 : Int32))] [(.ref b1), (.ref b1)])) (fun _ k => XS.aload X33.here hx rfl (hb hby at_186) rfl rfl k) ?_
                  obtain ⟨T34, X34, e34, st34⟩ := own_pure (w := (.int (1 : Int32))) rfl rfl (own_gV X33 hx hZ hown (hw _ (List.mem_of_getElem? (i := 38) rfl)) (hw _ (List.mem_of_getElem? (i := 39) rfl)) (notFace_of_selects (args := #[]) (mvT hZ (hw _ (List.mem_of_getElem? (i := 41) rfl)))) (hw _ (List.mem_of_getElem? (i := 41) rfl)) (hw _ (List.mem_of_getElem? (i := 40) rfl)) (hw _ (List.mem_of_getElem? (i := 2) rfl)) (hw _ (List.mem_of_getElem? (i := 42) rfl)) (by decide) e33 E_b1 (own_eq_self l Z a0 hw T6.heap b1 s1 ra ia E_b1 F_source_b1 F_rollback_b1 F_inherited_b1) (by decide) (by decide) (by decide) (by decide) (Q := fun v h L => v = some (.int (1 : Int32)) ∧ L = [] ∧ h = T6.heap) (W := 0) (g := (mkF m 188 #[.val (.int i), .val (.int j), .val (.int kk), .val (.int sa), .val (.int sb), .val (.int ra), .val (.int ia), .val (.int rb), .val (.int ib), .val (.ref b1), .val (.ref b4), .val (.int (3 : Int32)), .val (.ref b4), .val (.int (0 : Int32)), .val (.int (0 : Int32))] [(.ref b1), (.ref b1)])) (argsL := [(.ref b1)]) (rest := []) rfl (by rw [hml]; rfl) (lenOf own_pd_5 rfl) rfl (by show 2 * 0 + _ ≤ _; exact Nat.le_of_eq rfl) (hb hby at_188))
                  refine own_st (T' := T34) (g' := (mkF m 191 #[.val (.int i), .val (.int j), .val (.int kk), .val (.int sa), .val (.int sb), .val (.int ra), .val (.int ia), .val (.int rb), .val (.int ib), .val (.ref b1), .val (.ref b4), .val (.int (3 : Int32)), .val (.ref b4), .val (.int (0 : Int32)), .val (.int (0 : Int32))] [(.int (1 : Int32))])) st34 ?_
                  refine own_st (T' := T34) (g' := (mkF m 196 #[.val (.int i), .val (.int j), .val (.int kk), .val (.int sa), .val (.int sb), .val (.int ra), .val (.int ia), .val (.int rb), .val (.int ib), .val (.ref b1), .val (.ref b4), .val (.int (3 : Int32)), .val (.ref b4), .val (.int (0 : Int32)), .val (.int (0 : Int32))] [])) (fun _ k => XS.ifYes X34.here hx rfl (pc0 := 191) (pc' := 196) rfl (hb hby at_191) rfl (by decide) (by decide) (by decide) k) ?_
                  refine own_st (T' := T34) (g' := (mkF m 198 #[.val (.int i), .val (.int j), .val (.int kk), .val (.int sa), .val (.int sb), .val (.int ra), .val (.int ia), .val (.int rb), .val (.int ib), .val (.ref b1), .val (.ref b4), .val (.int (3 : Int32)), .val (.ref b4), .val (.int (0 : Int32)), .val (.int (0 : Int32))] [(.int (3 : Int32))])) (fun _ k => XS.iload X34.here hx rfl (hb hby at_196) rfl k) ?_
                  refine own_st (T' := T34) (g' := (mkF m 199 #[.val (.int i), .val (.int j), .val (.int kk), .val (.int sa), .val (.int sb), .val (.int ra), .val (.int ia), .val (.int rb), .val (.int ib), .val (.ref b1), .val (.ref b4), .val (.int (3 : Int32)), .val (.ref b4), .val (.int (0 : Int32)), .val (.int (0 : Int32))] [(.int (2 : Int32)), (.int (3 : Int32))])) (fun _ k => XS.iconst X34.here hx rfl (hb hby at_198) k) ?_
                  refine own_st (T' := T34) (g' := (mkF m 202 #[.val (.int i), .val (.int j), .val (.int kk), .val (.int sa), .val (.int sb), .val (.int ra), .val (.int ia), .val (.int rb), .val (.int ib), .val (.ref b1), .val (.ref b4), .val (.int (3 : Int32)), .val (.ref b4), .val (.int (0 : Int32)), .val (.int (0 : Int32))] [])) (fun _ k => XS.icmpNo X34.here hx rfl (hb hby at_199) rfl (by decide) k) ?_
                  refine own_st (T' := T34) (g' := (mkF m 204 #[.val (.int i), .val (.int j), .val (.int kk), .val (.int sa), .val (.int sb), .val (.int ra), .val (.int ia), .val (.int rb), .val (.int ib), .val (.ref b1), .val (.ref b4), .val (.int (3 : Int32)), .val (.ref b4), .val (.int (0 : Int32)), .val (.int (0 : Int32))] [(.ref b4)])) (fun _ k => XS.aload X34.here hx rfl (hb hby at_202) rfl rfl k) ?_
                  refine own_st (T' := T34) (g' := (mkF m 206 #[.val (.int i), .val (.int j), .val (.int kk), .val (.int sa), .val (.int sb), .val (.int ra), .val (.int ia), .val (.int rb), .val (.int ib), .val (.ref b1), .val (.ref b4), .val (.int (3 : Int32)), .val (.ref b4), .val (.int (0 : Int32)), .val (.int (0 : Int32))] [(.ref b1), (.ref b4)])) (fun _ k => XS.aload X34.here hx rfl (hb hby at_204) rfl rfl k) ?_
                  obtain ⟨T35, X35, e35, st35⟩ := own_pure (w := (.int (0 : Int32))) rfl rfl (own_gV X34 hx hZ hown (hw _ (List.mem_of_getElem? (i := 38) rfl)) (hw _ (List.mem_of_getElem? (i := 39) rfl)) (notFace_of_selects (args := #[]) (mvT hZ (hw _ (List.mem_of_getElem? (i := 41) rfl)))) (hw _ (List.mem_of_getElem? (i := 41) rfl)) (hw _ (List.mem_of_getElem? (i := 40) rfl)) (hw _ (List.mem_of_getElem? (i := 2) rfl)) (hw _ (List.mem_of_getElem? (i := 42) rfl)) (by decide) e34 E_b4 (own_eq_i l Z a0 hw T6.heap b4 b1 s2 s1 rb ra ib ia E_b1 F_source_b4 F_rollback_b4 F_inherited_b4 F_source_b1 F_rollback_b1 F_inherited_b1 (Eq.symm (by rw [es1, es2, hc142_27])) (Eq.symm hc149_28) (Ne.symm hc156_29)) (by decide) (by decide) (by decide) (by decide) (Q := fun v h L => v = some (.int (0 : Int32)) ∧ L = [] ∧ h = T6.heap) (W := 0) (g := (mkF m 206 #[.val (.int i), .val (.int j), .val (.int kk), .val (.int sa), .val (.int sb), .val (.int ra), .val (.int ia), .val (.int rb), .val (.int ib), .val (.ref b1), .val (.ref b4), .val (.int (3 : Int32)), .val (.ref b4), .val (.int (0 : Int32)), .val (.int (0 : Int32))] [(.ref b1), (.ref b4)])) (argsL := [(.ref b1)]) (rest := []) rfl (by rw [hml]; rfl) (lenOf own_pd_5 rfl) rfl (by show 2 * 0 + _ ≤ _; exact Nat.le_of_eq rfl) (hb hby at_206))
                  refine own_st (T' := T35) (g' := (mkF m 209 #[.val (.int i), .val (.int j), .val (.int kk), .val (.int sa), .val (.int sb), .val (.int ra), .val (.int ia), .val (.int rb), .val (.int ib), .val (.ref b1), .val (.ref b4), .val (.int (3 : Int32)), .val (.ref b4), .val (.int (0 : Int32)), .val (.int (0 : Int32))] [(.int (0 : Int32))])) st35 ?_
                  refine own_st (T' := T35) (g' := (mkF m 211 #[.val (.int i), .val (.int j), .val (.int kk), .val (.int sa), .val (.int sb), .val (.int ra), .val (.int ia), .val (.int rb), .val (.int ib), .val (.ref b1), .val (.ref b4), .val (.int (3 : Int32)), .val (.ref b4), .val (.int (0 : Int32)), .val (.int (0 : Int32))] [(.int (0 : Int32)), (.int (0 : Int32))])) (fun _ k => XS.iload X35.here hx rfl (hb hby at_209) rfl k) ?_
                  refine own_st (T' := T35) (g' := (mkF m 216 #[.val (.int i), .val (.int j), .val (.int kk), .val (.int sa), .val (.int sb), .val (.int ra), .val (.int ia), .val (.int rb), .val (.int ib), .val (.ref b1), .val (.ref b4), .val (.int (3 : Int32)), .val (.ref b4), .val (.int (0 : Int32)), .val (.int (0 : Int32))] [])) (fun _ k => XS.icmpYes X35.here hx rfl (pc0 := 211) (pc' := 216) rfl (hb hby at_211) rfl (by decide) (by decide) (by decide) k) ?_
                  refine own_st (T' := T35) (g' := (mkF m 217 #[.val (.int i), .val (.int j), .val (.int kk), .val (.int sa), .val (.int sb), .val (.int ra), .val (.int ia), .val (.int rb), .val (.int ib), .val (.ref b1), .val (.ref b4), .val (.int (3 : Int32)), .val (.ref b4), .val (.int (0 : Int32)), .val (.int (0 : Int32))] [(.int (1 : Int32))])) (fun _ k => XS.iconst X35.here hx rfl (hb hby at_216) k) ?_
                  exact own_retW X35 hx hlk hS (by rw [e35]; exact hk) hret rfl (Or.inl ⟨rfl, Or.inr (Or.inl rfl), _, rfl⟩) (hb hby at_217) (by decide) (by decide) ⟨rfl, Nf⟩
              ·
                refine own_st (T' := T6) (g' := (mkF m 163 #[.val (.int i), .val (.int j), .val (.int kk), .val (.int sa), .val (.int sb), .val (.int ra), .val (.int ia), .val (.int rb), .val (.int ib), .val (.ref b1), .val (.ref b4), .val (.int (3 : Int32)), .val (.ref b4), .unset, .unset] [])) (fun _ k => XS.icmpYes X6.here hx rfl (pc0 := 149) (pc' := 163) rfl (hb hby at_149) rfl (feq hc149_28).2 (by decide) (by decide) k) ?_
                refine own_st (T' := T6) (g' := (mkF m 164 #[.val (.int i), .val (.int j), .val (.int kk), .val (.int sa), .val (.int sb), .val (.int ra), .val (.int ia), .val (.int rb), .val (.int ib), .val (.ref b1), .val (.ref b4), .val (.int (3 : Int32)), .val (.ref b4), .unset, .unset] [(.int (0 : Int32))])) (fun _ k => XS.iconst X6.here hx rfl (hb hby at_163) k) ?_
                refine own_st (T' := T6) (g' := (mkF m 166 #[.val (.int i), .val (.int j), .val (.int kk), .val (.int sa), .val (.int sb), .val (.int ra), .val (.int ia), .val (.int rb), .val (.int ib), .val (.ref b1), .val (.ref b4), .val (.int (3 : Int32)), .val (.ref b4), .val (.int (0 : Int32)), .unset] [])) (fun _ k => XS.istore X6.here hx rfl (hb hby at_164) rfl (l' := #[.val (.int i), .val (.int j), .val (.int kk), .val (.int sa), .val (.int sb), .val (.int ra), .val (.int ia), .val (.int rb), .val (.int ib), .val (.ref b1), .val (.ref b4), .val (.int (3 : Int32)), .val (.ref b4), .val (.int (0 : Int32)), .unset]) rfl k) ?_
                refine own_st (T' := T6) (g' := (mkF m 168 #[.val (.int i), .val (.int j), .val (.int kk), .val (.int sa), .val (.int sb), .val (.int ra), .val (.int ia), .val (.int rb), .val (.int ib), .val (.ref b1), .val (.ref b4), .val (.int (3 : Int32)), .val (.ref b4), .val (.int (0 : Int32)), .unset] [(.ref b1)])) (fun _ k => XS.aload X6.here hx rfl (hb hby at_166) rfl rfl k) ?_
                refine own_st (T' := T6) (g' := (mkF m 170 #[.val (.int i), .val (.int j), .val (.int kk), .val (.int sa), .val (.int sb), .val (.int ra), .val (.int ia), .val (.int rb), .val (.int ib), .val (.ref b1), .val (.ref b4), .val (.int (3 : Int32)), .val (.ref b4), .val (.int (0 : Int32)), .unset] [(.ref b4), (.ref b1)])) (fun _ k => XS.aload X6.here hx rfl (hb hby at_168) rfl rfl k) ?_
                obtain ⟨T36, X36, e36, st36⟩ := own_pure (w := (.int (0 : Int32))) rfl rfl (own_gV X6 hx hZ hown (hw _ (List.mem_of_getElem? (i := 38) rfl)) (hw _ (List.mem_of_getElem? (i := 39) rfl)) (notFace_of_selects (args := #[]) (mvT hZ (hw _ (List.mem_of_getElem? (i := 41) rfl)))) (hw _ (List.mem_of_getElem? (i := 41) rfl)) (hw _ (List.mem_of_getElem? (i := 40) rfl)) (hw _ (List.mem_of_getElem? (i := 2) rfl)) (hw _ (List.mem_of_getElem? (i := 42) rfl)) (by decide) rfl E_b1 (own_eq_r l Z a0 hw T6.heap b1 b4 s1 s2 ra rb ia ib E_b4 F_source_b1 F_rollback_b1 F_inherited_b1 F_source_b4 F_rollback_b4 F_inherited_b4 (by rw [es1, es2, hc142_27]) hc149_28) (by decide) (by decide) (by decide) (by decide) (Q := fun v h L => v = some (.int (0 : Int32)) ∧ L = [] ∧ h = T6.heap) (W := 0) (g := (mkF m 170 #[.val (.int i), .val (.int j), .val (.int kk), .val (.int sa), .val (.int sb), .val (.int ra), .val (.int ia), .val (.int rb), .val (.int ib), .val (.ref b1), .val (.ref b4), .val (.int (3 : Int32)), .val (.ref b4), .val (.int (0 : Int32)), .unset] [(.ref b4), (.ref b1)])) (argsL := [(.ref b4)]) (rest := []) rfl (by rw [hml]; rfl) (lenOf own_pd_5 rfl) rfl (by show 2 * 0 + _ ≤ _; exact Nat.le_of_eq rfl) (hb hby at_170))
                refine own_st (T' := T36) (g' := (mkF m 173 #[.val (.int i), .val (.int j), .val (.int kk), .val (.int sa), .val (.int sb), .val (.int ra), .val (.int ia), .val (.int rb), .val (.int ib), .val (.ref b1), .val (.ref b4), .val (.int (3 : Int32)), .val (.ref b4), .val (.int (0 : Int32)), .unset] [(.int (0 : Int32))])) st36 ?_
                refine own_st (T' := T36) (g' := (mkF m 175 #[.val (.int i), .val (.int j), .val (.int kk), .val (.int sa), .val (.int sb), .val (.int ra), .val (.int ia), .val (.int rb), .val (.int ib), .val (.ref b1), .val (.ref b4), .val (.int (3 : Int32)), .val (.ref b4), .val (.int (0 : Int32)), .val (.int (0 : Int32))] [])) (fun _ k => XS.istore X36.here hx rfl (hb hby at_173) rfl (l' := #[.val (.int i), .val (.int j), .val (.int kk), .val (.int sa), .val (.int sb), .val (.int ra), .val (.int ia), .val (.int rb), .val (.int ib), .val (.ref b1), .val (.ref b4), .val (.int (3 : Int32)), .val (.ref b4), .val (.int (0 : Int32)), .val (.int (0 : Int32))]) rfl k) ?_
                refine own_st (T' := T36) (g' := (mkF m 177 #[.val (.int i), .val (.int j), .val (.int kk), .val (.int sa), .val (.int sb), .val (.int ra), .val (.int ia), .val (.int rb), .val (.int ib), .val (.ref b1), .val (.ref b4), .val (.int (3 : Int32)), .val (.ref b4), .val (.int (0 : Int32)), .val (.int (0 : Int32))] [(.int (0 : Int32))])) (fun _ k => XS.iload X36.here hx rfl (hb hby at_175) rfl k) ?_
                refine own_st (T' := T36) (g' := (mkF m 179 #[.val (.int i), .val (.int j), .val (.int kk), .val (.int sa), .val (.int sb), .val (.int ra), .val (.int ia), .val (.int rb), .val (.int ib), .val (.ref b1), .val (.ref b4), .val (.int (3 : Int32)), .val (.ref b4), .val (.int (0 : Int32)), .val (.int (0 : Int32))] [(.int (0 : Int32)), (.int (0 : Int32))])) (fun _ k => XS.iload X36.here hx rfl (hb hby at_177) rfl k) ?_
                refine own_st (T' := T36) (g' := (mkF m 184 #[.val (.int i), .val (.int j), .val (.int kk), .val (.int sa), .val (.int sb), .val (.int ra), .val (.int ia), .val (.int rb), .val (.int ib), .val (.ref b1), .val (.ref b4), .val (.int (3 : Int32)), .val (.ref b4), .val (.int (0 : Int32)), .val (.int (0 : Int32))] [])) (fun _ k => XS.icmpYes X36.here hx rfl (pc0 := 179) (pc' := 184) rfl (hb hby at_179) rfl (by decide) (by decide) (by decide) k) ?_
                refine own_st (T' := T36) (g' := (mkF m 186 #[.val (.int i), .val (.int j), .val (.int kk), .val (.int sa), .val (.int sb), .val (.int ra), .val (.int ia), .val (.int rb), .val (.int ib), .val (.ref b1), .val (.ref b4), .val (.int (3 : Int32)), .val (.ref b4), .val (.int (0 : Int32)), .val (.int (0 : Int32))] [(.ref b1)])) (fun _ k => XS.aload X36.here hx rfl (hb hby at_184) rfl rfl k) ?_
                refine own_st (T' := T36) (g' := (mkF m 188 #[.val (.int i), .val (.int j), .val (.int kk), .val (.int sa), .val (.int sb), .val (.int ra), .val (.int ia), .val (.int rb), .val (.int ib), .val (.ref b1), .val (.ref b4), .val (.int (3 : Int32)), .val (.ref b4), .val (.int (0 : Int32)), .val (.int (0 : Int32))] [(.ref b1), (.ref b1)])) (fun _ k => XS.aload X36.here hx rfl (hb hby at_186) rfl rfl k) ?_
                obtain ⟨T37, X37, e37, st37⟩ := own_pure (w := (.int (1 : Int32))) rfl rfl (own_gV X36 hx hZ hown (hw _ (List.mem_of_getElem? (i := 38) rfl)) (hw _ (List.mem_of_getElem? (i := 39) rfl)) (notFace_of_selects (args := #[]) (mvT hZ (hw _ (List.mem_of_getElem? (i := 41) rfl)))) (hw _ (List.mem_of_getElem? (i := 41) rfl)) (hw _ (List.mem_of_getElem? (i := 40) rfl)) (hw _ (List.mem_of_getElem? (i := 2) rfl)) (hw _ (List.mem_of_getElem? (i := 42) rfl)) (by decide) e36 E_b1 (own_eq_self l Z a0 hw T6.heap b1 s1 ra ia E_b1 F_source_b1 F_rollback_b1 F_inherited_b1) (by decide) (by decide) (by decide) (by decide) (Q := fun v h L => v = some (.int (1 : Int32)) ∧ L = [] ∧ h = T6.heap) (W := 0) (g := (mkF m 188 #[.val (.int i), .val (.int j), .val (.int kk), .val (.int sa), .val (.int sb), .val (.int ra), .val (.int ia), .val (.int rb), .val (.int ib), .val (.ref b1), .val (.ref b4), .val (.int (3 : Int32)), .val (.ref b4), .val (.int (0 : Int32)), .val (.int (0 : Int32))] [(.ref b1), (.ref b1)])) (argsL := [(.ref b1)]) (rest := []) rfl (by rw [hml]; rfl) (lenOf own_pd_5 rfl) rfl (by show 2 * 0 + _ ≤ _; exact Nat.le_of_eq rfl) (hb hby at_188))
                refine own_st (T' := T37) (g' := (mkF m 191 #[.val (.int i), .val (.int j), .val (.int kk), .val (.int sa), .val (.int sb), .val (.int ra), .val (.int ia), .val (.int rb), .val (.int ib), .val (.ref b1), .val (.ref b4), .val (.int (3 : Int32)), .val (.ref b4), .val (.int (0 : Int32)), .val (.int (0 : Int32))] [(.int (1 : Int32))])) st37 ?_
                refine own_st (T' := T37) (g' := (mkF m 196 #[.val (.int i), .val (.int j), .val (.int kk), .val (.int sa), .val (.int sb), .val (.int ra), .val (.int ia), .val (.int rb), .val (.int ib), .val (.ref b1), .val (.ref b4), .val (.int (3 : Int32)), .val (.ref b4), .val (.int (0 : Int32)), .val (.int (0 : Int32))] [])) (fun _ k => XS.ifYes X37.here hx rfl (pc0 := 191) (pc' := 196) rfl (hb hby at_191) rfl (by decide) (by decide) (by decide) k) ?_
                refine own_st (T' := T37) (g' := (mkF m 198 #[.val (.int i), .val (.int j), .val (.int kk), .val (.int sa), .val (.int sb), .val (.int ra), .val (.int ia), .val (.int rb), .val (.int ib), .val (.ref b1), .val (.ref b4), .val (.int (3 : Int32)), .val (.ref b4), .val (.int (0 : Int32)), .val (.int (0 : Int32))] [(.int (3 : Int32))])) (fun _ k => XS.iload X37.here hx rfl (hb hby at_196) rfl k) ?_
                refine own_st (T' := T37) (g' := (mkF m 199 #[.val (.int i), .val (.int j), .val (.int kk), .val (.int sa), .val (.int sb), .val (.int ra), .val (.int ia), .val (.int rb), .val (.int ib), .val (.ref b1), .val (.ref b4), .val (.int (3 : Int32)), .val (.ref b4), .val (.int (0 : Int32)), .val (.int (0 : Int32))] [(.int (2 : Int32)), (.int (3 : Int32))])) (fun _ k => XS.iconst X37.here hx rfl (hb hby at_198) k) ?_
                refine own_st (T' := T37) (g' := (mkF m 202 #[.val (.int i), .val (.int j), .val (.int kk), .val (.int sa), .val (.int sb), .val (.int ra), .val (.int ia), .val (.int rb), .val (.int ib), .val (.ref b1), .val (.ref b4), .val (.int (3 : Int32)), .val (.ref b4), .val (.int (0 : Int32)), .val (.int (0 : Int32))] [])) (fun _ k => XS.icmpNo X37.here hx rfl (hb hby at_199) rfl (by decide) k) ?_
                refine own_st (T' := T37) (g' := (mkF m 204 #[.val (.int i), .val (.int j), .val (.int kk), .val (.int sa), .val (.int sb), .val (.int ra), .val (.int ia), .val (.int rb), .val (.int ib), .val (.ref b1), .val (.ref b4), .val (.int (3 : Int32)), .val (.ref b4), .val (.int (0 : Int32)), .val (.int (0 : Int32))] [(.ref b4)])) (fun _ k => XS.aload X37.here hx rfl (hb hby at_202) rfl rfl k) ?_
                refine own_st (T' := T37) (g' := (mkF m 206 #[.val (.int i), .val (.int j), .val (.int kk), .val (.int sa), .val (.int sb), .val (.int ra), .val (.int ia), .val (.int rb), .val (.int ib), .val (.ref b1), .val (.ref b4), .val (.int (3 : Int32)), .val (.ref b4), .val (.int (0 : Int32)), .val (.int (0 : Int32))] [(.ref b1), (.ref b4)])) (fun _ k => XS.aload X37.here hx rfl (hb hby at_204) rfl rfl k) ?_
                obtain ⟨T38, X38, e38, st38⟩ := own_pure (w := (.int (0 : Int32))) rfl rfl (own_gV X37 hx hZ hown (hw _ (List.mem_of_getElem? (i := 38) rfl)) (hw _ (List.mem_of_getElem? (i := 39) rfl)) (notFace_of_selects (args := #[]) (mvT hZ (hw _ (List.mem_of_getElem? (i := 41) rfl)))) (hw _ (List.mem_of_getElem? (i := 41) rfl)) (hw _ (List.mem_of_getElem? (i := 40) rfl)) (hw _ (List.mem_of_getElem? (i := 2) rfl)) (hw _ (List.mem_of_getElem? (i := 42) rfl)) (by decide) e37 E_b4 (own_eq_r l Z a0 hw T6.heap b4 b1 s2 s1 rb ra ib ia E_b1 F_source_b4 F_rollback_b4 F_inherited_b4 F_source_b1 F_rollback_b1 F_inherited_b1 (Eq.symm (by rw [es1, es2, hc142_27])) (Ne.symm hc149_28)) (by decide) (by decide) (by decide) (by decide) (Q := fun v h L => v = some (.int (0 : Int32)) ∧ L = [] ∧ h = T6.heap) (W := 0) (g := (mkF m 206 #[.val (.int i), .val (.int j), .val (.int kk), .val (.int sa), .val (.int sb), .val (.int ra), .val (.int ia), .val (.int rb), .val (.int ib), .val (.ref b1), .val (.ref b4), .val (.int (3 : Int32)), .val (.ref b4), .val (.int (0 : Int32)), .val (.int (0 : Int32))] [(.ref b1), (.ref b4)])) (argsL := [(.ref b1)]) (rest := []) rfl (by rw [hml]; rfl) (lenOf own_pd_5 rfl) rfl (by show 2 * 0 + _ ≤ _; exact Nat.le_of_eq rfl) (hb hby at_206))
                refine own_st (T' := T38) (g' := (mkF m 209 #[.val (.int i), .val (.int j), .val (.int kk), .val (.int sa), .val (.int sb), .val (.int ra), .val (.int ia), .val (.int rb), .val (.int ib), .val (.ref b1), .val (.ref b4), .val (.int (3 : Int32)), .val (.ref b4), .val (.int (0 : Int32)), .val (.int (0 : Int32))] [(.int (0 : Int32))])) st38 ?_
                refine own_st (T' := T38) (g' := (mkF m 211 #[.val (.int i), .val (.int j), .val (.int kk), .val (.int sa), .val (.int sb), .val (.int ra), .val (.int ia), .val (.int rb), .val (.int ib), .val (.ref b1), .val (.ref b4), .val (.int (3 : Int32)), .val (.ref b4), .val (.int (0 : Int32)), .val (.int (0 : Int32))] [(.int (0 : Int32)), (.int (0 : Int32))])) (fun _ k => XS.iload X38.here hx rfl (hb hby at_209) rfl k) ?_
                refine own_st (T' := T38) (g' := (mkF m 216 #[.val (.int i), .val (.int j), .val (.int kk), .val (.int sa), .val (.int sb), .val (.int ra), .val (.int ia), .val (.int rb), .val (.int ib), .val (.ref b1), .val (.ref b4), .val (.int (3 : Int32)), .val (.ref b4), .val (.int (0 : Int32)), .val (.int (0 : Int32))] [])) (fun _ k => XS.icmpYes X38.here hx rfl (pc0 := 211) (pc' := 216) rfl (hb hby at_211) rfl (by decide) (by decide) (by decide) k) ?_
                refine own_st (T' := T38) (g' := (mkF m 217 #[.val (.int i), .val (.int j), .val (.int kk), .val (.int sa), .val (.int sb), .val (.int ra), .val (.int ia), .val (.int rb), .val (.int ib), .val (.ref b1), .val (.ref b4), .val (.int (3 : Int32)), .val (.ref b4), .val (.int (0 : Int32)), .val (.int (0 : Int32))] [(.int (1 : Int32))])) (fun _ k => XS.iconst X38.here hx rfl (hb hby at_216) k) ?_
                exact own_retW X38 hx hlk hS (by rw [e38]; exact hk) hret rfl (Or.inl ⟨rfl, Or.inr (Or.inl rfl), _, rfl⟩) (hb hby at_217) (by decide) (by decide) ⟨rfl, Nf⟩
            ·
              refine own_st (T' := T6) (g' := (mkF m 163 #[.val (.int i), .val (.int j), .val (.int kk), .val (.int sa), .val (.int sb), .val (.int ra), .val (.int ia), .val (.int rb), .val (.int ib), .val (.ref b1), .val (.ref b4), .val (.int (3 : Int32)), .val (.ref b4), .unset, .unset] [])) (fun _ k => XS.icmpYes X6.here hx rfl (pc0 := 142) (pc' := 163) rfl (hb hby at_142) rfl (feq hc142_27).2 (by decide) (by decide) k) ?_
              refine own_st (T' := T6) (g' := (mkF m 164 #[.val (.int i), .val (.int j), .val (.int kk), .val (.int sa), .val (.int sb), .val (.int ra), .val (.int ia), .val (.int rb), .val (.int ib), .val (.ref b1), .val (.ref b4), .val (.int (3 : Int32)), .val (.ref b4), .unset, .unset] [(.int (0 : Int32))])) (fun _ k => XS.iconst X6.here hx rfl (hb hby at_163) k) ?_
              refine own_st (T' := T6) (g' := (mkF m 166 #[.val (.int i), .val (.int j), .val (.int kk), .val (.int sa), .val (.int sb), .val (.int ra), .val (.int ia), .val (.int rb), .val (.int ib), .val (.ref b1), .val (.ref b4), .val (.int (3 : Int32)), .val (.ref b4), .val (.int (0 : Int32)), .unset] [])) (fun _ k => XS.istore X6.here hx rfl (hb hby at_164) rfl (l' := #[.val (.int i), .val (.int j), .val (.int kk), .val (.int sa), .val (.int sb), .val (.int ra), .val (.int ia), .val (.int rb), .val (.int ib), .val (.ref b1), .val (.ref b4), .val (.int (3 : Int32)), .val (.ref b4), .val (.int (0 : Int32)), .unset]) rfl k) ?_
              refine own_st (T' := T6) (g' := (mkF m 168 #[.val (.int i), .val (.int j), .val (.int kk), .val (.int sa), .val (.int sb), .val (.int ra), .val (.int ia), .val (.int rb), .val (.int ib), .val (.ref b1), .val (.ref b4), .val (.int (3 : Int32)), .val (.ref b4), .val (.int (0 : Int32)), .unset] [(.ref b1)])) (fun _ k => XS.aload X6.here hx rfl (hb hby at_166) rfl rfl k) ?_
              refine own_st (T' := T6) (g' := (mkF m 170 #[.val (.int i), .val (.int j), .val (.int kk), .val (.int sa), .val (.int sb), .val (.int ra), .val (.int ia), .val (.int rb), .val (.int ib), .val (.ref b1), .val (.ref b4), .val (.int (3 : Int32)), .val (.ref b4), .val (.int (0 : Int32)), .unset] [(.ref b4), (.ref b1)])) (fun _ k => XS.aload X6.here hx rfl (hb hby at_168) rfl rfl k) ?_
              obtain ⟨T39, X39, e39, st39⟩ := own_pure (w := (.int (0 : Int32))) rfl rfl (own_gV X6 hx hZ hown (hw _ (List.mem_of_getElem? (i := 38) rfl)) (hw _ (List.mem_of_getElem? (i := 39) rfl)) (notFace_of_selects (args := #[]) (mvT hZ (hw _ (List.mem_of_getElem? (i := 41) rfl)))) (hw _ (List.mem_of_getElem? (i := 41) rfl)) (hw _ (List.mem_of_getElem? (i := 40) rfl)) (hw _ (List.mem_of_getElem? (i := 2) rfl)) (hw _ (List.mem_of_getElem? (i := 42) rfl)) (by decide) rfl E_b1 (own_eq_s l Z a0 hw T6.heap b1 b4 s1 s2 ra rb ia ib E_b4 F_source_b1 F_rollback_b1 F_inherited_b1 F_source_b4 F_rollback_b4 F_inherited_b4 (by rw [es1, es2]; exact own_src_ne hE csa csb hc142_27)) (by decide) (by decide) (by decide) (by decide) (Q := fun v h L => v = some (.int (0 : Int32)) ∧ L = [] ∧ h = T6.heap) (W := 0) (g := (mkF m 170 #[.val (.int i), .val (.int j), .val (.int kk), .val (.int sa), .val (.int sb), .val (.int ra), .val (.int ia), .val (.int rb), .val (.int ib), .val (.ref b1), .val (.ref b4), .val (.int (3 : Int32)), .val (.ref b4), .val (.int (0 : Int32)), .unset] [(.ref b4), (.ref b1)])) (argsL := [(.ref b4)]) (rest := []) rfl (by rw [hml]; rfl) (lenOf own_pd_5 rfl) rfl (by show 2 * 0 + _ ≤ _; exact Nat.le_of_eq rfl) (hb hby at_170))
              refine own_st (T' := T39) (g' := (mkF m 173 #[.val (.int i), .val (.int j), .val (.int kk), .val (.int sa), .val (.int sb), .val (.int ra), .val (.int ia), .val (.int rb), .val (.int ib), .val (.ref b1), .val (.ref b4), .val (.int (3 : Int32)), .val (.ref b4), .val (.int (0 : Int32)), .unset] [(.int (0 : Int32))])) st39 ?_
              refine own_st (T' := T39) (g' := (mkF m 175 #[.val (.int i), .val (.int j), .val (.int kk), .val (.int sa), .val (.int sb), .val (.int ra), .val (.int ia), .val (.int rb), .val (.int ib), .val (.ref b1), .val (.ref b4), .val (.int (3 : Int32)), .val (.ref b4), .val (.int (0 : Int32)), .val (.int (0 : Int32))] [])) (fun _ k => XS.istore X39.here hx rfl (hb hby at_173) rfl (l' := #[.val (.int i), .val (.int j), .val (.int kk), .val (.int sa), .val (.int sb), .val (.int ra), .val (.int ia), .val (.int rb), .val (.int ib), .val (.ref b1), .val (.ref b4), .val (.int (3 : Int32)), .val (.ref b4), .val (.int (0 : Int32)), .val (.int (0 : Int32))]) rfl k) ?_
              refine own_st (T' := T39) (g' := (mkF m 177 #[.val (.int i), .val (.int j), .val (.int kk), .val (.int sa), .val (.int sb), .val (.int ra), .val (.int ia), .val (.int rb), .val (.int ib), .val (.ref b1), .val (.ref b4), .val (.int (3 : Int32)), .val (.ref b4), .val (.int (0 : Int32)), .val (.int (0 : Int32))] [(.int (0 : Int32))])) (fun _ k => XS.iload X39.here hx rfl (hb hby at_175) rfl k) ?_
              refine own_st (T' := T39) (g' := (mkF m 179 #[.val (.int i), .val (.int j), .val (.int kk), .val (.int sa), .val (.int sb), .val (.int ra), .val (.int ia), .val (.int rb), .val (.int ib), .val (.ref b1), .val (.ref b4), .val (.int (3 : Int32)), .val (.ref b4), .val (.int (0 : Int32)), .val (.int (0 : Int32))] [(.int (0 : Int32)), (.int (0 : Int32))])) (fun _ k => XS.iload X39.here hx rfl (hb hby at_177) rfl k) ?_
              refine own_st (T' := T39) (g' := (mkF m 184 #[.val (.int i), .val (.int j), .val (.int kk), .val (.int sa), .val (.int sb), .val (.int ra), .val (.int ia), .val (.int rb), .val (.int ib), .val (.ref b1), .val (.ref b4), .val (.int (3 : Int32)), .val (.ref b4), .val (.int (0 : Int32)), .val (.int (0 : Int32))] [])) (fun _ k => XS.icmpYes X39.here hx rfl (pc0 := 179) (pc' := 184) rfl (hb hby at_179) rfl (by decide) (by decide) (by decide) k) ?_
              refine own_st (T' := T39) (g' := (mkF m 186 #[.val (.int i), .val (.int j), .val (.int kk), .val (.int sa), .val (.int sb), .val (.int ra), .val (.int ia), .val (.int rb), .val (.int ib), .val (.ref b1), .val (.ref b4), .val (.int (3 : Int32)), .val (.ref b4), .val (.int (0 : Int32)), .val (.int (0 : Int32))] [(.ref b1)])) (fun _ k => XS.aload X39.here hx rfl (hb hby at_184) rfl rfl k) ?_
              refine own_st (T' := T39) (g' := (mkF m 188 #[.val (.int i), .val (.int j), .val (.int kk), .val (.int sa), .val (.int sb), .val (.int ra), .val (.int ia), .val (.int rb), .val (.int ib), .val (.ref b1), .val (.ref b4), .val (.int (3 : Int32)), .val (.ref b4), .val (.int (0 : Int32)), .val (.int (0 : Int32))] [(.ref b1), (.ref b1)])) (fun _ k => XS.aload X39.here hx rfl (hb hby at_186) rfl rfl k) ?_
              obtain ⟨T40, X40, e40, st40⟩ := own_pure (w := (.int (1 : Int32))) rfl rfl (own_gV X39 hx hZ hown (hw _ (List.mem_of_getElem? (i := 38) rfl)) (hw _ (List.mem_of_getElem? (i := 39) rfl)) (notFace_of_selects (args := #[]) (mvT hZ (hw _ (List.mem_of_getElem? (i := 41) rfl)))) (hw _ (List.mem_of_getElem? (i := 41) rfl)) (hw _ (List.mem_of_getElem? (i := 40) rfl)) (hw _ (List.mem_of_getElem? (i := 2) rfl)) (hw _ (List.mem_of_getElem? (i := 42) rfl)) (by decide) e39 E_b1 (own_eq_self l Z a0 hw T6.heap b1 s1 ra ia E_b1 F_source_b1 F_rollback_b1 F_inherited_b1) (by decide) (by decide) (by decide) (by decide) (Q := fun v h L => v = some (.int (1 : Int32)) ∧ L = [] ∧ h = T6.heap) (W := 0) (g := (mkF m 188 #[.val (.int i), .val (.int j), .val (.int kk), .val (.int sa), .val (.int sb), .val (.int ra), .val (.int ia), .val (.int rb), .val (.int ib), .val (.ref b1), .val (.ref b4), .val (.int (3 : Int32)), .val (.ref b4), .val (.int (0 : Int32)), .val (.int (0 : Int32))] [(.ref b1), (.ref b1)])) (argsL := [(.ref b1)]) (rest := []) rfl (by rw [hml]; rfl) (lenOf own_pd_5 rfl) rfl (by show 2 * 0 + _ ≤ _; exact Nat.le_of_eq rfl) (hb hby at_188))
              refine own_st (T' := T40) (g' := (mkF m 191 #[.val (.int i), .val (.int j), .val (.int kk), .val (.int sa), .val (.int sb), .val (.int ra), .val (.int ia), .val (.int rb), .val (.int ib), .val (.ref b1), .val (.ref b4), .val (.int (3 : Int32)), .val (.ref b4), .val (.int (0 : Int32)), .val (.int (0 : Int32))] [(.int (1 : Int32))])) st40 ?_
              refine own_st (T' := T40) (g' := (mkF m 196 #[.val (.int i), .val (.int j), .val (.int kk), .val (.int sa), .val (.int sb), .val (.int ra), .val (.int ia), .val (.int rb), .val (.int ib), .val (.ref b1), .val (.ref b4), .val (.int (3 : Int32)), .val (.ref b4), .val (.int (0 : Int32)), .val (.int (0 : Int32))] [])) (fun _ k => XS.ifYes X40.here hx rfl (pc0 := 191) (pc' := 196) rfl (hb hby at_191) rfl (by decide) (by decide) (by decide) k) ?_
              refine own_st (T' := T40) (g' := (mkF m 198 #[.val (.int i), .val (.int j), .val (.int kk), .val (.int sa), .val (.int sb), .val (.int ra), .val (.int ia), .val (.int rb), .val (.int ib), .val (.ref b1), .val (.ref b4), .val (.int (3 : Int32)), .val (.ref b4), .val (.int (0 : Int32)), .val (.int (0 : Int32))] [(.int (3 : Int32))])) (fun _ k => XS.iload X40.here hx rfl (hb hby at_196) rfl k) ?_
              refine own_st (T' := T40) (g' := (mkF m 199 #[.val (.int i), .val (.int j), .val (.int kk), .val (.int sa), .val (.int sb), .val (.int ra), .val (.int ia), .val (.int rb), .val (.int ib), .val (.ref b1), .val (.ref b4), .val (.int (3 : Int32)), .val (.ref b4), .val (.int (0 : Int32)), .val (.int (0 : Int32))] [(.int (2 : Int32)), (.int (3 : Int32))])) (fun _ k => XS.iconst X40.here hx rfl (hb hby at_198) k) ?_
              refine own_st (T' := T40) (g' := (mkF m 202 #[.val (.int i), .val (.int j), .val (.int kk), .val (.int sa), .val (.int sb), .val (.int ra), .val (.int ia), .val (.int rb), .val (.int ib), .val (.ref b1), .val (.ref b4), .val (.int (3 : Int32)), .val (.ref b4), .val (.int (0 : Int32)), .val (.int (0 : Int32))] [])) (fun _ k => XS.icmpNo X40.here hx rfl (hb hby at_199) rfl (by decide) k) ?_
              refine own_st (T' := T40) (g' := (mkF m 204 #[.val (.int i), .val (.int j), .val (.int kk), .val (.int sa), .val (.int sb), .val (.int ra), .val (.int ia), .val (.int rb), .val (.int ib), .val (.ref b1), .val (.ref b4), .val (.int (3 : Int32)), .val (.ref b4), .val (.int (0 : Int32)), .val (.int (0 : Int32))] [(.ref b4)])) (fun _ k => XS.aload X40.here hx rfl (hb hby at_202) rfl rfl k) ?_
              refine own_st (T' := T40) (g' := (mkF m 206 #[.val (.int i), .val (.int j), .val (.int kk), .val (.int sa), .val (.int sb), .val (.int ra), .val (.int ia), .val (.int rb), .val (.int ib), .val (.ref b1), .val (.ref b4), .val (.int (3 : Int32)), .val (.ref b4), .val (.int (0 : Int32)), .val (.int (0 : Int32))] [(.ref b1), (.ref b4)])) (fun _ k => XS.aload X40.here hx rfl (hb hby at_204) rfl rfl k) ?_
              obtain ⟨T41, X41, e41, st41⟩ := own_pure (w := (.int (0 : Int32))) rfl rfl (own_gV X40 hx hZ hown (hw _ (List.mem_of_getElem? (i := 38) rfl)) (hw _ (List.mem_of_getElem? (i := 39) rfl)) (notFace_of_selects (args := #[]) (mvT hZ (hw _ (List.mem_of_getElem? (i := 41) rfl)))) (hw _ (List.mem_of_getElem? (i := 41) rfl)) (hw _ (List.mem_of_getElem? (i := 40) rfl)) (hw _ (List.mem_of_getElem? (i := 2) rfl)) (hw _ (List.mem_of_getElem? (i := 42) rfl)) (by decide) e40 E_b4 (own_eq_s l Z a0 hw T6.heap b4 b1 s2 s1 rb ra ib ia E_b1 F_source_b4 F_rollback_b4 F_inherited_b4 F_source_b1 F_rollback_b1 F_inherited_b1 (Ne.symm (by rw [es1, es2]; exact own_src_ne hE csa csb hc142_27))) (by decide) (by decide) (by decide) (by decide) (Q := fun v h L => v = some (.int (0 : Int32)) ∧ L = [] ∧ h = T6.heap) (W := 0) (g := (mkF m 206 #[.val (.int i), .val (.int j), .val (.int kk), .val (.int sa), .val (.int sb), .val (.int ra), .val (.int ia), .val (.int rb), .val (.int ib), .val (.ref b1), .val (.ref b4), .val (.int (3 : Int32)), .val (.ref b4), .val (.int (0 : Int32)), .val (.int (0 : Int32))] [(.ref b1), (.ref b4)])) (argsL := [(.ref b1)]) (rest := []) rfl (by rw [hml]; rfl) (lenOf own_pd_5 rfl) rfl (by show 2 * 0 + _ ≤ _; exact Nat.le_of_eq rfl) (hb hby at_206))
              refine own_st (T' := T41) (g' := (mkF m 209 #[.val (.int i), .val (.int j), .val (.int kk), .val (.int sa), .val (.int sb), .val (.int ra), .val (.int ia), .val (.int rb), .val (.int ib), .val (.ref b1), .val (.ref b4), .val (.int (3 : Int32)), .val (.ref b4), .val (.int (0 : Int32)), .val (.int (0 : Int32))] [(.int (0 : Int32))])) st41 ?_
              refine own_st (T' := T41) (g' := (mkF m 211 #[.val (.int i), .val (.int j), .val (.int kk), .val (.int sa), .val (.int sb), .val (.int ra), .val (.int ia), .val (.int rb), .val (.int ib), .val (.ref b1), .val (.ref b4), .val (.int (3 : Int32)), .val (.ref b4), .val (.int (0 : Int32)), .val (.int (0 : Int32))] [(.int (0 : Int32)), (.int (0 : Int32))])) (fun _ k => XS.iload X41.here hx rfl (hb hby at_209) rfl k) ?_
              refine own_st (T' := T41) (g' := (mkF m 216 #[.val (.int i), .val (.int j), .val (.int kk), .val (.int sa), .val (.int sb), .val (.int ra), .val (.int ia), .val (.int rb), .val (.int ib), .val (.ref b1), .val (.ref b4), .val (.int (3 : Int32)), .val (.ref b4), .val (.int (0 : Int32)), .val (.int (0 : Int32))] [])) (fun _ k => XS.icmpYes X41.here hx rfl (pc0 := 211) (pc' := 216) rfl (hb hby at_211) rfl (by decide) (by decide) (by decide) k) ?_
              refine own_st (T' := T41) (g' := (mkF m 217 #[.val (.int i), .val (.int j), .val (.int kk), .val (.int sa), .val (.int sb), .val (.int ra), .val (.int ia), .val (.int rb), .val (.int ib), .val (.ref b1), .val (.ref b4), .val (.int (3 : Int32)), .val (.ref b4), .val (.int (0 : Int32)), .val (.int (0 : Int32))] [(.int (1 : Int32))])) (fun _ k => XS.iconst X41.here hx rfl (hb hby at_216) k) ?_
              exact own_retW X41 hx hlk hS (by rw [e41]; exact hk) hret rfl (Or.inl ⟨rfl, Or.inr (Or.inl rfl), _, rfl⟩) (hb hby at_217) (by decide) (by decide) ⟨rfl, Nf⟩
        refine own_st (T' := T0) (g' := (mkF m 50 #[.val (.int i), .val (.int j), .val (.int kk), .val (.int sa), .val (.int sb), .val (.int ra), .val (.int ia), .val (.int rb), .unset, .unset, .unset, .unset, .unset, .unset, .unset] [(.int j)])) (fun _ k => XS.iloadN X0.here hx rfl (hb hby at_49) rfl k) ?_
        refine own_st (T' := T0) (g' := (mkF m 52 #[.val (.int i), .val (.int j), .val (.int kk), .val (.int sa), .val (.int sb), .val (.int ra), .val (.int ia), .val (.int rb), .unset, .unset, .unset, .unset, .unset, .unset, .unset] [(.int (8 : Int32)), (.int j)])) (fun _ k => XS.bipush X0.here hx rfl (hb hby at_50) k) ?_
        refine own_st (T' := T0) (g' := (mkF m 53 #[.val (.int i), .val (.int j), .val (.int kk), .val (.int sa), .val (.int sb), .val (.int ra), .val (.int ia), .val (.int rb), .unset, .unset, .unset, .unset, .unset, .unset, .unset] [(.int (j &&& (8 : Int32)))])) (fun _ k => XS.iand X0.here hx rfl (hb hby at_52) rfl k) ?_
        by_cases hc53_42 : (j &&& (8 : Int32)) = (0 : Int32)
        ·
          refine own_st (T' := T0) (g' := (mkF m 60 #[.val (.int i), .val (.int j), .val (.int kk), .val (.int sa), .val (.int sb), .val (.int ra), .val (.int ia), .val (.int rb), .unset, .unset, .unset, .unset, .unset, .unset, .unset] [])) (fun _ k => XS.ifYes X0.here hx rfl (pc0 := 53) (pc' := 60) rfl (hb hby at_53) rfl ((if0 _ _).trans (teq hc53_42).1) (by decide) (by decide) k) ?_
          refine own_st (T' := T0) (g' := (mkF m 61 #[.val (.int i), .val (.int j), .val (.int kk), .val (.int sa), .val (.int sb), .val (.int ra), .val (.int ia), .val (.int rb), .unset, .unset, .unset, .unset, .unset, .unset, .unset] [(.int (0 : Int32))])) (fun _ k => XS.iconst X0.here hx rfl (hb hby at_60) k) ?_
          refine own_st (T' := T0) (g' := (mkF m 63 #[.val (.int i), .val (.int j), .val (.int kk), .val (.int sa), .val (.int sb), .val (.int ra), .val (.int ia), .val (.int rb), .val (.int (0 : Int32)), .unset, .unset, .unset, .unset, .unset, .unset] [])) (fun _ k => XS.istore X0.here hx rfl (hb hby at_61) rfl (l' := #[.val (.int i), .val (.int j), .val (.int kk), .val (.int sa), .val (.int sb), .val (.int ra), .val (.int ia), .val (.int rb), .val (.int (0 : Int32)), .unset, .unset, .unset, .unset, .unset, .unset]) rfl k) ?_
          exact K63 (0 : Int32) (Or.inl rfl)
        ·
          refine own_st (T' := T0) (g' := (mkF m 56 #[.val (.int i), .val (.int j), .val (.int kk), .val (.int sa), .val (.int sb), .val (.int ra), .val (.int ia), .val (.int rb), .unset, .unset, .unset, .unset, .unset, .unset, .unset] [])) (fun _ k => XS.ifNo X0.here hx rfl (hb hby at_53) rfl ((if0 _ _).trans (feq hc53_42).1) k) ?_
          refine own_st (T' := T0) (g' := (mkF m 57 #[.val (.int i), .val (.int j), .val (.int kk), .val (.int sa), .val (.int sb), .val (.int ra), .val (.int ia), .val (.int rb), .unset, .unset, .unset, .unset, .unset, .unset, .unset] [(.int (1 : Int32))])) (fun _ k => XS.iconst X0.here hx rfl (hb hby at_56) k) ?_
          refine own_st (T' := T0) (g' := (mkF m 61 #[.val (.int i), .val (.int j), .val (.int kk), .val (.int sa), .val (.int sb), .val (.int ra), .val (.int ia), .val (.int rb), .unset, .unset, .unset, .unset, .unset, .unset, .unset] [(.int (1 : Int32))])) (fun _ k => XS.goto X0.here hx rfl (pc0 := 57) (pc' := 61) rfl (hb hby at_57) (by decide) (by decide) k) ?_
          refine own_st (T' := T0) (g' := (mkF m 63 #[.val (.int i), .val (.int j), .val (.int kk), .val (.int sa), .val (.int sb), .val (.int ra), .val (.int ia), .val (.int rb), .val (.int (1 : Int32)), .unset, .unset, .unset, .unset, .unset, .unset] [])) (fun _ k => XS.istore X0.here hx rfl (hb hby at_61) rfl (l' := #[.val (.int i), .val (.int j), .val (.int kk), .val (.int sa), .val (.int sb), .val (.int ra), .val (.int ia), .val (.int rb), .val (.int (1 : Int32)), .unset, .unset, .unset, .unset, .unset, .unset]) rfl k) ?_
          exact K63 (1 : Int32) (Or.inr rfl)
      refine own_st (T' := T0) (g' := (mkF m 37 #[.val (.int i), .val (.int j), .val (.int kk), .val (.int sa), .val (.int sb), .val (.int ra), .val (.int ia), .unset, .unset, .unset, .unset, .unset, .unset, .unset, .unset] [(.int j)])) (fun _ k => XS.iloadN X0.here hx rfl (hb hby at_36) rfl k) ?_
      refine own_st (T' := T0) (g' := (mkF m 38 #[.val (.int i), .val (.int j), .val (.int kk), .val (.int sa), .val (.int sb), .val (.int ra), .val (.int ia), .unset, .unset, .unset, .unset, .unset, .unset, .unset, .unset] [(.int (4 : Int32)), (.int j)])) (fun _ k => XS.iconst X0.here hx rfl (hb hby at_37) k) ?_
      refine own_st (T' := T0) (g' := (mkF m 39 #[.val (.int i), .val (.int j), .val (.int kk), .val (.int sa), .val (.int sb), .val (.int ra), .val (.int ia), .unset, .unset, .unset, .unset, .unset, .unset, .unset, .unset] [(.int (j &&& (4 : Int32)))])) (fun _ k => XS.iand X0.here hx rfl (hb hby at_38) rfl k) ?_
      by_cases hc39_43 : (j &&& (4 : Int32)) = (0 : Int32)
      ·
        refine own_st (T' := T0) (g' := (mkF m 46 #[.val (.int i), .val (.int j), .val (.int kk), .val (.int sa), .val (.int sb), .val (.int ra), .val (.int ia), .unset, .unset, .unset, .unset, .unset, .unset, .unset, .unset] [])) (fun _ k => XS.ifYes X0.here hx rfl (pc0 := 39) (pc' := 46) rfl (hb hby at_39) rfl ((if0 _ _).trans (teq hc39_43).1) (by decide) (by decide) k) ?_
        refine own_st (T' := T0) (g' := (mkF m 47 #[.val (.int i), .val (.int j), .val (.int kk), .val (.int sa), .val (.int sb), .val (.int ra), .val (.int ia), .unset, .unset, .unset, .unset, .unset, .unset, .unset, .unset] [(.int (0 : Int32))])) (fun _ k => XS.iconst X0.here hx rfl (hb hby at_46) k) ?_
        refine own_st (T' := T0) (g' := (mkF m 49 #[.val (.int i), .val (.int j), .val (.int kk), .val (.int sa), .val (.int sb), .val (.int ra), .val (.int ia), .val (.int (0 : Int32)), .unset, .unset, .unset, .unset, .unset, .unset, .unset] [])) (fun _ k => XS.istore X0.here hx rfl (hb hby at_47) rfl (l' := #[.val (.int i), .val (.int j), .val (.int kk), .val (.int sa), .val (.int sb), .val (.int ra), .val (.int ia), .val (.int (0 : Int32)), .unset, .unset, .unset, .unset, .unset, .unset, .unset]) rfl k) ?_
        exact K49 (0 : Int32) (Or.inl rfl)
      ·
        refine own_st (T' := T0) (g' := (mkF m 42 #[.val (.int i), .val (.int j), .val (.int kk), .val (.int sa), .val (.int sb), .val (.int ra), .val (.int ia), .unset, .unset, .unset, .unset, .unset, .unset, .unset, .unset] [])) (fun _ k => XS.ifNo X0.here hx rfl (hb hby at_39) rfl ((if0 _ _).trans (feq hc39_43).1) k) ?_
        refine own_st (T' := T0) (g' := (mkF m 43 #[.val (.int i), .val (.int j), .val (.int kk), .val (.int sa), .val (.int sb), .val (.int ra), .val (.int ia), .unset, .unset, .unset, .unset, .unset, .unset, .unset, .unset] [(.int (1 : Int32))])) (fun _ k => XS.iconst X0.here hx rfl (hb hby at_42) k) ?_
        refine own_st (T' := T0) (g' := (mkF m 47 #[.val (.int i), .val (.int j), .val (.int kk), .val (.int sa), .val (.int sb), .val (.int ra), .val (.int ia), .unset, .unset, .unset, .unset, .unset, .unset, .unset, .unset] [(.int (1 : Int32))])) (fun _ k => XS.goto X0.here hx rfl (pc0 := 43) (pc' := 47) rfl (hb hby at_43) (by decide) (by decide) k) ?_
        refine own_st (T' := T0) (g' := (mkF m 49 #[.val (.int i), .val (.int j), .val (.int kk), .val (.int sa), .val (.int sb), .val (.int ra), .val (.int ia), .val (.int (1 : Int32)), .unset, .unset, .unset, .unset, .unset, .unset, .unset] [])) (fun _ k => XS.istore X0.here hx rfl (hb hby at_47) rfl (l' := #[.val (.int i), .val (.int j), .val (.int kk), .val (.int sa), .val (.int sb), .val (.int ra), .val (.int ia), .val (.int (1 : Int32)), .unset, .unset, .unset, .unset, .unset, .unset, .unset]) rfl k) ?_
        exact K49 (1 : Int32) (Or.inr rfl)
    refine own_st (T' := T0) (g' := (mkF m 23 #[.val (.int i), .val (.int j), .val (.int kk), .val (.int sa), .val (.int sb), .val (.int ra), .unset, .unset, .unset, .unset, .unset, .unset, .unset, .unset, .unset] [(.int i)])) (fun _ k => XS.iloadN X0.here hx rfl (hb hby at_22) rfl k) ?_
    refine own_st (T' := T0) (g' := (mkF m 25 #[.val (.int i), .val (.int j), .val (.int kk), .val (.int sa), .val (.int sb), .val (.int ra), .unset, .unset, .unset, .unset, .unset, .unset, .unset, .unset, .unset] [(.int (8 : Int32)), (.int i)])) (fun _ k => XS.bipush X0.here hx rfl (hb hby at_23) k) ?_
    refine own_st (T' := T0) (g' := (mkF m 26 #[.val (.int i), .val (.int j), .val (.int kk), .val (.int sa), .val (.int sb), .val (.int ra), .unset, .unset, .unset, .unset, .unset, .unset, .unset, .unset, .unset] [(.int (i &&& (8 : Int32)))])) (fun _ k => XS.iand X0.here hx rfl (hb hby at_25) rfl k) ?_
    by_cases hc26_44 : (i &&& (8 : Int32)) = (0 : Int32)
    ·
      refine own_st (T' := T0) (g' := (mkF m 33 #[.val (.int i), .val (.int j), .val (.int kk), .val (.int sa), .val (.int sb), .val (.int ra), .unset, .unset, .unset, .unset, .unset, .unset, .unset, .unset, .unset] [])) (fun _ k => XS.ifYes X0.here hx rfl (pc0 := 26) (pc' := 33) rfl (hb hby at_26) rfl ((if0 _ _).trans (teq hc26_44).1) (by decide) (by decide) k) ?_
      refine own_st (T' := T0) (g' := (mkF m 34 #[.val (.int i), .val (.int j), .val (.int kk), .val (.int sa), .val (.int sb), .val (.int ra), .unset, .unset, .unset, .unset, .unset, .unset, .unset, .unset, .unset] [(.int (0 : Int32))])) (fun _ k => XS.iconst X0.here hx rfl (hb hby at_33) k) ?_
      refine own_st (T' := T0) (g' := (mkF m 36 #[.val (.int i), .val (.int j), .val (.int kk), .val (.int sa), .val (.int sb), .val (.int ra), .val (.int (0 : Int32)), .unset, .unset, .unset, .unset, .unset, .unset, .unset, .unset] [])) (fun _ k => XS.istore X0.here hx rfl (hb hby at_34) rfl (l' := #[.val (.int i), .val (.int j), .val (.int kk), .val (.int sa), .val (.int sb), .val (.int ra), .val (.int (0 : Int32)), .unset, .unset, .unset, .unset, .unset, .unset, .unset, .unset]) rfl k) ?_
      exact K36 (0 : Int32) (Or.inl rfl)
    ·
      refine own_st (T' := T0) (g' := (mkF m 29 #[.val (.int i), .val (.int j), .val (.int kk), .val (.int sa), .val (.int sb), .val (.int ra), .unset, .unset, .unset, .unset, .unset, .unset, .unset, .unset, .unset] [])) (fun _ k => XS.ifNo X0.here hx rfl (hb hby at_26) rfl ((if0 _ _).trans (feq hc26_44).1) k) ?_
      refine own_st (T' := T0) (g' := (mkF m 30 #[.val (.int i), .val (.int j), .val (.int kk), .val (.int sa), .val (.int sb), .val (.int ra), .unset, .unset, .unset, .unset, .unset, .unset, .unset, .unset, .unset] [(.int (1 : Int32))])) (fun _ k => XS.iconst X0.here hx rfl (hb hby at_29) k) ?_
      refine own_st (T' := T0) (g' := (mkF m 34 #[.val (.int i), .val (.int j), .val (.int kk), .val (.int sa), .val (.int sb), .val (.int ra), .unset, .unset, .unset, .unset, .unset, .unset, .unset, .unset, .unset] [(.int (1 : Int32))])) (fun _ k => XS.goto X0.here hx rfl (pc0 := 30) (pc' := 34) rfl (hb hby at_30) (by decide) (by decide) k) ?_
      refine own_st (T' := T0) (g' := (mkF m 36 #[.val (.int i), .val (.int j), .val (.int kk), .val (.int sa), .val (.int sb), .val (.int ra), .val (.int (1 : Int32)), .unset, .unset, .unset, .unset, .unset, .unset, .unset, .unset] [])) (fun _ k => XS.istore X0.here hx rfl (hb hby at_34) rfl (l' := #[.val (.int i), .val (.int j), .val (.int kk), .val (.int sa), .val (.int sb), .val (.int ra), .val (.int (1 : Int32)), .unset, .unset, .unset, .unset, .unset, .unset, .unset, .unset]) rfl k) ?_
      exact K36 (1 : Int32) (Or.inr rfl)
  refine own_st (T' := T0) (g' := (mkF m 10 #[.val (.int i), .val (.int j), .val (.int kk), .val (.int sa), .val (.int sb), .unset, .unset, .unset, .unset, .unset, .unset, .unset, .unset, .unset, .unset] [(.int i)])) (fun _ k => XS.iloadN X0.here hx rfl (hb hby at_9) rfl k) ?_
  refine own_st (T' := T0) (g' := (mkF m 11 #[.val (.int i), .val (.int j), .val (.int kk), .val (.int sa), .val (.int sb), .unset, .unset, .unset, .unset, .unset, .unset, .unset, .unset, .unset, .unset] [(.int (4 : Int32)), (.int i)])) (fun _ k => XS.iconst X0.here hx rfl (hb hby at_10) k) ?_
  refine own_st (T' := T0) (g' := (mkF m 12 #[.val (.int i), .val (.int j), .val (.int kk), .val (.int sa), .val (.int sb), .unset, .unset, .unset, .unset, .unset, .unset, .unset, .unset, .unset, .unset] [(.int (i &&& (4 : Int32)))])) (fun _ k => XS.iand X0.here hx rfl (hb hby at_11) rfl k) ?_
  by_cases hc12_45 : (i &&& (4 : Int32)) = (0 : Int32)
  ·
    refine own_st (T' := T0) (g' := (mkF m 19 #[.val (.int i), .val (.int j), .val (.int kk), .val (.int sa), .val (.int sb), .unset, .unset, .unset, .unset, .unset, .unset, .unset, .unset, .unset, .unset] [])) (fun _ k => XS.ifYes X0.here hx rfl (pc0 := 12) (pc' := 19) rfl (hb hby at_12) rfl ((if0 _ _).trans (teq hc12_45).1) (by decide) (by decide) k) ?_
    refine own_st (T' := T0) (g' := (mkF m 20 #[.val (.int i), .val (.int j), .val (.int kk), .val (.int sa), .val (.int sb), .unset, .unset, .unset, .unset, .unset, .unset, .unset, .unset, .unset, .unset] [(.int (0 : Int32))])) (fun _ k => XS.iconst X0.here hx rfl (hb hby at_19) k) ?_
    refine own_st (T' := T0) (g' := (mkF m 22 #[.val (.int i), .val (.int j), .val (.int kk), .val (.int sa), .val (.int sb), .val (.int (0 : Int32)), .unset, .unset, .unset, .unset, .unset, .unset, .unset, .unset, .unset] [])) (fun _ k => XS.istore X0.here hx rfl (hb hby at_20) rfl (l' := #[.val (.int i), .val (.int j), .val (.int kk), .val (.int sa), .val (.int sb), .val (.int (0 : Int32)), .unset, .unset, .unset, .unset, .unset, .unset, .unset, .unset, .unset]) rfl k) ?_
    exact K22 (0 : Int32) (Or.inl rfl)
  ·
    refine own_st (T' := T0) (g' := (mkF m 15 #[.val (.int i), .val (.int j), .val (.int kk), .val (.int sa), .val (.int sb), .unset, .unset, .unset, .unset, .unset, .unset, .unset, .unset, .unset, .unset] [])) (fun _ k => XS.ifNo X0.here hx rfl (hb hby at_12) rfl ((if0 _ _).trans (feq hc12_45).1) k) ?_
    refine own_st (T' := T0) (g' := (mkF m 16 #[.val (.int i), .val (.int j), .val (.int kk), .val (.int sa), .val (.int sb), .unset, .unset, .unset, .unset, .unset, .unset, .unset, .unset, .unset, .unset] [(.int (1 : Int32))])) (fun _ k => XS.iconst X0.here hx rfl (hb hby at_15) k) ?_
    refine own_st (T' := T0) (g' := (mkF m 20 #[.val (.int i), .val (.int j), .val (.int kk), .val (.int sa), .val (.int sb), .unset, .unset, .unset, .unset, .unset, .unset, .unset, .unset, .unset, .unset] [(.int (1 : Int32))])) (fun _ k => XS.goto X0.here hx rfl (pc0 := 16) (pc' := 20) rfl (hb hby at_16) (by decide) (by decide) k) ?_
    refine own_st (T' := T0) (g' := (mkF m 22 #[.val (.int i), .val (.int j), .val (.int kk), .val (.int sa), .val (.int sb), .val (.int (1 : Int32)), .unset, .unset, .unset, .unset, .unset, .unset, .unset, .unset, .unset] [])) (fun _ k => XS.istore X0.here hx rfl (hb hby at_20) rfl (l' := #[.val (.int i), .val (.int j), .val (.int kk), .val (.int sa), .val (.int sb), .val (.int (1 : Int32)), .unset, .unset, .unset, .unset, .unset, .unset, .unset, .unset, .unset]) rfl k) ?_
    exact K22 (1 : Int32) (Or.inr rfl)
/-! ### from the case's words to the owed theorems -/
theorem own_comes (H : ∀ (l : Launch) (s : State) (args : Array Value), Fit s → (∀ d ∈ tables_1, d.before args s = true) → (∀ d ∈ jdkStatics_1, d.before args s = true) → given_1.value args s none s [] = some true → narrow_1.value args s none s [] = some true → own_MetW l s s.heap tables_1 room_1 x code maxLocals ret args (fun v h L => v = some (.int 1) ∧ Fr s.heap.size L))
    {Post : Tables → Env → Array Value → State → Outcome → State → Prop} (hpost : ∀ tb e args s v u, (limb_1_1.after args s (.returned v) u = true ∧ limb_1_2.after args s (.returned v) u = true) → ReturnedEndW s (.returned v) u (Jvm.fieldLocs frame_1_writes args s ++ Jvm.arrayLocs frame_1_arrays args s ++ Jvm.staticLocs frame_1_statics s) 16 1152 → Post tb e args s (.returned v) u) :
    ArmFor flags0 classFile x code maxLocals ret World_1 tables_1 room_1 Calls_1 rest_1 Pre_1 Post := by
  intro l hfl _ _ p e ha hc hk s m args below hf hA hF happ hP
  obtain ⟨hcalls, hrest, hpre⟩ := hP
  obtain ⟨-, -, -, hnamed, -, -, -, hat⟩ := (Spec.applies_iff hf).mp happ
  obtain ⟨hg, hn⟩ := and_e (Cond.before_iff.mp (show (Jvm.Cond.and given_1 narrow_1).before args s = true from hpre))
  have hw := fun d (hd : d ∈ tables_1) => atoms_spec (ws := Jvm.Cond.code x code maxLocals ret :: tables_1) hat d (List.mem_cons_of_mem _ hd)
  have hfit : Fit s := fun {y c} hc i hi => by
    obtain ⟨ha, rfl⟩ := Array.getElem?_eq_some_iff.mp hc
    have q := List.all_eq_true.mp ((Array.all_eq_true_iff_forall_mem.mp hF) _ (Array.getElem_mem ha)) i (List.mem_range.mpr hi)
    simpa [Array.getElem?_eq_getElem hi] using q
  obtain ⟨hsets, hown0⟩ := atoms_of _ (rest_1_c_eq ▸ (show rest_1_c.before _ s = true from hrest))
  obtain ⟨n, o, h1, h2, h3, _, L, rfl, ⟨rfl, N⟩, hq⟩ := H l s args hfit hw hsets hg hn p e ha hc hk s m args below hf ((Spec.applies_iff_loose hf).mp happ).1 ⟨rfl, State.Warmed39.refl s, rfl⟩ trivial
  exact ⟨n, _, h1, h2, h3, hpost _ _ _ _ _ _ ⟨Cond.after_iff.mpr rfl, Cond.after_iff.mpr (eq_i res_at (Term.int_eval (1)) rfl)⟩ ⟨hq.1, hq.2.1, hq.2.2.1, (hq.2.2.2.sift fun y hy => Or.inr (N y hy)).mono (by decide) (by decide)⟩⟩
set_option maxRecDepth 65536 in
theorem own_law (l : Launch) (s : State) (args : Array Value) (hfit : Fit s) (hw : ∀ d ∈ tables_1, d.before args s = true) (hsets : ∀ d ∈ jdkStatics_1, d.before args s = true) (hg : given_1.value args s none s [] = some true) (hn : narrow_1.value args s none s [] = some true) :
    own_MetW l s s.heap tables_1 room_1 x code maxLocals ret args (fun v h L => v = some (.int 1) ∧ Fr s.heap.size L) := by
  obtain ⟨i, j, kk, rfl⟩ := own_args3 hg
  obtain ⟨n0a, n0b⟩ := and_e hn
  obtain ⟨n1a, n1b⟩ := and_e n0b
  obtain ⟨n2a, n2b⟩ := and_e n1b
  obtain ⟨n3a, n3b⟩ := and_e n2b
  obtain ⟨n4a, n4b⟩ := and_e n3b
  obtain ⟨n5a, n5b⟩ := and_e n4b
  obtain ⟨n6a, n6b⟩ := and_e n5b
  obtain ⟨a_ANNOTATION, V_ANNOTATION, E_ANNOTATION, S_ANNOTATION⟩ := own_sx n0a (hw _ (List.mem_of_getElem? (i := 8) rfl)) (hw _ (List.mem_of_getElem? (i := 9) rfl))
  obtain ⟨a_CLASS_RULE, V_CLASS_RULE, E_CLASS_RULE, S_CLASS_RULE⟩ := own_sx n1a (hw _ (List.mem_of_getElem? (i := 8) rfl)) (hw _ (List.mem_of_getElem? (i := 37) rfl))
  have F_ANNOTATION_ordinal := own_fi V_ANNOTATION n2a
  have F_CLASS_RULE_ordinal := own_fi V_CLASS_RULE n3a
  obtain ⟨a_DESCRIPTOR, V_DESCRIPTOR, E_DESCRIPTOR, S_DESCRIPTOR⟩ := own_sx n4a (hw _ (List.mem_of_getElem? (i := 8) rfl)) (hw _ (List.mem_of_getElem? (i := 46) rfl))
  have F_DESCRIPTOR_ordinal := own_fi V_DESCRIPTOR n5a
  obtain ⟨a_METHOD_RULE, V_METHOD_RULE, E_METHOD_RULE, S_METHOD_RULE⟩ := own_sx n6a (hw _ (List.mem_of_getElem? (i := 8) rfl)) (hw _ (List.mem_of_getElem? (i := 48) rfl))
  have F_METHOD_RULE_ordinal := own_fi V_METHOD_RULE n6b
  have V_high := eqv_i (Term.int_eval 127) (Cond.before_iff.mp (hsets _ (List.mem_of_getElem? (i := 3) rfl)))
  have S_high := Sta.start V_high (Or.inr ⟨(hw _ (List.mem_of_getElem? (i := 54) rfl)), (hsets _ (List.mem_of_getElem? (i := 0) rfl))⟩)
  obtain ⟨a_cache, cl_cache, V_cache, A_cache, S_cache⟩ := own_ax (Cond.before_iff.mp (hsets _ (List.mem_of_getElem? (i := 4) rfl))) (hw _ (List.mem_of_getElem? (i := 54) rfl)) (hsets _ (List.mem_of_getElem? (i := 2) rfl))
  have Z_cache := own_len V_cache A_cache (Cond.before_iff.mp (hsets _ (List.mem_of_getElem? (i := 6) rfl)))
  have Y_cache := own_box (fun _ => V_cache) A_cache (Cond.before_iff.mp (hsets _ (List.mem_of_getElem? (i := 7) rfl)))
  have hE : own_E s s.heap a_ANNOTATION a_CLASS_RULE a_DESCRIPTOR a_METHOD_RULE a_cache cl_cache := ⟨S_ANNOTATION, S_CLASS_RULE, S_DESCRIPTOR, S_METHOD_RULE, E_ANNOTATION, E_CLASS_RULE, E_DESCRIPTOR, E_METHOD_RULE, F_ANNOTATION_ordinal, F_CLASS_RULE_ordinal, F_DESCRIPTOR_ordinal, F_METHOD_RULE_ordinal, S_high, S_cache, A_cache, Z_cache, Y_cache, trivial⟩
  exact (own_lawP l s _ hw s.heap a_ANNOTATION a_CLASS_RULE a_DESCRIPTOR a_METHOD_RULE a_cache cl_cache hE i j kk)
theorem main_1_1 : Claimed_1_1 := own_comes own_law fun _ _ _ _ _ _ h hF => ⟨h.1, hF⟩
theorem main_1_2 : Claimed_1_2 := own_comes own_law fun _ _ _ _ _ _ h hF => ⟨h.2, hF⟩
end Jvm.Pilot.@@N@@
namespace Jvm.Pilot.@@N@@
open Jvm Jvm.ClassFile Sem Op Lib Jvm.Free Jvm.Stand Jvm.Pilot.@@N@@.Jvm.D
/-! MADE BY PROGRAM (witnessworld.py) out of the Statement's table words and the real class files: 21 classes; the members and pool entries that the words name. The judged class is class 1, her method 2. -/
namespace start1
open Jvm.ClassFile
def u (s : String) : CpInfo := .utf8 (stringToUtf16 s)
/-- a pool by its gaps: so many unusable entries, then the entry; so many at the end -/
def gap : Nat → List CpInfo → List CpInfo
  | 0, r => r
  | n + 1, r => .unusable :: gap n r
def poolList (es : List (Nat × CpInfo)) (last : Nat) : List CpInfo := es.foldr (fun e r => gap e.1 (e.2 :: r)) (gap last [])
def pool (es : List (Nat × CpInfo)) (last : Nat) : Array CpInfo := ⟨poolList es last⟩
def fileOf (pool : Array CpInfo) (this : Nat) (attrs : Array Attribute := #[]) (ms : Array MethodInfo := #[]) (fl : Nat := 33) (sup : Nat := 0) (ifs : Array Nat := #[]) (fds : Array FieldInfo := #[]) : ClassFile where
  minorVersion := 0
  majorVersion := 65
  constantPool := pool
  accessFlags := fl
  thisClass := this
  superClass := sup
  interfaces := ifs
  fields := fds
  methods := ms
  attributes := attrs
def plain (name : String) (sup : Option ClassId) : Class where
  name := name
  kind := .ordinary
  loader := none
  accessFlags := 33
  super := sup
  interfaces := #[]
  cf := none
  fields := #[]
  methods := #[]
  instanceTypes := #[]
  staticTypes := #[]
  resolved := #[]
  callSites := []
  init := .initialized
  statics := none
  mirror := none

def pool0 : Array CpInfo := pool [(5, u "<init>"), (0, u "()V"), (1, .class_ 10), (1, u "java/lang/Object")] 113

def k0c0 : Code := { maxStack := 0, maxLocals := 1, code := object_method_1_code, exceptionTable := #[], attributes := #[] }
def k0m0 : Method := { name := "<init>", desc := "()V", sig := { parameters := [], returnType := none }, accessFlags := 1, code := some k0c0 }
/-- java/lang/Object -/
def k0 : Class := { plain "java/lang/Object" none with
  accessFlags := 33
  interfaces := #[]
  cf := some (fileOf pool0 8 #[] #[{ accessFlags := 1, nameIndex := 5, descriptorIndex := 6, attributes := #[] }] 33 0 #[] #[])
  fields := #[]
  methods := #[k0m0]
  instanceTypes := #[]
  staticTypes := #[]
  resolved := Array.replicate 124 none
  statics := none }

def pool1 : Array CpInfo := pool [(2, .class_ 4), (1, u "java/lang/Object"), (0, u "<init>"), (0, u "()V"), (0, .fieldref 8 9), (0, .class_ 10), (0, .nameAndType 11 12), (0, u "com/example/rollback_rules/rollbackrules/decision/Designation$Source"), (0, u "ANNOTATION"), (0, u "Lcom/example/rollback_rules/rollbackrules/decision/Designation$Source;"), (0, .fieldref 8 14), (0, .nameAndType 15 12), (0, u "DESCRIPTOR"), (0, .fieldref 8 17), (0, .nameAndType 18 12), (0, u "METHOD_RULE"), (0, .fieldref 8 20), (0, .nameAndType 21 12), (0, u "CLASS_RULE"), (0, .class_ 23), (0, u "com/example/rollback_rules/rollbackrules/decision/Designation"), (0, .methodref 25 26), (0, .class_ 27), (0, .nameAndType 28 29), (0, u "com/example/rollback_rules/rollbackrules/decision/DesignationEqualsPinLaw"), (0, u "src"), (0, u "(I)Lcom/example/rollback_rules/rollbackrules/decision/Designation$Source;"), (0, .methodref 22 31), (0, .nameAndType 5 32), (0, u "(Lcom/example/rollback_rules/rollbackrules/decision/Designation$Source;ZZ)V"), (0, .methodref 34 35), (0, .class_ 36), (0, .nameAndType 37 38), (0, u "java/lang/Integer"), (0, u "valueOf"), (0, u "(I)Ljava/lang/Integer;"), (0, .methodref 22 40), (0, .nameAndType 41 42), (0, u "equals"), (0, u "(Ljava/lang/Object;)Z"), (3, u "law"), (0, u "(III)Z")] 4

def k1m0 : Method := { name := "<init>", desc := "()V", sig := { parameters := [], returnType := none }, accessFlags := 1, code := none }
def k1c1 : Code := { maxStack := 2, maxLocals := 1, code := method_2_code, exceptionTable := #[], attributes := #[] }
def k1m1 : Method := { name := "src", desc := "(I)Lcom/example/rollback_rules/rollbackrules/decision/Designation$Source;", sig := { parameters := [.int], returnType := some (.object "com/example/rollback_rules/rollbackrules/decision/Designation$Source") }, accessFlags := 10, code := some k1c1 }
def k1c2 : Code := { maxStack := 5, maxLocals := 15, code := code, exceptionTable := #[], attributes := #[] }
def k1m2 : Method := { name := "law", desc := "(III)Z", sig := { parameters := [.int, .int, .int], returnType := some .boolean }, accessFlags := 9, code := some k1c2 }
/-- com/example/rollback_rules/rollbackrules/decision/DesignationEqualsPinLaw -/
def k1 : Class := { plain "com/example/rollback_rules/rollbackrules/decision/DesignationEqualsPinLaw" (some 0) with
  accessFlags := 49
  interfaces := #[]
  cf := some (fileOf pool1 25 #[] #[{ accessFlags := 1, nameIndex := 5, descriptorIndex := 6, attributes := #[] }, { accessFlags := 10, nameIndex := 28, descriptorIndex := 29, attributes := #[] }, { accessFlags := 9, nameIndex := 46, descriptorIndex := 47, attributes := #[] }] 49 2 #[] #[])
  fields := #[]
  methods := #[k1m0, k1m1, k1m2]
  instanceTypes := #[]
  staticTypes := #[]
  resolved := Array.replicate 52 none
  statics := none }

def pool2 : Array CpInfo := pool [(1, .methodref 2 3), (0, .class_ 4), (0, .nameAndType 5 6), (0, u "java/lang/Object"), (0, u "<init>"), (0, u "()V"), (0, .string 8), (0, u "source"), (0, .methodref 10 11), (0, .class_ 12), (0, .nameAndType 13 14), (0, u "java/util/Objects"), (0, u "requireNonNull"), (0, u "(Ljava/lang/Object;Ljava/lang/String;)Ljava/lang/Object;"), (0, .class_ 16), (0, u "com/example/rollback_rules/rollbackrules/decision/Designation$Source"), (0, .fieldref 18 19), (0, .class_ 20), (0, .nameAndType 8 21), (0, u "com/example/rollback_rules/rollbackrules/decision/Designation"), (0, u "Lcom/example/rollback_rules/rollbackrules/decision/Designation$Source;"), (0, .fieldref 18 23), (0, .nameAndType 24 25), (0, u "rollback"), (0, u "Z"), (0, .fieldref 18 27), (0, .nameAndType 28 25), (0, u "inherited"), (39, .class_ 69), (0, u "com/example/rollback_rules/rollbackrules/decision/Designation$AnnotationType"), (11, u "(Lcom/example/rollback_rules/rollbackrules/decision/Designation$Source;ZZ)V"), (2, u "equals"), (0, u "(Ljava/lang/Object;)Z"), (28, .class_ 115), (0, u "com/example/rollback_rules/rollbackrules/decision/Designation$DeclaredElement"), (9, u "SPECIFIED_DEFAULTS"), (0, u "Ljava/util/Map;"), (49, u "SPECIFIED"), (0, u "Lcom/example/rollback_rules/rollbackrules/decision/Designation$AnnotationType;"), (42, u "ANNOTATION_TYPES"), (0, u "Ljava/util/Set;"), (6, u "DEFAULT_ROLLBACK"), (2, u "DEFAULT_INHERITED"), (3, u "ROLLBACK"), (0, u "Ljava/lang/String;"), (0, u "INHERITED")] 73

def k2c0 : Code := { maxStack := 3, maxLocals := 4, code := prog_57_method_1_code, exceptionTable := #[], attributes := #[] }
def k2m0 : Method := { name := "<init>", desc := "(Lcom/example/rollback_rules/rollbackrules/decision/Designation$Source;ZZ)V", sig := { parameters := [(.object "com/example/rollback_rules/rollbackrules/decision/Designation$Source"), .boolean, .boolean], returnType := none }, accessFlags := 1, code := some k2c0 }
def k2c1 : Code := { maxStack := 2, maxLocals := 3, code := prog_57_method_8_code, exceptionTable := #[], attributes := #[] }
def k2m1 : Method := { name := "equals", desc := "(Ljava/lang/Object;)Z", sig := { parameters := [(.object "java/lang/Object")], returnType := some .boolean }, accessFlags := 1, code := some k2c1 }
/-- com/example/rollback_rules/rollbackrules/decision/Designation -/
def k2 : Class := { plain "com/example/rollback_rules/rollbackrules/decision/Designation" (some 0) with
  accessFlags := 49
  interfaces := #[]
  cf := some (fileOf pool2 18 #[.nestMembers #[114, 68, 15]] #[{ accessFlags := 1, nameIndex := 5, descriptorIndex := 81, attributes := #[] }, { accessFlags := 1, nameIndex := 84, descriptorIndex := 85, attributes := #[] }] 49 2 #[] #[{ accessFlags := 25, nameIndex := 228, descriptorIndex := 25, attributes := #[] }, { accessFlags := 25, nameIndex := 231, descriptorIndex := 25, attributes := #[] }, { accessFlags := 25, nameIndex := 220, descriptorIndex := 221, attributes := #[] }, { accessFlags := 26, nameIndex := 235, descriptorIndex := 236, attributes := #[] }, { accessFlags := 26, nameIndex := 237, descriptorIndex := 236, attributes := #[] }, { accessFlags := 26, nameIndex := 125, descriptorIndex := 126, attributes := #[] }, { accessFlags := 26, nameIndex := 176, descriptorIndex := 177, attributes := #[] }, { accessFlags := 18, nameIndex := 8, descriptorIndex := 21, attributes := #[] }, { accessFlags := 18, nameIndex := 24, descriptorIndex := 25, attributes := #[] }, { accessFlags := 18, nameIndex := 28, descriptorIndex := 25, attributes := #[] }])
  fields := #[{ name := "DEFAULT_ROLLBACK", type := .boolean, accessFlags := 25, slot := 0, constantValue := 0 }, { name := "DEFAULT_INHERITED", type := .boolean, accessFlags := 25, slot := 1, constantValue := 0 }, { name := "ANNOTATION_TYPES", type := (.object "java/util/Set"), accessFlags := 25, slot := 2, constantValue := 0 }, { name := "ROLLBACK", type := (.object "java/lang/String"), accessFlags := 26, slot := 3, constantValue := 0 }, { name := "INHERITED", type := (.object "java/lang/String"), accessFlags := 26, slot := 4, constantValue := 0 }, { name := "SPECIFIED_DEFAULTS", type := (.object "java/util/Map"), accessFlags := 26, slot := 5, constantValue := 0 }, { name := "SPECIFIED", type := (.object "com/example/rollback_rules/rollbackrules/decision/Designation$AnnotationType"), accessFlags := 26, slot := 6, constantValue := 0 }, { name := "source", type := (.object "com/example/rollback_rules/rollbackrules/decision/Designation$Source"), accessFlags := 18, slot := 0, constantValue := 0 }, { name := "rollback", type := .boolean, accessFlags := 18, slot := 1, constantValue := 0 }, { name := "inherited", type := .boolean, accessFlags := 18, slot := 2, constantValue := 0 }]
  methods := #[k2m0, k2m1]
  instanceTypes := #[(.object "com/example/rollback_rules/rollbackrules/decision/Designation$Source"), .boolean, .boolean]
  staticTypes := #[.boolean, .boolean, (.object "java/util/Set"), (.object "java/lang/String"), (.object "java/lang/String"), (.object "java/util/Map"), (.object "com/example/rollback_rules/rollbackrules/decision/Designation$AnnotationType")]
  resolved := Array.replicate 311 none
  statics := none }

def pool3 : Array CpInfo := pool [(1, .class_ 2), (0, u "java/lang/constant/Constable"), (0, .class_ 4), (0, u "java/lang/Object")] 6

/-- java/lang/constant/Constable -/
def k3 : Class := { plain "java/lang/constant/Constable" (some 0) with
  accessFlags := 1537
  interfaces := #[]
  cf := some (fileOf pool3 1 #[] #[] 1537 3 #[] #[])
  fields := #[]
  methods := #[]
  instanceTypes := #[]
  staticTypes := #[]
  resolved := Array.replicate 11 none
  statics := none }

def pool4 : Array CpInfo := pool [(1, .class_ 2), (0, u "java/lang/Comparable"), (0, .class_ 4), (0, u "java/lang/Object")] 7

/-- java/lang/Comparable -/
def k4 : Class := { plain "java/lang/Comparable" (some 0) with
  accessFlags := 1537
  interfaces := #[]
  cf := some (fileOf pool4 1 #[] #[] 1537 3 #[] #[])
  fields := #[]
  methods := #[]
  instanceTypes := #[]
  staticTypes := #[]
  resolved := Array.replicate 12 none
  statics := none }

def pool5 : Array CpInfo := pool [(1, .class_ 2), (0, u "java/io/Serializable"), (0, .class_ 4), (0, u "java/lang/Object")] 2

/-- java/io/Serializable -/
def k5 : Class := { plain "java/io/Serializable" (some 0) with
  accessFlags := 1537
  interfaces := #[]
  cf := some (fileOf pool5 1 #[] #[] 1537 3 #[] #[])
  fields := #[]
  methods := #[]
  instanceTypes := #[]
  staticTypes := #[]
  resolved := Array.replicate 7 none
  statics := none }

def pool6 : Array CpInfo := pool [(2, .class_ 4), (1, u "java/lang/Enum"), (0, u "name"), (0, u "Ljava/lang/String;"), (2, u "ordinal"), (0, u "I"), (1, .class_ 14), (1, u "java/lang/Object"), (4, u "hash"), (86, .class_ 108), (1, u "java/lang/Enum$EnumDesc"), (2, .class_ 112), (0, u "java/lang/constant/Constable"), (0, .class_ 114), (0, u "java/lang/Comparable"), (0, .class_ 116), (0, u "java/io/Serializable")] 87

/-- java/lang/Enum -/
def k6 : Class := { plain "java/lang/Enum" (some 0) with
  accessFlags := 1057
  interfaces := #[3, 4, 5]
  cf := some (fileOf pool6 2 #[.nestMembers #[106]] #[] 1057 12 #[111, 113, 115] #[{ accessFlags := 18, nameIndex := 5, descriptorIndex := 6, attributes := #[] }, { accessFlags := 18, nameIndex := 9, descriptorIndex := 10, attributes := #[] }, { accessFlags := 2, nameIndex := 19, descriptorIndex := 10, attributes := #[] }])
  fields := #[{ name := "name", type := (.object "java/lang/String"), accessFlags := 18, slot := 0, constantValue := 0 }, { name := "ordinal", type := .int, accessFlags := 18, slot := 1, constantValue := 0 }, { name := "hash", type := .int, accessFlags := 2, slot := 2, constantValue := 0 }]
  methods := #[]
  instanceTypes := #[(.object "java/lang/String"), .int, .int]
  staticTypes := #[]
  resolved := Array.replicate 204 none
  statics := none }

def pool7 : Array CpInfo := pool [(1, .class_ 2), (0, u "com/example/rollback_rules/rollbackrules/decision/Designation$Source"), (2, u "ANNOTATION"), (0, u "Lcom/example/rollback_rules/rollbackrules/decision/Designation$Source;"), (2, u "DESCRIPTOR"), (2, u "METHOD_RULE"), (2, u "CLASS_RULE"), (2, u "$VALUES"), (0, u "[Lcom/example/rollback_rules/rollbackrules/decision/Designation$Source;"), (6, .class_ 28), (1, u "java/lang/Enum"), (27, .class_ 57), (0, u "com/example/rollback_rules/rollbackrules/decision/Designation")] 2

/-- com/example/rollback_rules/rollbackrules/decision/Designation$Source -/
def k7 : Class := { plain "com/example/rollback_rules/rollbackrules/decision/Designation$Source" (some 6) with
  accessFlags := 16433
  interfaces := #[]
  cf := some (fileOf pool7 1 #[.nestHost 56] #[] 16433 26 #[] #[{ accessFlags := 16409, nameIndex := 5, descriptorIndex := 6, attributes := #[] }, { accessFlags := 16409, nameIndex := 9, descriptorIndex := 6, attributes := #[] }, { accessFlags := 16409, nameIndex := 12, descriptorIndex := 6, attributes := #[] }, { accessFlags := 16409, nameIndex := 15, descriptorIndex := 6, attributes := #[] }, { accessFlags := 4122, nameIndex := 18, descriptorIndex := 19, attributes := #[] }])
  fields := #[{ name := "ANNOTATION", type := (.object "com/example/rollback_rules/rollbackrules/decision/Designation$Source"), accessFlags := 16409, slot := 0, constantValue := 0 }, { name := "DESCRIPTOR", type := (.object "com/example/rollback_rules/rollbackrules/decision/Designation$Source"), accessFlags := 16409, slot := 1, constantValue := 0 }, { name := "METHOD_RULE", type := (.object "com/example/rollback_rules/rollbackrules/decision/Designation$Source"), accessFlags := 16409, slot := 2, constantValue := 0 }, { name := "CLASS_RULE", type := (.object "com/example/rollback_rules/rollbackrules/decision/Designation$Source"), accessFlags := 16409, slot := 3, constantValue := 0 }, { name := "$VALUES", type := (.array (.object "com/example/rollback_rules/rollbackrules/decision/Designation$Source")), accessFlags := 4122, slot := 4, constantValue := 0 }]
  methods := #[]
  instanceTypes := #[(.object "java/lang/String"), .int, .int]
  staticTypes := #[(.object "com/example/rollback_rules/rollbackrules/decision/Designation$Source"), (.object "com/example/rollback_rules/rollbackrules/decision/Designation$Source"), (.object "com/example/rollback_rules/rollbackrules/decision/Designation$Source"), (.object "com/example/rollback_rules/rollbackrules/decision/Designation$Source"), (.array (.object "com/example/rollback_rules/rollbackrules/decision/Designation$Source"))]
  resolved := Array.replicate 60 none
  statics := some 0 }

def pool8 : Array CpInfo := pool [(2, .class_ 4), (1, u "java/lang/CharSequence"), (42, .class_ 48), (0, u "java/lang/CharSequence$1CodePointIterator"), (10, .class_ 60), (0, u "java/lang/CharSequence$1CharIterator"), (5, .class_ 67), (0, u "java/lang/Object")] 63

/-- java/lang/CharSequence -/
def k8 : Class := { plain "java/lang/CharSequence" (some 0) with
  accessFlags := 1537
  interfaces := #[]
  cf := some (fileOf pool8 2 #[.nestMembers #[47, 59]] #[] 1537 66 #[] #[])
  fields := #[]
  methods := #[]
  instanceTypes := #[]
  staticTypes := #[]
  resolved := Array.replicate 131 none
  statics := none }

def pool9 : Array CpInfo := pool [(1, .class_ 2), (0, u "java/lang/constant/ConstantDesc"), (0, .class_ 4), (0, u "java/lang/Object")] 32

/-- java/lang/constant/ConstantDesc -/
def k9 : Class := { plain "java/lang/constant/ConstantDesc" (some 0) with
  accessFlags := 1537
  interfaces := #[]
  cf := some (fileOf pool9 1 #[] #[] 1537 3 #[] #[])
  fields := #[]
  methods := #[]
  instanceTypes := #[]
  staticTypes := #[]
  resolved := Array.replicate 37 none
  statics := none }

def pool10 : Array CpInfo := pool [(2, .class_ 4), (1, u "java/lang/Object"), (0, u "<init>"), (0, u "()V"), (3, .class_ 12), (1, u "java/lang/String"), (0, u "value"), (0, u "[B"), (2, u "coder"), (0, u "B"), (2, u "hash"), (0, u "I"), (2, u "hashIsZero"), (0, u "Z"), (13, u "COMPACT_STRINGS"), (534, .class_ 576), (0, u "java/lang/CharSequence"), (22, u "CASE_INSENSITIVE_ORDER"), (0, u "Ljava/util/Comparator;"), (500, u "serialPersistentFields"), (0, u "[Ljava/io/ObjectStreamField;"), (0, .class_ 1104), (0, u "java/lang/String$CaseInsensitiveComparator"), (1, .class_ 1107), (0, u "java/io/Serializable"), (0, .class_ 1109), (0, u "java/lang/Comparable"), (0, .class_ 1111), (0, u "java/lang/constant/Constable"), (0, .class_ 1113), (0, u "java/lang/constant/ConstantDesc"), (2, u "serialVersionUID"), (0, u "J"), (3, u "REPL"), (0, u "C"), (2, u "LATIN1"), (1, u "UTF16")] 323

def k10m0 : Method := { name := "<init>", desc := "()V", sig := { parameters := [], returnType := none }, accessFlags := 1, code := none }
/-- java/lang/String -/
def k10 : Class := { plain "java/lang/String" (some 0) with
  accessFlags := 49
  interfaces := #[5, 4, 8, 3, 9]
  cf := some (fileOf pool10 10 #[.nestMembers #[1103]] #[{ accessFlags := 1, nameIndex := 5, descriptorIndex := 6, attributes := #[] }] 49 2 #[1106, 1108, 575, 1110, 1112] #[{ accessFlags := 18, nameIndex := 13, descriptorIndex := 14, attributes := #[] }, { accessFlags := 18, nameIndex := 17, descriptorIndex := 18, attributes := #[] }, { accessFlags := 2, nameIndex := 21, descriptorIndex := 22, attributes := #[] }, { accessFlags := 2, nameIndex := 25, descriptorIndex := 26, attributes := #[] }, { accessFlags := 26, nameIndex := 1116, descriptorIndex := 1117, attributes := #[] }, { accessFlags := 24, nameIndex := 40, descriptorIndex := 26, attributes := #[] }, { accessFlags := 26, nameIndex := 1101, descriptorIndex := 1102, attributes := #[] }, { accessFlags := 26, nameIndex := 1121, descriptorIndex := 1122, attributes := #[] }, { accessFlags := 25, nameIndex := 599, descriptorIndex := 600, attributes := #[] }, { accessFlags := 24, nameIndex := 1125, descriptorIndex := 18, attributes := #[] }, { accessFlags := 24, nameIndex := 1127, descriptorIndex := 18, attributes := #[] }])
  fields := #[{ name := "value", type := (.array .byte), accessFlags := 18, slot := 0, constantValue := 0 }, { name := "coder", type := .byte, accessFlags := 18, slot := 1, constantValue := 0 }, { name := "hash", type := .int, accessFlags := 2, slot := 2, constantValue := 0 }, { name := "hashIsZero", type := .boolean, accessFlags := 2, slot := 3, constantValue := 0 }, { name := "serialVersionUID", type := .long, accessFlags := 26, slot := 0, constantValue := 0 }, { name := "COMPACT_STRINGS", type := .boolean, accessFlags := 24, slot := 1, constantValue := 0 }, { name := "serialPersistentFields", type := (.array (.object "java/io/ObjectStreamField")), accessFlags := 26, slot := 2, constantValue := 0 }, { name := "REPL", type := .char, accessFlags := 26, slot := 3, constantValue := 0 }, { name := "CASE_INSENSITIVE_ORDER", type := (.object "java/util/Comparator"), accessFlags := 25, slot := 4, constantValue := 0 }, { name := "LATIN1", type := .byte, accessFlags := 24, slot := 5, constantValue := 0 }, { name := "UTF16", type := .byte, accessFlags := 24, slot := 6, constantValue := 0 }]
  methods := #[k10m0]
  instanceTypes := #[(.array .byte), .byte, .int, .boolean]
  staticTypes := #[.long, .boolean, (.array (.object "java/io/ObjectStreamField")), .char, (.object "java/util/Comparator"), .byte, .byte]
  resolved := Array.replicate 1451 none
  statics := none }

def pool11 : Array CpInfo := pool [(2, .class_ 4), (1, u "java/lang/Object"), (0, u "<init>"), (0, u "()V"), (35, .class_ 44), (1, u "java/util/Objects"), (0, u "requireNonNull"), (48, u "(Ljava/lang/Object;Ljava/lang/String;)Ljava/lang/Object;")] 89

def k11m0 : Method := { name := "<init>", desc := "()V", sig := { parameters := [], returnType := none }, accessFlags := 2, code := none }
def k11c1 : Code := { maxStack := 3, maxLocals := 2, code := jdk_31_method_11_code, exceptionTable := #[], attributes := #[] }
def k11m1 : Method := { name := "requireNonNull", desc := "(Ljava/lang/Object;Ljava/lang/String;)Ljava/lang/Object;", sig := { parameters := [(.object "java/lang/Object"), (.object "java/lang/String")], returnType := some (.object "java/lang/Object") }, accessFlags := 9, code := some k11c1 }
/-- java/util/Objects -/
def k11 : Class := { plain "java/util/Objects" (some 0) with
  accessFlags := 49
  interfaces := #[]
  cf := some (fileOf pool11 42 #[] #[{ accessFlags := 2, nameIndex := 5, descriptorIndex := 6, attributes := #[] }, { accessFlags := 9, nameIndex := 45, descriptorIndex := 94, attributes := #[] }] 49 2 #[] #[])
  fields := #[]
  methods := #[k11m0, k11m1]
  instanceTypes := #[]
  staticTypes := #[]
  resolved := Array.replicate 184 none
  statics := none }

def pool12 : Array CpInfo := pool [(1, .methodref 2 3), (0, .class_ 4), (0, .nameAndType 5 6), (0, u "java/lang/Object"), (0, u "<init>"), (0, u "()V"), (1, .class_ 10), (1, u "java/lang/Number"), (2, .class_ 14), (0, u "java/io/Serializable"), (0, u "serialVersionUID"), (0, u "J")] 20

def k12c0 : Code := { maxStack := 1, maxLocals := 1, code := jdk_18_method_1_code, exceptionTable := #[], attributes := #[] }
def k12m0 : Method := { name := "<init>", desc := "()V", sig := { parameters := [], returnType := none }, accessFlags := 1, code := some k12c0 }
/-- java/lang/Number -/
def k12 : Class := { plain "java/lang/Number" (some 0) with
  accessFlags := 1057
  interfaces := #[5]
  cf := some (fileOf pool12 8 #[] #[{ accessFlags := 1, nameIndex := 5, descriptorIndex := 6, attributes := #[] }] 1057 2 #[13] #[{ accessFlags := 26, nameIndex := 15, descriptorIndex := 16, attributes := #[] }])
  fields := #[{ name := "serialVersionUID", type := .long, accessFlags := 26, slot := 0, constantValue := 0 }]
  methods := #[k12m0]
  instanceTypes := #[]
  staticTypes := #[.long]
  resolved := Array.replicate 37 none
  statics := none }

def pool13 : Array CpInfo := pool [(1, .class_ 2), (0, u "java/lang/Integer"), (16, u "digits"), (0, u "[C"), (46, u "<init>"), (17, u "DigitOnes"), (0, u "[B"), (2, u "DigitTens"), (10, .nameAndType 67 101), (0, u "()V"), (85, u "valueOf"), (0, u "(I)Ljava/lang/Integer;"), (0, .class_ 190), (0, u "java/lang/Integer$IntegerCache"), (0, .fieldref 189 192), (0, .nameAndType 193 194), (0, u "high"), (0, u "I"), (0, .fieldref 189 196), (0, .nameAndType 197 198), (0, u "cache"), (0, u "[Ljava/lang/Integer;"), (0, .methodref 1 200), (0, .nameAndType 67 201), (0, u "(I)V"), (0, .methodref 203 100), (0, .class_ 204), (0, u "java/lang/Number"), (0, .fieldref 1 206), (0, .nameAndType 207 194), (0, u "value"), (94, u "TYPE"), (0, u "Ljava/lang/Class;"), (0, .class_ 305), (0, u "java/lang/Comparable"), (0, .class_ 307), (0, u "java/lang/constant/Constable"), (0, .class_ 309), (0, u "java/lang/constant/ConstantDesc"), (0, u "MIN_VALUE"), (1, u "MAX_VALUE"), (3, u "SIZE"), (1, u "BYTES"), (1, u "serialVersionUID"), (0, u "J")] 131

def k13c0 : Code := { maxStack := 3, maxLocals := 1, code := jdk_33_method_22_code, exceptionTable := #[], attributes := #[] }
def k13m0 : Method := { name := "valueOf", desc := "(I)Ljava/lang/Integer;", sig := { parameters := [.int], returnType := some (.object "java/lang/Integer") }, accessFlags := 9, code := some k13c0 }
def k13c1 : Code := { maxStack := 2, maxLocals := 2, code := jdk_33_method_23_code, exceptionTable := #[], attributes := #[] }
def k13m1 : Method := { name := "<init>", desc := "(I)V", sig := { parameters := [.int], returnType := none }, accessFlags := 1, code := some k13c1 }
/-- java/lang/Integer -/
def k13 : Class := { plain "java/lang/Integer" (some 12) with
  accessFlags := 49
  interfaces := #[4, 3, 9]
  cf := some (fileOf pool13 1 #[.nestMembers #[189]] #[{ accessFlags := 9, nameIndex := 187, descriptorIndex := 188, attributes := #[] }, { accessFlags := 1, nameIndex := 67, descriptorIndex := 201, attributes := #[] }] 49 203 #[304, 306, 308] #[{ accessFlags := 25, nameIndex := 310, descriptorIndex := 194, attributes := #[] }, { accessFlags := 25, nameIndex := 312, descriptorIndex := 194, attributes := #[] }, { accessFlags := 25, nameIndex := 302, descriptorIndex := 303, attributes := #[] }, { accessFlags := 24, nameIndex := 19, descriptorIndex := 20, attributes := #[] }, { accessFlags := 24, nameIndex := 89, descriptorIndex := 86, attributes := #[] }, { accessFlags := 24, nameIndex := 85, descriptorIndex := 86, attributes := #[] }, { accessFlags := 18, nameIndex := 207, descriptorIndex := 194, attributes := #[] }, { accessFlags := 25, nameIndex := 316, descriptorIndex := 194, attributes := #[] }, { accessFlags := 25, nameIndex := 318, descriptorIndex := 194, attributes := #[] }, { accessFlags := 26, nameIndex := 320, descriptorIndex := 321, attributes := #[] }])
  fields := #[{ name := "MIN_VALUE", type := .int, accessFlags := 25, slot := 0, constantValue := 0 }, { name := "MAX_VALUE", type := .int, accessFlags := 25, slot := 1, constantValue := 0 }, { name := "TYPE", type := (.object "java/lang/Class"), accessFlags := 25, slot := 2, constantValue := 0 }, { name := "digits", type := (.array .char), accessFlags := 24, slot := 3, constantValue := 0 }, { name := "DigitTens", type := (.array .byte), accessFlags := 24, slot := 4, constantValue := 0 }, { name := "DigitOnes", type := (.array .byte), accessFlags := 24, slot := 5, constantValue := 0 }, { name := "value", type := .int, accessFlags := 18, slot := 0, constantValue := 0 }, { name := "SIZE", type := .int, accessFlags := 25, slot := 6, constantValue := 0 }, { name := "BYTES", type := .int, accessFlags := 25, slot := 7, constantValue := 0 }, { name := "serialVersionUID", type := .long, accessFlags := 26, slot := 8, constantValue := 0 }]
  methods := #[k13m0, k13m1]
  instanceTypes := #[.int]
  staticTypes := #[.int, .int, (.object "java/lang/Class"), (.array .char), (.array .byte), (.array .byte), .int, .int, .long]
  resolved := Array.replicate 453 none
  statics := none }

def pool14 : Array CpInfo := pool [(2, .class_ 4), (1, u "java/lang/Object"), (0, u "<init>"), (0, u "()V"), (0, .class_ 8), (0, u "java/lang/Integer"), (7, .class_ 18), (1, u "java/lang/Integer$IntegerCache"), (0, u "$assertionsDisabled"), (0, u "Z"), (26, u "high"), (0, u "I"), (8, u "archivedCache"), (0, u "[Ljava/lang/Integer;"), (12, u "cache"), (0, u "low")] 27

def k14m0 : Method := { name := "<init>", desc := "()V", sig := { parameters := [], returnType := none }, accessFlags := 2, code := none }
/-- java/lang/Integer$IntegerCache -/
def k14 : Class := { plain "java/lang/Integer$IntegerCache" (some 0) with
  accessFlags := 48
  interfaces := #[]
  cf := some (fileOf pool14 16 #[.nestHost 7] #[{ accessFlags := 2, nameIndex := 5, descriptorIndex := 6, attributes := #[] }] 48 2 #[] #[{ accessFlags := 24, nameIndex := 72, descriptorIndex := 48, attributes := #[] }, { accessFlags := 24, nameIndex := 47, descriptorIndex := 48, attributes := #[] }, { accessFlags := 24, nameIndex := 71, descriptorIndex := 58, attributes := #[] }, { accessFlags := 8, nameIndex := 57, descriptorIndex := 58, attributes := #[] }, { accessFlags := 4120, nameIndex := 19, descriptorIndex := 20, attributes := #[] }])
  fields := #[{ name := "low", type := .int, accessFlags := 24, slot := 0, constantValue := 0 }, { name := "high", type := .int, accessFlags := 24, slot := 1, constantValue := 0 }, { name := "cache", type := (.array (.object "java/lang/Integer")), accessFlags := 24, slot := 2, constantValue := 0 }, { name := "archivedCache", type := (.array (.object "java/lang/Integer")), accessFlags := 8, slot := 3, constantValue := 0 }, { name := "$assertionsDisabled", type := .boolean, accessFlags := 4120, slot := 4, constantValue := 0 }]
  methods := #[k14m0]
  instanceTypes := #[]
  staticTypes := #[.int, .int, (.array (.object "java/lang/Integer")), (.array (.object "java/lang/Integer")), .boolean]
  resolved := Array.replicate 100 none
  statics := some 1 }

def pool15 : Array CpInfo := pool [(1, u "java/lang/Cloneable"), (0, .class_ 1), (0, u "java/lang/Object"), (0, .class_ 3)] 3

/-- java/lang/Cloneable -/
def k15 : Class := { plain "java/lang/Cloneable" (some 0) with
  accessFlags := 1537
  interfaces := #[]
  cf := some (fileOf pool15 2 #[] #[] 1537 4 #[] #[])
  fields := #[]
  methods := #[]
  instanceTypes := #[]
  staticTypes := #[]
  resolved := Array.replicate 8 none
  statics := none }

/-- the primitive byte -/
def k16 : Class := { plain "byte" none with kind := .primitive 'B', accessFlags := 0x411 }
/-- [B -/
def k17 : Class := { plain "[B" (some 0) with kind := .array 16 .byte, interfaces := #[15, 5], accessFlags := 1041 }

/-- the primitive int -/
def k18 : Class := { plain "int" none with kind := .primitive 'I', accessFlags := 0x411 }
/-- [I -/
def k19 : Class := { plain "[I" (some 0) with kind := .array 18 .int, interfaces := #[15, 5], accessFlags := 1041 }

/-- [Ljava/lang/Integer; -/
def k20 : Class := { plain "[Ljava/lang/Integer;" (some 0) with kind := .array 13 (.object "java/lang/Integer"), interfaces := #[15, 5], accessFlags := 1041 }

def heap : Heap := #[{ cls := 7, slots := #[.ref 3, .ref 5, .ref 6, .ref 4, .null], vm := .statics 7 },
  { cls := 14, slots := #[.int 0, .int 127, .ref 2, .null, .int 0], vm := .statics 14 },
  { cls := 20, slots := #[.ref 7, .ref 8, .ref 9, .ref 10, .ref 11, .ref 12, .ref 13, .ref 14, .ref 15, .ref 16, .ref 17, .ref 18, .ref 19, .ref 20, .ref 21, .ref 22, .ref 23, .ref 24, .ref 25, .ref 26, .ref 27, .ref 28, .ref 29, .ref 30, .ref 31, .ref 32, .ref 33, .ref 34, .ref 35, .ref 36, .ref 37, .ref 38, .ref 39, .ref 40, .ref 41, .ref 42, .ref 43, .ref 44, .ref 45, .ref 46, .ref 47, .ref 48, .ref 49, .ref 50, .ref 51, .ref 52, .ref 53, .ref 54, .ref 55, .ref 56, .ref 57, .ref 58, .ref 59, .ref 60, .ref 61, .ref 62, .ref 63, .ref 64, .ref 65, .ref 66, .ref 67, .ref 68, .ref 69, .ref 70, .ref 71, .ref 72, .ref 73, .ref 74, .ref 75, .ref 76, .ref 77, .ref 78, .ref 79, .ref 80, .ref 81, .ref 82, .ref 83, .ref 84, .ref 85, .ref 86, .ref 87, .ref 88, .ref 89, .ref 90, .ref 91, .ref 92, .ref 93, .ref 94, .ref 95, .ref 96, .ref 97, .ref 98, .ref 99, .ref 100, .ref 101, .ref 102, .ref 103, .ref 104, .ref 105, .ref 106, .ref 107, .ref 108, .ref 109, .ref 110, .ref 111, .ref 112, .ref 113, .ref 114, .ref 115, .ref 116, .ref 117, .ref 118, .ref 119, .ref 120, .ref 121, .ref 122, .ref 123, .ref 124, .ref 125, .ref 126, .ref 127, .ref 128, .ref 129, .ref 130, .ref 131, .ref 132, .ref 133, .ref 134, .ref 135, .ref 136, .ref 137, .ref 138, .ref 139, .ref 140, .ref 141, .ref 142, .ref 143, .ref 144, .ref 145, .ref 146, .ref 147, .ref 148, .ref 149, .ref 150, .ref 151, .ref 152, .ref 153, .ref 154, .ref 155, .ref 156, .ref 157, .ref 158, .ref 159, .ref 160, .ref 161, .ref 162, .ref 163, .ref 164, .ref 165, .ref 166, .ref 167, .ref 168, .ref 169, .ref 170, .ref 171, .ref 172, .ref 173, .ref 174, .ref 175, .ref 176, .ref 177, .ref 178, .ref 179, .ref 180, .ref 181, .ref 182, .ref 183, .ref 184, .ref 185, .ref 186, .ref 187, .ref 188, .ref 189, .ref 190, .ref 191, .ref 192, .ref 193, .ref 194, .ref 195, .ref 196, .ref 197, .ref 198, .ref 199, .ref 200, .ref 201, .ref 202, .ref 203, .ref 204, .ref 205, .ref 206, .ref 207, .ref 208, .ref 209, .ref 210, .ref 211, .ref 212, .ref 213, .ref 214, .ref 215, .ref 216, .ref 217, .ref 218, .ref 219, .ref 220, .ref 221, .ref 222, .ref 223, .ref 224, .ref 225, .ref 226, .ref 227, .ref 228, .ref 229, .ref 230, .ref 231, .ref 232, .ref 233, .ref 234, .ref 235, .ref 236, .ref 237, .ref 238, .ref 239, .ref 240, .ref 241, .ref 242, .ref 243, .ref 244, .ref 245, .ref 246, .ref 247, .ref 248, .ref 249, .ref 250, .ref 251, .ref 252, .ref 253, .ref 254, .ref 255, .ref 256, .ref 257, .ref 258, .ref 259, .ref 260, .ref 261, .ref 262], vm := .none },
  { cls := 7, slots := #[.null, .int 0, .int 0], vm := .none },
  { cls := 7, slots := #[.null, .int 3, .int 0], vm := .none },
  { cls := 7, slots := #[.null, .int 1, .int 0], vm := .none },
  { cls := 7, slots := #[.null, .int 2, .int 0], vm := .none },
  { cls := 13, slots := #[.int (-128)], vm := .none },
  { cls := 13, slots := #[.int (-127)], vm := .none },
  { cls := 13, slots := #[.int (-126)], vm := .none },
  { cls := 13, slots := #[.int (-125)], vm := .none },
  { cls := 13, slots := #[.int (-124)], vm := .none },
  { cls := 13, slots := #[.int (-123)], vm := .none },
  { cls := 13, slots := #[.int (-122)], vm := .none },
  { cls := 13, slots := #[.int (-121)], vm := .none },
  { cls := 13, slots := #[.int (-120)], vm := .none },
  { cls := 13, slots := #[.int (-119)], vm := .none },
  { cls := 13, slots := #[.int (-118)], vm := .none },
  { cls := 13, slots := #[.int (-117)], vm := .none },
  { cls := 13, slots := #[.int (-116)], vm := .none },
  { cls := 13, slots := #[.int (-115)], vm := .none },
  { cls := 13, slots := #[.int (-114)], vm := .none },
  { cls := 13, slots := #[.int (-113)], vm := .none },
  { cls := 13, slots := #[.int (-112)], vm := .none },
  { cls := 13, slots := #[.int (-111)], vm := .none },
  { cls := 13, slots := #[.int (-110)], vm := .none },
  { cls := 13, slots := #[.int (-109)], vm := .none },
  { cls := 13, slots := #[.int (-108)], vm := .none },
  { cls := 13, slots := #[.int (-107)], vm := .none },
  { cls := 13, slots := #[.int (-106)], vm := .none },
  { cls := 13, slots := #[.int (-105)], vm := .none },
  { cls := 13, slots := #[.int (-104)], vm := .none },
  { cls := 13, slots := #[.int (-103)], vm := .none },
  { cls := 13, slots := #[.int (-102)], vm := .none },
  { cls := 13, slots := #[.int (-101)], vm := .none },
  { cls := 13, slots := #[.int (-100)], vm := .none },
  { cls := 13, slots := #[.int (-99)], vm := .none },
  { cls := 13, slots := #[.int (-98)], vm := .none },
  { cls := 13, slots := #[.int (-97)], vm := .none },
  { cls := 13, slots := #[.int (-96)], vm := .none },
  { cls := 13, slots := #[.int (-95)], vm := .none },
  { cls := 13, slots := #[.int (-94)], vm := .none },
  { cls := 13, slots := #[.int (-93)], vm := .none },
  { cls := 13, slots := #[.int (-92)], vm := .none },
  { cls := 13, slots := #[.int (-91)], vm := .none },
  { cls := 13, slots := #[.int (-90)], vm := .none },
  { cls := 13, slots := #[.int (-89)], vm := .none },
  { cls := 13, slots := #[.int (-88)], vm := .none },
  { cls := 13, slots := #[.int (-87)], vm := .none },
  { cls := 13, slots := #[.int (-86)], vm := .none },
  { cls := 13, slots := #[.int (-85)], vm := .none },
  { cls := 13, slots := #[.int (-84)], vm := .none },
  { cls := 13, slots := #[.int (-83)], vm := .none },
  { cls := 13, slots := #[.int (-82)], vm := .none },
  { cls := 13, slots := #[.int (-81)], vm := .none },
  { cls := 13, slots := #[.int (-80)], vm := .none },
  { cls := 13, slots := #[.int (-79)], vm := .none },
  { cls := 13, slots := #[.int (-78)], vm := .none },
  { cls := 13, slots := #[.int (-77)], vm := .none },
  { cls := 13, slots := #[.int (-76)], vm := .none },
  { cls := 13, slots := #[.int (-75)], vm := .none },
  { cls := 13, slots := #[.int (-74)], vm := .none },
  { cls := 13, slots := #[.int (-73)], vm := .none },
  { cls := 13, slots := #[.int (-72)], vm := .none },
  { cls := 13, slots := #[.int (-71)], vm := .none },
  { cls := 13, slots := #[.int (-70)], vm := .none },
  { cls := 13, slots := #[.int (-69)], vm := .none },
  { cls := 13, slots := #[.int (-68)], vm := .none },
  { cls := 13, slots := #[.int (-67)], vm := .none },
  { cls := 13, slots := #[.int (-66)], vm := .none },
  { cls := 13, slots := #[.int (-65)], vm := .none },
  { cls := 13, slots := #[.int (-64)], vm := .none },
  { cls := 13, slots := #[.int (-63)], vm := .none },
  { cls := 13, slots := #[.int (-62)], vm := .none },
  { cls := 13, slots := #[.int (-61)], vm := .none },
  { cls := 13, slots := #[.int (-60)], vm := .none },
  { cls := 13, slots := #[.int (-59)], vm := .none },
  { cls := 13, slots := #[.int (-58)], vm := .none },
  { cls := 13, slots := #[.int (-57)], vm := .none },
  { cls := 13, slots := #[.int (-56)], vm := .none },
  { cls := 13, slots := #[.int (-55)], vm := .none },
  { cls := 13, slots := #[.int (-54)], vm := .none },
  { cls := 13, slots := #[.int (-53)], vm := .none },
  { cls := 13, slots := #[.int (-52)], vm := .none },
  { cls := 13, slots := #[.int (-51)], vm := .none },
  { cls := 13, slots := #[.int (-50)], vm := .none },
  { cls := 13, slots := #[.int (-49)], vm := .none },
  { cls := 13, slots := #[.int (-48)], vm := .none },
  { cls := 13, slots := #[.int (-47)], vm := .none },
  { cls := 13, slots := #[.int (-46)], vm := .none },
  { cls := 13, slots := #[.int (-45)], vm := .none },
  { cls := 13, slots := #[.int (-44)], vm := .none },
  { cls := 13, slots := #[.int (-43)], vm := .none },
  { cls := 13, slots := #[.int (-42)], vm := .none },
  { cls := 13, slots := #[.int (-41)], vm := .none },
  { cls := 13, slots := #[.int (-40)], vm := .none },
  { cls := 13, slots := #[.int (-39)], vm := .none },
  { cls := 13, slots := #[.int (-38)], vm := .none },
  { cls := 13, slots := #[.int (-37)], vm := .none },
  { cls := 13, slots := #[.int (-36)], vm := .none },
  { cls := 13, slots := #[.int (-35)], vm := .none },
  { cls := 13, slots := #[.int (-34)], vm := .none },
  { cls := 13, slots := #[.int (-33)], vm := .none },
  { cls := 13, slots := #[.int (-32)], vm := .none },
  { cls := 13, slots := #[.int (-31)], vm := .none },
  { cls := 13, slots := #[.int (-30)], vm := .none },
  { cls := 13, slots := #[.int (-29)], vm := .none },
  { cls := 13, slots := #[.int (-28)], vm := .none },
  { cls := 13, slots := #[.int (-27)], vm := .none },
  { cls := 13, slots := #[.int (-26)], vm := .none },
  { cls := 13, slots := #[.int (-25)], vm := .none },
  { cls := 13, slots := #[.int (-24)], vm := .none },
  { cls := 13, slots := #[.int (-23)], vm := .none },
  { cls := 13, slots := #[.int (-22)], vm := .none },
  { cls := 13, slots := #[.int (-21)], vm := .none },
  { cls := 13, slots := #[.int (-20)], vm := .none },
  { cls := 13, slots := #[.int (-19)], vm := .none },
  { cls := 13, slots := #[.int (-18)], vm := .none },
  { cls := 13, slots := #[.int (-17)], vm := .none },
  { cls := 13, slots := #[.int (-16)], vm := .none },
  { cls := 13, slots := #[.int (-15)], vm := .none },
  { cls := 13, slots := #[.int (-14)], vm := .none },
  { cls := 13, slots := #[.int (-13)], vm := .none },
  { cls := 13, slots := #[.int (-12)], vm := .none },
  { cls := 13, slots := #[.int (-11)], vm := .none },
  { cls := 13, slots := #[.int (-10)], vm := .none },
  { cls := 13, slots := #[.int (-9)], vm := .none },
  { cls := 13, slots := #[.int (-8)], vm := .none },
  { cls := 13, slots := #[.int (-7)], vm := .none },
  { cls := 13, slots := #[.int (-6)], vm := .none },
  { cls := 13, slots := #[.int (-5)], vm := .none },
  { cls := 13, slots := #[.int (-4)], vm := .none },
  { cls := 13, slots := #[.int (-3)], vm := .none },
  { cls := 13, slots := #[.int (-2)], vm := .none },
  { cls := 13, slots := #[.int (-1)], vm := .none },
  { cls := 13, slots := #[.int 0], vm := .none },
  { cls := 13, slots := #[.int 1], vm := .none },
  { cls := 13, slots := #[.int 2], vm := .none },
  { cls := 13, slots := #[.int 3], vm := .none },
  { cls := 13, slots := #[.int 4], vm := .none },
  { cls := 13, slots := #[.int 5], vm := .none },
  { cls := 13, slots := #[.int 6], vm := .none },
  { cls := 13, slots := #[.int 7], vm := .none },
  { cls := 13, slots := #[.int 8], vm := .none },
  { cls := 13, slots := #[.int 9], vm := .none },
  { cls := 13, slots := #[.int 10], vm := .none },
  { cls := 13, slots := #[.int 11], vm := .none },
  { cls := 13, slots := #[.int 12], vm := .none },
  { cls := 13, slots := #[.int 13], vm := .none },
  { cls := 13, slots := #[.int 14], vm := .none },
  { cls := 13, slots := #[.int 15], vm := .none },
  { cls := 13, slots := #[.int 16], vm := .none },
  { cls := 13, slots := #[.int 17], vm := .none },
  { cls := 13, slots := #[.int 18], vm := .none },
  { cls := 13, slots := #[.int 19], vm := .none },
  { cls := 13, slots := #[.int 20], vm := .none },
  { cls := 13, slots := #[.int 21], vm := .none },
  { cls := 13, slots := #[.int 22], vm := .none },
  { cls := 13, slots := #[.int 23], vm := .none },
  { cls := 13, slots := #[.int 24], vm := .none },
  { cls := 13, slots := #[.int 25], vm := .none },
  { cls := 13, slots := #[.int 26], vm := .none },
  { cls := 13, slots := #[.int 27], vm := .none },
  { cls := 13, slots := #[.int 28], vm := .none },
  { cls := 13, slots := #[.int 29], vm := .none },
  { cls := 13, slots := #[.int 30], vm := .none },
  { cls := 13, slots := #[.int 31], vm := .none },
  { cls := 13, slots := #[.int 32], vm := .none },
  { cls := 13, slots := #[.int 33], vm := .none },
  { cls := 13, slots := #[.int 34], vm := .none },
  { cls := 13, slots := #[.int 35], vm := .none },
  { cls := 13, slots := #[.int 36], vm := .none },
  { cls := 13, slots := #[.int 37], vm := .none },
  { cls := 13, slots := #[.int 38], vm := .none },
  { cls := 13, slots := #[.int 39], vm := .none },
  { cls := 13, slots := #[.int 40], vm := .none },
  { cls := 13, slots := #[.int 41], vm := .none },
  { cls := 13, slots := #[.int 42], vm := .none },
  { cls := 13, slots := #[.int 43], vm := .none },
  { cls := 13, slots := #[.int 44], vm := .none },
  { cls := 13, slots := #[.int 45], vm := .none },
  { cls := 13, slots := #[.int 46], vm := .none },
  { cls := 13, slots := #[.int 47], vm := .none },
  { cls := 13, slots := #[.int 48], vm := .none },
  { cls := 13, slots := #[.int 49], vm := .none },
  { cls := 13, slots := #[.int 50], vm := .none },
  { cls := 13, slots := #[.int 51], vm := .none },
  { cls := 13, slots := #[.int 52], vm := .none },
  { cls := 13, slots := #[.int 53], vm := .none },
  { cls := 13, slots := #[.int 54], vm := .none },
  { cls := 13, slots := #[.int 55], vm := .none },
  { cls := 13, slots := #[.int 56], vm := .none },
  { cls := 13, slots := #[.int 57], vm := .none },
  { cls := 13, slots := #[.int 58], vm := .none },
  { cls := 13, slots := #[.int 59], vm := .none },
  { cls := 13, slots := #[.int 60], vm := .none },
  { cls := 13, slots := #[.int 61], vm := .none },
  { cls := 13, slots := #[.int 62], vm := .none },
  { cls := 13, slots := #[.int 63], vm := .none },
  { cls := 13, slots := #[.int 64], vm := .none },
  { cls := 13, slots := #[.int 65], vm := .none },
  { cls := 13, slots := #[.int 66], vm := .none },
  { cls := 13, slots := #[.int 67], vm := .none },
  { cls := 13, slots := #[.int 68], vm := .none },
  { cls := 13, slots := #[.int 69], vm := .none },
  { cls := 13, slots := #[.int 70], vm := .none },
  { cls := 13, slots := #[.int 71], vm := .none },
  { cls := 13, slots := #[.int 72], vm := .none },
  { cls := 13, slots := #[.int 73], vm := .none },
  { cls := 13, slots := #[.int 74], vm := .none },
  { cls := 13, slots := #[.int 75], vm := .none },
  { cls := 13, slots := #[.int 76], vm := .none },
  { cls := 13, slots := #[.int 77], vm := .none },
  { cls := 13, slots := #[.int 78], vm := .none },
  { cls := 13, slots := #[.int 79], vm := .none },
  { cls := 13, slots := #[.int 80], vm := .none },
  { cls := 13, slots := #[.int 81], vm := .none },
  { cls := 13, slots := #[.int 82], vm := .none },
  { cls := 13, slots := #[.int 83], vm := .none },
  { cls := 13, slots := #[.int 84], vm := .none },
  { cls := 13, slots := #[.int 85], vm := .none },
  { cls := 13, slots := #[.int 86], vm := .none },
  { cls := 13, slots := #[.int 87], vm := .none },
  { cls := 13, slots := #[.int 88], vm := .none },
  { cls := 13, slots := #[.int 89], vm := .none },
  { cls := 13, slots := #[.int 90], vm := .none },
  { cls := 13, slots := #[.int 91], vm := .none },
  { cls := 13, slots := #[.int 92], vm := .none },
  { cls := 13, slots := #[.int 93], vm := .none },
  { cls := 13, slots := #[.int 94], vm := .none },
  { cls := 13, slots := #[.int 95], vm := .none },
  { cls := 13, slots := #[.int 96], vm := .none },
  { cls := 13, slots := #[.int 97], vm := .none },
  { cls := 13, slots := #[.int 98], vm := .none },
  { cls := 13, slots := #[.int 99], vm := .none },
  { cls := 13, slots := #[.int 100], vm := .none },
  { cls := 13, slots := #[.int 101], vm := .none },
  { cls := 13, slots := #[.int 102], vm := .none },
  { cls := 13, slots := #[.int 103], vm := .none },
  { cls := 13, slots := #[.int 104], vm := .none },
  { cls := 13, slots := #[.int 105], vm := .none },
  { cls := 13, slots := #[.int 106], vm := .none },
  { cls := 13, slots := #[.int 107], vm := .none },
  { cls := 13, slots := #[.int 108], vm := .none },
  { cls := 13, slots := #[.int 109], vm := .none },
  { cls := 13, slots := #[.int 110], vm := .none },
  { cls := 13, slots := #[.int 111], vm := .none },
  { cls := 13, slots := #[.int 112], vm := .none },
  { cls := 13, slots := #[.int 113], vm := .none },
  { cls := 13, slots := #[.int 114], vm := .none },
  { cls := 13, slots := #[.int 115], vm := .none },
  { cls := 13, slots := #[.int 116], vm := .none },
  { cls := 13, slots := #[.int 117], vm := .none },
  { cls := 13, slots := #[.int 118], vm := .none },
  { cls := 13, slots := #[.int 119], vm := .none },
  { cls := 13, slots := #[.int 120], vm := .none },
  { cls := 13, slots := #[.int 121], vm := .none },
  { cls := 13, slots := #[.int 122], vm := .none },
  { cls := 13, slots := #[.int 123], vm := .none },
  { cls := 13, slots := #[.int 124], vm := .none },
  { cls := 13, slots := #[.int 125], vm := .none },
  { cls := 13, slots := #[.int 126], vm := .none },
  { cls := 13, slots := #[.int 127], vm := .none }]
def classes : Array Class := #[k0, k1, k2, k3, k4, k5, k6, k7, k8, k9, k10, k11, k12, k13, k14, k15, k16, k17, k18, k19, k20]
def interned : List (Array UInt16 × Addr) := []
def slotsUsed : Nat := 534
def theMethod : MethodId := ⟨1, 2⟩
def args0 : Array Value := #[.int 5, .int 6, .int 2]
def aboutOver (below : List Frame) : State where
  vm := { classes := classes, interned := interned.toArray }
  heap := heap
  slotsUsed := slotsUsed
  threads := #[{ frames := .invoking theMethod args0 :: below }]
def below0 : List Frame := [.native { method := ⟨0, 0⟩, args := #[] }]
def about1 : State := aboutOver below0
def p0 : Program := .bare "" "" ""
def e0 : Env := launch0.env 0 0 0
theorem w_frames : about1.frames = Frame.invoking theMethod args0 :: below0 := rfl
set_option maxRecDepth 65536 in
theorem w_args : argsFit about1.vm theMethod args0 = true := by decide +kernel
set_option maxRecDepth 65536 in
theorem w_heap : heapFits about1 = true := by decide +kernel
set_option maxRecDepth 65536 in
theorem w_runnable : about1.curStatus? = some .runnable := by decide +kernel
set_option maxRecDepth 65536 in
theorem w_alone : about1.alone = true := by decide +kernel
set_option maxRecDepth 65536 in
theorem w_named : about1.methodNamed? x = some theMethod := by decide +kernel
set_option maxRecDepth 65536 in
theorem w_hears : about1.hears theMethod below0 = true := by decide +kernel
set_option maxRecDepth 65536 in
theorem w_ripe : about1.ripe theMethod args0 below0 = true := by decide +kernel
theorem w_running : about1.status = .running := rfl
set_option maxRecDepth 65536 in
theorem w_room : about1.hasRoom e0.platform room_1 = true :=
  launch0.hasRoom_least _ room_1 (by decide +kernel) (by decide +kernel) (by decide +kernel) (by decide +kernel) (by decide +kernel) (by decide +kernel)
theorem allAtoms_all (ts : List Jvm.Cond) (a : Array Jvm.Value) (st : Jvm.State) : (allAtoms ts).before a st = ts.all (fun c => c.before a st) := by
  induction ts with
  | nil => rfl
  | cons c t ih =>
    show (Jvm.Cond.and c (allAtoms t)).before a st = _
    rw [Jvm.Cond.before_and, ih, List.all_cons]
def words1 : List Jvm.Cond := Jvm.Cond.code x code maxLocals ret :: tables_1
/-- a 'code' word, met by the world's own term for the bytes: nothing is compared byte by byte -/
theorem code_word {y : MethodName} {bytes : ByteArray} {mx : Nat} {rt : Option FieldType} {a : Array Value} {s : State} {m : MethodId} {meth : Method} {c : Code} (h1 : s.methodNamed? y = some m) (h2 : s.vm.method? m = some meth) (h3 : meth.code = some c) (h4 : c.code = bytes)
    (h5 : (c.maxLocals == mx && c.exceptionTable.isEmpty && decide (c.maxStack ≤ mostOperands) && decide (meth.sig.returnType = rt) && !meth.locks && decide (parseMethodDescriptor y.desc = some meth.sig)) = true) : (Jvm.Cond.code y bytes mx rt).before a s = true := by
  simp only [Bool.and_eq_true, beq_iff_eq, Bool.not_eq_true', decide_eq_true_eq] at h5
  obtain ⟨⟨⟨⟨⟨g1, g2⟩, g3⟩, g4⟩, g5⟩, g6⟩ := h5
  simp [Cond.before, Cond.holds, Cond.value, h1, h2, h3, h4, g1, g2, g3, g4, g5, g6]
def isCode : Jvm.Cond → Bool
  | .code _ _ _ _ => true
  | _ => false
theorem all_split {L : List Jvm.Cond} {P : Jvm.Cond → Bool} (h1 : L.all (fun c => isCode c || P c) = true) (h2 : ∀ c ∈ L.filter isCode, P c = true) : L.all P = true := by
  refine List.all_eq_true.mpr fun c hc => ?_
  have h := List.all_eq_true.mp h1 c hc
  rcases Bool.eq_false_or_eq_true (isCode c) with hi | hi
  · exact h2 c (List.mem_filter.mpr ⟨hc, hi⟩)
  · simpa [hi] using h
set_option maxRecDepth 65536 in
theorem w_c0 : (Jvm.Cond.code x code maxLocals ret).before args0 about1 = true := code_word (m := ⟨1, 2⟩) (meth := k1m2) (c := k1c2) (by decide +kernel) rfl rfl rfl (by decide +kernel)
set_option maxRecDepth 65536 in
theorem w_c1 : (Jvm.Cond.code ({ cls := "com/example/rollback_rules/rollbackrules/decision/DesignationEqualsPinLaw", name := "src", desc := "(I)Lcom/example/rollback_rules/rollbackrules/decision/Designation$Source;" } : Jvm.MethodName) method_2_code (1 : Nat) (Option.some (Jvm.ClassFile.FieldType.object "com/example/rollback_rules/rollbackrules/decision/Designation$Source"))).before args0 about1 = true := code_word (m := ⟨1, 1⟩) (meth := k1m1) (c := k1c1) (by decide +kernel) rfl rfl rfl (by decide +kernel)
set_option maxRecDepth 65536 in
theorem w_c2 : (Jvm.Cond.code ({ cls := "com/example/rollback_rules/rollbackrules/decision/Designation", name := "<init>", desc := "(Lcom/example/rollback_rules/rollbackrules/decision/Designation$Source;ZZ)V" } : Jvm.MethodName) prog_57_method_1_code (4 : Nat) (Option.none : Option Jvm.ClassFile.FieldType)).before args0 about1 = true := code_word (m := ⟨2, 0⟩) (meth := k2m0) (c := k2c0) (by decide +kernel) rfl rfl rfl (by decide +kernel)
set_option maxRecDepth 65536 in
theorem w_c3 : (Jvm.Cond.code ({ cls := "java/lang/Object", name := "<init>", desc := "()V" } : Jvm.MethodName) object_method_1_code (1 : Nat) (Option.none : Option Jvm.ClassFile.FieldType)).before args0 about1 = true := code_word (m := ⟨0, 0⟩) (meth := k0m0) (c := k0c0) (by decide +kernel) rfl rfl rfl (by decide +kernel)
set_option maxRecDepth 65536 in
theorem w_c4 : (Jvm.Cond.code ({ cls := "java/util/Objects", name := "requireNonNull", desc := "(Ljava/lang/Object;Ljava/lang/String;)Ljava/lang/Object;" } : Jvm.MethodName) jdk_31_method_11_code (2 : Nat) (Option.some (Jvm.ClassFile.FieldType.object "java/lang/Object"))).before args0 about1 = true := code_word (m := ⟨11, 1⟩) (meth := k11m1) (c := k11c1) (by decide +kernel) rfl rfl rfl (by decide +kernel)
set_option maxRecDepth 65536 in
theorem w_c5 : (Jvm.Cond.code ({ cls := "com/example/rollback_rules/rollbackrules/decision/Designation", name := "equals", desc := "(Ljava/lang/Object;)Z" } : Jvm.MethodName) prog_57_method_8_code (3 : Nat) (Option.some Jvm.ClassFile.FieldType.boolean)).before args0 about1 = true := code_word (m := ⟨2, 1⟩) (meth := k2m1) (c := k2c1) (by decide +kernel) rfl rfl rfl (by decide +kernel)
set_option maxRecDepth 65536 in
theorem w_c6 : (Jvm.Cond.code ({ cls := "java/lang/Integer", name := "valueOf", desc := "(I)Ljava/lang/Integer;" } : Jvm.MethodName) jdk_33_method_22_code (1 : Nat) (Option.some (Jvm.ClassFile.FieldType.object "java/lang/Integer"))).before args0 about1 = true := code_word (m := ⟨13, 0⟩) (meth := k13m0) (c := k13c0) (by decide +kernel) rfl rfl rfl (by decide +kernel)
set_option maxRecDepth 65536 in
theorem w_c7 : (Jvm.Cond.code ({ cls := "java/lang/Integer", name := "<init>", desc := "(I)V" } : Jvm.MethodName) jdk_33_method_23_code (2 : Nat) (Option.none : Option Jvm.ClassFile.FieldType)).before args0 about1 = true := code_word (m := ⟨13, 1⟩) (meth := k13m1) (c := k13c1) (by decide +kernel) rfl rfl rfl (by decide +kernel)
set_option maxRecDepth 65536 in
theorem w_c8 : (Jvm.Cond.code ({ cls := "java/lang/Number", name := "<init>", desc := "()V" } : Jvm.MethodName) jdk_18_method_1_code (1 : Nat) (Option.none : Option Jvm.ClassFile.FieldType)).before args0 about1 = true := code_word (m := ⟨12, 0⟩) (meth := k12m0) (c := k12c0) (by decide +kernel) rfl rfl rfl (by decide +kernel)
def codes1 : List Jvm.Cond := [Jvm.Cond.code x code maxLocals ret, Jvm.Cond.code ({ cls := "com/example/rollback_rules/rollbackrules/decision/DesignationEqualsPinLaw", name := "src", desc := "(I)Lcom/example/rollback_rules/rollbackrules/decision/Designation$Source;" } : Jvm.MethodName) method_2_code (1 : Nat) (Option.some (Jvm.ClassFile.FieldType.object "com/example/rollback_rules/rollbackrules/decision/Designation$Source")), Jvm.Cond.code ({ cls := "com/example/rollback_rules/rollbackrules/decision/Designation", name := "<init>", desc := "(Lcom/example/rollback_rules/rollbackrules/decision/Designation$Source;ZZ)V" } : Jvm.MethodName) prog_57_method_1_code (4 : Nat) (Option.none : Option Jvm.ClassFile.FieldType), Jvm.Cond.code ({ cls := "java/lang/Object", name := "<init>", desc := "()V" } : Jvm.MethodName) object_method_1_code (1 : Nat) (Option.none : Option Jvm.ClassFile.FieldType), Jvm.Cond.code ({ cls := "java/util/Objects", name := "requireNonNull", desc := "(Ljava/lang/Object;Ljava/lang/String;)Ljava/lang/Object;" } : Jvm.MethodName) jdk_31_method_11_code (2 : Nat) (Option.some (Jvm.ClassFile.FieldType.object "java/lang/Object")), Jvm.Cond.code ({ cls := "com/example/rollback_rules/rollbackrules/decision/Designation", name := "equals", desc := "(Ljava/lang/Object;)Z" } : Jvm.MethodName) prog_57_method_8_code (3 : Nat) (Option.some Jvm.ClassFile.FieldType.boolean), Jvm.Cond.code ({ cls := "java/lang/Integer", name := "valueOf", desc := "(I)Ljava/lang/Integer;" } : Jvm.MethodName) jdk_33_method_22_code (1 : Nat) (Option.some (Jvm.ClassFile.FieldType.object "java/lang/Integer")), Jvm.Cond.code ({ cls := "java/lang/Integer", name := "<init>", desc := "(I)V" } : Jvm.MethodName) jdk_33_method_23_code (2 : Nat) (Option.none : Option Jvm.ClassFile.FieldType), Jvm.Cond.code ({ cls := "java/lang/Number", name := "<init>", desc := "()V" } : Jvm.MethodName) jdk_18_method_1_code (1 : Nat) (Option.none : Option Jvm.ClassFile.FieldType)]
set_option maxRecDepth 65536 in
theorem codes_eq : words1.filter isCode = codes1 := rfl
theorem w_codes : ∀ c ∈ words1.filter isCode, c.before args0 about1 = true := by
  rw [codes_eq]
  intro c hc
  simp only [codes1, List.mem_cons, List.not_mem_nil, or_false] at hc
  rcases hc with rfl | rfl | rfl | rfl | rfl | rfl | rfl | rfl | rfl
  · exact w_c0
  · exact w_c1
  · exact w_c2
  · exact w_c3
  · exact w_c4
  · exact w_c5
  · exact w_c6
  · exact w_c7
  · exact w_c8
set_option maxRecDepth 65536 in
theorem w_t1 : (words1.take 24).all (fun c => isCode c || c.before args0 about1) = true := by decide +kernel
set_option maxRecDepth 65536 in
theorem w_t2 : ((words1.drop 24).take 24).all (fun c => isCode c || c.before args0 about1) = true := by decide +kernel
set_option maxRecDepth 65536 in
theorem w_t3 : (((words1.drop 24).drop 24).take 24).all (fun c => isCode c || c.before args0 about1) = true := by decide +kernel
set_option maxRecDepth 65536 in
theorem w_t4 : (((words1.drop 24).drop 24).drop 24).all (fun c => isCode c || c.before args0 about1) = true := by decide +kernel
theorem w_tables : (allAtoms (Jvm.Cond.code x code maxLocals ret :: tables_1)).before args0 about1 = true := by
  rw [allAtoms_all]
  show words1.all (fun c => c.before args0 about1) = true
  refine all_split ?_ w_codes
  rw [← List.take_append_drop 24 words1, List.all_append, w_t1, ← List.take_append_drop 24 (words1.drop 24), List.all_append, w_t2, ← List.take_append_drop 24 ((words1.drop 24).drop 24), List.all_append, w_t3, w_t4]
  rfl
set_option maxRecDepth 65536 in
theorem w_rest : rest_1_c.before args0 about1 = true := by decide +kernel
set_option maxRecDepth 65536 in
theorem w_case : (Jvm.Cond.and given_1 narrow_1).before args0 about1 = true := by decide +kernel
theorem w_applies : (headSpec (Jvm.Cond.code x code maxLocals ret :: tables_1) room_1).applies x e0.platform about1 = true :=
  (Spec.applies_iff w_frames).mpr ⟨w_running, w_runnable, w_alone, w_named, w_hears, w_ripe, w_room, w_tables⟩
theorem atStart : AtStart classFile x code maxLocals ret World_1 tables_1 room_1 Calls_1 rest_1 Pre_1 launch0 p0 e0 about1 theMethod args0 below0 :=
  ⟨lists_1, trivial, launch0.admits_env _ _ _, launch0.least_env, fairChoices_fair.cas, fairChoices_fair.clock, w_frames, w_args, w_heap, w_applies, trivial, w_rest, w_case⟩
end start1
theorem witness_1 : WitnessClaimed_1 := ⟨start1.p0, start1.e0, start1.about1, start1.theMethod, start1.args0, start1.below0, start1.atStart⟩
end Jvm.Pilot.@@N@@
