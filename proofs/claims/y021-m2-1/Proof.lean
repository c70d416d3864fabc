import JvmDerived
import JvmDerived.Pilot.@@N@@Statement
import JvmDerived.Pilot.@@N@@Code
set_option linter.unusedVariables false
set_option linter.unusedSimpArgs false
namespace Jvm.Pilot.@@N@@
open Jvm Jvm.ClassFile Sem Op Lib Jvm.Free Jvm.Stand Jvm.LawKit Jvm.RoadKit Bundle Jvm.Pilot.@@N@@.Jvm.D
/-! ### how a walk is told: 'own_Go' says that from here the body comes to its end, and what holds there -/
section OwnKit
variable {p : Program} {l : Launch} {e : Env} {R : Room} {s : State} {m : MethodId} {args : Array Value} {below : List Frame} {meth : Method} {c : Code} {T T' : State} {locs : List Loc} {cells slots kc ks : Nat} {F : Option Value → State → Prop} {Q : Option Value → Heap → List Loc → Prop} {g g' : JFrame} {Z : State} {a0 : Array Value} {h0 : Heap}
def own_Go (p : Program) (e : Env) (below : List Frame) (F : Option Value → State → Prop) (T : State) (g : JFrame) : Prop :=
  ∃ U v, Steps p.tables e below (T.setTop g) U ∧ U.status = .running ∧ Ended U below (.returned v) ∧ F v U
def own_N (s : State) (kc ks : Nat) (Q : Option Value → Heap → List Loc → Prop) : Option Value → State → Prop := fun v U => ∃ L, Q v U.heap L ∧ FrameEnd s (.returned v) U L kc ks
def own_W (s : State) (kc ks : Nat) (Q : Option Value → Heap → List Loc → Prop) : Option Value → State → Prop := fun v U => ∃ L, Q v U.heap L ∧ ReturnedEndW s (.returned v) U L kc ks
theorem own_st (h : ∀ t, Steps p.tables e below (T'.setTop g') t → Steps p.tables e below (T.setTop g) t) (G : own_Go p e below F T' g') : own_Go p e below F T g := by
  obtain ⟨U, v, h1, r⟩ := G
  exact ⟨U, v, h _ h1, r⟩
theorem own_ret (X : Stand p l e R s m args below meth c T locs cells slots) (hx : p.tables.exec = Jvm.exec) (hlk : meth.locks = false) {pc : Nat} {Ls : Array Slot} {w : Value} {t : FieldType} {i : Instr} {rest : List Value} (hret : meth.sig.returnType = some t) (hn : narrow t w = w)
    (hi : (i = .ireturn ∧ (t = .int ∨ t = .boolean ∨ t = .byte ∨ t = .char ∨ t = .short) ∧ ∃ z, w = .int z) ∨ (i = .lreturn ∧ t = .long ∧ ∃ z, w = .long z) ∨ (i = .dreturn ∧ t = .double ∧ ∃ z, w = .double z) ∨ (i = .freturn ∧ t = .float ∧ ∃ z, w = .float z) ∨ (i = .areturn ∧ t.isReference = true ∧ w.isRef = true))
    (hd : decode c.code pc = .ok (i, 1)) (hc : cells ≤ kc) (hs : slots ≤ ks) (q : Q (some w) T.heap locs) : own_Go p e below (own_N s kc ks Q) T (mkF m pc Ls (w :: rest)) := by
  obtain ⟨fs, hr, hrun, hended, hW, hsame⟩ := X.leave (v := some w) (fun h => by rw [hret] at h; cases h) hlk
  exact ⟨_, _, retOut X hx hret hn hi hd hr, hrun, hended, _, q, ⟨_, rfl⟩, hW, hsame.mono hc hs⟩
theorem own_retV (X : Stand p l e R s m args below meth c T locs cells slots) (hx : p.tables.exec = Jvm.exec) (hlk : meth.locks = false) {pc : Nat} {Ls : Array Slot} (hret : meth.sig.returnType = none) (hd : decode c.code pc = .ok (.return_, 1)) (hc : cells ≤ kc) (hs : slots ≤ ks) (q : Q none T.heap locs) : own_Go p e below (own_N s kc ks Q) T (mkF m pc Ls []) := by
  obtain ⟨fs, hr, hrun, hended, hW, hsame⟩ := X.leave (v := none) (fun _ => rfl) hlk
  exact ⟨_, _, X.returnOut hx hret hd hr, hrun, hended, _, q, ⟨_, rfl⟩, hW, hsame.mono hc hs⟩
theorem own_cat1 {w : Value} (h : w.isRef = true) : w.category = 1 := by
  rcases ref_cases h with rfl | ⟨a, rfl⟩ <;> rfl
/-- what a body does, begun at the heap h0 with these arguments -/
def own_Met (l : Launch) (Z : State) (h0 : Heap) (ws : List Jvm.Cond) (rm : Room) (y : MethodName) (bytes : ByteArray) (maxL : Nat) (ret : Option FieldType) (as' : Array Value) (Q : Option Value → Heap → List Loc → Prop) : Prop :=
  MetFree l y (head1 (Jvm.Cond.code y bytes maxL ret :: ws) rm) (fun a U => a = as' ∧ Z.Warmed39 U.vm ∧ U.heap = h0) (fun _ _ _ _ _ => True) (fun _ U o U' => ∃ v L, o = .returned v ∧ Q v U'.heap L ∧ FrameEnd U o U' L rm.cells rm.slots)
/-- it returns w and writes nothing -/
def own_Pure (l : Launch) (Z : State) (h0 : Heap) (ws : List Jvm.Cond) (rm : Room) (y : MethodName) (bytes : ByteArray) (maxL : Nat) (ret : Option FieldType) (as' : Array Value) (w : Option Value) : Prop :=
  own_Met l Z h0 ws rm y bytes maxL ret as' (fun v h L => v = w ∧ L = [] ∧ h = h0)
theorem own_body {ws : List Jvm.Cond} {rm : Room} {y : MethodName} {bytes : ByteArray} {maxL : Nat} {ret : Option FieldType} {as' : Array Value} (hpl : plainFor y = true)
    (H : ∀ (p : Program) (e : Env) (s : State) (m : MethodId) (below : List Frame) (meth : Method) (c : Code) (T : State), Stand p l e rm s m as' below meth c T [] 0 0 → p.tables.exec = Jvm.exec → c.code = bytes → c.maxLocals = maxL → s.vm.findClass y.cls = some m.cls → Z.Warmed39 s.vm → T.heap = h0 → meth.sig.returnType = ret → meth.locks = false → meth.name = y.name → s.methodNamed? y = some m →
      own_Go p e below (own_N s rm.cells rm.slots Q) T (entryFrame m as' maxL)) : own_Met l Z h0 ws rm y bytes maxL ret as' Q := by
  refine MetFree.of_bodySF hpl hisR ?_
  intro p e s m args below meth c s₁ Bd hml0 hP hK
  obtain ⟨rfl, hZ, hh⟩ := hP
  obtain ⟨U, v, h1, h2, h3, L, h4, h5⟩ := H p e s m below meth c s₁ (Stand.of_body Bd) Bd.exec Bd.bytes hml0 (findClass_of_methodNamed Bd.named) hZ (by rw [← hh, Bd.state]; rfl) Bd.returns Bd.notSynchronized (name_of_methodNamed Bd.named Bd.method).1 Bd.named
  exact ⟨U, _, h1, h2, h3, v, L, rfl, h4, h5⟩
theorem own_gS {rm : Room} {y : MethodName} {bytes : ByteArray} {maxL W index : Nat} {ret : Option FieldType} {own : String} {argsL rest : List Value} (X : Stand p l e R s m args below meth c T locs cells slots) (hx : p.tables.exec = Jvm.exec) (hZ : Z.Warmed39 s.vm) (hown : s.vm.findClass own = some m.cls)
    (w1 : (Jvm.Cond.methodLink own index y).before a0 Z = true) (w2 : (Jvm.Cond.static y).before a0 Z = true) (w3 : (Jvm.Cond.initialized y.cls).before a0 Z = true) (w4 : (Jvm.Cond.code y bytes maxL ret).before a0 Z = true) (hy : y.cls ≠ "java/lang/invoke/MethodHandle" ∧ y.cls ≠ "java/lang/invoke/VarHandle") (eT : T.heap = h0)
    (hM : own_Met l Z h0 [] rm y bytes maxL ret argsL.toArray Q) (hf : rm.frames + 1 ≤ R.frames) (hl : W + (maxL + 11) + rm.locals ≤ R.locals) (hc1 : cells + rm.cells ≤ R.cells) (hs1 : slots + rm.slots ≤ R.slots)
    (hg : g.method = m) (hsize : g.locals.size = c.maxLocals) (hlen : ∀ sig, parseMethodDescriptor y.desc = some sig → argsL.length = sig.parameters.length) (hstack : g.stack = argsL.reverse ++ rest) (hW : 2 * g.monitorRoom + (rest.map fun v => v.category).sum ≤ W) (hdg : decode c.code g.pc = .ok (.invokestatic index, 3)) :
    ∃ (v : Option Value) (T' : State) (L : List Loc), Stand p l e R s m args below meth c T' (locs ++ L) (cells + rm.cells) (slots + rm.slots) ∧ Q v T'.heap L ∧ ∀ target, Steps p.tables e below (T'.setTop { g with pc := g.pc + 3, stack := v.toList ++ rest }) target → Steps p.tables e below (T.setTop g) target := by
  obtain ⟨v, _, ⟨T1, L1, k1, n1⟩, -, X1, ⟨Lc, hq, l1, y1, z1⟩, st⟩ := Jvm.LawKit.callS X hx (y := y) hown (mvT hZ w1) (mvT hZ w2) (mvT hZ w3) (mvT hZ w4) hy (backOf (W := W) (Q := Q) hM hZ w4 w3 hf hl) (g := g) hg hsize (argsL := argsL) (rest := rest) hlen hstack hW hdg (fun _ _ => ⟨rfl, eT, hc1, hs1⟩)
  dsimp only [Pt.U, Pt.locs, Pt.cells, Pt.slots] at X1 l1 y1 z1 st hq
  subst l1 y1 z1
  exact ⟨v, T1, Lc, X1, hq, st⟩
theorem own_gV {rm : Room} {y z : MethodName} {bytes : ByteArray} {maxL W index : Nat} {ret : Option FieldType} {own C : String} {argsL rest : List Value} {b : Addr} (X : Stand p l e R s m args below meth c T locs cells slots) (hx : p.tables.exec = Jvm.exec) (hZ : Z.Warmed39 s.vm) (hown : s.vm.findClass own = some m.cls)
    (w1 : (Jvm.Cond.methodLink own index y).before a0 Z = true) (w2 : (Jvm.Cond.declares y).before a0 Z = true) (hnf : NotFace s y) (w5 : (Jvm.Cond.selects C y z).before a0 Z = true) (w6 : (Jvm.Cond.instanceMethod z).before a0 Z = true) (w3 : (Jvm.Cond.initialized z.cls).before a0 Z = true) (w4 : (Jvm.Cond.code z bytes maxL ret).before a0 Z = true) (hy : y.cls ≠ "java/lang/invoke/MethodHandle" ∧ y.cls ≠ "java/lang/invoke/VarHandle") (eT : T.heap = h0) (E : Exa Z h0 b C)
    (hM : own_Met l Z h0 [] rm z bytes maxL ret (.ref b :: argsL).toArray Q) (hf : rm.frames + 1 ≤ R.frames) (hl : W + (maxL + 11) + rm.locals ≤ R.locals) (hc1 : cells + rm.cells ≤ R.cells) (hs1 : slots + rm.slots ≤ R.slots)
    (hg : g.method = m) (hsize : g.locals.size = c.maxLocals) (hlen : ∀ sig, parseMethodDescriptor y.desc = some sig → argsL.length = sig.parameters.length) (hstack : g.stack = argsL.reverse ++ .ref b :: rest) (hW : 2 * g.monitorRoom + (rest.map fun v => v.category).sum ≤ W) (hdg : decode c.code g.pc = .ok (.invokevirtual index, 3)) :
    ∃ (v : Option Value) (T' : State) (L : List Loc), Stand p l e R s m args below meth c T' (locs ++ L) (cells + rm.cells) (slots + rm.slots) ∧ Q v T'.heap L ∧ ∀ target, Steps p.tables e below (T'.setTop { g with pc := g.pc + 3, stack := v.toList ++ rest }) target → Steps p.tables e below (T.setTop g) target := by
  obtain ⟨cq, kq, qa, qb, qc⟩ := isOf hZ eT E
  obtain ⟨v, _, ⟨T1, L1, k1, n1⟩, -, X1, ⟨Lc, hq, l1, y1, z1⟩, st⟩ := X.virtualBack hx (y := y) (z := z) hown (mvT hZ w1) (mvT hZ w2) hnf (mvT hZ w5) (mvT hZ w6) hy (backOf (W := W) (Q := Q) hM hZ w4 w3 hf hl) qa qc (g := g) hg hsize (Steps.refl _) (argsL := argsL) (rest := rest) hlen hstack hW hdg (fun _ _ => ⟨rfl, eT, hc1, hs1⟩)
  dsimp only [Pt.U, Pt.locs, Pt.cells, Pt.slots] at X1 l1 y1 z1 st hq
  subst l1 y1 z1
  exact ⟨v, T1, Lc, X1, hq, fun _ k => st.trans k⟩
theorem own_gVU {rm : Room} {y z : MethodName} {owner : String} {bytes : ByteArray} {maxL W index : Nat} {ret : Option FieldType} {own C : String} {argsL rest : List Value} {b : Addr} (X : Stand p l e R s m args below meth c T locs cells slots) (hx : p.tables.exec = Jvm.exec) (hZ : Z.Warmed39 s.vm) (hown : s.vm.findClass own = some m.cls)
    (w1 : (Jvm.Cond.methodLink own index y).before a0 Z = true) (wsm : (Jvm.Cond.sameMethod y.cls owner y.name y.desc).before a0 Z = true) (w2 : (Jvm.Cond.declares ⟨owner, y.name, y.desc⟩).before a0 Z = true) (ho : owner ≠ "java/lang/invoke/MethodHandle" ∧ owner ≠ "java/lang/invoke/VarHandle") (w5 : (Jvm.Cond.selects C y z).before a0 Z = true) (w6 : (Jvm.Cond.instanceMethod z).before a0 Z = true) (w3 : (Jvm.Cond.initialized z.cls).before a0 Z = true) (w4 : (Jvm.Cond.code z bytes maxL ret).before a0 Z = true) (eT : T.heap = h0) (E : Exa Z h0 b C)
    (hM : own_Met l Z h0 [] rm z bytes maxL ret (.ref b :: argsL).toArray Q) (hf : rm.frames + 1 ≤ R.frames) (hl : W + (maxL + 11) + rm.locals ≤ R.locals) (hc1 : cells + rm.cells ≤ R.cells) (hs1 : slots + rm.slots ≤ R.slots)
    (hg : g.method = m) (hsize : g.locals.size = c.maxLocals) (hlen : ∀ sig, parseMethodDescriptor y.desc = some sig → argsL.length = sig.parameters.length) (hstack : g.stack = argsL.reverse ++ .ref b :: rest) (hW : 2 * g.monitorRoom + (rest.map fun v => v.category).sum ≤ W) (hdg : decode c.code g.pc = .ok (.invokevirtual index, 3)) :
    ∃ (v : Option Value) (T' : State) (L : List Loc), Stand p l e R s m args below meth c T' (locs ++ L) (cells + rm.cells) (slots + rm.slots) ∧ Q v T'.heap L ∧ ∀ target, Steps p.tables e below (T'.setTop { g with pc := g.pc + 3, stack := v.toList ++ rest }) target → Steps p.tables e below (T.setTop g) target := by
  obtain ⟨cq, kq, qa, qb, qc⟩ := isOf hZ eT E
  obtain ⟨v, _, ⟨T1, L1, k1, n1⟩, -, X1, ⟨Lc, hq, l1, y1, z1⟩, st⟩ := X.virtualBackUp hx (x := y) (y := z) (owner := owner) hown (mvT hZ w1) (mvT hZ wsm) (mvT hZ w2) ho (mvT hZ w5) (mvT hZ w6) (backOf (W := W) (Q := Q) hM hZ w4 w3 hf hl) qa qc (g := g) hg hsize (Steps.refl _) (argsL := argsL) (rest := rest) hlen hstack hW hdg (fun _ _ => ⟨rfl, eT, hc1, hs1⟩)
  dsimp only [Pt.U, Pt.locs, Pt.cells, Pt.slots] at X1 l1 y1 z1 st hq
  subst l1 y1 z1
  exact ⟨v, T1, Lc, X1, hq, fun _ k => st.trans k⟩
/-- behind a call that writes nothing -/
theorem own_pure {w : Value} {rm : Room} {rest : List Value} (hc0 : rm.cells = 0) (hs0 : rm.slots = 0)
    (H : ∃ (v : Option Value) (T' : State) (L : List Loc), Stand p l e R s m args below meth c T' (locs ++ L) (cells + rm.cells) (slots + rm.slots) ∧ (v = some w ∧ L = [] ∧ T'.heap = h0) ∧ ∀ target, Steps p.tables e below (T'.setTop { g with pc := g.pc + 3, stack := v.toList ++ rest }) target → Steps p.tables e below (T.setTop g) target) :
    ∃ T', Stand p l e R s m args below meth c T' locs cells slots ∧ T'.heap = h0 ∧ ∀ target, Steps p.tables e below (T'.setTop { g with pc := g.pc + 3, stack := w :: rest }) target → Steps p.tables e below (T.setTop g) target := by
  obtain ⟨_, T', _, X', ⟨rfl, rfl, hh⟩, st⟩ := H
  rw [hc0, hs0, List.append_nil] at X'
  exact ⟨T', X', hh, st⟩
/-- what the case says of statics and fields, as facts of the start -/
theorem own_sx {C n d K : String} (h : (Jvm.Cond.exactly (Term.static C n d) K).value args s none s [] = some true) (wi : (Jvm.Cond.initialized C).before args s = true) (wl : (Jvm.Cond.laysStatic C n d).before args s = true) :
    ∃ a, (Term.static C n d).eval args s none [] s = some (.ref a) ∧ Exa s s.heap a K ∧ Sta s s.heap C n d (.ref a) := by
  obtain ⟨a, ev⟩ := exa_v h
  exact ⟨a, ev, Exa.start ev h, Sta.start ev (Or.inr ⟨wi, wl⟩)⟩
theorem own_fi {t : Term} {a : Addr} {C n d : String} {k : Int32} (ev : t.eval args s none [] s = some (.ref a)) (h : (Jvm.Cond.eq (Term.field t C n d) (Term.int k)).value args s none s [] = some true) : Fld s s.heap a C n d (.int k) := by
  have q := eqv_i (Term.int_eval k) h
  rw [fld_at ev] at q
  exact Fld.start q
theorem own_fn {t : Term} {a : Addr} {C n d : String} (ev : t.eval args s none [] s = some (.ref a)) (h : (Jvm.Cond.eq (Term.field t C n d) Term.null).value args s none s [] = some true) : Fld s s.heap a C n d .null := by
  have q := null_v h
  rw [fld_at ev] at q
  exact Fld.start q
theorem own_fx {t : Term} {a : Addr} {C n d K : String} (ev : t.eval args s none [] s = some (.ref a)) (h : (Jvm.Cond.exactly (Term.field t C n d) K).value args s none s [] = some true) : ∃ b, Fld s s.heap a C n d (.ref b) ∧ Exa s s.heap b K := by
  obtain ⟨b, q⟩ := exa_v h
  have E := Exa.start q h
  rw [fld_at ev] at q
  exact ⟨b, Fld.start q, E⟩
theorem own_eqr {t u : Term} {b : Addr} (eu : u.eval args s none [] s = some (.ref b)) (h : (Jvm.Cond.eq t u).value args s none s [] = some true) : t.eval args s none [] s = some (.ref b) := by
  obtain ⟨x, y, h1, h2, -⟩ := cmp_v (Or.inl h)
  rw [eu] at h2
  cases h2
  simp only [Cond.value, h1, eu] at h
  cases x <;> simp_all
theorem own_fs {t u : Term} {a b : Addr} {C n d : String} (ev : t.eval args s none [] s = some (.ref a)) (eu : u.eval args s none [] s = some (.ref b)) (h : (Jvm.Cond.eq (Term.field t C n d) u).value args s none s [] = some true) : Fld s s.heap a C n d (.ref b) := by
  have q := own_eqr eu h
  rw [fld_at ev] at q
  exact Fld.start q
theorem own_ax {C n d : String} {ty : FieldType} (h : (Jvm.Cond.arrayOf (Term.static C n d) ty).value args s none s [] = some true) (wi : (Jvm.Cond.initialized C).before args s = true) (wl : (Jvm.Cond.laysStatic C n d).before args s = true) :
    ∃ b cl, (Term.static C n d).eval args s none [] s = some (.ref b) ∧ Arr s s.heap b cl ty ∧ Sta s s.heap C n d (.ref b) := by
  obtain ⟨b, ev⟩ := arr_v h
  obtain ⟨cl, A⟩ := Arr.start ev h
  exact ⟨b, cl, ev, A, Sta.start ev (Or.inr ⟨wi, wl⟩)⟩
theorem own_len {t : Term} {b : Addr} {cl : Cell} {ty : FieldType} {k : Int32} (ev : t.eval args s none [] s = some (.ref b)) (A : Arr s s.heap b cl ty) (h : (Jvm.Cond.eq (Term.length t) (Term.int k)).value args s none s [] = some true) : cl.slots.size = k.toNatClampNeg := by
  have q := eqv_i (Term.int_eval k) h
  have ha : s.arrayAt? b = some cl := A.fin (Vm.Alike.refl _)
  by_cases hl : cl.slots.size < 2 ^ 31
  · rw [len_f ev ha hl] at q
    have e : cl.slots.size.toInt32 = k := Value.int.inj (Option.some.inj q)
    have e1 := len_toInt hl
    rw [← e]
    simp only [Int32.toNatClampNeg, e1]
    rfl
  · simp [Term.eval, ev, ha, hl] at q
theorem own_elr {t u : Term} {b x : Addr} {cl : Cell} {ty : FieldType} {k : Int32} (ev : t.eval args s none [] s = some (.ref b)) (A : Arr s s.heap b cl ty) (eu : u.eval args s none [] s = some (.ref x)) (h : (Jvm.Cond.eq (Term.elem t (Term.int k)) u).value args s none s [] = some true) : cl.slots[k.toNatClampNeg]? = some (.ref x) :=
  (elem_in (own_eqr eu h) ev (Term.int_eval k) A.1).2
theorem own_eln {t : Term} {b : Addr} {cl : Cell} {ty : FieldType} {k : Int32} (ev : t.eval args s none [] s = some (.ref b)) (A : Arr s s.heap b cl ty) (h : (Jvm.Cond.eq (Term.elem t (Term.int k)) Term.null).value args s none s [] = some true) : cl.slots[k.toNatClampNeg]? = some .null :=
  (elem_in (null_v h) ev (Term.int_eval k) A.1).2
theorem own_eli {t : Term} {b : Addr} {cl : Cell} {ty : FieldType} {k v : Int32} (ev : t.eval args s none [] s = some (.ref b)) (A : Arr s s.heap b cl ty) (h : (Jvm.Cond.eq (Term.elem t (Term.int k)) (Term.int v)).value args s none s [] = some true) : cl.slots[k.toNatClampNeg]? = some (.int v) :=
  (elem_in (eqv_i (Term.int_eval v) h) ev (Term.int_eval k) A.1).2
theorem own_args1 {k : Nat} (h : (Jvm.Cond.and (Jvm.Cond.count 1) (Jvm.Cond.isInt (Term.arg 0))).value args s none s [] = some true) : ∃ a : Int32, args = #[.int a] := by
  obtain ⟨h1, h2⟩ := and_e h
  have hs : args.size = 1 := by simpa [Cond.value] using h1
  obtain ⟨L⟩ := args
  match L, hs with
  | [w0], _ =>
    obtain ⟨i, e0⟩ := is_v h2
    obtain rfl : w0 = (.int i) := Option.some.inj e0
    exact ⟨i, rfl⟩
theorem own_args2 {k : Nat} (h : (Jvm.Cond.and (Jvm.Cond.count 2) (Jvm.Cond.and (Jvm.Cond.isInt (Term.arg 0)) (Jvm.Cond.isInt (Term.arg 1)))).value args s none s [] = some true) : ∃ a b : Int32, args = #[.int a, .int b] := by
  obtain ⟨h1, h2⟩ := and_e h
  obtain ⟨h2, h3⟩ := and_e h2
  have hs : args.size = 2 := by simpa [Cond.value] using h1
  obtain ⟨L⟩ := args
  match L, hs with
  | [w0, w1], _ =>
    obtain ⟨i, e0⟩ := is_v h2
    obtain ⟨j, e1⟩ := is_v h3
    obtain rfl : w0 = (.int i) := Option.some.inj e0
    obtain rfl : w1 = (.int j) := Option.some.inj e1
    exact ⟨i, j, rfl⟩
theorem own_weaken {ws : List Jvm.Cond} {rm : Room} {y : MethodName} {bytes : ByteArray} {maxL : Nat} {ret : Option FieldType} {as' : Array Value} {w : Value} {n0 : Nat} (M : own_Pure l Z h0 ws rm y bytes maxL ret as' (some w)) : own_Met l Z h0 ws rm y bytes maxL ret as' (fun v h L => v = some w ∧ Fr n0 L) := by
  intro p e ha hc hk s m args below hf happ hP hK
  obtain ⟨n, o, h1, h2, h3, v, L, h4, ⟨h5, h6, h7⟩, h8⟩ := M p e ha hc hk s m args below hf happ hP hK
  exact ⟨n, o, h1, h2, h3, v, L, h4, ⟨h5, by rw [h6]; exact Fr.nil n0⟩, h8⟩
end OwnKit

theorem own_pn_0 : plainName "com/example/veritype/veritype/model/ConstantKind" = true := by first | (simp [plainName, overriddenIn]; done) | decide +kernel
theorem own_pn_1 : plainName "com/example/veritype/veritype/model/ConstantKindOfTagPinLaw" = true := by first | (simp [plainName, overriddenIn]; done) | decide +kernel
theorem own_pd_0 : parseMethodDescriptor "(I)Lcom/example/veritype/veritype/model/ConstantKind;" = some ⟨[.int], some (.object "com/example/veritype/veritype/model/ConstantKind")⟩ := by decide +kernel
theorem own_d_prog_70_method_4_code_0 : decode prog_70_method_4_code 0 = .ok (.iload_n 0, 1) := by decide +kernel
theorem own_d_prog_70_method_4_code_1 : decode prog_70_method_4_code 1 = .ok (.ifCond .lt 19, 3) := by decide +kernel
theorem own_d_prog_70_method_4_code_4 : decode prog_70_method_4_code 4 = .ok (.iload_n 0, 1) := by decide +kernel
theorem own_d_prog_70_method_4_code_5 : decode prog_70_method_4_code 5 = .ok (.getstatic 92, 3) := by decide +kernel
theorem own_d_prog_70_method_4_code_8 : decode prog_70_method_4_code 8 = .ok (.arraylength, 1) := by decide +kernel
theorem own_d_prog_70_method_4_code_9 : decode prog_70_method_4_code 9 = .ok (.if_icmp .ge 11, 3) := by decide +kernel
theorem own_d_prog_70_method_4_code_12 : decode prog_70_method_4_code 12 = .ok (.getstatic 92, 3) := by decide +kernel
theorem own_d_prog_70_method_4_code_15 : decode prog_70_method_4_code 15 = .ok (.iload_n 0, 1) := by decide +kernel
theorem own_d_prog_70_method_4_code_16 : decode prog_70_method_4_code 16 = .ok (.aaload, 1) := by decide +kernel
theorem own_d_prog_70_method_4_code_17 : decode prog_70_method_4_code 17 = .ok (.goto 4, 3) := by decide +kernel
theorem own_d_prog_70_method_4_code_21 : decode prog_70_method_4_code 21 = .ok (.areturn, 1) := by decide +kernel
theorem own_d_prog_70_method_4_code_20 : decode prog_70_method_4_code 20 = .ok (.aconst_null, 1) := by decide +kernel
theorem own_d_method_2_code_0 : decode method_2_code 0 = .ok (.iload_n 0, 1) := by decide +kernel
theorem own_d_method_2_code_1 : decode method_2_code 1 = .ok (.iconst 1, 1) := by decide +kernel
theorem own_d_method_2_code_2 : decode method_2_code 2 = .ok (.if_icmp .ne 7, 3) := by decide +kernel
theorem own_d_method_2_code_5 : decode method_2_code 5 = .ok (.getstatic 7, 3) := by decide +kernel
theorem own_d_method_2_code_8 : decode method_2_code 8 = .ok (.areturn, 1) := by decide +kernel
theorem own_d_method_2_code_9 : decode method_2_code 9 = .ok (.iload_n 0, 1) := by decide +kernel
theorem own_d_method_2_code_10 : decode method_2_code 10 = .ok (.iconst 3, 1) := by decide +kernel
theorem own_d_method_2_code_11 : decode method_2_code 11 = .ok (.if_icmp .ne 7, 3) := by decide +kernel
theorem own_d_method_2_code_14 : decode method_2_code 14 = .ok (.getstatic 13, 3) := by decide +kernel
theorem own_d_method_2_code_17 : decode method_2_code 17 = .ok (.areturn, 1) := by decide +kernel
theorem own_d_method_2_code_18 : decode method_2_code 18 = .ok (.iload_n 0, 1) := by decide +kernel
theorem own_d_method_2_code_19 : decode method_2_code 19 = .ok (.iconst 4, 1) := by decide +kernel
theorem own_d_method_2_code_20 : decode method_2_code 20 = .ok (.if_icmp .ne 7, 3) := by decide +kernel
theorem own_d_method_2_code_23 : decode method_2_code 23 = .ok (.getstatic 16, 3) := by decide +kernel
theorem own_d_method_2_code_26 : decode method_2_code 26 = .ok (.areturn, 1) := by decide +kernel
theorem own_d_method_2_code_27 : decode method_2_code 27 = .ok (.iload_n 0, 1) := by decide +kernel
theorem own_d_method_2_code_28 : decode method_2_code 28 = .ok (.iconst 5, 1) := by decide +kernel
theorem own_d_method_2_code_29 : decode method_2_code 29 = .ok (.if_icmp .ne 7, 3) := by decide +kernel
theorem own_d_method_2_code_32 : decode method_2_code 32 = .ok (.getstatic 19, 3) := by decide +kernel
theorem own_d_method_2_code_35 : decode method_2_code 35 = .ok (.areturn, 1) := by decide +kernel
theorem own_d_method_2_code_36 : decode method_2_code 36 = .ok (.iload_n 0, 1) := by decide +kernel
theorem own_d_method_2_code_37 : decode method_2_code 37 = .ok (.bipush 6, 2) := by decide +kernel
theorem own_d_method_2_code_39 : decode method_2_code 39 = .ok (.if_icmp .ne 7, 3) := by decide +kernel
theorem own_d_method_2_code_42 : decode method_2_code 42 = .ok (.getstatic 22, 3) := by decide +kernel
theorem own_d_method_2_code_45 : decode method_2_code 45 = .ok (.areturn, 1) := by decide +kernel
theorem own_d_method_2_code_46 : decode method_2_code 46 = .ok (.iload_n 0, 1) := by decide +kernel
theorem own_d_method_2_code_47 : decode method_2_code 47 = .ok (.bipush 7, 2) := by decide +kernel
theorem own_d_method_2_code_49 : decode method_2_code 49 = .ok (.if_icmp .ne 7, 3) := by decide +kernel
theorem own_d_method_2_code_52 : decode method_2_code 52 = .ok (.getstatic 25, 3) := by decide +kernel
theorem own_d_method_2_code_55 : decode method_2_code 55 = .ok (.areturn, 1) := by decide +kernel
theorem own_d_method_2_code_56 : decode method_2_code 56 = .ok (.iload_n 0, 1) := by decide +kernel
theorem own_d_method_2_code_57 : decode method_2_code 57 = .ok (.bipush 8, 2) := by decide +kernel
theorem own_d_method_2_code_59 : decode method_2_code 59 = .ok (.if_icmp .ne 7, 3) := by decide +kernel
theorem own_d_method_2_code_62 : decode method_2_code 62 = .ok (.getstatic 28, 3) := by decide +kernel
theorem own_d_method_2_code_65 : decode method_2_code 65 = .ok (.areturn, 1) := by decide +kernel
theorem own_d_method_2_code_66 : decode method_2_code 66 = .ok (.iload_n 0, 1) := by decide +kernel
theorem own_d_method_2_code_67 : decode method_2_code 67 = .ok (.bipush 9, 2) := by decide +kernel
theorem own_d_method_2_code_69 : decode method_2_code 69 = .ok (.if_icmp .ne 7, 3) := by decide +kernel
theorem own_d_method_2_code_72 : decode method_2_code 72 = .ok (.getstatic 31, 3) := by decide +kernel
theorem own_d_method_2_code_75 : decode method_2_code 75 = .ok (.areturn, 1) := by decide +kernel
theorem own_d_method_2_code_76 : decode method_2_code 76 = .ok (.iload_n 0, 1) := by decide +kernel
theorem own_d_method_2_code_77 : decode method_2_code 77 = .ok (.bipush 10, 2) := by decide +kernel
theorem own_d_method_2_code_79 : decode method_2_code 79 = .ok (.if_icmp .ne 7, 3) := by decide +kernel
theorem own_d_method_2_code_82 : decode method_2_code 82 = .ok (.getstatic 34, 3) := by decide +kernel
theorem own_d_method_2_code_85 : decode method_2_code 85 = .ok (.areturn, 1) := by decide +kernel
theorem own_d_method_2_code_86 : decode method_2_code 86 = .ok (.iload_n 0, 1) := by decide +kernel
theorem own_d_method_2_code_87 : decode method_2_code 87 = .ok (.bipush 11, 2) := by decide +kernel
theorem own_d_method_2_code_89 : decode method_2_code 89 = .ok (.if_icmp .ne 7, 3) := by decide +kernel
theorem own_d_method_2_code_92 : decode method_2_code 92 = .ok (.getstatic 37, 3) := by decide +kernel
theorem own_d_method_2_code_95 : decode method_2_code 95 = .ok (.areturn, 1) := by decide +kernel
theorem own_d_method_2_code_96 : decode method_2_code 96 = .ok (.iload_n 0, 1) := by decide +kernel
theorem own_d_method_2_code_97 : decode method_2_code 97 = .ok (.bipush 12, 2) := by decide +kernel
theorem own_d_method_2_code_99 : decode method_2_code 99 = .ok (.if_icmp .ne 7, 3) := by decide +kernel
theorem own_d_method_2_code_102 : decode method_2_code 102 = .ok (.getstatic 40, 3) := by decide +kernel
theorem own_d_method_2_code_105 : decode method_2_code 105 = .ok (.areturn, 1) := by decide +kernel
theorem own_d_method_2_code_106 : decode method_2_code 106 = .ok (.iload_n 0, 1) := by decide +kernel
theorem own_d_method_2_code_107 : decode method_2_code 107 = .ok (.bipush 15, 2) := by decide +kernel
theorem own_d_method_2_code_109 : decode method_2_code 109 = .ok (.if_icmp .ne 7, 3) := by decide +kernel
theorem own_d_method_2_code_112 : decode method_2_code 112 = .ok (.getstatic 43, 3) := by decide +kernel
theorem own_d_method_2_code_115 : decode method_2_code 115 = .ok (.areturn, 1) := by decide +kernel
theorem own_d_method_2_code_116 : decode method_2_code 116 = .ok (.iload_n 0, 1) := by decide +kernel
theorem own_d_method_2_code_117 : decode method_2_code 117 = .ok (.bipush 16, 2) := by decide +kernel
theorem own_d_method_2_code_119 : decode method_2_code 119 = .ok (.if_icmp .ne 7, 3) := by decide +kernel
theorem own_d_method_2_code_122 : decode method_2_code 122 = .ok (.getstatic 46, 3) := by decide +kernel
theorem own_d_method_2_code_125 : decode method_2_code 125 = .ok (.areturn, 1) := by decide +kernel
theorem own_d_method_2_code_126 : decode method_2_code 126 = .ok (.iload_n 0, 1) := by decide +kernel
theorem own_d_method_2_code_127 : decode method_2_code 127 = .ok (.bipush 17, 2) := by decide +kernel
theorem own_d_method_2_code_129 : decode method_2_code 129 = .ok (.if_icmp .ne 7, 3) := by decide +kernel
theorem own_d_method_2_code_132 : decode method_2_code 132 = .ok (.getstatic 49, 3) := by decide +kernel
theorem own_d_method_2_code_135 : decode method_2_code 135 = .ok (.areturn, 1) := by decide +kernel
theorem own_d_method_2_code_136 : decode method_2_code 136 = .ok (.iload_n 0, 1) := by decide +kernel
theorem own_d_method_2_code_137 : decode method_2_code 137 = .ok (.bipush 18, 2) := by decide +kernel
theorem own_d_method_2_code_139 : decode method_2_code 139 = .ok (.if_icmp .ne 7, 3) := by decide +kernel
theorem own_d_method_2_code_142 : decode method_2_code 142 = .ok (.getstatic 52, 3) := by decide +kernel
theorem own_d_method_2_code_145 : decode method_2_code 145 = .ok (.areturn, 1) := by decide +kernel
theorem own_d_method_2_code_146 : decode method_2_code 146 = .ok (.iload_n 0, 1) := by decide +kernel
theorem own_d_method_2_code_147 : decode method_2_code 147 = .ok (.bipush 19, 2) := by decide +kernel
theorem own_d_method_2_code_149 : decode method_2_code 149 = .ok (.if_icmp .ne 7, 3) := by decide +kernel
theorem own_d_method_2_code_152 : decode method_2_code 152 = .ok (.getstatic 55, 3) := by decide +kernel
theorem own_d_method_2_code_155 : decode method_2_code 155 = .ok (.areturn, 1) := by decide +kernel
theorem own_d_method_2_code_156 : decode method_2_code 156 = .ok (.iload_n 0, 1) := by decide +kernel
theorem own_d_method_2_code_157 : decode method_2_code 157 = .ok (.bipush 20, 2) := by decide +kernel
theorem own_d_method_2_code_159 : decode method_2_code 159 = .ok (.if_icmp .ne 7, 3) := by decide +kernel
theorem own_d_method_2_code_162 : decode method_2_code 162 = .ok (.getstatic 58, 3) := by decide +kernel
theorem own_d_method_2_code_165 : decode method_2_code 165 = .ok (.areturn, 1) := by decide +kernel
theorem own_d_method_2_code_166 : decode method_2_code 166 = .ok (.aconst_null, 1) := by decide +kernel
theorem own_d_method_2_code_167 : decode method_2_code 167 = .ok (.areturn, 1) := by decide +kernel
def own_E (Z : State) (h0 : Heap) (a_BY_TAG : Addr) (a_METHOD_TYPE : Addr) (a_FIELDREF : Addr) (a_DOUBLE : Addr) (a_STRING : Addr) (a_NAME_AND_TYPE : Addr) (a_UTF8 : Addr) (a_INTEGER : Addr) (a_MODULE : Addr) (a_METHODREF : Addr) (a_INTERFACE_METHODREF : Addr) (a_LONG : Addr) (a_PACKAGE : Addr) (a_INVOKE_DYNAMIC : Addr) (a_METHOD_HANDLE : Addr) (a_FLOAT : Addr) (a_CLASS : Addr) (a_DYNAMIC : Addr) (cl_BY_TAG : Cell) : Prop :=
  (Sta Z h0 "com/example/veritype/veritype/model/ConstantKind" "BY_TAG" "[Lcom/example/veritype/veritype/model/ConstantKind;" (.ref a_BY_TAG)) ∧
  (Sta Z h0 "com/example/veritype/veritype/model/ConstantKind" "METHOD_TYPE" "Lcom/example/veritype/veritype/model/ConstantKind;" (.ref a_METHOD_TYPE)) ∧
  (Sta Z h0 "com/example/veritype/veritype/model/ConstantKind" "FIELDREF" "Lcom/example/veritype/veritype/model/ConstantKind;" (.ref a_FIELDREF)) ∧
  (Sta Z h0 "com/example/veritype/veritype/model/ConstantKind" "DOUBLE" "Lcom/example/veritype/veritype/model/ConstantKind;" (.ref a_DOUBLE)) ∧
  (Sta Z h0 "com/example/veritype/veritype/model/ConstantKind" "STRING" "Lcom/example/veritype/veritype/model/ConstantKind;" (.ref a_STRING)) ∧
  (Sta Z h0 "com/example/veritype/veritype/model/ConstantKind" "NAME_AND_TYPE" "Lcom/example/veritype/veritype/model/ConstantKind;" (.ref a_NAME_AND_TYPE)) ∧
  (Sta Z h0 "com/example/veritype/veritype/model/ConstantKind" "UTF8" "Lcom/example/veritype/veritype/model/ConstantKind;" (.ref a_UTF8)) ∧
  (Sta Z h0 "com/example/veritype/veritype/model/ConstantKind" "INTEGER" "Lcom/example/veritype/veritype/model/ConstantKind;" (.ref a_INTEGER)) ∧
  (Sta Z h0 "com/example/veritype/veritype/model/ConstantKind" "MODULE" "Lcom/example/veritype/veritype/model/ConstantKind;" (.ref a_MODULE)) ∧
  (Sta Z h0 "com/example/veritype/veritype/model/ConstantKind" "METHODREF" "Lcom/example/veritype/veritype/model/ConstantKind;" (.ref a_METHODREF)) ∧
  (Sta Z h0 "com/example/veritype/veritype/model/ConstantKind" "INTERFACE_METHODREF" "Lcom/example/veritype/veritype/model/ConstantKind;" (.ref a_INTERFACE_METHODREF)) ∧
  (Sta Z h0 "com/example/veritype/veritype/model/ConstantKind" "LONG" "Lcom/example/veritype/veritype/model/ConstantKind;" (.ref a_LONG)) ∧
  (Sta Z h0 "com/example/veritype/veritype/model/ConstantKind" "PACKAGE" "Lcom/example/veritype/veritype/model/ConstantKind;" (.ref a_PACKAGE)) ∧
  (Sta Z h0 "com/example/veritype/veritype/model/ConstantKind" "INVOKE_DYNAMIC" "Lcom/example/veritype/veritype/model/ConstantKind;" (.ref a_INVOKE_DYNAMIC)) ∧
  (Sta Z h0 "com/example/veritype/veritype/model/ConstantKind" "METHOD_HANDLE" "Lcom/example/veritype/veritype/model/ConstantKind;" (.ref a_METHOD_HANDLE)) ∧
  (Sta Z h0 "com/example/veritype/veritype/model/ConstantKind" "FLOAT" "Lcom/example/veritype/veritype/model/ConstantKind;" (.ref a_FLOAT)) ∧
  (Sta Z h0 "com/example/veritype/veritype/model/ConstantKind" "CLASS" "Lcom/example/veritype/veritype/model/ConstantKind;" (.ref a_CLASS)) ∧
  (Sta Z h0 "com/example/veritype/veritype/model/ConstantKind" "DYNAMIC" "Lcom/example/veritype/veritype/model/ConstantKind;" (.ref a_DYNAMIC)) ∧
  (Arr Z h0 a_BY_TAG cl_BY_TAG (.object "com/example/veritype/veritype/model/ConstantKind")) ∧
  (cl_BY_TAG.slots.size = (21 : Int32).toNatClampNeg) ∧
  (cl_BY_TAG.slots[(0 : Int32).toNatClampNeg]? = some .null) ∧
  (cl_BY_TAG.slots[(1 : Int32).toNatClampNeg]? = some (.ref a_UTF8)) ∧
  (cl_BY_TAG.slots[(2 : Int32).toNatClampNeg]? = some .null) ∧
  (cl_BY_TAG.slots[(3 : Int32).toNatClampNeg]? = some (.ref a_INTEGER)) ∧
  (cl_BY_TAG.slots[(4 : Int32).toNatClampNeg]? = some (.ref a_FLOAT)) ∧
  (cl_BY_TAG.slots[(5 : Int32).toNatClampNeg]? = some (.ref a_LONG)) ∧
  (cl_BY_TAG.slots[(6 : Int32).toNatClampNeg]? = some (.ref a_DOUBLE)) ∧
  (cl_BY_TAG.slots[(7 : Int32).toNatClampNeg]? = some (.ref a_CLASS)) ∧
  (cl_BY_TAG.slots[(8 : Int32).toNatClampNeg]? = some (.ref a_STRING)) ∧
  (cl_BY_TAG.slots[(9 : Int32).toNatClampNeg]? = some (.ref a_FIELDREF)) ∧
  (cl_BY_TAG.slots[(10 : Int32).toNatClampNeg]? = some (.ref a_METHODREF)) ∧
  (cl_BY_TAG.slots[(11 : Int32).toNatClampNeg]? = some (.ref a_INTERFACE_METHODREF)) ∧
  (cl_BY_TAG.slots[(12 : Int32).toNatClampNeg]? = some (.ref a_NAME_AND_TYPE)) ∧
  (cl_BY_TAG.slots[(13 : Int32).toNatClampNeg]? = some .null) ∧
  (cl_BY_TAG.slots[(14 : Int32).toNatClampNeg]? = some .null) ∧
  (cl_BY_TAG.slots[(15 : Int32).toNatClampNeg]? = some (.ref a_METHOD_HANDLE)) ∧
  (cl_BY_TAG.slots[(16 : Int32).toNatClampNeg]? = some (.ref a_METHOD_TYPE)) ∧
  (cl_BY_TAG.slots[(17 : Int32).toNatClampNeg]? = some (.ref a_DYNAMIC)) ∧
  (cl_BY_TAG.slots[(18 : Int32).toNatClampNeg]? = some (.ref a_INVOKE_DYNAMIC)) ∧
  (cl_BY_TAG.slots[(19 : Int32).toNatClampNeg]? = some (.ref a_MODULE)) ∧
  (cl_BY_TAG.slots[(20 : Int32).toNatClampNeg]? = some (.ref a_PACKAGE)) ∧
  (Exa Z h0 a_METHOD_TYPE "com/example/veritype/veritype/model/ConstantKind") ∧
  (Exa Z h0 a_FIELDREF "com/example/veritype/veritype/model/ConstantKind") ∧
  (Exa Z h0 a_DOUBLE "com/example/veritype/veritype/model/ConstantKind") ∧
  (Exa Z h0 a_STRING "com/example/veritype/veritype/model/ConstantKind") ∧
  (Exa Z h0 a_NAME_AND_TYPE "com/example/veritype/veritype/model/ConstantKind") ∧
  (Exa Z h0 a_UTF8 "com/example/veritype/veritype/model/ConstantKind") ∧
  (Exa Z h0 a_INTEGER "com/example/veritype/veritype/model/ConstantKind") ∧
  (Exa Z h0 a_MODULE "com/example/veritype/veritype/model/ConstantKind") ∧
  (Exa Z h0 a_METHODREF "com/example/veritype/veritype/model/ConstantKind") ∧
  (Exa Z h0 a_INTERFACE_METHODREF "com/example/veritype/veritype/model/ConstantKind") ∧
  (Exa Z h0 a_LONG "com/example/veritype/veritype/model/ConstantKind") ∧
  (Exa Z h0 a_PACKAGE "com/example/veritype/veritype/model/ConstantKind") ∧
  (Exa Z h0 a_INVOKE_DYNAMIC "com/example/veritype/veritype/model/ConstantKind") ∧
  (Exa Z h0 a_METHOD_HANDLE "com/example/veritype/veritype/model/ConstantKind") ∧
  (Exa Z h0 a_FLOAT "com/example/veritype/veritype/model/ConstantKind") ∧
  (Exa Z h0 a_CLASS "com/example/veritype/veritype/model/ConstantKind") ∧
  (Exa Z h0 a_DYNAMIC "com/example/veritype/veritype/model/ConstantKind") ∧ True
theorem own_p_S_BY_TAG {Z : State} {h0 : Heap} {a_BY_TAG : Addr} {a_METHOD_TYPE : Addr} {a_FIELDREF : Addr} {a_DOUBLE : Addr} {a_STRING : Addr} {a_NAME_AND_TYPE : Addr} {a_UTF8 : Addr} {a_INTEGER : Addr} {a_MODULE : Addr} {a_METHODREF : Addr} {a_INTERFACE_METHODREF : Addr} {a_LONG : Addr} {a_PACKAGE : Addr} {a_INVOKE_DYNAMIC : Addr} {a_METHOD_HANDLE : Addr} {a_FLOAT : Addr} {a_CLASS : Addr} {a_DYNAMIC : Addr} {cl_BY_TAG : Cell} (hE : own_E Z h0 a_BY_TAG a_METHOD_TYPE a_FIELDREF a_DOUBLE a_STRING a_NAME_AND_TYPE a_UTF8 a_INTEGER a_MODULE a_METHODREF a_INTERFACE_METHODREF a_LONG a_PACKAGE a_INVOKE_DYNAMIC a_METHOD_HANDLE a_FLOAT a_CLASS a_DYNAMIC cl_BY_TAG) : Sta Z h0 "com/example/veritype/veritype/model/ConstantKind" "BY_TAG" "[Lcom/example/veritype/veritype/model/ConstantKind;" (.ref a_BY_TAG) := hE.1
theorem own_p_S_METHOD_TYPE {Z : State} {h0 : Heap} {a_BY_TAG : Addr} {a_METHOD_TYPE : Addr} {a_FIELDREF : Addr} {a_DOUBLE : Addr} {a_STRING : Addr} {a_NAME_AND_TYPE : Addr} {a_UTF8 : Addr} {a_INTEGER : Addr} {a_MODULE : Addr} {a_METHODREF : Addr} {a_INTERFACE_METHODREF : Addr} {a_LONG : Addr} {a_PACKAGE : Addr} {a_INVOKE_DYNAMIC : Addr} {a_METHOD_HANDLE : Addr} {a_FLOAT : Addr} {a_CLASS : Addr} {a_DYNAMIC : Addr} {cl_BY_TAG : Cell} (hE : own_E Z h0 a_BY_TAG a_METHOD_TYPE a_FIELDREF a_DOUBLE a_STRING a_NAME_AND_TYPE a_UTF8 a_INTEGER a_MODULE a_METHODREF a_INTERFACE_METHODREF a_LONG a_PACKAGE a_INVOKE_DYNAMIC a_METHOD_HANDLE a_FLOAT a_CLASS a_DYNAMIC cl_BY_TAG) : Sta Z h0 "com/example/veritype/veritype/model/ConstantKind" "METHOD_TYPE" "Lcom/example/veritype/veritype/model/ConstantKind;" (.ref a_METHOD_TYPE) := hE.2.1
theorem own_p_S_FIELDREF {Z : State} {h0 : Heap} {a_BY_TAG : Addr} {a_METHOD_TYPE : Addr} {a_FIELDREF : Addr} {a_DOUBLE : Addr} {a_STRING : Addr} {a_NAME_AND_TYPE : Addr} {a_UTF8 : Addr} {a_INTEGER : Addr} {a_MODULE : Addr} {a_METHODREF : Addr} {a_INTERFACE_METHODREF : Addr} {a_LONG : Addr} {a_PACKAGE : Addr} {a_INVOKE_DYNAMIC : Addr} {a_METHOD_HANDLE : Addr} {a_FLOAT : Addr} {a_CLASS : Addr} {a_DYNAMIC : Addr} {cl_BY_TAG : Cell} (hE : own_E Z h0 a_BY_TAG a_METHOD_TYPE a_FIELDREF a_DOUBLE a_STRING a_NAME_AND_TYPE a_UTF8 a_INTEGER a_MODULE a_METHODREF a_INTERFACE_METHODREF a_LONG a_PACKAGE a_INVOKE_DYNAMIC a_METHOD_HANDLE a_FLOAT a_CLASS a_DYNAMIC cl_BY_TAG) : Sta Z h0 "com/example/veritype/veritype/model/ConstantKind" "FIELDREF" "Lcom/example/veritype/veritype/model/ConstantKind;" (.ref a_FIELDREF) := hE.2.2.1
theorem own_p_S_DOUBLE {Z : State} {h0 : Heap} {a_BY_TAG : Addr} {a_METHOD_TYPE : Addr} {a_FIELDREF : Addr} {a_DOUBLE : Addr} {a_STRING : Addr} {a_NAME_AND_TYPE : Addr} {a_UTF8 : Addr} {a_INTEGER : Addr} {a_MODULE : Addr} {a_METHODREF : Addr} {a_INTERFACE_METHODREF : Addr} {a_LONG : Addr} {a_PACKAGE : Addr} {a_INVOKE_DYNAMIC : Addr} {a_METHOD_HANDLE : Addr} {a_FLOAT : Addr} {a_CLASS : Addr} {a_DYNAMIC : Addr} {cl_BY_TAG : Cell} (hE : own_E Z h0 a_BY_TAG a_METHOD_TYPE a_FIELDREF a_DOUBLE a_STRING a_NAME_AND_TYPE a_UTF8 a_INTEGER a_MODULE a_METHODREF a_INTERFACE_METHODREF a_LONG a_PACKAGE a_INVOKE_DYNAMIC a_METHOD_HANDLE a_FLOAT a_CLASS a_DYNAMIC cl_BY_TAG) : Sta Z h0 "com/example/veritype/veritype/model/ConstantKind" "DOUBLE" "Lcom/example/veritype/veritype/model/ConstantKind;" (.ref a_DOUBLE) := hE.2.2.2.1
theorem own_p_S_STRING {Z : State} {h0 : Heap} {a_BY_TAG : Addr} {a_METHOD_TYPE : Addr} {a_FIELDREF : Addr} {a_DOUBLE : Addr} {a_STRING : Addr} {a_NAME_AND_TYPE : Addr} {a_UTF8 : Addr} {a_INTEGER : Addr} {a_MODULE : Addr} {a_METHODREF : Addr} {a_INTERFACE_METHODREF : Addr} {a_LONG : Addr} {a_PACKAGE : Addr} {a_INVOKE_DYNAMIC : Addr} {a_METHOD_HANDLE : Addr} {a_FLOAT : Addr} {a_CLASS : Addr} {a_DYNAMIC : Addr} {cl_BY_TAG : Cell} (hE : own_E Z h0 a_BY_TAG a_METHOD_TYPE a_FIELDREF a_DOUBLE a_STRING a_NAME_AND_TYPE a_UTF8 a_INTEGER a_MODULE a_METHODREF a_INTERFACE_METHODREF a_LONG a_PACKAGE a_INVOKE_DYNAMIC a_METHOD_HANDLE a_FLOAT a_CLASS a_DYNAMIC cl_BY_TAG) : Sta Z h0 "com/example/veritype/veritype/model/ConstantKind" "STRING" "Lcom/example/veritype/veritype/model/ConstantKind;" (.ref a_STRING) := hE.2.2.2.2.1
theorem own_p_S_NAME_AND_TYPE {Z : State} {h0 : Heap} {a_BY_TAG : Addr} {a_METHOD_TYPE : Addr} {a_FIELDREF : Addr} {a_DOUBLE : Addr} {a_STRING : Addr} {a_NAME_AND_TYPE : Addr} {a_UTF8 : Addr} {a_INTEGER : Addr} {a_MODULE : Addr} {a_METHODREF : Addr} {a_INTERFACE_METHODREF : Addr} {a_LONG : Addr} {a_PACKAGE : Addr} {a_INVOKE_DYNAMIC : Addr} {a_METHOD_HANDLE : Addr} {a_FLOAT : Addr} {a_CLASS : Addr} {a_DYNAMIC : Addr} {cl_BY_TAG : Cell} (hE : own_E Z h0 a_BY_TAG a_METHOD_TYPE a_FIELDREF a_DOUBLE a_STRING a_NAME_AND_TYPE a_UTF8 a_INTEGER a_MODULE a_METHODREF a_INTERFACE_METHODREF a_LONG a_PACKAGE a_INVOKE_DYNAMIC a_METHOD_HANDLE a_FLOAT a_CLASS a_DYNAMIC cl_BY_TAG) : Sta Z h0 "com/example/veritype/veritype/model/ConstantKind" "NAME_AND_TYPE" "Lcom/example/veritype/veritype/model/ConstantKind;" (.ref a_NAME_AND_TYPE) := hE.2.2.2.2.2.1
theorem own_p_S_UTF8 {Z : State} {h0 : Heap} {a_BY_TAG : Addr} {a_METHOD_TYPE : Addr} {a_FIELDREF : Addr} {a_DOUBLE : Addr} {a_STRING : Addr} {a_NAME_AND_TYPE : Addr} {a_UTF8 : Addr} {a_INTEGER : Addr} {a_MODULE : Addr} {a_METHODREF : Addr} {a_INTERFACE_METHODREF : Addr} {a_LONG : Addr} {a_PACKAGE : Addr} {a_INVOKE_DYNAMIC : Addr} {a_METHOD_HANDLE : Addr} {a_FLOAT : Addr} {a_CLASS : Addr} {a_DYNAMIC : Addr} {cl_BY_TAG : Cell} (hE : own_E Z h0 a_BY_TAG a_METHOD_TYPE a_FIELDREF a_DOUBLE a_STRING a_NAME_AND_TYPE a_UTF8 a_INTEGER a_MODULE a_METHODREF a_INTERFACE_METHODREF a_LONG a_PACKAGE a_INVOKE_DYNAMIC a_METHOD_HANDLE a_FLOAT a_CLASS a_DYNAMIC cl_BY_TAG) : Sta Z h0 "com/example/veritype/veritype/model/ConstantKind" "UTF8" "Lcom/example/veritype/veritype/model/ConstantKind;" (.ref a_UTF8) := hE.2.2.2.2.2.2.1
theorem own_p_S_INTEGER {Z : State} {h0 : Heap} {a_BY_TAG : Addr} {a_METHOD_TYPE : Addr} {a_FIELDREF : Addr} {a_DOUBLE : Addr} {a_STRING : Addr} {a_NAME_AND_TYPE : Addr} {a_UTF8 : Addr} {a_INTEGER : Addr} {a_MODULE : Addr} {a_METHODREF : Addr} {a_INTERFACE_METHODREF : Addr} {a_LONG : Addr} {a_PACKAGE : Addr} {a_INVOKE_DYNAMIC : Addr} {a_METHOD_HANDLE : Addr} {a_FLOAT : Addr} {a_CLASS : Addr} {a_DYNAMIC : Addr} {cl_BY_TAG : Cell} (hE : own_E Z h0 a_BY_TAG a_METHOD_TYPE a_FIELDREF a_DOUBLE a_STRING a_NAME_AND_TYPE a_UTF8 a_INTEGER a_MODULE a_METHODREF a_INTERFACE_METHODREF a_LONG a_PACKAGE a_INVOKE_DYNAMIC a_METHOD_HANDLE a_FLOAT a_CLASS a_DYNAMIC cl_BY_TAG) : Sta Z h0 "com/example/veritype/veritype/model/ConstantKind" "INTEGER" "Lcom/example/veritype/veritype/model/ConstantKind;" (.ref a_INTEGER) := hE.2.2.2.2.2.2.2.1
theorem own_p_S_MODULE {Z : State} {h0 : Heap} {a_BY_TAG : Addr} {a_METHOD_TYPE : Addr} {a_FIELDREF : Addr} {a_DOUBLE : Addr} {a_STRING : Addr} {a_NAME_AND_TYPE : Addr} {a_UTF8 : Addr} {a_INTEGER : Addr} {a_MODULE : Addr} {a_METHODREF : Addr} {a_INTERFACE_METHODREF : Addr} {a_LONG : Addr} {a_PACKAGE : Addr} {a_INVOKE_DYNAMIC : Addr} {a_METHOD_HANDLE : Addr} {a_FLOAT : Addr} {a_CLASS : Addr} {a_DYNAMIC : Addr} {cl_BY_TAG : Cell} (hE : own_E Z h0 a_BY_TAG a_METHOD_TYPE a_FIELDREF a_DOUBLE a_STRING a_NAME_AND_TYPE a_UTF8 a_INTEGER a_MODULE a_METHODREF a_INTERFACE_METHODREF a_LONG a_PACKAGE a_INVOKE_DYNAMIC a_METHOD_HANDLE a_FLOAT a_CLASS a_DYNAMIC cl_BY_TAG) : Sta Z h0 "com/example/veritype/veritype/model/ConstantKind" "MODULE" "Lcom/example/veritype/veritype/model/ConstantKind;" (.ref a_MODULE) := hE.2.2.2.2.2.2.2.2.1
theorem own_p_S_METHODREF {Z : State} {h0 : Heap} {a_BY_TAG : Addr} {a_METHOD_TYPE : Addr} {a_FIELDREF : Addr} {a_DOUBLE : Addr} {a_STRING : Addr} {a_NAME_AND_TYPE : Addr} {a_UTF8 : Addr} {a_INTEGER : Addr} {a_MODULE : Addr} {a_METHODREF : Addr} {a_INTERFACE_METHODREF : Addr} {a_LONG : Addr} {a_PACKAGE : Addr} {a_INVOKE_DYNAMIC : Addr} {a_METHOD_HANDLE : Addr} {a_FLOAT : Addr} {a_CLASS : Addr} {a_DYNAMIC : Addr} {cl_BY_TAG : Cell} (hE : own_E Z h0 a_BY_TAG a_METHOD_TYPE a_FIELDREF a_DOUBLE a_STRING a_NAME_AND_TYPE a_UTF8 a_INTEGER a_MODULE a_METHODREF a_INTERFACE_METHODREF a_LONG a_PACKAGE a_INVOKE_DYNAMIC a_METHOD_HANDLE a_FLOAT a_CLASS a_DYNAMIC cl_BY_TAG) : Sta Z h0 "com/example/veritype/veritype/model/ConstantKind" "METHODREF" "Lcom/example/veritype/veritype/model/ConstantKind;" (.ref a_METHODREF) := hE.2.2.2.2.2.2.2.2.2.1
theorem own_p_S_INTERFACE_METHODREF {Z : State} {h0 : Heap} {a_BY_TAG : Addr} {a_METHOD_TYPE : Addr} {a_FIELDREF : Addr} {a_DOUBLE : Addr} {a_STRING : Addr} {a_NAME_AND_TYPE : Addr} {a_UTF8 : Addr} {a_INTEGER : Addr} {a_MODULE : Addr} {a_METHODREF : Addr} {a_INTERFACE_METHODREF : Addr} {a_LONG : Addr} {a_PACKAGE : Addr} {a_INVOKE_DYNAMIC : Addr} {a_METHOD_HANDLE : Addr} {a_FLOAT : Addr} {a_CLASS : Addr} {a_DYNAMIC : Addr} {cl_BY_TAG : Cell} (hE : own_E Z h0 a_BY_TAG a_METHOD_TYPE a_FIELDREF a_DOUBLE a_STRING a_NAME_AND_TYPE a_UTF8 a_INTEGER a_MODULE a_METHODREF a_INTERFACE_METHODREF a_LONG a_PACKAGE a_INVOKE_DYNAMIC a_METHOD_HANDLE a_FLOAT a_CLASS a_DYNAMIC cl_BY_TAG) : Sta Z h0 "com/example/veritype/veritype/model/ConstantKind" "INTERFACE_METHODREF" "Lcom/example/veritype/veritype/model/ConstantKind;" (.ref a_INTERFACE_METHODREF) := hE.2.2.2.2.2.2.2.2.2.2.1
theorem own_p_S_LONG {Z : State} {h0 : Heap} {a_BY_TAG : Addr} {a_METHOD_TYPE : Addr} {a_FIELDREF : Addr} {a_DOUBLE : Addr} {a_STRING : Addr} {a_NAME_AND_TYPE : Addr} {a_UTF8 : Addr} {a_INTEGER : Addr} {a_MODULE : Addr} {a_METHODREF : Addr} {a_INTERFACE_METHODREF : Addr} {a_LONG : Addr} {a_PACKAGE : Addr} {a_INVOKE_DYNAMIC : Addr} {a_METHOD_HANDLE : Addr} {a_FLOAT : Addr} {a_CLASS : Addr} {a_DYNAMIC : Addr} {cl_BY_TAG : Cell} (hE : own_E Z h0 a_BY_TAG a_METHOD_TYPE a_FIELDREF a_DOUBLE a_STRING a_NAME_AND_TYPE a_UTF8 a_INTEGER a_MODULE a_METHODREF a_INTERFACE_METHODREF a_LONG a_PACKAGE a_INVOKE_DYNAMIC a_METHOD_HANDLE a_FLOAT a_CLASS a_DYNAMIC cl_BY_TAG) : Sta Z h0 "com/example/veritype/veritype/model/ConstantKind" "LONG" "Lcom/example/veritype/veritype/model/ConstantKind;" (.ref a_LONG) := hE.2.2.2.2.2.2.2.2.2.2.2.1
theorem own_p_S_PACKAGE {Z : State} {h0 : Heap} {a_BY_TAG : Addr} {a_METHOD_TYPE : Addr} {a_FIELDREF : Addr} {a_DOUBLE : Addr} {a_STRING : Addr} {a_NAME_AND_TYPE : Addr} {a_UTF8 : Addr} {a_INTEGER : Addr} {a_MODULE : Addr} {a_METHODREF : Addr} {a_INTERFACE_METHODREF : Addr} {a_LONG : Addr} {a_PACKAGE : Addr} {a_INVOKE_DYNAMIC : Addr} {a_METHOD_HANDLE : Addr} {a_FLOAT : Addr} {a_CLASS : Addr} {a_DYNAMIC : Addr} {cl_BY_TAG : Cell} (hE : own_E Z h0 a_BY_TAG a_METHOD_TYPE a_FIELDREF a_DOUBLE a_STRING a_NAME_AND_TYPE a_UTF8 a_INTEGER a_MODULE a_METHODREF a_INTERFACE_METHODREF a_LONG a_PACKAGE a_INVOKE_DYNAMIC a_METHOD_HANDLE a_FLOAT a_CLASS a_DYNAMIC cl_BY_TAG) : Sta Z h0 "com/example/veritype/veritype/model/ConstantKind" "PACKAGE" "Lcom/example/veritype/veritype/model/ConstantKind;" (.ref a_PACKAGE) := hE.2.2.2.2.2.2.2.2.2.2.2.2.1
theorem own_p_S_INVOKE_DYNAMIC {Z : State} {h0 : Heap} {a_BY_TAG : Addr} {a_METHOD_TYPE : Addr} {a_FIELDREF : Addr} {a_DOUBLE : Addr} {a_STRING : Addr} {a_NAME_AND_TYPE : Addr} {a_UTF8 : Addr} {a_INTEGER : Addr} {a_MODULE : Addr} {a_METHODREF : Addr} {a_INTERFACE_METHODREF : Addr} {a_LONG : Addr} {a_PACKAGE : Addr} {a_INVOKE_DYNAMIC : Addr} {a_METHOD_HANDLE : Addr} {a_FLOAT : Addr} {a_CLASS : Addr} {a_DYNAMIC : Addr} {cl_BY_TAG : Cell} (hE : own_E Z h0 a_BY_TAG a_METHOD_TYPE a_FIELDREF a_DOUBLE a_STRING a_NAME_AND_TYPE a_UTF8 a_INTEGER a_MODULE a_METHODREF a_INTERFACE_METHODREF a_LONG a_PACKAGE a_INVOKE_DYNAMIC a_METHOD_HANDLE a_FLOAT a_CLASS a_DYNAMIC cl_BY_TAG) : Sta Z h0 "com/example/veritype/veritype/model/ConstantKind" "INVOKE_DYNAMIC" "Lcom/example/veritype/veritype/model/ConstantKind;" (.ref a_INVOKE_DYNAMIC) := hE.2.2.2.2.2.2.2.2.2.2.2.2.2.1
theorem own_p_S_METHOD_HANDLE {Z : State} {h0 : Heap} {a_BY_TAG : Addr} {a_METHOD_TYPE : Addr} {a_FIELDREF : Addr} {a_DOUBLE : Addr} {a_STRING : Addr} {a_NAME_AND_TYPE : Addr} {a_UTF8 : Addr} {a_INTEGER : Addr} {a_MODULE : Addr} {a_METHODREF : Addr} {a_INTERFACE_METHODREF : Addr} {a_LONG : Addr} {a_PACKAGE : Addr} {a_INVOKE_DYNAMIC : Addr} {a_METHOD_HANDLE : Addr} {a_FLOAT : Addr} {a_CLASS : Addr} {a_DYNAMIC : Addr} {cl_BY_TAG : Cell} (hE : own_E Z h0 a_BY_TAG a_METHOD_TYPE a_FIELDREF a_DOUBLE a_STRING a_NAME_AND_TYPE a_UTF8 a_INTEGER a_MODULE a_METHODREF a_INTERFACE_METHODREF a_LONG a_PACKAGE a_INVOKE_DYNAMIC a_METHOD_HANDLE a_FLOAT a_CLASS a_DYNAMIC cl_BY_TAG) : Sta Z h0 "com/example/veritype/veritype/model/ConstantKind" "METHOD_HANDLE" "Lcom/example/veritype/veritype/model/ConstantKind;" (.ref a_METHOD_HANDLE) := hE.2.2.2.2.2.2.2.2.2.2.2.2.2.2.1
theorem own_p_S_FLOAT {Z : State} {h0 : Heap} {a_BY_TAG : Addr} {a_METHOD_TYPE : Addr} {a_FIELDREF : Addr} {a_DOUBLE : Addr} {a_STRING : Addr} {a_NAME_AND_TYPE : Addr} {a_UTF8 : Addr} {a_INTEGER : Addr} {a_MODULE : Addr} {a_METHODREF : Addr} {a_INTERFACE_METHODREF : Addr} {a_LONG : Addr} {a_PACKAGE : Addr} {a_INVOKE_DYNAMIC : Addr} {a_METHOD_HANDLE : Addr} {a_FLOAT : Addr} {a_CLASS : Addr} {a_DYNAMIC : Addr} {cl_BY_TAG : Cell} (hE : own_E Z h0 a_BY_TAG a_METHOD_TYPE a_FIELDREF a_DOUBLE a_STRING a_NAME_AND_TYPE a_UTF8 a_INTEGER a_MODULE a_METHODREF a_INTERFACE_METHODREF a_LONG a_PACKAGE a_INVOKE_DYNAMIC a_METHOD_HANDLE a_FLOAT a_CLASS a_DYNAMIC cl_BY_TAG) : Sta Z h0 "com/example/veritype/veritype/model/ConstantKind" "FLOAT" "Lcom/example/veritype/veritype/model/ConstantKind;" (.ref a_FLOAT) := hE.2.2.2.2.2.2.2.2.2.2.2.2.2.2.2.1
theorem own_p_S_CLASS {Z : State} {h0 : Heap} {a_BY_TAG : Addr} {a_METHOD_TYPE : Addr} {a_FIELDREF : Addr} {a_DOUBLE : Addr} {a_STRING : Addr} {a_NAME_AND_TYPE : Addr} {a_UTF8 : Addr} {a_INTEGER : Addr} {a_MODULE : Addr} {a_METHODREF : Addr} {a_INTERFACE_METHODREF : Addr} {a_LONG : Addr} {a_PACKAGE : Addr} {a_INVOKE_DYNAMIC : Addr} {a_METHOD_HANDLE : Addr} {a_FLOAT : Addr} {a_CLASS : Addr} {a_DYNAMIC : Addr} {cl_BY_TAG : Cell} (hE : own_E Z h0 a_BY_TAG a_METHOD_TYPE a_FIELDREF a_DOUBLE a_STRING a_NAME_AND_TYPE a_UTF8 a_INTEGER a_MODULE a_METHODREF a_INTERFACE_METHODREF a_LONG a_PACKAGE a_INVOKE_DYNAMIC a_METHOD_HANDLE a_FLOAT a_CLASS a_DYNAMIC cl_BY_TAG) : Sta Z h0 "com/example/veritype/veritype/model/ConstantKind" "CLASS" "Lcom/example/veritype/veritype/model/ConstantKind;" (.ref a_CLASS) := hE.2.2.2.2.2.2.2.2.2.2.2.2.2.2.2.2.1
theorem own_p_S_DYNAMIC {Z : State} {h0 : Heap} {a_BY_TAG : Addr} {a_METHOD_TYPE : Addr} {a_FIELDREF : Addr} {a_DOUBLE : Addr} {a_STRING : Addr} {a_NAME_AND_TYPE : Addr} {a_UTF8 : Addr} {a_INTEGER : Addr} {a_MODULE : Addr} {a_METHODREF : Addr} {a_INTERFACE_METHODREF : Addr} {a_LONG : Addr} {a_PACKAGE : Addr} {a_INVOKE_DYNAMIC : Addr} {a_METHOD_HANDLE : Addr} {a_FLOAT : Addr} {a_CLASS : Addr} {a_DYNAMIC : Addr} {cl_BY_TAG : Cell} (hE : own_E Z h0 a_BY_TAG a_METHOD_TYPE a_FIELDREF a_DOUBLE a_STRING a_NAME_AND_TYPE a_UTF8 a_INTEGER a_MODULE a_METHODREF a_INTERFACE_METHODREF a_LONG a_PACKAGE a_INVOKE_DYNAMIC a_METHOD_HANDLE a_FLOAT a_CLASS a_DYNAMIC cl_BY_TAG) : Sta Z h0 "com/example/veritype/veritype/model/ConstantKind" "DYNAMIC" "Lcom/example/veritype/veritype/model/ConstantKind;" (.ref a_DYNAMIC) := hE.2.2.2.2.2.2.2.2.2.2.2.2.2.2.2.2.2.1
theorem own_p_A_BY_TAG {Z : State} {h0 : Heap} {a_BY_TAG : Addr} {a_METHOD_TYPE : Addr} {a_FIELDREF : Addr} {a_DOUBLE : Addr} {a_STRING : Addr} {a_NAME_AND_TYPE : Addr} {a_UTF8 : Addr} {a_INTEGER : Addr} {a_MODULE : Addr} {a_METHODREF : Addr} {a_INTERFACE_METHODREF : Addr} {a_LONG : Addr} {a_PACKAGE : Addr} {a_INVOKE_DYNAMIC : Addr} {a_METHOD_HANDLE : Addr} {a_FLOAT : Addr} {a_CLASS : Addr} {a_DYNAMIC : Addr} {cl_BY_TAG : Cell} (hE : own_E Z h0 a_BY_TAG a_METHOD_TYPE a_FIELDREF a_DOUBLE a_STRING a_NAME_AND_TYPE a_UTF8 a_INTEGER a_MODULE a_METHODREF a_INTERFACE_METHODREF a_LONG a_PACKAGE a_INVOKE_DYNAMIC a_METHOD_HANDLE a_FLOAT a_CLASS a_DYNAMIC cl_BY_TAG) : Arr Z h0 a_BY_TAG cl_BY_TAG (.object "com/example/veritype/veritype/model/ConstantKind") := hE.2.2.2.2.2.2.2.2.2.2.2.2.2.2.2.2.2.2.1
theorem own_p_Z_BY_TAG {Z : State} {h0 : Heap} {a_BY_TAG : Addr} {a_METHOD_TYPE : Addr} {a_FIELDREF : Addr} {a_DOUBLE : Addr} {a_STRING : Addr} {a_NAME_AND_TYPE : Addr} {a_UTF8 : Addr} {a_INTEGER : Addr} {a_MODULE : Addr} {a_METHODREF : Addr} {a_INTERFACE_METHODREF : Addr} {a_LONG : Addr} {a_PACKAGE : Addr} {a_INVOKE_DYNAMIC : Addr} {a_METHOD_HANDLE : Addr} {a_FLOAT : Addr} {a_CLASS : Addr} {a_DYNAMIC : Addr} {cl_BY_TAG : Cell} (hE : own_E Z h0 a_BY_TAG a_METHOD_TYPE a_FIELDREF a_DOUBLE a_STRING a_NAME_AND_TYPE a_UTF8 a_INTEGER a_MODULE a_METHODREF a_INTERFACE_METHODREF a_LONG a_PACKAGE a_INVOKE_DYNAMIC a_METHOD_HANDLE a_FLOAT a_CLASS a_DYNAMIC cl_BY_TAG) : cl_BY_TAG.slots.size = (21 : Int32).toNatClampNeg := hE.2.2.2.2.2.2.2.2.2.2.2.2.2.2.2.2.2.2.2.1
theorem own_p_Y_BY_TAG_0 {Z : State} {h0 : Heap} {a_BY_TAG : Addr} {a_METHOD_TYPE : Addr} {a_FIELDREF : Addr} {a_DOUBLE : Addr} {a_STRING : Addr} {a_NAME_AND_TYPE : Addr} {a_UTF8 : Addr} {a_INTEGER : Addr} {a_MODULE : Addr} {a_METHODREF : Addr} {a_INTERFACE_METHODREF : Addr} {a_LONG : Addr} {a_PACKAGE : Addr} {a_INVOKE_DYNAMIC : Addr} {a_METHOD_HANDLE : Addr} {a_FLOAT : Addr} {a_CLASS : Addr} {a_DYNAMIC : Addr} {cl_BY_TAG : Cell} (hE : own_E Z h0 a_BY_TAG a_METHOD_TYPE a_FIELDREF a_DOUBLE a_STRING a_NAME_AND_TYPE a_UTF8 a_INTEGER a_MODULE a_METHODREF a_INTERFACE_METHODREF a_LONG a_PACKAGE a_INVOKE_DYNAMIC a_METHOD_HANDLE a_FLOAT a_CLASS a_DYNAMIC cl_BY_TAG) : cl_BY_TAG.slots[(0 : Int32).toNatClampNeg]? = some .null := hE.2.2.2.2.2.2.2.2.2.2.2.2.2.2.2.2.2.2.2.2.1
theorem own_p_Y_BY_TAG_1 {Z : State} {h0 : Heap} {a_BY_TAG : Addr} {a_METHOD_TYPE : Addr} {a_FIELDREF : Addr} {a_DOUBLE : Addr} {a_STRING : Addr} {a_NAME_AND_TYPE : Addr} {a_UTF8 : Addr} {a_INTEGER : Addr} {a_MODULE : Addr} {a_METHODREF : Addr} {a_INTERFACE_METHODREF : Addr} {a_LONG : Addr} {a_PACKAGE : Addr} {a_INVOKE_DYNAMIC : Addr} {a_METHOD_HANDLE : Addr} {a_FLOAT : Addr} {a_CLASS : Addr} {a_DYNAMIC : Addr} {cl_BY_TAG : Cell} (hE : own_E Z h0 a_BY_TAG a_METHOD_TYPE a_FIELDREF a_DOUBLE a_STRING a_NAME_AND_TYPE a_UTF8 a_INTEGER a_MODULE a_METHODREF a_INTERFACE_METHODREF a_LONG a_PACKAGE a_INVOKE_DYNAMIC a_METHOD_HANDLE a_FLOAT a_CLASS a_DYNAMIC cl_BY_TAG) : cl_BY_TAG.slots[(1 : Int32).toNatClampNeg]? = some (.ref a_UTF8) := hE.2.2.2.2.2.2.2.2.2.2.2.2.2.2.2.2.2.2.2.2.2.1
theorem own_p_Y_BY_TAG_2 {Z : State} {h0 : Heap} {a_BY_TAG : Addr} {a_METHOD_TYPE : Addr} {a_FIELDREF : Addr} {a_DOUBLE : Addr} {a_STRING : Addr} {a_NAME_AND_TYPE : Addr} {a_UTF8 : Addr} {a_INTEGER : Addr} {a_MODULE : Addr} {a_METHODREF : Addr} {a_INTERFACE_METHODREF : Addr} {a_LONG : Addr} {a_PACKAGE : Addr} {a_INVOKE_DYNAMIC : Addr} {a_METHOD_HANDLE : Addr} {a_FLOAT : Addr} {a_CLASS : Addr} {a_DYNAMIC : Addr} {cl_BY_TAG : Cell} (hE : own_E Z h0 a_BY_TAG a_METHOD_TYPE a_FIELDREF a_DOUBLE a_STRING a_NAME_AND_TYPE a_UTF8 a_INTEGER a_MODULE a_METHODREF a_INTERFACE_METHODREF a_LONG a_PACKAGE a_INVOKE_DYNAMIC a_METHOD_HANDLE a_FLOAT a_CLASS a_DYNAMIC cl_BY_TAG) : cl_BY_TAG.slots[(2 : Int32).toNatClampNeg]? = some .null := hE.2.2.2.2.2.2.2.2.2.2.2.2.2.2.2.2.2.2.2.2.2.2.1
theorem own_p_Y_BY_TAG_3 {Z : State} {h0 : Heap} {a_BY_TAG : Addr} {a_METHOD_TYPE : Addr} {a_FIELDREF : Addr} {a_DOUBLE : Addr} {a_STRING : Addr} {a_NAME_AND_TYPE : Addr} {a_UTF8 : Addr} {a_INTEGER : Addr} {a_MODULE : Addr} {a_METHODREF : Addr} {a_INTERFACE_METHODREF : Addr} {a_LONG : Addr} {a_PACKAGE : Addr} {a_INVOKE_DYNAMIC : Addr} {a_METHOD_HANDLE : Addr} {a_FLOAT : Addr} {a_CLASS : Addr} {a_DYNAMIC : Addr} {cl_BY_TAG : Cell} (hE : own_E Z h0 a_BY_TAG a_METHOD_TYPE a_FIELDREF a_DOUBLE a_STRING a_NAME_AND_TYPE a_UTF8 a_INTEGER a_MODULE a_METHODREF a_INTERFACE_METHODREF a_LONG a_PACKAGE a_INVOKE_DYNAMIC a_METHOD_HANDLE a_FLOAT a_CLASS a_DYNAMIC cl_BY_TAG) : cl_BY_TAG.slots[(3 : Int32).toNatClampNeg]? = some (.ref a_INTEGER) := hE.2.2.2.2.2.2.2.2.2.2.2.2.2.2.2.2.2.2.2.2.2.2.2.1
theorem own_p_Y_BY_TAG_4 {Z : State} {h0 : Heap} {a_BY_TAG : Addr} {a_METHOD_TYPE : Addr} {a_FIELDREF : Addr} {a_DOUBLE : Addr} {a_STRING : Addr} {a_NAME_AND_TYPE : Addr} {a_UTF8 : Addr} {a_INTEGER : Addr} {a_MODULE : Addr} {a_METHODREF : Addr} {a_INTERFACE_METHODREF : Addr} {a_LONG : Addr} {a_PACKAGE : Addr} {a_INVOKE_DYNAMIC : Addr} {a_METHOD_HANDLE : Addr} {a_FLOAT : Addr} {a_CLASS : Addr} {a_DYNAMIC : Addr} {cl_BY_TAG : Cell} (hE : own_E Z h0 a_BY_TAG a_METHOD_TYPE a_FIELDREF a_DOUBLE a_STRING a_NAME_AND_TYPE a_UTF8 a_INTEGER a_MODULE a_METHODREF a_INTERFACE_METHODREF a_LONG a_PACKAGE a_INVOKE_DYNAMIC a_METHOD_HANDLE a_FLOAT a_CLASS a_DYNAMIC cl_BY_TAG) : cl_BY_TAG.slots[(4 : Int32).toNatClampNeg]? = some (.ref a_FLOAT) := hE.2.2.2.2.2.2.2.2.2.2.2.2.2.2.2.2.2.2.2.2.2.2.2.2.1
theorem own_p_Y_BY_TAG_5 {Z : State} {h0 : Heap} {a_BY_TAG : Addr} {a_METHOD_TYPE : Addr} {a_FIELDREF : Addr} {a_DOUBLE : Addr} {a_STRING : Addr} {a_NAME_AND_TYPE : Addr} {a_UTF8 : Addr} {a_INTEGER : Addr} {a_MODULE : Addr} {a_METHODREF : Addr} {a_INTERFACE_METHODREF : Addr} {a_LONG : Addr} {a_PACKAGE : Addr} {a_INVOKE_DYNAMIC : Addr} {a_METHOD_HANDLE : Addr} {a_FLOAT : Addr} {a_CLASS : Addr} {a_DYNAMIC : Addr} {cl_BY_TAG : Cell} (hE : own_E Z h0 a_BY_TAG a_METHOD_TYPE a_FIELDREF a_DOUBLE a_STRING a_NAME_AND_TYPE a_UTF8 a_INTEGER a_MODULE a_METHODREF a_INTERFACE_METHODREF a_LONG a_PACKAGE a_INVOKE_DYNAMIC a_METHOD_HANDLE a_FLOAT a_CLASS a_DYNAMIC cl_BY_TAG) : cl_BY_TAG.slots[(5 : Int32).toNatClampNeg]? = some (.ref a_LONG) := hE.2.2.2.2.2.2.2.2.2.2.2.2.2.2.2.2.2.2.2.2.2.2.2.2.2.1
theorem own_p_Y_BY_TAG_6 {Z : State} {h0 : Heap} {a_BY_TAG : Addr} {a_METHOD_TYPE : Addr} {a_FIELDREF : Addr} {a_DOUBLE : Addr} {a_STRING : Addr} {a_NAME_AND_TYPE : Addr} {a_UTF8 : Addr} {a_INTEGER : Addr} {a_MODULE : Addr} {a_METHODREF : Addr} {a_INTERFACE_METHODREF : Addr} {a_LONG : Addr} {a_PACKAGE : Addr} {a_INVOKE_DYNAMIC : Addr} {a_METHOD_HANDLE : Addr} {a_FLOAT : Addr} {a_CLASS : Addr} {a_DYNAMIC : Addr} {cl_BY_TAG : Cell} (hE : own_E Z h0 a_BY_TAG a_METHOD_TYPE a_FIELDREF a_DOUBLE a_STRING a_NAME_AND_TYPE a_UTF8 a_INTEGER a_MODULE a_METHODREF a_INTERFACE_METHODREF a_LONG a_PACKAGE a_INVOKE_DYNAMIC a_METHOD_HANDLE a_FLOAT a_CLASS a_DYNAMIC cl_BY_TAG) : cl_BY_TAG.slots[(6 : Int32).toNatClampNeg]? = some (.ref a_DOUBLE) := hE.2.2.2.2.2.2.2.2.2.2.2.2.2.2.2.2.2.2.2.2.2.2.2.2.2.2.1
theorem own_p_Y_BY_TAG_7 {Z : State} {h0 : Heap} {a_BY_TAG : Addr} {a_METHOD_TYPE : Addr} {a_FIELDREF : Addr} {a_DOUBLE : Addr} {a_STRING : Addr} {a_NAME_AND_TYPE : Addr} {a_UTF8 : Addr} {a_INTEGER : Addr} {a_MODULE : Addr} {a_METHODREF : Addr} {a_INTERFACE_METHODREF : Addr} {a_LONG : Addr} {a_PACKAGE : Addr} {a_INVOKE_DYNAMIC : Addr} {a_METHOD_HANDLE : Addr} {a_FLOAT : Addr} {a_CLASS : Addr} {a_DYNAMIC : Addr} {cl_BY_TAG : Cell} (hE : own_E Z h0 a_BY_TAG a_METHOD_TYPE a_FIELDREF a_DOUBLE a_STRING a_NAME_AND_TYPE a_UTF8 a_INTEGER a_MODULE a_METHODREF a_INTERFACE_METHODREF a_LONG a_PACKAGE a_INVOKE_DYNAMIC a_METHOD_HANDLE a_FLOAT a_CLASS a_DYNAMIC cl_BY_TAG) : cl_BY_TAG.slots[(7 : Int32).toNatClampNeg]? = some (.ref a_CLASS) := hE.2.2.2.2.2.2.2.2.2.2.2.2.2.2.2.2.2.2.2.2.2.2.2.2.2.2.2.1
theorem own_p_Y_BY_TAG_8 {Z : State} {h0 : Heap} {a_BY_TAG : Addr} {a_METHOD_TYPE : Addr} {a_FIELDREF : Addr} {a_DOUBLE : Addr} {a_STRING : Addr} {a_NAME_AND_TYPE : Addr} {a_UTF8 : Addr} {a_INTEGER : Addr} {a_MODULE : Addr} {a_METHODREF : Addr} {a_INTERFACE_METHODREF : Addr} {a_LONG : Addr} {a_PACKAGE : Addr} {a_INVOKE_DYNAMIC : Addr} {a_METHOD_HANDLE : Addr} {a_FLOAT : Addr} {a_CLASS : Addr} {a_DYNAMIC : Addr} {cl_BY_TAG : Cell} (hE : own_E Z h0 a_BY_TAG a_METHOD_TYPE a_FIELDREF a_DOUBLE a_STRING a_NAME_AND_TYPE a_UTF8 a_INTEGER a_MODULE a_METHODREF a_INTERFACE_METHODREF a_LONG a_PACKAGE a_INVOKE_DYNAMIC a_METHOD_HANDLE a_FLOAT a_CLASS a_DYNAMIC cl_BY_TAG) : cl_BY_TAG.slots[(8 : Int32).toNatClampNeg]? = some (.ref a_STRING) := hE.2.2.2.2.2.2.2.2.2.2.2.2.2.2.2.2.2.2.2.2.2.2.2.2.2.2.2.2.1
theorem own_p_Y_BY_TAG_9 {Z : State} {h0 : Heap} {a_BY_TAG : Addr} {a_METHOD_TYPE : Addr} {a_FIELDREF : Addr} {a_DOUBLE : Addr} {a_STRING : Addr} {a_NAME_AND_TYPE : Addr} {a_UTF8 : Addr} {a_INTEGER : Addr} {a_MODULE : Addr} {a_METHODREF : Addr} {a_INTERFACE_METHODREF : Addr} {a_LONG : Addr} {a_PACKAGE : Addr} {a_INVOKE_DYNAMIC : Addr} {a_METHOD_HANDLE : Addr} {a_FLOAT : Addr} {a_CLASS : Addr} {a_DYNAMIC : Addr} {cl_BY_TAG : Cell} (hE : own_E Z h0 a_BY_TAG a_METHOD_TYPE a_FIELDREF a_DOUBLE a_STRING a_NAME_AND_TYPE a_UTF8 a_INTEGER a_MODULE a_METHODREF a_INTERFACE_METHODREF a_LONG a_PACKAGE a_INVOKE_DYNAMIC a_METHOD_HANDLE a_FLOAT a_CLASS a_DYNAMIC cl_BY_TAG) : cl_BY_TAG.slots[(9 : Int32).toNatClampNeg]? = some (.ref a_FIELDREF) := hE.2.2.2.2.2.2.2.2.2.2.2.2.2.2.2.2.2.2.2.2.2.2.2.2.2.2.2.2.2.1
theorem own_p_Y_BY_TAG_10 {Z : State} {h0 : Heap} {a_BY_TAG : Addr} {a_METHOD_TYPE : Addr} {a_FIELDREF : Addr} {a_DOUBLE : Addr} {a_STRING : Addr} {a_NAME_AND_TYPE : Addr} {a_UTF8 : Addr} {a_INTEGER : Addr} {a_MODULE : Addr} {a_METHODREF : Addr} {a_INTERFACE_METHODREF : Addr} {a_LONG : Addr} {a_PACKAGE : Addr} {a_INVOKE_DYNAMIC : Addr} {a_METHOD_HANDLE : Addr} {a_FLOAT : Addr} {a_CLASS : Addr} {a_DYNAMIC : Addr} {cl_BY_TAG : Cell} (hE : own_E Z h0 a_BY_TAG a_METHOD_TYPE a_FIELDREF a_DOUBLE a_STRING a_NAME_AND_TYPE a_UTF8 a_INTEGER a_MODULE a_METHODREF a_INTERFACE_METHODREF a_LONG a_PACKAGE a_INVOKE_DYNAMIC a_METHOD_HANDLE a_FLOAT a_CLASS a_DYNAMIC cl_BY_TAG) : cl_BY_TAG.slots[(10 : Int32).toNatClampNeg]? = some (.ref a_METHODREF) := hE.2.2.2.2.2.2.2.2.2.2.2.2.2.2.2.2.2.2.2.2.2.2.2.2.2.2.2.2.2.2.1
theorem own_p_Y_BY_TAG_11 {Z : State} {h0 : Heap} {a_BY_TAG : Addr} {a_METHOD_TYPE : Addr} {a_FIELDREF : Addr} {a_DOUBLE : Addr} {a_STRING : Addr} {a_NAME_AND_TYPE : Addr} {a_UTF8 : Addr} {a_INTEGER : Addr} {a_MODULE : Addr} {a_METHODREF : Addr} {a_INTERFACE_METHODREF : Addr} {a_LONG : Addr} {a_PACKAGE : Addr} {a_INVOKE_DYNAMIC : Addr} {a_METHOD_HANDLE : Addr} {a_FLOAT : Addr} {a_CLASS : Addr} {a_DYNAMIC : Addr} {cl_BY_TAG : Cell} (hE : own_E Z h0 a_BY_TAG a_METHOD_TYPE a_FIELDREF a_DOUBLE a_STRING a_NAME_AND_TYPE a_UTF8 a_INTEGER a_MODULE a_METHODREF a_INTERFACE_METHODREF a_LONG a_PACKAGE a_INVOKE_DYNAMIC a_METHOD_HANDLE a_FLOAT a_CLASS a_DYNAMIC cl_BY_TAG) : cl_BY_TAG.slots[(11 : Int32).toNatClampNeg]? = some (.ref a_INTERFACE_METHODREF) := hE.2.2.2.2.2.2.2.2.2.2.2.2.2.2.2.2.2.2.2.2.2.2.2.2.2.2.2.2.2.2.2.1
theorem own_p_Y_BY_TAG_12 {Z : State} {h0 : Heap} {a_BY_TAG : Addr} {a_METHOD_TYPE : Addr} {a_FIELDREF : Addr} {a_DOUBLE : Addr} {a_STRING : Addr} {a_NAME_AND_TYPE : Addr} {a_UTF8 : Addr} {a_INTEGER : Addr} {a_MODULE : Addr} {a_METHODREF : Addr} {a_INTERFACE_METHODREF : Addr} {a_LONG : Addr} {a_PACKAGE : Addr} {a_INVOKE_DYNAMIC : Addr} {a_METHOD_HANDLE : Addr} {a_FLOAT : Addr} {a_CLASS : Addr} {a_DYNAMIC : Addr} {cl_BY_TAG : Cell} (hE : own_E Z h0 a_BY_TAG a_METHOD_TYPE a_FIELDREF a_DOUBLE a_STRING a_NAME_AND_TYPE a_UTF8 a_INTEGER a_MODULE a_METHODREF a_INTERFACE_METHODREF a_LONG a_PACKAGE a_INVOKE_DYNAMIC a_METHOD_HANDLE a_FLOAT a_CLASS a_DYNAMIC cl_BY_TAG) : cl_BY_TAG.slots[(12 : Int32).toNatClampNeg]? = some (.ref a_NAME_AND_TYPE) := hE.2.2.2.2.2.2.2.2.2.2.2.2.2.2.2.2.2.2.2.2.2.2.2.2.2.2.2.2.2.2.2.2.1
theorem own_p_Y_BY_TAG_13 {Z : State} {h0 : Heap} {a_BY_TAG : Addr} {a_METHOD_TYPE : Addr} {a_FIELDREF : Addr} {a_DOUBLE : Addr} {a_STRING : Addr} {a_NAME_AND_TYPE : Addr} {a_UTF8 : Addr} {a_INTEGER : Addr} {a_MODULE : Addr} {a_METHODREF : Addr} {a_INTERFACE_METHODREF : Addr} {a_LONG : Addr} {a_PACKAGE : Addr} {a_INVOKE_DYNAMIC : Addr} {a_METHOD_HANDLE : Addr} {a_FLOAT : Addr} {a_CLASS : Addr} {a_DYNAMIC : Addr} {cl_BY_TAG : Cell} (hE : own_E Z h0 a_BY_TAG a_METHOD_TYPE a_FIELDREF a_DOUBLE a_STRING a_NAME_AND_TYPE a_UTF8 a_INTEGER a_MODULE a_METHODREF a_INTERFACE_METHODREF a_LONG a_PACKAGE a_INVOKE_DYNAMIC a_METHOD_HANDLE a_FLOAT a_CLASS a_DYNAMIC cl_BY_TAG) : cl_BY_TAG.slots[(13 : Int32).toNatClampNeg]? = some .null := hE.2.2.2.2.2.2.2.2.2.2.2.2.2.2.2.2.2.2.2.2.2.2.2.2.2.2.2.2.2.2.2.2.2.1
theorem own_p_Y_BY_TAG_14 {Z : State} {h0 : Heap} {a_BY_TAG : Addr} {a_METHOD_TYPE : Addr} {a_FIELDREF : Addr} {a_DOUBLE : Addr} {a_STRING : Addr} {a_NAME_AND_TYPE : Addr} {a_UTF8 : Addr} {a_INTEGER : Addr} {a_MODULE : Addr} {a_METHODREF : Addr} {a_INTERFACE_METHODREF : Addr} {a_LONG : Addr} {a_PACKAGE : Addr} {a_INVOKE_DYNAMIC : Addr} {a_METHOD_HANDLE : Addr} {a_FLOAT : Addr} {a_CLASS : Addr} {a_DYNAMIC : Addr} {cl_BY_TAG : Cell} (hE : own_E Z h0 a_BY_TAG a_METHOD_TYPE a_FIELDREF a_DOUBLE a_STRING a_NAME_AND_TYPE a_UTF8 a_INTEGER a_MODULE a_METHODREF a_INTERFACE_METHODREF a_LONG a_PACKAGE a_INVOKE_DYNAMIC a_METHOD_HANDLE a_FLOAT a_CLASS a_DYNAMIC cl_BY_TAG) : cl_BY_TAG.slots[(14 : Int32).toNatClampNeg]? = some .null := hE.2.2.2.2.2.2.2.2.2.2.2.2.2.2.2.2.2.2.2.2.2.2.2.2.2.2.2.2.2.2.2.2.2.2.1
theorem own_p_Y_BY_TAG_15 {Z : State} {h0 : Heap} {a_BY_TAG : Addr} {a_METHOD_TYPE : Addr} {a_FIELDREF : Addr} {a_DOUBLE : Addr} {a_STRING : Addr} {a_NAME_AND_TYPE : Addr} {a_UTF8 : Addr} {a_INTEGER : Addr} {a_MODULE : Addr} {a_METHODREF : Addr} {a_INTERFACE_METHODREF : Addr} {a_LONG : Addr} {a_PACKAGE : Addr} {a_INVOKE_DYNAMIC : Addr} {a_METHOD_HANDLE : Addr} {a_FLOAT : Addr} {a_CLASS : Addr} {a_DYNAMIC : Addr} {cl_BY_TAG : Cell} (hE : own_E Z h0 a_BY_TAG a_METHOD_TYPE a_FIELDREF a_DOUBLE a_STRING a_NAME_AND_TYPE a_UTF8 a_INTEGER a_MODULE a_METHODREF a_INTERFACE_METHODREF a_LONG a_PACKAGE a_INVOKE_DYNAMIC a_METHOD_HANDLE a_FLOAT a_CLASS a_DYNAMIC cl_BY_TAG) : cl_BY_TAG.slots[(15 : Int32).toNatClampNeg]? = some (.ref a_METHOD_HANDLE) := hE.2.2.2.2.2.2.2.2.2.2.2.2.2.2.2.2.2.2.2.2.2.2.2.2.2.2.2.2.2.2.2.2.2.2.2.1
theorem own_p_Y_BY_TAG_16 {Z : State} {h0 : Heap} {a_BY_TAG : Addr} {a_METHOD_TYPE : Addr} {a_FIELDREF : Addr} {a_DOUBLE : Addr} {a_STRING : Addr} {a_NAME_AND_TYPE : Addr} {a_UTF8 : Addr} {a_INTEGER : Addr} {a_MODULE : Addr} {a_METHODREF : Addr} {a_INTERFACE_METHODREF : Addr} {a_LONG : Addr} {a_PACKAGE : Addr} {a_INVOKE_DYNAMIC : Addr} {a_METHOD_HANDLE : Addr} {a_FLOAT : Addr} {a_CLASS : Addr} {a_DYNAMIC : Addr} {cl_BY_TAG : Cell} (hE : own_E Z h0 a_BY_TAG a_METHOD_TYPE a_FIELDREF a_DOUBLE a_STRING a_NAME_AND_TYPE a_UTF8 a_INTEGER a_MODULE a_METHODREF a_INTERFACE_METHODREF a_LONG a_PACKAGE a_INVOKE_DYNAMIC a_METHOD_HANDLE a_FLOAT a_CLASS a_DYNAMIC cl_BY_TAG) : cl_BY_TAG.slots[(16 : Int32).toNatClampNeg]? = some (.ref a_METHOD_TYPE) := hE.2.2.2.2.2.2.2.2.2.2.2.2.2.2.2.2.2.2.2.2.2.2.2.2.2.2.2.2.2.2.2.2.2.2.2.2.1
theorem own_p_Y_BY_TAG_17 {Z : State} {h0 : Heap} {a_BY_TAG : Addr} {a_METHOD_TYPE : Addr} {a_FIELDREF : Addr} {a_DOUBLE : Addr} {a_STRING : Addr} {a_NAME_AND_TYPE : Addr} {a_UTF8 : Addr} {a_INTEGER : Addr} {a_MODULE : Addr} {a_METHODREF : Addr} {a_INTERFACE_METHODREF : Addr} {a_LONG : Addr} {a_PACKAGE : Addr} {a_INVOKE_DYNAMIC : Addr} {a_METHOD_HANDLE : Addr} {a_FLOAT : Addr} {a_CLASS : Addr} {a_DYNAMIC : Addr} {cl_BY_TAG : Cell} (hE : own_E Z h0 a_BY_TAG a_METHOD_TYPE a_FIELDREF a_DOUBLE a_STRING a_NAME_AND_TYPE a_UTF8 a_INTEGER a_MODULE a_METHODREF a_INTERFACE_METHODREF a_LONG a_PACKAGE a_INVOKE_DYNAMIC a_METHOD_HANDLE a_FLOAT a_CLASS a_DYNAMIC cl_BY_TAG) : cl_BY_TAG.slots[(17 : Int32).toNatClampNeg]? = some (.ref a_DYNAMIC) := hE.2.2.2.2.2.2.2.2.2.2.2.2.2.2.2.2.2.2.2.2.2.2.2.2.2.2.2.2.2.2.2.2.2.2.2.2.2.1
theorem own_p_Y_BY_TAG_18 {Z : State} {h0 : Heap} {a_BY_TAG : Addr} {a_METHOD_TYPE : Addr} {a_FIELDREF : Addr} {a_DOUBLE : Addr} {a_STRING : Addr} {a_NAME_AND_TYPE : Addr} {a_UTF8 : Addr} {a_INTEGER : Addr} {a_MODULE : Addr} {a_METHODREF : Addr} {a_INTERFACE_METHODREF : Addr} {a_LONG : Addr} {a_PACKAGE : Addr} {a_INVOKE_DYNAMIC : Addr} {a_METHOD_HANDLE : Addr} {a_FLOAT : Addr} {a_CLASS : Addr} {a_DYNAMIC : Addr} {cl_BY_TAG : Cell} (hE : own_E Z h0 a_BY_TAG a_METHOD_TYPE a_FIELDREF a_DOUBLE a_STRING a_NAME_AND_TYPE a_UTF8 a_INTEGER a_MODULE a_METHODREF a_INTERFACE_METHODREF a_LONG a_PACKAGE a_INVOKE_DYNAMIC a_METHOD_HANDLE a_FLOAT a_CLASS a_DYNAMIC cl_BY_TAG) : cl_BY_TAG.slots[(18 : Int32).toNatClampNeg]? = some (.ref a_INVOKE_DYNAMIC) := hE.2.2.2.2.2.2.2.2.2.2.2.2.2.2.2.2.2.2.2.2.2.2.2.2.2.2.2.2.2.2.2.2.2.2.2.2.2.2.1
theorem own_p_Y_BY_TAG_19 {Z : State} {h0 : Heap} {a_BY_TAG : Addr} {a_METHOD_TYPE : Addr} {a_FIELDREF : Addr} {a_DOUBLE : Addr} {a_STRING : Addr} {a_NAME_AND_TYPE : Addr} {a_UTF8 : Addr} {a_INTEGER : Addr} {a_MODULE : Addr} {a_METHODREF : Addr} {a_INTERFACE_METHODREF : Addr} {a_LONG : Addr} {a_PACKAGE : Addr} {a_INVOKE_DYNAMIC : Addr} {a_METHOD_HANDLE : Addr} {a_FLOAT : Addr} {a_CLASS : Addr} {a_DYNAMIC : Addr} {cl_BY_TAG : Cell} (hE : own_E Z h0 a_BY_TAG a_METHOD_TYPE a_FIELDREF a_DOUBLE a_STRING a_NAME_AND_TYPE a_UTF8 a_INTEGER a_MODULE a_METHODREF a_INTERFACE_METHODREF a_LONG a_PACKAGE a_INVOKE_DYNAMIC a_METHOD_HANDLE a_FLOAT a_CLASS a_DYNAMIC cl_BY_TAG) : cl_BY_TAG.slots[(19 : Int32).toNatClampNeg]? = some (.ref a_MODULE) := hE.2.2.2.2.2.2.2.2.2.2.2.2.2.2.2.2.2.2.2.2.2.2.2.2.2.2.2.2.2.2.2.2.2.2.2.2.2.2.2.1
theorem own_p_Y_BY_TAG_20 {Z : State} {h0 : Heap} {a_BY_TAG : Addr} {a_METHOD_TYPE : Addr} {a_FIELDREF : Addr} {a_DOUBLE : Addr} {a_STRING : Addr} {a_NAME_AND_TYPE : Addr} {a_UTF8 : Addr} {a_INTEGER : Addr} {a_MODULE : Addr} {a_METHODREF : Addr} {a_INTERFACE_METHODREF : Addr} {a_LONG : Addr} {a_PACKAGE : Addr} {a_INVOKE_DYNAMIC : Addr} {a_METHOD_HANDLE : Addr} {a_FLOAT : Addr} {a_CLASS : Addr} {a_DYNAMIC : Addr} {cl_BY_TAG : Cell} (hE : own_E Z h0 a_BY_TAG a_METHOD_TYPE a_FIELDREF a_DOUBLE a_STRING a_NAME_AND_TYPE a_UTF8 a_INTEGER a_MODULE a_METHODREF a_INTERFACE_METHODREF a_LONG a_PACKAGE a_INVOKE_DYNAMIC a_METHOD_HANDLE a_FLOAT a_CLASS a_DYNAMIC cl_BY_TAG) : cl_BY_TAG.slots[(20 : Int32).toNatClampNeg]? = some (.ref a_PACKAGE) := hE.2.2.2.2.2.2.2.2.2.2.2.2.2.2.2.2.2.2.2.2.2.2.2.2.2.2.2.2.2.2.2.2.2.2.2.2.2.2.2.2.1
theorem own_p_E_METHOD_TYPE {Z : State} {h0 : Heap} {a_BY_TAG : Addr} {a_METHOD_TYPE : Addr} {a_FIELDREF : Addr} {a_DOUBLE : Addr} {a_STRING : Addr} {a_NAME_AND_TYPE : Addr} {a_UTF8 : Addr} {a_INTEGER : Addr} {a_MODULE : Addr} {a_METHODREF : Addr} {a_INTERFACE_METHODREF : Addr} {a_LONG : Addr} {a_PACKAGE : Addr} {a_INVOKE_DYNAMIC : Addr} {a_METHOD_HANDLE : Addr} {a_FLOAT : Addr} {a_CLASS : Addr} {a_DYNAMIC : Addr} {cl_BY_TAG : Cell} (hE : own_E Z h0 a_BY_TAG a_METHOD_TYPE a_FIELDREF a_DOUBLE a_STRING a_NAME_AND_TYPE a_UTF8 a_INTEGER a_MODULE a_METHODREF a_INTERFACE_METHODREF a_LONG a_PACKAGE a_INVOKE_DYNAMIC a_METHOD_HANDLE a_FLOAT a_CLASS a_DYNAMIC cl_BY_TAG) : Exa Z h0 a_METHOD_TYPE "com/example/veritype/veritype/model/ConstantKind" := hE.2.2.2.2.2.2.2.2.2.2.2.2.2.2.2.2.2.2.2.2.2.2.2.2.2.2.2.2.2.2.2.2.2.2.2.2.2.2.2.2.2.1
theorem own_p_E_FIELDREF {Z : State} {h0 : Heap} {a_BY_TAG : Addr} {a_METHOD_TYPE : Addr} {a_FIELDREF : Addr} {a_DOUBLE : Addr} {a_STRING : Addr} {a_NAME_AND_TYPE : Addr} {a_UTF8 : Addr} {a_INTEGER : Addr} {a_MODULE : Addr} {a_METHODREF : Addr} {a_INTERFACE_METHODREF : Addr} {a_LONG : Addr} {a_PACKAGE : Addr} {a_INVOKE_DYNAMIC : Addr} {a_METHOD_HANDLE : Addr} {a_FLOAT : Addr} {a_CLASS : Addr} {a_DYNAMIC : Addr} {cl_BY_TAG : Cell} (hE : own_E Z h0 a_BY_TAG a_METHOD_TYPE a_FIELDREF a_DOUBLE a_STRING a_NAME_AND_TYPE a_UTF8 a_INTEGER a_MODULE a_METHODREF a_INTERFACE_METHODREF a_LONG a_PACKAGE a_INVOKE_DYNAMIC a_METHOD_HANDLE a_FLOAT a_CLASS a_DYNAMIC cl_BY_TAG) : Exa Z h0 a_FIELDREF "com/example/veritype/veritype/model/ConstantKind" := hE.2.2.2.2.2.2.2.2.2.2.2.2.2.2.2.2.2.2.2.2.2.2.2.2.2.2.2.2.2.2.2.2.2.2.2.2.2.2.2.2.2.2.1
theorem own_p_E_DOUBLE {Z : State} {h0 : Heap} {a_BY_TAG : Addr} {a_METHOD_TYPE : Addr} {a_FIELDREF : Addr} {a_DOUBLE : Addr} {a_STRING : Addr} {a_NAME_AND_TYPE : Addr} {a_UTF8 : Addr} {a_INTEGER : Addr} {a_MODULE : Addr} {a_METHODREF : Addr} {a_INTERFACE_METHODREF : Addr} {a_LONG : Addr} {a_PACKAGE : Addr} {a_INVOKE_DYNAMIC : Addr} {a_METHOD_HANDLE : Addr} {a_FLOAT : Addr} {a_CLASS : Addr} {a_DYNAMIC : Addr} {cl_BY_TAG : Cell} (hE : own_E Z h0 a_BY_TAG a_METHOD_TYPE a_FIELDREF a_DOUBLE a_STRING a_NAME_AND_TYPE a_UTF8 a_INTEGER a_MODULE a_METHODREF a_INTERFACE_METHODREF a_LONG a_PACKAGE a_INVOKE_DYNAMIC a_METHOD_HANDLE a_FLOAT a_CLASS a_DYNAMIC cl_BY_TAG) : Exa Z h0 a_DOUBLE "com/example/veritype/veritype/model/ConstantKind" := hE.2.2.2.2.2.2.2.2.2.2.2.2.2.2.2.2.2.2.2.2.2.2.2.2.2.2.2.2.2.2.2.2.2.2.2.2.2.2.2.2.2.2.2.1
theorem own_p_E_STRING {Z : State} {h0 : Heap} {a_BY_TAG : Addr} {a_METHOD_TYPE : Addr} {a_FIELDREF : Addr} {a_DOUBLE : Addr} {a_STRING : Addr} {a_NAME_AND_TYPE : Addr} {a_UTF8 : Addr} {a_INTEGER : Addr} {a_MODULE : Addr} {a_METHODREF : Addr} {a_INTERFACE_METHODREF : Addr} {a_LONG : Addr} {a_PACKAGE : Addr} {a_INVOKE_DYNAMIC : Addr} {a_METHOD_HANDLE : Addr} {a_FLOAT : Addr} {a_CLASS : Addr} {a_DYNAMIC : Addr} {cl_BY_TAG : Cell} (hE : own_E Z h0 a_BY_TAG a_METHOD_TYPE a_FIELDREF a_DOUBLE a_STRING a_NAME_AND_TYPE a_UTF8 a_INTEGER a_MODULE a_METHODREF a_INTERFACE_METHODREF a_LONG a_PACKAGE a_INVOKE_DYNAMIC a_METHOD_HANDLE a_FLOAT a_CLASS a_DYNAMIC cl_BY_TAG) : Exa Z h0 a_STRING "com/example/veritype/veritype/model/ConstantKind" := hE.2.2.2.2.2.2.2.2.2.2.2.2.2.2.2.2.2.2.2.2.2.2.2.2.2.2.2.2.2.2.2.2.2.2.2.2.2.2.2.2.2.2.2.2.1
theorem own_p_E_NAME_AND_TYPE {Z : State} {h0 : Heap} {a_BY_TAG : Addr} {a_METHOD_TYPE : Addr} {a_FIELDREF : Addr} {a_DOUBLE : Addr} {a_STRING : Addr} {a_NAME_AND_TYPE : Addr} {a_UTF8 : Addr} {a_INTEGER : Addr} {a_MODULE : Addr} {a_METHODREF : Addr} {a_INTERFACE_METHODREF : Addr} {a_LONG : Addr} {a_PACKAGE : Addr} {a_INVOKE_DYNAMIC : Addr} {a_METHOD_HANDLE : Addr} {a_FLOAT : Addr} {a_CLASS : Addr} {a_DYNAMIC : Addr} {cl_BY_TAG : Cell} (hE : own_E Z h0 a_BY_TAG a_METHOD_TYPE a_FIELDREF a_DOUBLE a_STRING a_NAME_AND_TYPE a_UTF8 a_INTEGER a_MODULE a_METHODREF a_INTERFACE_METHODREF a_LONG a_PACKAGE a_INVOKE_DYNAMIC a_METHOD_HANDLE a_FLOAT a_CLASS a_DYNAMIC cl_BY_TAG) : Exa Z h0 a_NAME_AND_TYPE "com/example/veritype/veritype/model/ConstantKind" := hE.2.2.2.2.2.2.2.2.2.2.2.2.2.2.2.2.2.2.2.2.2.2.2.2.2.2.2.2.2.2.2.2.2.2.2.2.2.2.2.2.2.2.2.2.2.1
theorem own_p_E_UTF8 {Z : State} {h0 : Heap} {a_BY_TAG : Addr} {a_METHOD_TYPE : Addr} {a_FIELDREF : Addr} {a_DOUBLE : Addr} {a_STRING : Addr} {a_NAME_AND_TYPE : Addr} {a_UTF8 : Addr} {a_INTEGER : Addr} {a_MODULE : Addr} {a_METHODREF : Addr} {a_INTERFACE_METHODREF : Addr} {a_LONG : Addr} {a_PACKAGE : Addr} {a_INVOKE_DYNAMIC : Addr} {a_METHOD_HANDLE : Addr} {a_FLOAT : Addr} {a_CLASS : Addr} {a_DYNAMIC : Addr} {cl_BY_TAG : Cell} (hE : own_E Z h0 a_BY_TAG a_METHOD_TYPE a_FIELDREF a_DOUBLE a_STRING a_NAME_AND_TYPE a_UTF8 a_INTEGER a_MODULE a_METHODREF a_INTERFACE_METHODREF a_LONG a_PACKAGE a_INVOKE_DYNAMIC a_METHOD_HANDLE a_FLOAT a_CLASS a_DYNAMIC cl_BY_TAG) : Exa Z h0 a_UTF8 "com/example/veritype/veritype/model/ConstantKind" := hE.2.2.2.2.2.2.2.2.2.2.2.2.2.2.2.2.2.2.2.2.2.2.2.2.2.2.2.2.2.2.2.2.2.2.2.2.2.2.2.2.2.2.2.2.2.2.1
theorem own_p_E_INTEGER {Z : State} {h0 : Heap} {a_BY_TAG : Addr} {a_METHOD_TYPE : Addr} {a_FIELDREF : Addr} {a_DOUBLE : Addr} {a_STRING : Addr} {a_NAME_AND_TYPE : Addr} {a_UTF8 : Addr} {a_INTEGER : Addr} {a_MODULE : Addr} {a_METHODREF : Addr} {a_INTERFACE_METHODREF : Addr} {a_LONG : Addr} {a_PACKAGE : Addr} {a_INVOKE_DYNAMIC : Addr} {a_METHOD_HANDLE : Addr} {a_FLOAT : Addr} {a_CLASS : Addr} {a_DYNAMIC : Addr} {cl_BY_TAG : Cell} (hE : own_E Z h0 a_BY_TAG a_METHOD_TYPE a_FIELDREF a_DOUBLE a_STRING a_NAME_AND_TYPE a_UTF8 a_INTEGER a_MODULE a_METHODREF a_INTERFACE_METHODREF a_LONG a_PACKAGE a_INVOKE_DYNAMIC a_METHOD_HANDLE a_FLOAT a_CLASS a_DYNAMIC cl_BY_TAG) : Exa Z h0 a_INTEGER "com/example/veritype/veritype/model/ConstantKind" := hE.2.2.2.2.2.2.2.2.2.2.2.2.2.2.2.2.2.2.2.2.2.2.2.2.2.2.2.2.2.2.2.2.2.2.2.2.2.2.2.2.2.2.2.2.2.2.2.1
theorem own_p_E_MODULE {Z : State} {h0 : Heap} {a_BY_TAG : Addr} {a_METHOD_TYPE : Addr} {a_FIELDREF : Addr} {a_DOUBLE : Addr} {a_STRING : Addr} {a_NAME_AND_TYPE : Addr} {a_UTF8 : Addr} {a_INTEGER : Addr} {a_MODULE : Addr} {a_METHODREF : Addr} {a_INTERFACE_METHODREF : Addr} {a_LONG : Addr} {a_PACKAGE : Addr} {a_INVOKE_DYNAMIC : Addr} {a_METHOD_HANDLE : Addr} {a_FLOAT : Addr} {a_CLASS : Addr} {a_DYNAMIC : Addr} {cl_BY_TAG : Cell} (hE : own_E Z h0 a_BY_TAG a_METHOD_TYPE a_FIELDREF a_DOUBLE a_STRING a_NAME_AND_TYPE a_UTF8 a_INTEGER a_MODULE a_METHODREF a_INTERFACE_METHODREF a_LONG a_PACKAGE a_INVOKE_DYNAMIC a_METHOD_HANDLE a_FLOAT a_CLASS a_DYNAMIC cl_BY_TAG) : Exa Z h0 a_MODULE "com/example/veritype/veritype/model/ConstantKind" := hE.2.2.2.2.2.2.2.2.2.2.2.2.2.2.2.2.2.2.2.2.2.2.2.2.2.2.2.2.2.2.2.2.2.2.2.2.2.2.2.2.2.2.2.2.2.2.2.2.1
theorem own_p_E_METHODREF {Z : State} {h0 : Heap} {a_BY_TAG : Addr} {a_METHOD_TYPE : Addr} {a_FIELDREF : Addr} {a_DOUBLE : Addr} {a_STRING : Addr} {a_NAME_AND_TYPE : Addr} {a_UTF8 : Addr} {a_INTEGER : Addr} {a_MODULE : Addr} {a_METHODREF : Addr} {a_INTERFACE_METHODREF : Addr} {a_LONG : Addr} {a_PACKAGE : Addr} {a_INVOKE_DYNAMIC : Addr} {a_METHOD_HANDLE : Addr} {a_FLOAT : Addr} {a_CLASS : Addr} {a_DYNAMIC : Addr} {cl_BY_TAG : Cell} (hE : own_E Z h0 a_BY_TAG a_METHOD_TYPE a_FIELDREF a_DOUBLE a_STRING a_NAME_AND_TYPE a_UTF8 a_INTEGER a_MODULE a_METHODREF a_INTERFACE_METHODREF a_LONG a_PACKAGE a_INVOKE_DYNAMIC a_METHOD_HANDLE a_FLOAT a_CLASS a_DYNAMIC cl_BY_TAG) : Exa Z h0 a_METHODREF "com/example/veritype/veritype/model/ConstantKind" := hE.2.2.2.2.2.2.2.2.2.2.2.2.2.2.2.2.2.2.2.2.2.2.2.2.2.2.2.2.2.2.2.2.2.2.2.2.2.2.2.2.2.2.2.2.2.2.2.2.2.1
theorem own_p_E_INTERFACE_METHODREF {Z : State} {h0 : Heap} {a_BY_TAG : Addr} {a_METHOD_TYPE : Addr} {a_FIELDREF : Addr} {a_DOUBLE : Addr} {a_STRING : Addr} {a_NAME_AND_TYPE : Addr} {a_UTF8 : Addr} {a_INTEGER : Addr} {a_MODULE : Addr} {a_METHODREF : Addr} {a_INTERFACE_METHODREF : Addr} {a_LONG : Addr} {a_PACKAGE : Addr} {a_INVOKE_DYNAMIC : Addr} {a_METHOD_HANDLE : Addr} {a_FLOAT : Addr} {a_CLASS : Addr} {a_DYNAMIC : Addr} {cl_BY_TAG : Cell} (hE : own_E Z h0 a_BY_TAG a_METHOD_TYPE a_FIELDREF a_DOUBLE a_STRING a_NAME_AND_TYPE a_UTF8 a_INTEGER a_MODULE a_METHODREF a_INTERFACE_METHODREF a_LONG a_PACKAGE a_INVOKE_DYNAMIC a_METHOD_HANDLE a_FLOAT a_CLASS a_DYNAMIC cl_BY_TAG) : Exa Z h0 a_INTERFACE_METHODREF "com/example/veritype/veritype/model/ConstantKind" := hE.2.2.2.2.2.2.2.2.2.2.2.2.2.2.2.2.2.2.2.2.2.2.2.2.2.2.2.2.2.2.2.2.2.2.2.2.2.2.2.2.2.2.2.2.2.2.2.2.2.2.1
theorem own_p_E_LONG {Z : State} {h0 : Heap} {a_BY_TAG : Addr} {a_METHOD_TYPE : Addr} {a_FIELDREF : Addr} {a_DOUBLE : Addr} {a_STRING : Addr} {a_NAME_AND_TYPE : Addr} {a_UTF8 : Addr} {a_INTEGER : Addr} {a_MODULE : Addr} {a_METHODREF : Addr} {a_INTERFACE_METHODREF : Addr} {a_LONG : Addr} {a_PACKAGE : Addr} {a_INVOKE_DYNAMIC : Addr} {a_METHOD_HANDLE : Addr} {a_FLOAT : Addr} {a_CLASS : Addr} {a_DYNAMIC : Addr} {cl_BY_TAG : Cell} (hE : own_E Z h0 a_BY_TAG a_METHOD_TYPE a_FIELDREF a_DOUBLE a_STRING a_NAME_AND_TYPE a_UTF8 a_INTEGER a_MODULE a_METHODREF a_INTERFACE_METHODREF a_LONG a_PACKAGE a_INVOKE_DYNAMIC a_METHOD_HANDLE a_FLOAT a_CLASS a_DYNAMIC cl_BY_TAG) : Exa Z h0 a_LONG "com/example/veritype/veritype/model/ConstantKind" := hE.2.2.2.2.2.2.2.2.2.2.2.2.2.2.2.2.2.2.2.2.2.2.2.2.2.2.2.2.2.2.2.2.2.2.2.2.2.2.2.2.2.2.2.2.2.2.2.2.2.2.2.1
theorem own_p_E_PACKAGE {Z : State} {h0 : Heap} {a_BY_TAG : Addr} {a_METHOD_TYPE : Addr} {a_FIELDREF : Addr} {a_DOUBLE : Addr} {a_STRING : Addr} {a_NAME_AND_TYPE : Addr} {a_UTF8 : Addr} {a_INTEGER : Addr} {a_MODULE : Addr} {a_METHODREF : Addr} {a_INTERFACE_METHODREF : Addr} {a_LONG : Addr} {a_PACKAGE : Addr} {a_INVOKE_DYNAMIC : Addr} {a_METHOD_HANDLE : Addr} {a_FLOAT : Addr} {a_CLASS : Addr} {a_DYNAMIC : Addr} {cl_BY_TAG : Cell} (hE : own_E Z h0 a_BY_TAG a_METHOD_TYPE a_FIELDREF a_DOUBLE a_STRING a_NAME_AND_TYPE a_UTF8 a_INTEGER a_MODULE a_METHODREF a_INTERFACE_METHODREF a_LONG a_PACKAGE a_INVOKE_DYNAMIC a_METHOD_HANDLE a_FLOAT a_CLASS a_DYNAMIC cl_BY_TAG) : Exa Z h0 a_PACKAGE "com/example/veritype/veritype/model/ConstantKind" := hE.2.2.2.2.2.2.2.2.2.2.2.2.2.2.2.2.2.2.2.2.2.2.2.2.2.2.2.2.2.2.2.2.2.2.2.2.2.2.2.2.2.2.2.2.2.2.2.2.2.2.2.2.1
theorem own_p_E_INVOKE_DYNAMIC {Z : State} {h0 : Heap} {a_BY_TAG : Addr} {a_METHOD_TYPE : Addr} {a_FIELDREF : Addr} {a_DOUBLE : Addr} {a_STRING : Addr} {a_NAME_AND_TYPE : Addr} {a_UTF8 : Addr} {a_INTEGER : Addr} {a_MODULE : Addr} {a_METHODREF : Addr} {a_INTERFACE_METHODREF : Addr} {a_LONG : Addr} {a_PACKAGE : Addr} {a_INVOKE_DYNAMIC : Addr} {a_METHOD_HANDLE : Addr} {a_FLOAT : Addr} {a_CLASS : Addr} {a_DYNAMIC : Addr} {cl_BY_TAG : Cell} (hE : own_E Z h0 a_BY_TAG a_METHOD_TYPE a_FIELDREF a_DOUBLE a_STRING a_NAME_AND_TYPE a_UTF8 a_INTEGER a_MODULE a_METHODREF a_INTERFACE_METHODREF a_LONG a_PACKAGE a_INVOKE_DYNAMIC a_METHOD_HANDLE a_FLOAT a_CLASS a_DYNAMIC cl_BY_TAG) : Exa Z h0 a_INVOKE_DYNAMIC "com/example/veritype/veritype/model/ConstantKind" := hE.2.2.2.2.2.2.2.2.2.2.2.2.2.2.2.2.2.2.2.2.2.2.2.2.2.2.2.2.2.2.2.2.2.2.2.2.2.2.2.2.2.2.2.2.2.2.2.2.2.2.2.2.2.1
theorem own_p_E_METHOD_HANDLE {Z : State} {h0 : Heap} {a_BY_TAG : Addr} {a_METHOD_TYPE : Addr} {a_FIELDREF : Addr} {a_DOUBLE : Addr} {a_STRING : Addr} {a_NAME_AND_TYPE : Addr} {a_UTF8 : Addr} {a_INTEGER : Addr} {a_MODULE : Addr} {a_METHODREF : Addr} {a_INTERFACE_METHODREF : Addr} {a_LONG : Addr} {a_PACKAGE : Addr} {a_INVOKE_DYNAMIC : Addr} {a_METHOD_HANDLE : Addr} {a_FLOAT : Addr} {a_CLASS : Addr} {a_DYNAMIC : Addr} {cl_BY_TAG : Cell} (hE : own_E Z h0 a_BY_TAG a_METHOD_TYPE a_FIELDREF a_DOUBLE a_STRING a_NAME_AND_TYPE a_UTF8 a_INTEGER a_MODULE a_METHODREF a_INTERFACE_METHODREF a_LONG a_PACKAGE a_INVOKE_DYNAMIC a_METHOD_HANDLE a_FLOAT a_CLASS a_DYNAMIC cl_BY_TAG) : Exa Z h0 a_METHOD_HANDLE "com/example/veritype/veritype/model/ConstantKind" := hE.2.2.2.2.2.2.2.2.2.2.2.2.2.2.2.2.2.2.2.2.2.2.2.2.2.2.2.2.2.2.2.2.2.2.2.2.2.2.2.2.2.2.2.2.2.2.2.2.2.2.2.2.2.2.1
theorem own_p_E_FLOAT {Z : State} {h0 : Heap} {a_BY_TAG : Addr} {a_METHOD_TYPE : Addr} {a_FIELDREF : Addr} {a_DOUBLE : Addr} {a_STRING : Addr} {a_NAME_AND_TYPE : Addr} {a_UTF8 : Addr} {a_INTEGER : Addr} {a_MODULE : Addr} {a_METHODREF : Addr} {a_INTERFACE_METHODREF : Addr} {a_LONG : Addr} {a_PACKAGE : Addr} {a_INVOKE_DYNAMIC : Addr} {a_METHOD_HANDLE : Addr} {a_FLOAT : Addr} {a_CLASS : Addr} {a_DYNAMIC : Addr} {cl_BY_TAG : Cell} (hE : own_E Z h0 a_BY_TAG a_METHOD_TYPE a_FIELDREF a_DOUBLE a_STRING a_NAME_AND_TYPE a_UTF8 a_INTEGER a_MODULE a_METHODREF a_INTERFACE_METHODREF a_LONG a_PACKAGE a_INVOKE_DYNAMIC a_METHOD_HANDLE a_FLOAT a_CLASS a_DYNAMIC cl_BY_TAG) : Exa Z h0 a_FLOAT "com/example/veritype/veritype/model/ConstantKind" := hE.2.2.2.2.2.2.2.2.2.2.2.2.2.2.2.2.2.2.2.2.2.2.2.2.2.2.2.2.2.2.2.2.2.2.2.2.2.2.2.2.2.2.2.2.2.2.2.2.2.2.2.2.2.2.2.1
theorem own_p_E_CLASS {Z : State} {h0 : Heap} {a_BY_TAG : Addr} {a_METHOD_TYPE : Addr} {a_FIELDREF : Addr} {a_DOUBLE : Addr} {a_STRING : Addr} {a_NAME_AND_TYPE : Addr} {a_UTF8 : Addr} {a_INTEGER : Addr} {a_MODULE : Addr} {a_METHODREF : Addr} {a_INTERFACE_METHODREF : Addr} {a_LONG : Addr} {a_PACKAGE : Addr} {a_INVOKE_DYNAMIC : Addr} {a_METHOD_HANDLE : Addr} {a_FLOAT : Addr} {a_CLASS : Addr} {a_DYNAMIC : Addr} {cl_BY_TAG : Cell} (hE : own_E Z h0 a_BY_TAG a_METHOD_TYPE a_FIELDREF a_DOUBLE a_STRING a_NAME_AND_TYPE a_UTF8 a_INTEGER a_MODULE a_METHODREF a_INTERFACE_METHODREF a_LONG a_PACKAGE a_INVOKE_DYNAMIC a_METHOD_HANDLE a_FLOAT a_CLASS a_DYNAMIC cl_BY_TAG) : Exa Z h0 a_CLASS "com/example/veritype/veritype/model/ConstantKind" := hE.2.2.2.2.2.2.2.2.2.2.2.2.2.2.2.2.2.2.2.2.2.2.2.2.2.2.2.2.2.2.2.2.2.2.2.2.2.2.2.2.2.2.2.2.2.2.2.2.2.2.2.2.2.2.2.2.1
theorem own_p_E_DYNAMIC {Z : State} {h0 : Heap} {a_BY_TAG : Addr} {a_METHOD_TYPE : Addr} {a_FIELDREF : Addr} {a_DOUBLE : Addr} {a_STRING : Addr} {a_NAME_AND_TYPE : Addr} {a_UTF8 : Addr} {a_INTEGER : Addr} {a_MODULE : Addr} {a_METHODREF : Addr} {a_INTERFACE_METHODREF : Addr} {a_LONG : Addr} {a_PACKAGE : Addr} {a_INVOKE_DYNAMIC : Addr} {a_METHOD_HANDLE : Addr} {a_FLOAT : Addr} {a_CLASS : Addr} {a_DYNAMIC : Addr} {cl_BY_TAG : Cell} (hE : own_E Z h0 a_BY_TAG a_METHOD_TYPE a_FIELDREF a_DOUBLE a_STRING a_NAME_AND_TYPE a_UTF8 a_INTEGER a_MODULE a_METHODREF a_INTERFACE_METHODREF a_LONG a_PACKAGE a_INVOKE_DYNAMIC a_METHOD_HANDLE a_FLOAT a_CLASS a_DYNAMIC cl_BY_TAG) : Exa Z h0 a_DYNAMIC "com/example/veritype/veritype/model/ConstantKind" := hE.2.2.2.2.2.2.2.2.2.2.2.2.2.2.2.2.2.2.2.2.2.2.2.2.2.2.2.2.2.2.2.2.2.2.2.2.2.2.2.2.2.2.2.2.2.2.2.2.2.2.2.2.2.2.2.2.2.1
theorem own_E_ext {Z : State} {h0 h' : Heap} {a_BY_TAG : Addr} {a_METHOD_TYPE : Addr} {a_FIELDREF : Addr} {a_DOUBLE : Addr} {a_STRING : Addr} {a_NAME_AND_TYPE : Addr} {a_UTF8 : Addr} {a_INTEGER : Addr} {a_MODULE : Addr} {a_METHODREF : Addr} {a_INTERFACE_METHODREF : Addr} {a_LONG : Addr} {a_PACKAGE : Addr} {a_INVOKE_DYNAMIC : Addr} {a_METHOD_HANDLE : Addr} {a_FLOAT : Addr} {a_CLASS : Addr} {a_DYNAMIC : Addr} {cl_BY_TAG : Cell} (hE : own_E Z h0 a_BY_TAG a_METHOD_TYPE a_FIELDREF a_DOUBLE a_STRING a_NAME_AND_TYPE a_UTF8 a_INTEGER a_MODULE a_METHODREF a_INTERFACE_METHODREF a_LONG a_PACKAGE a_INVOKE_DYNAMIC a_METHOD_HANDLE a_FLOAT a_CLASS a_DYNAMIC cl_BY_TAG) (E : Ext h0 h') : own_E Z h' a_BY_TAG a_METHOD_TYPE a_FIELDREF a_DOUBLE a_STRING a_NAME_AND_TYPE a_UTF8 a_INTEGER a_MODULE a_METHODREF a_INTERFACE_METHODREF a_LONG a_PACKAGE a_INVOKE_DYNAMIC a_METHOD_HANDLE a_FLOAT a_CLASS a_DYNAMIC cl_BY_TAG := ⟨(own_p_S_BY_TAG hE).ext E, (own_p_S_METHOD_TYPE hE).ext E, (own_p_S_FIELDREF hE).ext E, (own_p_S_DOUBLE hE).ext E, (own_p_S_STRING hE).ext E, (own_p_S_NAME_AND_TYPE hE).ext E, (own_p_S_UTF8 hE).ext E, (own_p_S_INTEGER hE).ext E, (own_p_S_MODULE hE).ext E, (own_p_S_METHODREF hE).ext E, (own_p_S_INTERFACE_METHODREF hE).ext E, (own_p_S_LONG hE).ext E, (own_p_S_PACKAGE hE).ext E, (own_p_S_INVOKE_DYNAMIC hE).ext E, (own_p_S_METHOD_HANDLE hE).ext E, (own_p_S_FLOAT hE).ext E, (own_p_S_CLASS hE).ext E, (own_p_S_DYNAMIC hE).ext E, (own_p_A_BY_TAG hE).ext E, own_p_Z_BY_TAG hE, own_p_Y_BY_TAG_0 hE, own_p_Y_BY_TAG_1 hE, own_p_Y_BY_TAG_2 hE, own_p_Y_BY_TAG_3 hE, own_p_Y_BY_TAG_4 hE, own_p_Y_BY_TAG_5 hE, own_p_Y_BY_TAG_6 hE, own_p_Y_BY_TAG_7 hE, own_p_Y_BY_TAG_8 hE, own_p_Y_BY_TAG_9 hE, own_p_Y_BY_TAG_10 hE, own_p_Y_BY_TAG_11 hE, own_p_Y_BY_TAG_12 hE, own_p_Y_BY_TAG_13 hE, own_p_Y_BY_TAG_14 hE, own_p_Y_BY_TAG_15 hE, own_p_Y_BY_TAG_16 hE, own_p_Y_BY_TAG_17 hE, own_p_Y_BY_TAG_18 hE, own_p_Y_BY_TAG_19 hE, own_p_Y_BY_TAG_20 hE, (own_p_E_METHOD_TYPE hE).ext E, (own_p_E_FIELDREF hE).ext E, (own_p_E_DOUBLE hE).ext E, (own_p_E_STRING hE).ext E, (own_p_E_NAME_AND_TYPE hE).ext E, (own_p_E_UTF8 hE).ext E, (own_p_E_INTEGER hE).ext E, (own_p_E_MODULE hE).ext E, (own_p_E_METHODREF hE).ext E, (own_p_E_INTERFACE_METHODREF hE).ext E, (own_p_E_LONG hE).ext E, (own_p_E_PACKAGE hE).ext E, (own_p_E_INVOKE_DYNAMIC hE).ext E, (own_p_E_METHOD_HANDLE hE).ext E, (own_p_E_FLOAT hE).ext E, (own_p_E_CLASS hE).ext E, (own_p_E_DYNAMIC hE).ext E, trivial⟩
theorem own_ite_ref {P : Prop} [Decidable P] {x y : Value} (hx : x.isRef = true) (hy : y.isRef = true) : (if P then x else y).isRef = true := by
  by_cases h : P
  · rw [if_pos h]; exact hx
  · rw [if_neg h]; exact hy
def own_tab (a_UTF8 a_INTEGER a_FLOAT a_LONG a_DOUBLE a_CLASS a_STRING a_FIELDREF a_METHODREF a_INTERFACE_METHODREF a_NAME_AND_TYPE a_METHOD_HANDLE a_METHOD_TYPE a_DYNAMIC a_INVOKE_DYNAMIC a_MODULE a_PACKAGE : Addr) (v : Int32) : Value := if v = (1 : Int32) then .ref a_UTF8 else if v = (3 : Int32) then .ref a_INTEGER else if v = (4 : Int32) then .ref a_FLOAT else if v = (5 : Int32) then .ref a_LONG else if v = (6 : Int32) then .ref a_DOUBLE else if v = (7 : Int32) then .ref a_CLASS else if v = (8 : Int32) then .ref a_STRING else if v = (9 : Int32) then .ref a_FIELDREF else if v = (10 : Int32) then .ref a_METHODREF else if v = (11 : Int32) then .ref a_INTERFACE_METHODREF else if v = (12 : Int32) then .ref a_NAME_AND_TYPE else if v = (15 : Int32) then .ref a_METHOD_HANDLE else if v = (16 : Int32) then .ref a_METHOD_TYPE else if v = (17 : Int32) then .ref a_DYNAMIC else if v = (18 : Int32) then .ref a_INVOKE_DYNAMIC else if v = (19 : Int32) then .ref a_MODULE else if v = (20 : Int32) then .ref a_PACKAGE else .null
theorem own_tab_ref {a_UTF8 a_INTEGER a_FLOAT a_LONG a_DOUBLE a_CLASS a_STRING a_FIELDREF a_METHODREF a_INTERFACE_METHODREF a_NAME_AND_TYPE a_METHOD_HANDLE a_METHOD_TYPE a_DYNAMIC a_INVOKE_DYNAMIC a_MODULE a_PACKAGE : Addr} {v : Int32} : (own_tab a_UTF8 a_INTEGER a_FLOAT a_LONG a_DOUBLE a_CLASS a_STRING a_FIELDREF a_METHODREF a_INTERFACE_METHODREF a_NAME_AND_TYPE a_METHOD_HANDLE a_METHOD_TYPE a_DYNAMIC a_INVOKE_DYNAMIC a_MODULE a_PACKAGE v).isRef = true := by
  unfold own_tab
  exact own_ite_ref rfl (own_ite_ref rfl (own_ite_ref rfl (own_ite_ref rfl (own_ite_ref rfl (own_ite_ref rfl (own_ite_ref rfl (own_ite_ref rfl (own_ite_ref rfl (own_ite_ref rfl (own_ite_ref rfl (own_ite_ref rfl (own_ite_ref rfl (own_ite_ref rfl (own_ite_ref rfl (own_ite_ref rfl (own_ite_ref rfl (rfl)))))))))))))))))
set_option maxRecDepth 65536 in
set_option maxHeartbeats 40000000 in
theorem own_of_0 (l : Launch) (Z : State) (a0 : Array Value) (hw : ∀ d ∈ tables_1, d.before a0 Z = true) (h0 : Heap) (a_BY_TAG : Addr) (a_METHOD_TYPE : Addr) (a_FIELDREF : Addr) (a_DOUBLE : Addr) (a_STRING : Addr) (a_NAME_AND_TYPE : Addr) (a_UTF8 : Addr) (a_INTEGER : Addr) (a_MODULE : Addr) (a_METHODREF : Addr) (a_INTERFACE_METHODREF : Addr) (a_LONG : Addr) (a_PACKAGE : Addr) (a_INVOKE_DYNAMIC : Addr) (a_METHOD_HANDLE : Addr) (a_FLOAT : Addr) (a_CLASS : Addr) (a_DYNAMIC : Addr) (cl_BY_TAG : Cell) (hE : own_E Z h0 a_BY_TAG a_METHOD_TYPE a_FIELDREF a_DOUBLE a_STRING a_NAME_AND_TYPE a_UTF8 a_INTEGER a_MODULE a_METHODREF a_INTERFACE_METHODREF a_LONG a_PACKAGE a_INVOKE_DYNAMIC a_METHOD_HANDLE a_FLOAT a_CLASS a_DYNAMIC cl_BY_TAG) :
    own_Pure l Z h0 [] ({ frames := 0, cells := 0, slots := 0, locals := 0 } : Room) (⟨"com/example/veritype/veritype/model/ConstantKind", "ofTag", "(I)Lcom/example/veritype/veritype/model/ConstantKind;"⟩ : MethodName) prog_70_method_4_code 1 (some (.object "com/example/veritype/veritype/model/ConstantKind")) #[(.int (0 : Int32))] (some .null) := by
  refine own_body (plainFor_of_name own_pn_0) ?_
  intro p e s m below meth c T0 X0 hx hby hml hown hZ e0 hret hlk hnm hnamed
  replace hown : s.vm.findClass "com/example/veritype/veritype/model/ConstantKind" = some m.cls := hown
  replace hml : c.maxLocals = 1 := hml
  have ef : entryFrame m #[(.int (0 : Int32))] 1 = mkF m 0 #[.val (.int (0 : Int32))] [] := by first | (simp [entryFrame, mkF, argsToLocals, Value.category]; done) | rfl
  rw [ef]
  have S_BY_TAG := own_p_S_BY_TAG hE
  have A_BY_TAG := own_p_A_BY_TAG hE
  have Z_BY_TAG := own_p_Z_BY_TAG hE
  have Y_BY_TAG_0 := own_p_Y_BY_TAG_0 hE
  refine own_st (T' := T0) (g' := (mkF m 1 #[.val (.int (0 : Int32))] [(.int (0 : Int32))])) (fun _ k => XS.iloadN X0.here hx rfl (hb hby own_d_prog_70_method_4_code_0) rfl k) ?_
  refine own_st (T' := T0) (g' := (mkF m 4 #[.val (.int (0 : Int32))] [])) (fun _ k => XS.ifNo X0.here hx rfl (hb hby own_d_prog_70_method_4_code_1) rfl (by decide) k) ?_
  refine own_st (T' := T0) (g' := (mkF m 5 #[.val (.int (0 : Int32))] [(.int (0 : Int32))])) (fun _ k => XS.iloadN X0.here hx rfl (hb hby own_d_prog_70_method_4_code_4) rfl k) ?_
  obtain ⟨T1, X1, e1, st1⟩ := getS2 X0 hx hZ hown (host := "") (Or.inl (hw _ (List.mem_of_getElem? (i := 4) rfl))) Via.refl e0 S_BY_TAG (g := (mkF m 5 #[.val (.int (0 : Int32))] [(.int (0 : Int32))])) rfl (hb hby own_d_prog_70_method_4_code_5)
  refine own_st (T' := T1) (g' := (mkF m 8 #[.val (.int (0 : Int32))] [(.ref a_BY_TAG), (.int (0 : Int32))])) st1 ?_
  refine own_st (T' := T1) (g' := (mkF m 9 #[.val (.int (0 : Int32))] [(.int cl_BY_TAG.slots.size.toInt32), (.int (0 : Int32))])) (fun _ k => X1.arraylength hx (by rw [e1]; exact A_BY_TAG.1) (State.isArrayOf_alike hZ.alike A_BY_TAG.2.1) (g := (mkF m 8 #[.val (.int (0 : Int32))] [(.ref a_BY_TAG), (.int (0 : Int32))])) rfl rfl (hb hby own_d_prog_70_method_4_code_8) _ k) ?_
  rw [len_of Z_BY_TAG (by decide)]
  refine own_st (T' := T1) (g' := (mkF m 12 #[.val (.int (0 : Int32))] [])) (fun _ k => XS.icmpNo X1.here hx rfl (hb hby own_d_prog_70_method_4_code_9) rfl (by decide) k) ?_
  obtain ⟨T2, X2, e2, st2⟩ := getS2 X1 hx hZ hown (host := "") (Or.inl (hw _ (List.mem_of_getElem? (i := 4) rfl))) Via.refl e1 S_BY_TAG (g := (mkF m 12 #[.val (.int (0 : Int32))] [])) rfl (hb hby own_d_prog_70_method_4_code_12)
  refine own_st (T' := T2) (g' := (mkF m 15 #[.val (.int (0 : Int32))] [(.ref a_BY_TAG)])) st2 ?_
  refine own_st (T' := T2) (g' := (mkF m 16 #[.val (.int (0 : Int32))] [(.int (0 : Int32)), (.ref a_BY_TAG)])) (fun _ k => XS.iloadN X2.here hx rfl (hb hby own_d_prog_70_method_4_code_15) rfl k) ?_
  refine own_st (T' := T2) (g' := (mkF m 17 #[.val (.int (0 : Int32))] [.null])) (fun _ k => X2.aaload hx (j := (0 : Int32)) (v := .null) (by rw [e2]; exact A_BY_TAG.1) (State.isArrayOf_alike hZ.alike A_BY_TAG.2.1) rfl A_BY_TAG.2.2 (inb_of Z_BY_TAG ⟨by decide, by decide⟩) Y_BY_TAG_0 (g := (mkF m 16 #[.val (.int (0 : Int32))] [(.int (0 : Int32)), (.ref a_BY_TAG)])) rfl rfl (hb hby own_d_prog_70_method_4_code_16) _ k) ?_
  refine own_st (T' := T2) (g' := (mkF m 21 #[.val (.int (0 : Int32))] [.null])) (fun _ k => XS.goto X2.here hx rfl (pc0 := 17) (pc' := 21) rfl (hb hby own_d_prog_70_method_4_code_17) (by decide) (by decide) k) ?_
  exact own_ret X2 hx hlk hret rfl (Or.inr (Or.inr (Or.inr (Or.inr ⟨rfl, rfl, rfl⟩)))) (hb hby own_d_prog_70_method_4_code_21) (by decide) (by decide) ⟨rfl, rfl, e2⟩
set_option maxRecDepth 65536 in
set_option maxHeartbeats 40000000 in
theorem own_of_1 (l : Launch) (Z : State) (a0 : Array Value) (hw : ∀ d ∈ tables_1, d.before a0 Z = true) (h0 : Heap) (a_BY_TAG : Addr) (a_METHOD_TYPE : Addr) (a_FIELDREF : Addr) (a_DOUBLE : Addr) (a_STRING : Addr) (a_NAME_AND_TYPE : Addr) (a_UTF8 : Addr) (a_INTEGER : Addr) (a_MODULE : Addr) (a_METHODREF : Addr) (a_INTERFACE_METHODREF : Addr) (a_LONG : Addr) (a_PACKAGE : Addr) (a_INVOKE_DYNAMIC : Addr) (a_METHOD_HANDLE : Addr) (a_FLOAT : Addr) (a_CLASS : Addr) (a_DYNAMIC : Addr) (cl_BY_TAG : Cell) (hE : own_E Z h0 a_BY_TAG a_METHOD_TYPE a_FIELDREF a_DOUBLE a_STRING a_NAME_AND_TYPE a_UTF8 a_INTEGER a_MODULE a_METHODREF a_INTERFACE_METHODREF a_LONG a_PACKAGE a_INVOKE_DYNAMIC a_METHOD_HANDLE a_FLOAT a_CLASS a_DYNAMIC cl_BY_TAG) :
    own_Pure l Z h0 [] ({ frames := 0, cells := 0, slots := 0, locals := 0 } : Room) (⟨"com/example/veritype/veritype/model/ConstantKind", "ofTag", "(I)Lcom/example/veritype/veritype/model/ConstantKind;"⟩ : MethodName) prog_70_method_4_code 1 (some (.object "com/example/veritype/veritype/model/ConstantKind")) #[(.int (1 : Int32))] (some (.ref a_UTF8)) := by
  refine own_body (plainFor_of_name own_pn_0) ?_
  intro p e s m below meth c T0 X0 hx hby hml hown hZ e0 hret hlk hnm hnamed
  replace hown : s.vm.findClass "com/example/veritype/veritype/model/ConstantKind" = some m.cls := hown
  replace hml : c.maxLocals = 1 := hml
  have ef : entryFrame m #[(.int (1 : Int32))] 1 = mkF m 0 #[.val (.int (1 : Int32))] [] := by first | (simp [entryFrame, mkF, argsToLocals, Value.category]; done) | rfl
  rw [ef]
  have S_BY_TAG := own_p_S_BY_TAG hE
  have A_BY_TAG := own_p_A_BY_TAG hE
  have Z_BY_TAG := own_p_Z_BY_TAG hE
  have Y_BY_TAG_1 := own_p_Y_BY_TAG_1 hE
  refine own_st (T' := T0) (g' := (mkF m 1 #[.val (.int (1 : Int32))] [(.int (1 : Int32))])) (fun _ k => XS.iloadN X0.here hx rfl (hb hby own_d_prog_70_method_4_code_0) rfl k) ?_
  refine own_st (T' := T0) (g' := (mkF m 4 #[.val (.int (1 : Int32))] [])) (fun _ k => XS.ifNo X0.here hx rfl (hb hby own_d_prog_70_method_4_code_1) rfl (by decide) k) ?_
  refine own_st (T' := T0) (g' := (mkF m 5 #[.val (.int (1 : Int32))] [(.int (1 : Int32))])) (fun _ k => XS.iloadN X0.here hx rfl (hb hby own_d_prog_70_method_4_code_4) rfl k) ?_
  obtain ⟨T1, X1, e1, st1⟩ := getS2 X0 hx hZ hown (host := "") (Or.inl (hw _ (List.mem_of_getElem? (i := 4) rfl))) Via.refl e0 S_BY_TAG (g := (mkF m 5 #[.val (.int (1 : Int32))] [(.int (1 : Int32))])) rfl (hb hby own_d_prog_70_method_4_code_5)
  refine own_st (T' := T1) (g' := (mkF m 8 #[.val (.int (1 : Int32))] [(.ref a_BY_TAG), (.int (1 : Int32))])) st1 ?_
  refine own_st (T' := T1) (g' := (mkF m 9 #[.val (.int (1 : Int32))] [(.int cl_BY_TAG.slots.size.toInt32), (.int (1 : Int32))])) (fun _ k => X1.arraylength hx (by rw [e1]; exact A_BY_TAG.1) (State.isArrayOf_alike hZ.alike A_BY_TAG.2.1) (g := (mkF m 8 #[.val (.int (1 : Int32))] [(.ref a_BY_TAG), (.int (1 : Int32))])) rfl rfl (hb hby own_d_prog_70_method_4_code_8) _ k) ?_
  rw [len_of Z_BY_TAG (by decide)]
  refine own_st (T' := T1) (g' := (mkF m 12 #[.val (.int (1 : Int32))] [])) (fun _ k => XS.icmpNo X1.here hx rfl (hb hby own_d_prog_70_method_4_code_9) rfl (by decide) k) ?_
  obtain ⟨T2, X2, e2, st2⟩ := getS2 X1 hx hZ hown (host := "") (Or.inl (hw _ (List.mem_of_getElem? (i := 4) rfl))) Via.refl e1 S_BY_TAG (g := (mkF m 12 #[.val (.int (1 : Int32))] [])) rfl (hb hby own_d_prog_70_method_4_code_12)
  refine own_st (T' := T2) (g' := (mkF m 15 #[.val (.int (1 : Int32))] [(.ref a_BY_TAG)])) st2 ?_
  refine own_st (T' := T2) (g' := (mkF m 16 #[.val (.int (1 : Int32))] [(.int (1 : Int32)), (.ref a_BY_TAG)])) (fun _ k => XS.iloadN X2.here hx rfl (hb hby own_d_prog_70_method_4_code_15) rfl k) ?_
  refine own_st (T' := T2) (g' := (mkF m 17 #[.val (.int (1 : Int32))] [(.ref a_UTF8)])) (fun _ k => X2.aaload hx (j := (1 : Int32)) (v := (.ref a_UTF8)) (by rw [e2]; exact A_BY_TAG.1) (State.isArrayOf_alike hZ.alike A_BY_TAG.2.1) rfl A_BY_TAG.2.2 (inb_of Z_BY_TAG ⟨by decide, by decide⟩) Y_BY_TAG_1 (g := (mkF m 16 #[.val (.int (1 : Int32))] [(.int (1 : Int32)), (.ref a_BY_TAG)])) rfl rfl (hb hby own_d_prog_70_method_4_code_16) _ k) ?_
  refine own_st (T' := T2) (g' := (mkF m 21 #[.val (.int (1 : Int32))] [(.ref a_UTF8)])) (fun _ k => XS.goto X2.here hx rfl (pc0 := 17) (pc' := 21) rfl (hb hby own_d_prog_70_method_4_code_17) (by decide) (by decide) k) ?_
  exact own_ret X2 hx hlk hret rfl (Or.inr (Or.inr (Or.inr (Or.inr ⟨rfl, rfl, rfl⟩)))) (hb hby own_d_prog_70_method_4_code_21) (by decide) (by decide) ⟨rfl, rfl, e2⟩
set_option maxRecDepth 65536 in
set_option maxHeartbeats 40000000 in
theorem own_of_2 (l : Launch) (Z : State) (a0 : Array Value) (hw : ∀ d ∈ tables_1, d.before a0 Z = true) (h0 : Heap) (a_BY_TAG : Addr) (a_METHOD_TYPE : Addr) (a_FIELDREF : Addr) (a_DOUBLE : Addr) (a_STRING : Addr) (a_NAME_AND_TYPE : Addr) (a_UTF8 : Addr) (a_INTEGER : Addr) (a_MODULE : Addr) (a_METHODREF : Addr) (a_INTERFACE_METHODREF : Addr) (a_LONG : Addr) (a_PACKAGE : Addr) (a_INVOKE_DYNAMIC : Addr) (a_METHOD_HANDLE : Addr) (a_FLOAT : Addr) (a_CLASS : Addr) (a_DYNAMIC : Addr) (cl_BY_TAG : Cell) (hE : own_E Z h0 a_BY_TAG a_METHOD_TYPE a_FIELDREF a_DOUBLE a_STRING a_NAME_AND_TYPE a_UTF8 a_INTEGER a_MODULE a_METHODREF a_INTERFACE_METHODREF a_LONG a_PACKAGE a_INVOKE_DYNAMIC a_METHOD_HANDLE a_FLOAT a_CLASS a_DYNAMIC cl_BY_TAG) :
    own_Pure l Z h0 [] ({ frames := 0, cells := 0, slots := 0, locals := 0 } : Room) (⟨"com/example/veritype/veritype/model/ConstantKind", "ofTag", "(I)Lcom/example/veritype/veritype/model/ConstantKind;"⟩ : MethodName) prog_70_method_4_code 1 (some (.object "com/example/veritype/veritype/model/ConstantKind")) #[(.int (2 : Int32))] (some .null) := by
  refine own_body (plainFor_of_name own_pn_0) ?_
  intro p e s m below meth c T0 X0 hx hby hml hown hZ e0 hret hlk hnm hnamed
  replace hown : s.vm.findClass "com/example/veritype/veritype/model/ConstantKind" = some m.cls := hown
  replace hml : c.maxLocals = 1 := hml
  have ef : entryFrame m #[(.int (2 : Int32))] 1 = mkF m 0 #[.val (.int (2 : Int32))] [] := by first | (simp [entryFrame, mkF, argsToLocals, Value.category]; done) | rfl
  rw [ef]
  have S_BY_TAG := own_p_S_BY_TAG hE
  have A_BY_TAG := own_p_A_BY_TAG hE
  have Z_BY_TAG := own_p_Z_BY_TAG hE
  have Y_BY_TAG_2 := own_p_Y_BY_TAG_2 hE
  refine own_st (T' := T0) (g' := (mkF m 1 #[.val (.int (2 : Int32))] [(.int (2 : Int32))])) (fun _ k => XS.iloadN X0.here hx rfl (hb hby own_d_prog_70_method_4_code_0) rfl k) ?_
  refine own_st (T' := T0) (g' := (mkF m 4 #[.val (.int (2 : Int32))] [])) (fun _ k => XS.ifNo X0.here hx rfl (hb hby own_d_prog_70_method_4_code_1) rfl (by decide) k) ?_
  refine own_st (T' := T0) (g' := (mkF m 5 #[.val (.int (2 : Int32))] [(.int (2 : Int32))])) (fun _ k => XS.iloadN X0.here hx rfl (hb hby own_d_prog_70_method_4_code_4) rfl k) ?_
  obtain ⟨T1, X1, e1, st1⟩ := getS2 X0 hx hZ hown (host := "") (Or.inl (hw _ (List.mem_of_getElem? (i := 4) rfl))) Via.refl e0 S_BY_TAG (g := (mkF m 5 #[.val (.int (2 : Int32))] [(.int (2 : Int32))])) rfl (hb hby own_d_prog_70_method_4_code_5)
  refine own_st (T' := T1) (g' := (mkF m 8 #[.val (.int (2 : Int32))] [(.ref a_BY_TAG), (.int (2 : Int32))])) st1 ?_
  refine own_st (T' := T1) (g' := (mkF m 9 #[.val (.int (2 : Int32))] [(.int cl_BY_TAG.slots.size.toInt32), (.int (2 : Int32))])) (fun _ k => X1.arraylength hx (by rw [e1]; exact A_BY_TAG.1) (State.isArrayOf_alike hZ.alike A_BY_TAG.2.1) (g := (mkF m 8 #[.val (.int (2 : Int32))] [(.ref a_BY_TAG), (.int (2 : Int32))])) rfl rfl (hb hby own_d_prog_70_method_4_code_8) _ k) ?_
  rw [len_of Z_BY_TAG (by decide)]
  refine own_st (T' := T1) (g' := (mkF m 12 #[.val (.int (2 : Int32))] [])) (fun _ k => XS.icmpNo X1.here hx rfl (hb hby own_d_prog_70_method_4_code_9) rfl (by decide) k) ?_
  obtain ⟨T2, X2, e2, st2⟩ := getS2 X1 hx hZ hown (host := "") (Or.inl (hw _ (List.mem_of_getElem? (i := 4) rfl))) Via.refl e1 S_BY_TAG (g := (mkF m 12 #[.val (.int (2 : Int32))] [])) rfl (hb hby own_d_prog_70_method_4_code_12)
  refine own_st (T' := T2) (g' := (mkF m 15 #[.val (.int (2 : Int32))] [(.ref a_BY_TAG)])) st2 ?_
  refine own_st (T' := T2) (g' := (mkF m 16 #[.val (.int (2 : Int32))] [(.int (2 : Int32)), (.ref a_BY_TAG)])) (fun _ k => XS.iloadN X2.here hx rfl (hb hby own_d_prog_70_method_4_code_15) rfl k) ?_
  refine own_st (T' := T2) (g' := (mkF m 17 #[.val (.int (2 : Int32))] [.null])) (fun _ k => X2.aaload hx (j := (2 : Int32)) (v := .null) (by rw [e2]; exact A_BY_TAG.1) (State.isArrayOf_alike hZ.alike A_BY_TAG.2.1) rfl A_BY_TAG.2.2 (inb_of Z_BY_TAG ⟨by decide, by decide⟩) Y_BY_TAG_2 (g := (mkF m 16 #[.val (.int (2 : Int32))] [(.int (2 : Int32)), (.ref a_BY_TAG)])) rfl rfl (hb hby own_d_prog_70_method_4_code_16) _ k) ?_
  refine own_st (T' := T2) (g' := (mkF m 21 #[.val (.int (2 : Int32))] [.null])) (fun _ k => XS.goto X2.here hx rfl (pc0 := 17) (pc' := 21) rfl (hb hby own_d_prog_70_method_4_code_17) (by decide) (by decide) k) ?_
  exact own_ret X2 hx hlk hret rfl (Or.inr (Or.inr (Or.inr (Or.inr ⟨rfl, rfl, rfl⟩)))) (hb hby own_d_prog_70_method_4_code_21) (by decide) (by decide) ⟨rfl, rfl, e2⟩
set_option maxRecDepth 65536 in
set_option maxHeartbeats 40000000 in
theorem own_of_3 (l : Launch) (Z : State) (a0 : Array Value) (hw : ∀ d ∈ tables_1, d.before a0 Z = true) (h0 : Heap) (a_BY_TAG : Addr) (a_METHOD_TYPE : Addr) (a_FIELDREF : Addr) (a_DOUBLE : Addr) (a_STRING : Addr) (a_NAME_AND_TYPE : Addr) (a_UTF8 : Addr) (a_INTEGER : Addr) (a_MODULE : Addr) (a_METHODREF : Addr) (a_INTERFACE_METHODREF : Addr) (a_LONG : Addr) (a_PACKAGE : Addr) (a_INVOKE_DYNAMIC : Addr) (a_METHOD_HANDLE : Addr) (a_FLOAT : Addr) (a_CLASS : Addr) (a_DYNAMIC : Addr) (cl_BY_TAG : Cell) (hE : own_E Z h0 a_BY_TAG a_METHOD_TYPE a_FIELDREF a_DOUBLE a_STRING a_NAME_AND_TYPE a_UTF8 a_INTEGER a_MODULE a_METHODREF a_INTERFACE_METHODREF a_LONG a_PACKAGE a_INVOKE_DYNAMIC a_METHOD_HANDLE a_FLOAT a_CLASS a_DYNAMIC cl_BY_TAG) :
    own_Pure l Z h0 [] ({ frames := 0, cells := 0, slots := 0, locals := 0 } : Room) (⟨"com/example/veritype/veritype/model/ConstantKind", "ofTag", "(I)Lcom/example/veritype/veritype/model/ConstantKind;"⟩ : MethodName) prog_70_method_4_code 1 (some (.object "com/example/veritype/veritype/model/ConstantKind")) #[(.int (3 : Int32))] (some (.ref a_INTEGER)) := by
  refine own_body (plainFor_of_name own_pn_0) ?_
  intro p e s m below meth c T0 X0 hx hby hml hown hZ e0 hret hlk hnm hnamed
  replace hown : s.vm.findClass "com/example/veritype/veritype/model/ConstantKind" = some m.cls := hown
  replace hml : c.maxLocals = 1 := hml
  have ef : entryFrame m #[(.int (3 : Int32))] 1 = mkF m 0 #[.val (.int (3 : Int32))] [] := by first | (simp [entryFrame, mkF, argsToLocals, Value.category]; done) | rfl
  rw [ef]
  have S_BY_TAG := own_p_S_BY_TAG hE
  have A_BY_TAG := own_p_A_BY_TAG hE
  have Z_BY_TAG := own_p_Z_BY_TAG hE
  have Y_BY_TAG_3 := own_p_Y_BY_TAG_3 hE
  refine own_st (T' := T0) (g' := (mkF m 1 #[.val (.int (3 : Int32))] [(.int (3 : Int32))])) (fun _ k => XS.iloadN X0.here hx rfl (hb hby own_d_prog_70_method_4_code_0) rfl k) ?_
  refine own_st (T' := T0) (g' := (mkF m 4 #[.val (.int (3 : Int32))] [])) (fun _ k => XS.ifNo X0.here hx rfl (hb hby own_d_prog_70_method_4_code_1) rfl (by decide) k) ?_
  refine own_st (T' := T0) (g' := (mkF m 5 #[.val (.int (3 : Int32))] [(.int (3 : Int32))])) (fun _ k => XS.iloadN X0.here hx rfl (hb hby own_d_prog_70_method_4_code_4) rfl k) ?_
  obtain ⟨T1, X1, e1, st1⟩ := getS2 X0 hx hZ hown (host := "") (Or.inl (hw _ (List.mem_of_getElem? (i := 4) rfl))) Via.refl e0 S_BY_TAG (g := (mkF m 5 #[.val (.int (3 : Int32))] [(.int (3 : Int32))])) rfl (hb hby own_d_prog_70_method_4_code_5)
  refine own_st (T' := T1) (g' := (mkF m 8 #[.val (.int (3 : Int32))] [(.ref a_BY_TAG), (.int (3 : Int32))])) st1 ?_
  refine own_st (T' := T1) (g' := (mkF m 9 #[.val (.int (3 : Int32))] [(.int cl_BY_TAG.slots.size.toInt32), (.int (3 : Int32))])) (fun _ k => X1.arraylength hx (by rw [e1]; exact A_BY_TAG.1) (State.isArrayOf_alike hZ.alike A_BY_TAG.2.1) (g := (mkF m 8 #[.val (.int (3 : Int32))] [(.ref a_BY_TAG), (.int (3 : Int32))])) rfl rfl (hb hby own_d_prog_70_method_4_code_8) _ k) ?_
  rw [len_of Z_BY_TAG (by decide)]
  refine own_st (T' := T1) (g' := (mkF m 12 #[.val (.int (3 : Int32))] [])) (fun _ k => XS.icmpNo X1.here hx rfl (hb hby own_d_prog_70_method_4_code_9) rfl (by decide) k) ?_
  obtain ⟨T2, X2, e2, st2⟩ := getS2 X1 hx hZ hown (host := "") (Or.inl (hw _ (List.mem_of_getElem? (i := 4) rfl))) Via.refl e1 S_BY_TAG (g := (mkF m 12 #[.val (.int (3 : Int32))] [])) rfl (hb hby own_d_prog_70_method_4_code_12)
  refine own_st (T' := T2) (g' := (mkF m 15 #[.val (.int (3 : Int32))] [(.ref a_BY_TAG)])) st2 ?_
  refine own_st (T' := T2) (g' := (mkF m 16 #[.val (.int (3 : Int32))] [(.int (3 : Int32)), (.ref a_BY_TAG)])) (fun _ k => XS.iloadN X2.here hx rfl (hb hby own_d_prog_70_method_4_code_15) rfl k) ?_
  refine own_st (T' := T2) (g' := (mkF m 17 #[.val (.int (3 : Int32))] [(.ref a_INTEGER)])) (fun _ k => X2.aaload hx (j := (3 : Int32)) (v := (.ref a_INTEGER)) (by rw [e2]; exact A_BY_TAG.1) (State.isArrayOf_alike hZ.alike A_BY_TAG.2.1) rfl A_BY_TAG.2.2 (inb_of Z_BY_TAG ⟨by decide, by decide⟩) Y_BY_TAG_3 (g := (mkF m 16 #[.val (.int (3 : Int32))] [(.int (3 : Int32)), (.ref a_BY_TAG)])) rfl rfl (hb hby own_d_prog_70_method_4_code_16) _ k) ?_
  refine own_st (T' := T2) (g' := (mkF m 21 #[.val (.int (3 : Int32))] [(.ref a_INTEGER)])) (fun _ k => XS.goto X2.here hx rfl (pc0 := 17) (pc' := 21) rfl (hb hby own_d_prog_70_method_4_code_17) (by decide) (by decide) k) ?_
  exact own_ret X2 hx hlk hret rfl (Or.inr (Or.inr (Or.inr (Or.inr ⟨rfl, rfl, rfl⟩)))) (hb hby own_d_prog_70_method_4_code_21) (by decide) (by decide) ⟨rfl, rfl, e2⟩
set_option maxRecDepth 65536 in
set_option maxHeartbeats 40000000 in
theorem own_of_4 (l : Launch) (Z : State) (a0 : Array Value) (hw : ∀ d ∈ tables_1, d.before a0 Z = true) (h0 : Heap) (a_BY_TAG : Addr) (a_METHOD_TYPE : Addr) (a_FIELDREF : Addr) (a_DOUBLE : Addr) (a_STRING : Addr) (a_NAME_AND_TYPE : Addr) (a_UTF8 : Addr) (a_INTEGER : Addr) (a_MODULE : Addr) (a_METHODREF : Addr) (a_INTERFACE_METHODREF : Addr) (a_LONG : Addr) (a_PACKAGE : Addr) (a_INVOKE_DYNAMIC : Addr) (a_METHOD_HANDLE : Addr) (a_FLOAT : Addr) (a_CLASS : Addr) (a_DYNAMIC : Addr) (cl_BY_TAG : Cell) (hE : own_E Z h0 a_BY_TAG a_METHOD_TYPE a_FIELDREF a_DOUBLE a_STRING a_NAME_AND_TYPE a_UTF8 a_INTEGER a_MODULE a_METHODREF a_INTERFACE_METHODREF a_LONG a_PACKAGE a_INVOKE_DYNAMIC a_METHOD_HANDLE a_FLOAT a_CLASS a_DYNAMIC cl_BY_TAG) :
    own_Pure l Z h0 [] ({ frames := 0, cells := 0, slots := 0, locals := 0 } : Room) (⟨"com/example/veritype/veritype/model/ConstantKind", "ofTag", "(I)Lcom/example/veritype/veritype/model/ConstantKind;"⟩ : MethodName) prog_70_method_4_code 1 (some (.object "com/example/veritype/veritype/model/ConstantKind")) #[(.int (4 : Int32))] (some (.ref a_FLOAT)) := by
  refine own_body (plainFor_of_name own_pn_0) ?_
  intro p e s m below meth c T0 X0 hx hby hml hown hZ e0 hret hlk hnm hnamed
  replace hown : s.vm.findClass "com/example/veritype/veritype/model/ConstantKind" = some m.cls := hown
  replace hml : c.maxLocals = 1 := hml
  have ef : entryFrame m #[(.int (4 : Int32))] 1 = mkF m 0 #[.val (.int (4 : Int32))] [] := by first | (simp [entryFrame, mkF, argsToLocals, Value.category]; done) | rfl
  rw [ef]
  have S_BY_TAG := own_p_S_BY_TAG hE
  have A_BY_TAG := own_p_A_BY_TAG hE
  have Z_BY_TAG := own_p_Z_BY_TAG hE
  have Y_BY_TAG_4 := own_p_Y_BY_TAG_4 hE
  refine own_st (T' := T0) (g' := (mkF m 1 #[.val (.int (4 : Int32))] [(.int (4 : Int32))])) (fun _ k => XS.iloadN X0.here hx rfl (hb hby own_d_prog_70_method_4_code_0) rfl k) ?_
  refine own_st (T' := T0) (g' := (mkF m 4 #[.val (.int (4 : Int32))] [])) (fun _ k => XS.ifNo X0.here hx rfl (hb hby own_d_prog_70_method_4_code_1) rfl (by decide) k) ?_
  refine own_st (T' := T0) (g' := (mkF m 5 #[.val (.int (4 : Int32))] [(.int (4 : Int32))])) (fun _ k => XS.iloadN X0.here hx rfl (hb hby own_d_prog_70_method_4_code_4) rfl k) ?_
  obtain ⟨T1, X1, e1, st1⟩ := getS2 X0 hx hZ hown (host := "") (Or.inl (hw _ (List.mem_of_getElem? (i := 4) rfl))) Via.refl e0 S_BY_TAG (g := (mkF m 5 #[.val (.int (4 : Int32))] [(.int (4 : Int32))])) rfl (hb hby own_d_prog_70_method_4_code_5)
  refine own_st (T' := T1) (g' := (mkF m 8 #[.val (.int (4 : Int32))] [(.ref a_BY_TAG), (.int (4 : Int32))])) st1 ?_
  refine own_st (T' := T1) (g' := (mkF m 9 #[.val (.int (4 : Int32))] [(.int cl_BY_TAG.slots.size.toInt32), (.int (4 : Int32))])) (fun _ k => X1.arraylength hx (by rw [e1]; exact A_BY_TAG.1) (State.isArrayOf_alike hZ.alike A_BY_TAG.2.1) (g := (mkF m 8 #[.val (.int (4 : Int32))] [(.ref a_BY_TAG), (.int (4 : Int32))])) rfl rfl (hb hby own_d_prog_70_method_4_code_8) _ k) ?_
  rw [len_of Z_BY_TAG (by decide)]
  refine own_st (T' := T1) (g' := (mkF m 12 #[.val (.int (4 : Int32))] [])) (fun _ k => XS.icmpNo X1.here hx rfl (hb hby own_d_prog_70_method_4_code_9) rfl (by decide) k) ?_
  obtain ⟨T2, X2, e2, st2⟩ := getS2 X1 hx hZ hown (host := "") (Or.inl (hw _ (List.mem_of_getElem? (i := 4) rfl))) Via.refl e1 S_BY_TAG (g := (mkF m 12 #[.val (.int (4 : Int32))] [])) rfl (hb hby own_d_prog_70_method_4_code_12)
  refine own_st (T' := T2) (g' := (mkF m 15 #[.val (.int (4 : Int32))] [(.ref a_BY_TAG)])) st2 ?_
  refine own_st (T' := T2) (g' := (mkF m 16 #[.val (.int (4 : Int32))] [(.int (4 : Int32)), (.ref a_BY_TAG)])) (fun _ k => XS.iloadN X2.here hx rfl (hb hby own_d_prog_70_method_4_code_15) rfl k) ?_
  refine own_st (T' := T2) (g' := (mkF m 17 #[.val (.int (4 : Int32))] [(.ref a_FLOAT)])) (fun _ k => X2.aaload hx (j := (4 : Int32)) (v := (.ref a_FLOAT)) (by rw [e2]; exact A_BY_TAG.1) (State.isArrayOf_alike hZ.alike A_BY_TAG.2.1) rfl A_BY_TAG.2.2 (inb_of Z_BY_TAG ⟨by decide, by decide⟩) Y_BY_TAG_4 (g := (mkF m 16 #[.val (.int (4 : Int32))] [(.int (4 : Int32)), (.ref a_BY_TAG)])) rfl rfl (hb hby own_d_prog_70_method_4_code_16) _ k) ?_
  refine own_st (T' := T2) (g' := (mkF m 21 #[.val (.int (4 : Int32))] [(.ref a_FLOAT)])) (fun _ k => XS.goto X2.here hx rfl (pc0 := 17) (pc' := 21) rfl (hb hby own_d_prog_70_method_4_code_17) (by decide) (by decide) k) ?_
  exact own_ret X2 hx hlk hret rfl (Or.inr (Or.inr (Or.inr (Or.inr ⟨rfl, rfl, rfl⟩)))) (hb hby own_d_prog_70_method_4_code_21) (by decide) (by decide) ⟨rfl, rfl, e2⟩
set_option maxRecDepth 65536 in
set_option maxHeartbeats 40000000 in
theorem own_of_5 (l : Launch) (Z : State) (a0 : Array Value) (hw : ∀ d ∈ tables_1, d.before a0 Z = true) (h0 : Heap) (a_BY_TAG : Addr) (a_METHOD_TYPE : Addr) (a_FIELDREF : Addr) (a_DOUBLE : Addr) (a_STRING : Addr) (a_NAME_AND_TYPE : Addr) (a_UTF8 : Addr) (a_INTEGER : Addr) (a_MODULE : Addr) (a_METHODREF : Addr) (a_INTERFACE_METHODREF : Addr) (a_LONG : Addr) (a_PACKAGE : Addr) (a_INVOKE_DYNAMIC : Addr) (a_METHOD_HANDLE : Addr) (a_FLOAT : Addr) (a_CLASS : Addr) (a_DYNAMIC : Addr) (cl_BY_TAG : Cell) (hE : own_E Z h0 a_BY_TAG a_METHOD_TYPE a_FIELDREF a_DOUBLE a_STRING a_NAME_AND_TYPE a_UTF8 a_INTEGER a_MODULE a_METHODREF a_INTERFACE_METHODREF a_LONG a_PACKAGE a_INVOKE_DYNAMIC a_METHOD_HANDLE a_FLOAT a_CLASS a_DYNAMIC cl_BY_TAG) :
    own_Pure l Z h0 [] ({ frames := 0, cells := 0, slots := 0, locals := 0 } : Room) (⟨"com/example/veritype/veritype/model/ConstantKind", "ofTag", "(I)Lcom/example/veritype/veritype/model/ConstantKind;"⟩ : MethodName) prog_70_method_4_code 1 (some (.object "com/example/veritype/veritype/model/ConstantKind")) #[(.int (5 : Int32))] (some (.ref a_LONG)) := by
  refine own_body (plainFor_of_name own_pn_0) ?_
  intro p e s m below meth c T0 X0 hx hby hml hown hZ e0 hret hlk hnm hnamed
  replace hown : s.vm.findClass "com/example/veritype/veritype/model/ConstantKind" = some m.cls := hown
  replace hml : c.maxLocals = 1 := hml
  have ef : entryFrame m #[(.int (5 : Int32))] 1 = mkF m 0 #[.val (.int (5 : Int32))] [] := by first | (simp [entryFrame, mkF, argsToLocals, Value.category]; done) | rfl
  rw [ef]
  have S_BY_TAG := own_p_S_BY_TAG hE
  have A_BY_TAG := own_p_A_BY_TAG hE
  have Z_BY_TAG := own_p_Z_BY_TAG hE
  have Y_BY_TAG_5 := own_p_Y_BY_TAG_5 hE
  refine own_st (T' := T0) (g' := (mkF m 1 #[.val (.int (5 : Int32))] [(.int (5 : Int32))])) (fun _ k => XS.iloadN X0.here hx rfl (hb hby own_d_prog_70_method_4_code_0) rfl k) ?_
  refine own_st (T' := T0) (g' := (mkF m 4 #[.val (.int (5 : Int32))] [])) (fun _ k => XS.ifNo X0.here hx rfl (hb hby own_d_prog_70_method_4_code_1) rfl (by decide) k) ?_
  refine own_st (T' := T0) (g' := (mkF m 5 #[.val (.int (5 : Int32))] [(.int (5 : Int32))])) (fun _ k => XS.iloadN X0.here hx rfl (hb hby own_d_prog_70_method_4_code_4) rfl k) ?_
  obtain ⟨T1, X1, e1, st1⟩ := getS2 X0 hx hZ hown (host := "") (Or.inl (hw _ (List.mem_of_getElem? (i := 4) rfl))) Via.refl e0 S_BY_TAG (g := (mkF m 5 #[.val (.int (5 : Int32))] [(.int (5 : Int32))])) rfl (hb hby own_d_prog_70_method_4_code_5)
  refine own_st (T' := T1) (g' := (mkF m 8 #[.val (.int (5 : Int32))] [(.ref a_BY_TAG), (.int (5 : Int32))])) st1 ?_
  refine own_st (T' := T1) (g' := (mkF m 9 #[.val (.int (5 : Int32))] [(.int cl_BY_TAG.slots.size.toInt32), (.int (5 : Int32))])) (fun _ k => X1.arraylength hx (by rw [e1]; exact A_BY_TAG.1) (State.isArrayOf_alike hZ.alike A_BY_TAG.2.1) (g := (mkF m 8 #[.val (.int (5 : Int32))] [(.ref a_BY_TAG), (.int (5 : Int32))])) rfl rfl (hb hby own_d_prog_70_method_4_code_8) _ k) ?_
  rw [len_of Z_BY_TAG (by decide)]
  refine own_st (T' := T1) (g' := (mkF m 12 #[.val (.int (5 : Int32))] [])) (fun _ k => XS.icmpNo X1.here hx rfl (hb hby own_d_prog_70_method_4_code_9) rfl (by decide) k) ?_
  obtain ⟨T2, X2, e2, st2⟩ := getS2 X1 hx hZ hown (host := "") (Or.inl (hw _ (List.mem_of_getElem? (i := 4) rfl))) Via.refl e1 S_BY_TAG (g := (mkF m 12 #[.val (.int (5 : Int32))] [])) rfl (hb hby own_d_prog_70_method_4_code_12)
  refine own_st (T' := T2) (g' := (mkF m 15 #[.val (.int (5 : Int32))] [(.ref a_BY_TAG)])) st2 ?_
  refine own_st (T' := T2) (g' := (mkF m 16 #[.val (.int (5 : Int32))] [(.int (5 : Int32)), (.ref a_BY_TAG)])) (fun _ k => XS.iloadN X2.here hx rfl (hb hby own_d_prog_70_method_4_code_15) rfl k) ?_
  refine own_st (T' := T2) (g' := (mkF m 17 #[.val (.int (5 : Int32))] [(.ref a_LONG)])) (fun _ k => X2.aaload hx (j := (5 : Int32)) (v := (.ref a_LONG)) (by rw [e2]; exact A_BY_TAG.1) (State.isArrayOf_alike hZ.alike A_BY_TAG.2.1) rfl A_BY_TAG.2.2 (inb_of Z_BY_TAG ⟨by decide, by decide⟩) Y_BY_TAG_5 (g := (mkF m 16 #[.val (.int (5 : Int32))] [(.int (5 : Int32)), (.ref a_BY_TAG)])) rfl rfl (hb hby own_d_prog_70_method_4_code_16) _ k) ?_
  refine own_st (T' := T2) (g' := (mkF m 21 #[.val (.int (5 : Int32))] [(.ref a_LONG)])) (fun _ k => XS.goto X2.here hx rfl (pc0 := 17) (pc' := 21) rfl (hb hby own_d_prog_70_method_4_code_17) (by decide) (by decide) k) ?_
  exact own_ret X2 hx hlk hret rfl (Or.inr (Or.inr (Or.inr (Or.inr ⟨rfl, rfl, rfl⟩)))) (hb hby own_d_prog_70_method_4_code_21) (by decide) (by decide) ⟨rfl, rfl, e2⟩
set_option maxRecDepth 65536 in
set_option maxHeartbeats 40000000 in
theorem own_of_6 (l : Launch) (Z : State) (a0 : Array Value) (hw : ∀ d ∈ tables_1, d.before a0 Z = true) (h0 : Heap) (a_BY_TAG : Addr) (a_METHOD_TYPE : Addr) (a_FIELDREF : Addr) (a_DOUBLE : Addr) (a_STRING : Addr) (a_NAME_AND_TYPE : Addr) (a_UTF8 : Addr) (a_INTEGER : Addr) (a_MODULE : Addr) (a_METHODREF : Addr) (a_INTERFACE_METHODREF : Addr) (a_LONG : Addr) (a_PACKAGE : Addr) (a_INVOKE_DYNAMIC : Addr) (a_METHOD_HANDLE : Addr) (a_FLOAT : Addr) (a_CLASS : Addr) (a_DYNAMIC : Addr) (cl_BY_TAG : Cell) (hE : own_E Z h0 a_BY_TAG a_METHOD_TYPE a_FIELDREF a_DOUBLE a_STRING a_NAME_AND_TYPE a_UTF8 a_INTEGER a_MODULE a_METHODREF a_INTERFACE_METHODREF a_LONG a_PACKAGE a_INVOKE_DYNAMIC a_METHOD_HANDLE a_FLOAT a_CLASS a_DYNAMIC cl_BY_TAG) :
    own_Pure l Z h0 [] ({ frames := 0, cells := 0, slots := 0, locals := 0 } : Room) (⟨"com/example/veritype/veritype/model/ConstantKind", "ofTag", "(I)Lcom/example/veritype/veritype/model/ConstantKind;"⟩ : MethodName) prog_70_method_4_code 1 (some (.object "com/example/veritype/veritype/model/ConstantKind")) #[(.int (6 : Int32))] (some (.ref a_DOUBLE)) := by
  refine own_body (plainFor_of_name own_pn_0) ?_
  intro p e s m below meth c T0 X0 hx hby hml hown hZ e0 hret hlk hnm hnamed
  replace hown : s.vm.findClass "com/example/veritype/veritype/model/ConstantKind" = some m.cls := hown
  replace hml : c.maxLocals = 1 := hml
  have ef : entryFrame m #[(.int (6 : Int32))] 1 = mkF m 0 #[.val (.int (6 : Int32))] [] := by first | (simp [entryFrame, mkF, argsToLocals, Value.category]; done) | rfl
  rw [ef]
  have S_BY_TAG := own_p_S_BY_TAG hE
  have A_BY_TAG := own_p_A_BY_TAG hE
  have Z_BY_TAG := own_p_Z_BY_TAG hE
  have Y_BY_TAG_6 := own_p_Y_BY_TAG_6 hE
  refine own_st (T' := T0) (g' := (mkF m 1 #[.val (.int (6 : Int32))] [(.int (6 : Int32))])) (fun _ k => XS.iloadN X0.here hx rfl (hb hby own_d_prog_70_method_4_code_0) rfl k) ?_
  refine own_st (T' := T0) (g' := (mkF m 4 #[.val (.int (6 : Int32))] [])) (fun _ k => XS.ifNo X0.here hx rfl (hb hby own_d_prog_70_method_4_code_1) rfl (by decide) k) ?_
  refine own_st (T' := T0) (g' := (mkF m 5 #[.val (.int (6 : Int32))] [(.int (6 : Int32))])) (fun _ k => XS.iloadN X0.here hx rfl (hb hby own_d_prog_70_method_4_code_4) rfl k) ?_
  obtain ⟨T1, X1, e1, st1⟩ := getS2 X0 hx hZ hown (host := "") (Or.inl (hw _ (List.mem_of_getElem? (i := 4) rfl))) Via.refl e0 S_BY_TAG (g := (mkF m 5 #[.val (.int (6 : Int32))] [(.int (6 : Int32))])) rfl (hb hby own_d_prog_70_method_4_code_5)
  refine own_st (T' := T1) (g' := (mkF m 8 #[.val (.int (6 : Int32))] [(.ref a_BY_TAG), (.int (6 : Int32))])) st1 ?_
  refine own_st (T' := T1) (g' := (mkF m 9 #[.val (.int (6 : Int32))] [(.int cl_BY_TAG.slots.size.toInt32), (.int (6 : Int32))])) (fun _ k => X1.arraylength hx (by rw [e1]; exact A_BY_TAG.1) (State.isArrayOf_alike hZ.alike A_BY_TAG.2.1) (g := (mkF m 8 #[.val (.int (6 : Int32))] [(.ref a_BY_TAG), (.int (6 : Int32))])) rfl rfl (hb hby own_d_prog_70_method_4_code_8) _ k) ?_
  rw [len_of Z_BY_TAG (by decide)]
  refine own_st (T' := T1) (g' := (mkF m 12 #[.val (.int (6 : Int32))] [])) (fun _ k => XS.icmpNo X1.here hx rfl (hb hby own_d_prog_70_method_4_code_9) rfl (by decide) k) ?_
  obtain ⟨T2, X2, e2, st2⟩ := getS2 X1 hx hZ hown (host := "") (Or.inl (hw _ (List.mem_of_getElem? (i := 4) rfl))) Via.refl e1 S_BY_TAG (g := (mkF m 12 #[.val (.int (6 : Int32))] [])) rfl (hb hby own_d_prog_70_method_4_code_12)
  refine own_st (T' := T2) (g' := (mkF m 15 #[.val (.int (6 : Int32))] [(.ref a_BY_TAG)])) st2 ?_
  refine own_st (T' := T2) (g' := (mkF m 16 #[.val (.int (6 : Int32))] [(.int (6 : Int32)), (.ref a_BY_TAG)])) (fun _ k => XS.iloadN X2.here hx rfl (hb hby own_d_prog_70_method_4_code_15) rfl k) ?_
  refine own_st (T' := T2) (g' := (mkF m 17 #[.val (.int (6 : Int32))] [(.ref a_DOUBLE)])) (fun _ k => X2.aaload hx (j := (6 : Int32)) (v := (.ref a_DOUBLE)) (by rw [e2]; exact A_BY_TAG.1) (State.isArrayOf_alike hZ.alike A_BY_TAG.2.1) rfl A_BY_TAG.2.2 (inb_of Z_BY_TAG ⟨by decide, by decide⟩) Y_BY_TAG_6 (g := (mkF m 16 #[.val (.int (6 : Int32))] [(.int (6 : Int32)), (.ref a_BY_TAG)])) rfl rfl (hb hby own_d_prog_70_method_4_code_16) _ k) ?_
  refine own_st (T' := T2) (g' := (mkF m 21 #[.val (.int (6 : Int32))] [(.ref a_DOUBLE)])) (fun _ k => XS.goto X2.here hx rfl (pc0 := 17) (pc' := 21) rfl (hb hby own_d_prog_70_method_4_code_17) (by decide) (by decide) k) ?_
  exact own_ret X2 hx hlk hret rfl (Or.inr (Or.inr (Or.inr (Or.inr ⟨rfl, rfl, rfl⟩)))) (hb hby own_d_prog_70_method_4_code_21) (by decide) (by decide) ⟨rfl, rfl, e2⟩
set_option maxRecDepth 65536 in
set_option maxHeartbeats 40000000 in
theorem own_of_7 (l : Launch) (Z : State) (a0 : Array Value) (hw : ∀ d ∈ tables_1, d.before a0 Z = true) (h0 : Heap) (a_BY_TAG : Addr) (a_METHOD_TYPE : Addr) (a_FIELDREF : Addr) (a_DOUBLE : Addr) (a_STRING : Addr) (a_NAME_AND_TYPE : Addr) (a_UTF8 : Addr) (a_INTEGER : Addr) (a_MODULE : Addr) (a_METHODREF : Addr) (a_INTERFACE_METHODREF : Addr) (a_LONG : Addr) (a_PACKAGE : Addr) (a_INVOKE_DYNAMIC : Addr) (a_METHOD_HANDLE : Addr) (a_FLOAT : Addr) (a_CLASS : Addr) (a_DYNAMIC : Addr) (cl_BY_TAG : Cell) (hE : own_E Z h0 a_BY_TAG a_METHOD_TYPE a_FIELDREF a_DOUBLE a_STRING a_NAME_AND_TYPE a_UTF8 a_INTEGER a_MODULE a_METHODREF a_INTERFACE_METHODREF a_LONG a_PACKAGE a_INVOKE_DYNAMIC a_METHOD_HANDLE a_FLOAT a_CLASS a_DYNAMIC cl_BY_TAG) :
    own_Pure l Z h0 [] ({ frames := 0, cells := 0, slots := 0, locals := 0 } : Room) (⟨"com/example/veritype/veritype/model/ConstantKind", "ofTag", "(I)Lcom/example/veritype/veritype/model/ConstantKind;"⟩ : MethodName) prog_70_method_4_code 1 (some (.object "com/example/veritype/veritype/model/ConstantKind")) #[(.int (7 : Int32))] (some (.ref a_CLASS)) := by
  refine own_body (plainFor_of_name own_pn_0) ?_
  intro p e s m below meth c T0 X0 hx hby hml hown hZ e0 hret hlk hnm hnamed
  replace hown : s.vm.findClass "com/example/veritype/veritype/model/ConstantKind" = some m.cls := hown
  replace hml : c.maxLocals = 1 := hml
  have ef : entryFrame m #[(.int (7 : Int32))] 1 = mkF m 0 #[.val (.int (7 : Int32))] [] := by first | (simp [entryFrame, mkF, argsToLocals, Value.category]; done) | rfl
  rw [ef]
  have S_BY_TAG := own_p_S_BY_TAG hE
  have A_BY_TAG := own_p_A_BY_TAG hE
  have Z_BY_TAG := own_p_Z_BY_TAG hE
  have Y_BY_TAG_7 := own_p_Y_BY_TAG_7 hE
  refine own_st (T' := T0) (g' := (mkF m 1 #[.val (.int (7 : Int32))] [(.int (7 : Int32))])) (fun _ k => XS.iloadN X0.here hx rfl (hb hby own_d_prog_70_method_4_code_0) rfl k) ?_
  refine own_st (T' := T0) (g' := (mkF m 4 #[.val (.int (7 : Int32))] [])) (fun _ k => XS.ifNo X0.here hx rfl (hb hby own_d_prog_70_method_4_code_1) rfl (by decide) k) ?_
  refine own_st (T' := T0) (g' := (mkF m 5 #[.val (.int (7 : Int32))] [(.int (7 : Int32))])) (fun _ k => XS.iloadN X0.here hx rfl (hb hby own_d_prog_70_method_4_code_4) rfl k) ?_
  obtain ⟨T1, X1, e1, st1⟩ := getS2 X0 hx hZ hown (host := "") (Or.inl (hw _ (List.mem_of_getElem? (i := 4) rfl))) Via.refl e0 S_BY_TAG (g := (mkF m 5 #[.val (.int (7 : Int32))] [(.int (7 : Int32))])) rfl (hb hby own_d_prog_70_method_4_code_5)
  refine own_st (T' := T1) (g' := (mkF m 8 #[.val (.int (7 : Int32))] [(.ref a_BY_TAG), (.int (7 : Int32))])) st1 ?_
  refine own_st (T' := T1) (g' := (mkF m 9 #[.val (.int (7 : Int32))] [(.int cl_BY_TAG.slots.size.toInt32), (.int (7 : Int32))])) (fun _ k => X1.arraylength hx (by rw [e1]; exact A_BY_TAG.1) (State.isArrayOf_alike hZ.alike A_BY_TAG.2.1) (g := (mkF m 8 #[.val (.int (7 : Int32))] [(.ref a_BY_TAG), (.int (7 : Int32))])) rfl rfl (hb hby own_d_prog_70_method_4_code_8) _ k) ?_
  rw [len_of Z_BY_TAG (by decide)]
  refine own_st (T' := T1) (g' := (mkF m 12 #[.val (.int (7 : Int32))] [])) (fun _ k => XS.icmpNo X1.here hx rfl (hb hby own_d_prog_70_method_4_code_9) rfl (by decide) k) ?_
  obtain ⟨T2, X2, e2, st2⟩ := getS2 X1 hx hZ hown (host := "") (Or.inl (hw _ (List.mem_of_getElem? (i := 4) rfl))) Via.refl e1 S_BY_TAG (g := (mkF m 12 #[.val (.int (7 : Int32))] [])) rfl (hb hby own_d_prog_70_method_4_code_12)
  refine own_st (T' := T2) (g' := (mkF m 15 #[.val (.int (7 : Int32))] [(.ref a_BY_TAG)])) st2 ?_
  refine own_st (T' := T2) (g' := (mkF m 16 #[.val (.int (7 : Int32))] [(.int (7 : Int32)), (.ref a_BY_TAG)])) (fun _ k => XS.iloadN X2.here hx rfl (hb hby own_d_prog_70_method_4_code_15) rfl k) ?_
  refine own_st (T' := T2) (g' := (mkF m 17 #[.val (.int (7 : Int32))] [(.ref a_CLASS)])) (fun _ k => X2.aaload hx (j := (7 : Int32)) (v := (.ref a_CLASS)) (by rw [e2]; exact A_BY_TAG.1) (State.isArrayOf_alike hZ.alike A_BY_TAG.2.1) rfl A_BY_TAG.2.2 (inb_of Z_BY_TAG ⟨by decide, by decide⟩) Y_BY_TAG_7 (g := (mkF m 16 #[.val (.int (7 : Int32))] [(.int (7 : Int32)), (.ref a_BY_TAG)])) rfl rfl (hb hby own_d_prog_70_method_4_code_16) _ k) ?_
  refine own_st (T' := T2) (g' := (mkF m 21 #[.val (.int (7 : Int32))] [(.ref a_CLASS)])) (fun _ k => XS.goto X2.here hx rfl (pc0 := 17) (pc' := 21) rfl (hb hby own_d_prog_70_method_4_code_17) (by decide) (by decide) k) ?_
  exact own_ret X2 hx hlk hret rfl (Or.inr (Or.inr (Or.inr (Or.inr ⟨rfl, rfl, rfl⟩)))) (hb hby own_d_prog_70_method_4_code_21) (by decide) (by decide) ⟨rfl, rfl, e2⟩
set_option maxRecDepth 65536 in
set_option maxHeartbeats 40000000 in
theorem own_of_8 (l : Launch) (Z : State) (a0 : Array Value) (hw : ∀ d ∈ tables_1, d.before a0 Z = true) (h0 : Heap) (a_BY_TAG : Addr) (a_METHOD_TYPE : Addr) (a_FIELDREF : Addr) (a_DOUBLE : Addr) (a_STRING : Addr) (a_NAME_AND_TYPE : Addr) (a_UTF8 : Addr) (a_INTEGER : Addr) (a_MODULE : Addr) (a_METHODREF : Addr) (a_INTERFACE_METHODREF : Addr) (a_LONG : Addr) (a_PACKAGE : Addr) (a_INVOKE_DYNAMIC : Addr) (a_METHOD_HANDLE : Addr) (a_FLOAT : Addr) (a_CLASS : Addr) (a_DYNAMIC : Addr) (cl_BY_TAG : Cell) (hE : own_E Z h0 a_BY_TAG a_METHOD_TYPE a_FIELDREF a_DOUBLE a_STRING a_NAME_AND_TYPE a_UTF8 a_INTEGER a_MODULE a_METHODREF a_INTERFACE_METHODREF a_LONG a_PACKAGE a_INVOKE_DYNAMIC a_METHOD_HANDLE a_FLOAT a_CLASS a_DYNAMIC cl_BY_TAG) :
    own_Pure l Z h0 [] ({ frames := 0, cells := 0, slots := 0, locals := 0 } : Room) (⟨"com/example/veritype/veritype/model/ConstantKind", "ofTag", "(I)Lcom/example/veritype/veritype/model/ConstantKind;"⟩ : MethodName) prog_70_method_4_code 1 (some (.object "com/example/veritype/veritype/model/ConstantKind")) #[(.int (8 : Int32))] (some (.ref a_STRING)) := by
  refine own_body (plainFor_of_name own_pn_0) ?_
  intro p e s m below meth c T0 X0 hx hby hml hown hZ e0 hret hlk hnm hnamed
  replace hown : s.vm.findClass "com/example/veritype/veritype/model/ConstantKind" = some m.cls := hown
  replace hml : c.maxLocals = 1 := hml
  have ef : entryFrame m #[(.int (8 : Int32))] 1 = mkF m 0 #[.val (.int (8 : Int32))] [] := by first | (simp [entryFrame, mkF, argsToLocals, Value.category]; done) | rfl
  rw [ef]
  have S_BY_TAG := own_p_S_BY_TAG hE
  have A_BY_TAG := own_p_A_BY_TAG hE
  have Z_BY_TAG := own_p_Z_BY_TAG hE
  have Y_BY_TAG_8 := own_p_Y_BY_TAG_8 hE
  refine own_st (T' := T0) (g' := (mkF m 1 #[.val (.int (8 : Int32))] [(.int (8 : Int32))])) (fun _ k => XS.iloadN X0.here hx rfl (hb hby own_d_prog_70_method_4_code_0) rfl k) ?_
  refine own_st (T' := T0) (g' := (mkF m 4 #[.val (.int (8 : Int32))] [])) (fun _ k => XS.ifNo X0.here hx rfl (hb hby own_d_prog_70_method_4_code_1) rfl (by decide) k) ?_
  refine own_st (T' := T0) (g' := (mkF m 5 #[.val (.int (8 : Int32))] [(.int (8 : Int32))])) (fun _ k => XS.iloadN X0.here hx rfl (hb hby own_d_prog_70_method_4_code_4) rfl k) ?_
  obtain ⟨T1, X1, e1, st1⟩ := getS2 X0 hx hZ hown (host := "") (Or.inl (hw _ (List.mem_of_getElem? (i := 4) rfl))) Via.refl e0 S_BY_TAG (g := (mkF m 5 #[.val (.int (8 : Int32))] [(.int (8 : Int32))])) rfl (hb hby own_d_prog_70_method_4_code_5)
  refine own_st (T' := T1) (g' := (mkF m 8 #[.val (.int (8 : Int32))] [(.ref a_BY_TAG), (.int (8 : Int32))])) st1 ?_
  refine own_st (T' := T1) (g' := (mkF m 9 #[.val (.int (8 : Int32))] [(.int cl_BY_TAG.slots.size.toInt32), (.int (8 : Int32))])) (fun _ k => X1.arraylength hx (by rw [e1]; exact A_BY_TAG.1) (State.isArrayOf_alike hZ.alike A_BY_TAG.2.1) (g := (mkF m 8 #[.val (.int (8 : Int32))] [(.ref a_BY_TAG), (.int (8 : Int32))])) rfl rfl (hb hby own_d_prog_70_method_4_code_8) _ k) ?_
  rw [len_of Z_BY_TAG (by decide)]
  refine own_st (T' := T1) (g' := (mkF m 12 #[.val (.int (8 : Int32))] [])) (fun _ k => XS.icmpNo X1.here hx rfl (hb hby own_d_prog_70_method_4_code_9) rfl (by decide) k) ?_
  obtain ⟨T2, X2, e2, st2⟩ := getS2 X1 hx hZ hown (host := "") (Or.inl (hw _ (List.mem_of_getElem? (i := 4) rfl))) Via.refl e1 S_BY_TAG (g := (mkF m 12 #[.val (.int (8 : Int32))] [])) rfl (hb hby own_d_prog_70_method_4_code_12)
  refine own_st (T' := T2) (g' := (mkF m 15 #[.val (.int (8 : Int32))] [(.ref a_BY_TAG)])) st2 ?_
  refine own_st (T' := T2) (g' := (mkF m 16 #[.val (.int (8 : Int32))] [(.int (8 : Int32)), (.ref a_BY_TAG)])) (fun _ k => XS.iloadN X2.here hx rfl (hb hby own_d_prog_70_method_4_code_15) rfl k) ?_
  refine own_st (T' := T2) (g' := (mkF m 17 #[.val (.int (8 : Int32))] [(.ref a_STRING)])) (fun _ k => X2.aaload hx (j := (8 : Int32)) (v := (.ref a_STRING)) (by rw [e2]; exact A_BY_TAG.1) (State.isArrayOf_alike hZ.alike A_BY_TAG.2.1) rfl A_BY_TAG.2.2 (inb_of Z_BY_TAG ⟨by decide, by decide⟩) Y_BY_TAG_8 (g := (mkF m 16 #[.val (.int (8 : Int32))] [(.int (8 : Int32)), (.ref a_BY_TAG)])) rfl rfl (hb hby own_d_prog_70_method_4_code_16) _ k) ?_
  refine own_st (T' := T2) (g' := (mkF m 21 #[.val (.int (8 : Int32))] [(.ref a_STRING)])) (fun _ k => XS.goto X2.here hx rfl (pc0 := 17) (pc' := 21) rfl (hb hby own_d_prog_70_method_4_code_17) (by decide) (by decide) k) ?_
  exact own_ret X2 hx hlk hret rfl (Or.inr (Or.inr (Or.inr (Or.inr ⟨rfl, rfl, rfl⟩)))) (hb hby own_d_prog_70_method_4_code_21) (by decide) (by decide) ⟨rfl, rfl, e2⟩
set_option maxRecDepth 65536 in
set_option maxHeartbeats 40000000 in
theorem own_of_9 (l : Launch) (Z : State) (a0 : Array Value) (hw : ∀ d ∈ tables_1, d.before a0 Z = true) (h0 : Heap) (a_BY_TAG : Addr) (a_METHOD_TYPE : Addr) (a_FIELDREF : Addr) (a_DOUBLE : Addr) (a_STRING : Addr) (a_NAME_AND_TYPE : Addr) (a_UTF8 : Addr) (a_INTEGER : Addr) (a_MODULE : Addr) (a_METHODREF : Addr) (a_INTERFACE_METHODREF : Addr) (a_LONG : Addr) (a_PACKAGE : Addr) (a_INVOKE_DYNAMIC : Addr) (a_METHOD_HANDLE : Addr) (a_FLOAT : Addr) (a_CLASS : Addr) (a_DYNAMIC : Addr) (cl_BY_TAG : Cell) (hE : own_E Z h0 a_BY_TAG a_METHOD_TYPE a_FIELDREF a_DOUBLE a_STRING a_NAME_AND_TYPE a_UTF8 a_INTEGER a_MODULE a_METHODREF a_INTERFACE_METHODREF a_LONG a_PACKAGE a_INVOKE_DYNAMIC a_METHOD_HANDLE a_FLOAT a_CLASS a_DYNAMIC cl_BY_TAG) :
    own_Pure l Z h0 [] ({ frames := 0, cells := 0, slots := 0, locals := 0 } : Room) (⟨"com/example/veritype/veritype/model/ConstantKind", "ofTag", "(I)Lcom/example/veritype/veritype/model/ConstantKind;"⟩ : MethodName) prog_70_method_4_code 1 (some (.object "com/example/veritype/veritype/model/ConstantKind")) #[(.int (9 : Int32))] (some (.ref a_FIELDREF)) := by
  refine own_body (plainFor_of_name own_pn_0) ?_
  intro p e s m below meth c T0 X0 hx hby hml hown hZ e0 hret hlk hnm hnamed
  replace hown : s.vm.findClass "com/example/veritype/veritype/model/ConstantKind" = some m.cls := hown
  replace hml : c.maxLocals = 1 := hml
  have ef : entryFrame m #[(.int (9 : Int32))] 1 = mkF m 0 #[.val (.int (9 : Int32))] [] := by first | (simp [entryFrame, mkF, argsToLocals, Value.category]; done) | rfl
  rw [ef]
  have S_BY_TAG := own_p_S_BY_TAG hE
  have A_BY_TAG := own_p_A_BY_TAG hE
  have Z_BY_TAG := own_p_Z_BY_TAG hE
  have Y_BY_TAG_9 := own_p_Y_BY_TAG_9 hE
  refine own_st (T' := T0) (g' := (mkF m 1 #[.val (.int (9 : Int32))] [(.int (9 : Int32))])) (fun _ k => XS.iloadN X0.here hx rfl (hb hby own_d_prog_70_method_4_code_0) rfl k) ?_
  refine own_st (T' := T0) (g' := (mkF m 4 #[.val (.int (9 : Int32))] [])) (fun _ k => XS.ifNo X0.here hx rfl (hb hby own_d_prog_70_method_4_code_1) rfl (by decide) k) ?_
  refine own_st (T' := T0) (g' := (mkF m 5 #[.val (.int (9 : Int32))] [(.int (9 : Int32))])) (fun _ k => XS.iloadN X0.here hx rfl (hb hby own_d_prog_70_method_4_code_4) rfl k) ?_
  obtain ⟨T1, X1, e1, st1⟩ := getS2 X0 hx hZ hown (host := "") (Or.inl (hw _ (List.mem_of_getElem? (i := 4) rfl))) Via.refl e0 S_BY_TAG (g := (mkF m 5 #[.val (.int (9 : Int32))] [(.int (9 : Int32))])) rfl (hb hby own_d_prog_70_method_4_code_5)
  refine own_st (T' := T1) (g' := (mkF m 8 #[.val (.int (9 : Int32))] [(.ref a_BY_TAG), (.int (9 : Int32))])) st1 ?_
  refine own_st (T' := T1) (g' := (mkF m 9 #[.val (.int (9 : Int32))] [(.int cl_BY_TAG.slots.size.toInt32), (.int (9 : Int32))])) (fun _ k => X1.arraylength hx (by rw [e1]; exact A_BY_TAG.1) (State.isArrayOf_alike hZ.alike A_BY_TAG.2.1) (g := (mkF m 8 #[.val (.int (9 : Int32))] [(.ref a_BY_TAG), (.int (9 : Int32))])) rfl rfl (hb hby own_d_prog_70_method_4_code_8) _ k) ?_
  rw [len_of Z_BY_TAG (by decide)]
  refine own_st (T' := T1) (g' := (mkF m 12 #[.val (.int (9 : Int32))] [])) (fun _ k => XS.icmpNo X1.here hx rfl (hb hby own_d_prog_70_method_4_code_9) rfl (by decide) k) ?_
  obtain ⟨T2, X2, e2, st2⟩ := getS2 X1 hx hZ hown (host := "") (Or.inl (hw _ (List.mem_of_getElem? (i := 4) rfl))) Via.refl e1 S_BY_TAG (g := (mkF m 12 #[.val (.int (9 : Int32))] [])) rfl (hb hby own_d_prog_70_method_4_code_12)
  refine own_st (T' := T2) (g' := (mkF m 15 #[.val (.int (9 : Int32))] [(.ref a_BY_TAG)])) st2 ?_
  refine own_st (T' := T2) (g' := (mkF m 16 #[.val (.int (9 : Int32))] [(.int (9 : Int32)), (.ref a_BY_TAG)])) (fun _ k => XS.iloadN X2.here hx rfl (hb hby own_d_prog_70_method_4_code_15) rfl k) ?_
  refine own_st (T' := T2) (g' := (mkF m 17 #[.val (.int (9 : Int32))] [(.ref a_FIELDREF)])) (fun _ k => X2.aaload hx (j := (9 : Int32)) (v := (.ref a_FIELDREF)) (by rw [e2]; exact A_BY_TAG.1) (State.isArrayOf_alike hZ.alike A_BY_TAG.2.1) rfl A_BY_TAG.2.2 (inb_of Z_BY_TAG ⟨by decide, by decide⟩) Y_BY_TAG_9 (g := (mkF m 16 #[.val (.int (9 : Int32))] [(.int (9 : Int32)), (.ref a_BY_TAG)])) rfl rfl (hb hby own_d_prog_70_method_4_code_16) _ k) ?_
  refine own_st (T' := T2) (g' := (mkF m 21 #[.val (.int (9 : Int32))] [(.ref a_FIELDREF)])) (fun _ k => XS.goto X2.here hx rfl (pc0 := 17) (pc' := 21) rfl (hb hby own_d_prog_70_method_4_code_17) (by decide) (by decide) k) ?_
  exact own_ret X2 hx hlk hret rfl (Or.inr (Or.inr (Or.inr (Or.inr ⟨rfl, rfl, rfl⟩)))) (hb hby own_d_prog_70_method_4_code_21) (by decide) (by decide) ⟨rfl, rfl, e2⟩
set_option maxRecDepth 65536 in
set_option maxHeartbeats 40000000 in
theorem own_of_10 (l : Launch) (Z : State) (a0 : Array Value) (hw : ∀ d ∈ tables_1, d.before a0 Z = true) (h0 : Heap) (a_BY_TAG : Addr) (a_METHOD_TYPE : Addr) (a_FIELDREF : Addr) (a_DOUBLE : Addr) (a_STRING : Addr) (a_NAME_AND_TYPE : Addr) (a_UTF8 : Addr) (a_INTEGER : Addr) (a_MODULE : Addr) (a_METHODREF : Addr) (a_INTERFACE_METHODREF : Addr) (a_LONG : Addr) (a_PACKAGE : Addr) (a_INVOKE_DYNAMIC : Addr) (a_METHOD_HANDLE : Addr) (a_FLOAT : Addr) (a_CLASS : Addr) (a_DYNAMIC : Addr) (cl_BY_TAG : Cell) (hE : own_E Z h0 a_BY_TAG a_METHOD_TYPE a_FIELDREF a_DOUBLE a_STRING a_NAME_AND_TYPE a_UTF8 a_INTEGER a_MODULE a_METHODREF a_INTERFACE_METHODREF a_LONG a_PACKAGE a_INVOKE_DYNAMIC a_METHOD_HANDLE a_FLOAT a_CLASS a_DYNAMIC cl_BY_TAG) :
    own_Pure l Z h0 [] ({ frames := 0, cells := 0, slots := 0, locals := 0 } : Room) (⟨"com/example/veritype/veritype/model/ConstantKind", "ofTag", "(I)Lcom/example/veritype/veritype/model/ConstantKind;"⟩ : MethodName) prog_70_method_4_code 1 (some (.object "com/example/veritype/veritype/model/ConstantKind")) #[(.int (10 : Int32))] (some (.ref a_METHODREF)) := by
  refine own_body (plainFor_of_name own_pn_0) ?_
  intro p e s m below meth c T0 X0 hx hby hml hown hZ e0 hret hlk hnm hnamed
  replace hown : s.vm.findClass "com/example/veritype/veritype/model/ConstantKind" = some m.cls := hown
  replace hml : c.maxLocals = 1 := hml
  have ef : entryFrame m #[(.int (10 : Int32))] 1 = mkF m 0 #[.val (.int (10 : Int32))] [] := by first | (simp [entryFrame, mkF, argsToLocals, Value.category]; done) | rfl
  rw [ef]
  have S_BY_TAG := own_p_S_BY_TAG hE
  have A_BY_TAG := own_p_A_BY_TAG hE
  have Z_BY_TAG := own_p_Z_BY_TAG hE
  have Y_BY_TAG_10 := own_p_Y_BY_TAG_10 hE
  refine own_st (T' := T0) (g' := (mkF m 1 #[.val (.int (10 : Int32))] [(.int (10 : Int32))])) (fun _ k => XS.iloadN X0.here hx rfl (hb hby own_d_prog_70_method_4_code_0) rfl k) ?_
  refine own_st (T' := T0) (g' := (mkF m 4 #[.val (.int (10 : Int32))] [])) (fun _ k => XS.ifNo X0.here hx rfl (hb hby own_d_prog_70_method_4_code_1) rfl (by decide) k) ?_
  refine own_st (T' := T0) (g' := (mkF m 5 #[.val (.int (10 : Int32))] [(.int (10 : Int32))])) (fun _ k => XS.iloadN X0.here hx rfl (hb hby own_d_prog_70_method_4_code_4) rfl k) ?_
  obtain ⟨T1, X1, e1, st1⟩ := getS2 X0 hx hZ hown (host := "") (Or.inl (hw _ (List.mem_of_getElem? (i := 4) rfl))) Via.refl e0 S_BY_TAG (g := (mkF m 5 #[.val (.int (10 : Int32))] [(.int (10 : Int32))])) rfl (hb hby own_d_prog_70_method_4_code_5)
  refine own_st (T' := T1) (g' := (mkF m 8 #[.val (.int (10 : Int32))] [(.ref a_BY_TAG), (.int (10 : Int32))])) st1 ?_
  refine own_st (T' := T1) (g' := (mkF m 9 #[.val (.int (10 : Int32))] [(.int cl_BY_TAG.slots.size.toInt32), (.int (10 : Int32))])) (fun _ k => X1.arraylength hx (by rw [e1]; exact A_BY_TAG.1) (State.isArrayOf_alike hZ.alike A_BY_TAG.2.1) (g := (mkF m 8 #[.val (.int (10 : Int32))] [(.ref a_BY_TAG), (.int (10 : Int32))])) rfl rfl (hb hby own_d_prog_70_method_4_code_8) _ k) ?_
  rw [len_of Z_BY_TAG (by decide)]
  refine own_st (T' := T1) (g' := (mkF m 12 #[.val (.int (10 : Int32))] [])) (fun _ k => XS.icmpNo X1.here hx rfl (hb hby own_d_prog_70_method_4_code_9) rfl (by decide) k) ?_
  obtain ⟨T2, X2, e2, st2⟩ := getS2 X1 hx hZ hown (host := "") (Or.inl (hw _ (List.mem_of_getElem? (i := 4) rfl))) Via.refl e1 S_BY_TAG (g := (mkF m 12 #[.val (.int (10 : Int32))] [])) rfl (hb hby own_d_prog_70_method_4_code_12)
  refine own_st (T' := T2) (g' := (mkF m 15 #[.val (.int (10 : Int32))] [(.ref a_BY_TAG)])) st2 ?_
  refine own_st (T' := T2) (g' := (mkF m 16 #[.val (.int (10 : Int32))] [(.int (10 : Int32)), (.ref a_BY_TAG)])) (fun _ k => XS.iloadN X2.here hx rfl (hb hby own_d_prog_70_method_4_code_15) rfl k) ?_
  refine own_st (T' := T2) (g' := (mkF m 17 #[.val (.int (10 : Int32))] [(.ref a_METHODREF)])) (fun _ k => X2.aaload hx (j := (10 : Int32)) (v := (.ref a_METHODREF)) (by rw [e2]; exact A_BY_TAG.1) (State.isArrayOf_alike hZ.alike A_BY_TAG.2.1) rfl A_BY_TAG.2.2 (inb_of Z_BY_TAG ⟨by decide, by decide⟩) Y_BY_TAG_10 (g := (mkF m 16 #[.val (.int (10 : Int32))] [(.int (10 : Int32)), (.ref a_BY_TAG)])) rfl rfl (hb hby own_d_prog_70_method_4_code_16) _ k) ?_
  refine own_st (T' := T2) (g' := (mkF m 21 #[.val (.int (10 : Int32))] [(.ref a_METHODREF)])) (fun _ k => XS.goto X2.here hx rfl (pc0 := 17) (pc' := 21) rfl (hb hby own_d_prog_70_method_4_code_17) (by decide) (by decide) k) ?_
  exact own_ret X2 hx hlk hret rfl (Or.inr (Or.inr (Or.inr (Or.inr ⟨rfl, rfl, rfl⟩)))) (hb hby own_d_prog_70_method_4_code_21) (by decide) (by decide) ⟨rfl, rfl, e2⟩
set_option maxRecDepth 65536 in
set_option maxHeartbeats 40000000 in
theorem own_of_11 (l : Launch) (Z : State) (a0 : Array Value) (hw : ∀ d ∈ tables_1, d.before a0 Z = true) (h0 : Heap) (a_BY_TAG : Addr) (a_METHOD_TYPE : Addr) (a_FIELDREF : Addr) (a_DOUBLE : Addr) (a_STRING : Addr) (a_NAME_AND_TYPE : Addr) (a_UTF8 : Addr) (a_INTEGER : Addr) (a_MODULE : Addr) (a_METHODREF : Addr) (a_INTERFACE_METHODREF : Addr) (a_LONG : Addr) (a_PACKAGE : Addr) (a_INVOKE_DYNAMIC : Addr) (a_METHOD_HANDLE : Addr) (a_FLOAT : Addr) (a_CLASS : Addr) (a_DYNAMIC : Addr) (cl_BY_TAG : Cell) (hE : own_E Z h0 a_BY_TAG a_METHOD_TYPE a_FIELDREF a_DOUBLE a_STRING a_NAME_AND_TYPE a_UTF8 a_INTEGER a_MODULE a_METHODREF a_INTERFACE_METHODREF a_LONG a_PACKAGE a_INVOKE_DYNAMIC a_METHOD_HANDLE a_FLOAT a_CLASS a_DYNAMIC cl_BY_TAG) :
    own_Pure l Z h0 [] ({ frames := 0, cells := 0, slots := 0, locals := 0 } : Room) (⟨"com/example/veritype/veritype/model/ConstantKind", "ofTag", "(I)Lcom/example/veritype/veritype/model/ConstantKind;"⟩ : MethodName) prog_70_method_4_code 1 (some (.object "com/example/veritype/veritype/model/ConstantKind")) #[(.int (11 : Int32))] (some (.ref a_INTERFACE_METHODREF)) := by
  refine own_body (plainFor_of_name own_pn_0) ?_
  intro p e s m below meth c T0 X0 hx hby hml hown hZ e0 hret hlk hnm hnamed
  replace hown : s.vm.findClass "com/example/veritype/veritype/model/ConstantKind" = some m.cls := hown
  replace hml : c.maxLocals = 1 := hml
  have ef : entryFrame m #[(.int (11 : Int32))] 1 = mkF m 0 #[.val (.int (11 : Int32))] [] := by first | (simp [entryFrame, mkF, argsToLocals, Value.category]; done) | rfl
  rw [ef]
  have S_BY_TAG := own_p_S_BY_TAG hE
  have A_BY_TAG := own_p_A_BY_TAG hE
  have Z_BY_TAG := own_p_Z_BY_TAG hE
  have Y_BY_TAG_11 := own_p_Y_BY_TAG_11 hE
  refine own_st (T' := T0) (g' := (mkF m 1 #[.val (.int (11 : Int32))] [(.int (11 : Int32))])) (fun _ k => XS.iloadN X0.here hx rfl (hb hby own_d_prog_70_method_4_code_0) rfl k) ?_
  refine own_st (T' := T0) (g' := (mkF m 4 #[.val (.int (11 : Int32))] [])) (fun _ k => XS.ifNo X0.here hx rfl (hb hby own_d_prog_70_method_4_code_1) rfl (by decide) k) ?_
  refine own_st (T' := T0) (g' := (mkF m 5 #[.val (.int (11 : Int32))] [(.int (11 : Int32))])) (fun _ k => XS.iloadN X0.here hx rfl (hb hby own_d_prog_70_method_4_code_4) rfl k) ?_
  obtain ⟨T1, X1, e1, st1⟩ := getS2 X0 hx hZ hown (host := "") (Or.inl (hw _ (List.mem_of_getElem? (i := 4) rfl))) Via.refl e0 S_BY_TAG (g := (mkF m 5 #[.val (.int (11 : Int32))] [(.int (11 : Int32))])) rfl (hb hby own_d_prog_70_method_4_code_5)
  refine own_st (T' := T1) (g' := (mkF m 8 #[.val (.int (11 : Int32))] [(.ref a_BY_TAG), (.int (11 : Int32))])) st1 ?_
  refine own_st (T' := T1) (g' := (mkF m 9 #[.val (.int (11 : Int32))] [(.int cl_BY_TAG.slots.size.toInt32), (.int (11 : Int32))])) (fun _ k => X1.arraylength hx (by rw [e1]; exact A_BY_TAG.1) (State.isArrayOf_alike hZ.alike A_BY_TAG.2.1) (g := (mkF m 8 #[.val (.int (11 : Int32))] [(.ref a_BY_TAG), (.int (11 : Int32))])) rfl rfl (hb hby own_d_prog_70_method_4_code_8) _ k) ?_
  rw [len_of Z_BY_TAG (by decide)]
  refine own_st (T' := T1) (g' := (mkF m 12 #[.val (.int (11 : Int32))] [])) (fun _ k => XS.icmpNo X1.here hx rfl (hb hby own_d_prog_70_method_4_code_9) rfl (by decide) k) ?_
  obtain ⟨T2, X2, e2, st2⟩ := getS2 X1 hx hZ hown (host := "") (Or.inl (hw _ (List.mem_of_getElem? (i := 4) rfl))) Via.refl e1 S_BY_TAG (g := (mkF m 12 #[.val (.int (11 : Int32))] [])) rfl (hb hby own_d_prog_70_method_4_code_12)
  refine own_st (T' := T2) (g' := (mkF m 15 #[.val (.int (11 : Int32))] [(.ref a_BY_TAG)])) st2 ?_
  refine own_st (T' := T2) (g' := (mkF m 16 #[.val (.int (11 : Int32))] [(.int (11 : Int32)), (.ref a_BY_TAG)])) (fun _ k => XS.iloadN X2.here hx rfl (hb hby own_d_prog_70_method_4_code_15) rfl k) ?_
  refine own_st (T' := T2) (g' := (mkF m 17 #[.val (.int (11 : Int32))] [(.ref a_INTERFACE_METHODREF)])) (fun _ k => X2.aaload hx (j := (11 : Int32)) (v := (.ref a_INTERFACE_METHODREF)) (by rw [e2]; exact A_BY_TAG.1) (State.isArrayOf_alike hZ.alike A_BY_TAG.2.1) rfl A_BY_TAG.2.2 (inb_of Z_BY_TAG ⟨by decide, by decide⟩) Y_BY_TAG_11 (g := (mkF m 16 #[.val (.int (11 : Int32))] [(.int (11 : Int32)), (.ref a_BY_TAG)])) rfl rfl (hb hby own_d_prog_70_method_4_code_16) _ k) ?_
  refine own_st (T' := T2) (g' := (mkF m 21 #[.val (.int (11 : Int32))] [(.ref a_INTERFACE_METHODREF)])) (fun _ k => XS.goto X2.here hx rfl (pc0 := 17) (pc' := 21) rfl (hb hby own_d_prog_70_method_4_code_17) (by decide) (by decide) k) ?_
  exact own_ret X2 hx hlk hret rfl (Or.inr (Or.inr (Or.inr (Or.inr ⟨rfl, rfl, rfl⟩)))) (hb hby own_d_prog_70_method_4_code_21) (by decide) (by decide) ⟨rfl, rfl, e2⟩
set_option maxRecDepth 65536 in
set_option maxHeartbeats 40000000 in
theorem own_of_12 (l : Launch) (Z : State) (a0 : Array Value) (hw : ∀ d ∈ tables_1, d.before a0 Z = true) (h0 : Heap) (a_BY_TAG : Addr) (a_METHOD_TYPE : Addr) (a_FIELDREF : Addr) (a_DOUBLE : Addr) (a_STRING : Addr) (a_NAME_AND_TYPE : Addr) (a_UTF8 : Addr) (a_INTEGER : Addr) (a_MODULE : Addr) (a_METHODREF : Addr) (a_INTERFACE_METHODREF : Addr) (a_LONG : Addr) (a_PACKAGE : Addr) (a_INVOKE_DYNAMIC : Addr) (a_METHOD_HANDLE : Addr) (a_FLOAT : Addr) (a_CLASS : Addr) (a_DYNAMIC : Addr) (cl_BY_TAG : Cell) (hE : own_E Z h0 a_BY_TAG a_METHOD_TYPE a_FIELDREF a_DOUBLE a_STRING a_NAME_AND_TYPE a_UTF8 a_INTEGER a_MODULE a_METHODREF a_INTERFACE_METHODREF a_LONG a_PACKAGE a_INVOKE_DYNAMIC a_METHOD_HANDLE a_FLOAT a_CLASS a_DYNAMIC cl_BY_TAG) :
    own_Pure l Z h0 [] ({ frames := 0, cells := 0, slots := 0, locals := 0 } : Room) (⟨"com/example/veritype/veritype/model/ConstantKind", "ofTag", "(I)Lcom/example/veritype/veritype/model/ConstantKind;"⟩ : MethodName) prog_70_method_4_code 1 (some (.object "com/example/veritype/veritype/model/ConstantKind")) #[(.int (12 : Int32))] (some (.ref a_NAME_AND_TYPE)) := by
  refine own_body (plainFor_of_name own_pn_0) ?_
  intro p e s m below meth c T0 X0 hx hby hml hown hZ e0 hret hlk hnm hnamed
  replace hown : s.vm.findClass "com/example/veritype/veritype/model/ConstantKind" = some m.cls := hown
  replace hml : c.maxLocals = 1 := hml
  have ef : entryFrame m #[(.int (12 : Int32))] 1 = mkF m 0 #[.val (.int (12 : Int32))] [] := by first | (simp [entryFrame, mkF, argsToLocals, Value.category]; done) | rfl
  rw [ef]
  have S_BY_TAG := own_p_S_BY_TAG hE
  have A_BY_TAG := own_p_A_BY_TAG hE
  have Z_BY_TAG := own_p_Z_BY_TAG hE
  have Y_BY_TAG_12 := own_p_Y_BY_TAG_12 hE
  refine own_st (T' := T0) (g' := (mkF m 1 #[.val (.int (12 : Int32))] [(.int (12 : Int32))])) (fun _ k => XS.iloadN X0.here hx rfl (hb hby own_d_prog_70_method_4_code_0) rfl k) ?_
  refine own_st (T' := T0) (g' := (mkF m 4 #[.val (.int (12 : Int32))] [])) (fun _ k => XS.ifNo X0.here hx rfl (hb hby own_d_prog_70_method_4_code_1) rfl (by decide) k) ?_
  refine own_st (T' := T0) (g' := (mkF m 5 #[.val (.int (12 : Int32))] [(.int (12 : Int32))])) (fun _ k => XS.iloadN X0.here hx rfl (hb hby own_d_prog_70_method_4_code_4) rfl k) ?_
  obtain ⟨T1, X1, e1, st1⟩ := getS2 X0 hx hZ hown (host := "") (Or.inl (hw _ (List.mem_of_getElem? (i := 4) rfl))) Via.refl e0 S_BY_TAG (g := (mkF m 5 #[.val (.int (12 : Int32))] [(.int (12 : Int32))])) rfl (hb hby own_d_prog_70_method_4_code_5)
  refine own_st (T' := T1) (g' := (mkF m 8 #[.val (.int (12 : Int32))] [(.ref a_BY_TAG), (.int (12 : Int32))])) st1 ?_
  refine own_st (T' := T1) (g' := (mkF m 9 #[.val (.int (12 : Int32))] [(.int cl_BY_TAG.slots.size.toInt32), (.int (12 : Int32))])) (fun _ k => X1.arraylength hx (by rw [e1]; exact A_BY_TAG.1) (State.isArrayOf_alike hZ.alike A_BY_TAG.2.1) (g := (mkF m 8 #[.val (.int (12 : Int32))] [(.ref a_BY_TAG), (.int (12 : Int32))])) rfl rfl (hb hby own_d_prog_70_method_4_code_8) _ k) ?_
  rw [len_of Z_BY_TAG (by decide)]
  refine own_st (T' := T1) (g' := (mkF m 12 #[.val (.int (12 : Int32))] [])) (fun _ k => XS.icmpNo X1.here hx rfl (hb hby own_d_prog_70_method_4_code_9) rfl (by decide) k) ?_
  obtain ⟨T2, X2, e2, st2⟩ := getS2 X1 hx hZ hown (host := "") (Or.inl (hw _ (List.mem_of_getElem? (i := 4) rfl))) Via.refl e1 S_BY_TAG (g := (mkF m 12 #[.val (.int (12 : Int32))] [])) rfl (hb hby own_d_prog_70_method_4_code_12)
  refine own_st (T' := T2) (g' := (mkF m 15 #[.val (.int (12 : Int32))] [(.ref a_BY_TAG)])) st2 ?_
  refine own_st (T' := T2) (g' := (mkF m 16 #[.val (.int (12 : Int32))] [(.int (12 : Int32)), (.ref a_BY_TAG)])) (fun _ k => XS.iloadN X2.here hx rfl (hb hby own_d_prog_70_method_4_code_15) rfl k) ?_
  refine own_st (T' := T2) (g' := (mkF m 17 #[.val (.int (12 : Int32))] [(.ref a_NAME_AND_TYPE)])) (fun _ k => X2.aaload hx (j := (12 : Int32)) (v := (.ref a_NAME_AND_TYPE)) (by rw [e2]; exact A_BY_TAG.1) (State.isArrayOf_alike hZ.alike A_BY_TAG.2.1) rfl A_BY_TAG.2.2 (inb_of Z_BY_TAG ⟨by decide, by decide⟩) Y_BY_TAG_12 (g := (mkF m 16 #[.val (.int (12 : Int32))] [(.int (12 : Int32)), (.ref a_BY_TAG)])) rfl rfl (hb hby own_d_prog_70_method_4_code_16) _ k) ?_
  refine own_st (T' := T2) (g' := (mkF m 21 #[.val (.int (12 : Int32))] [(.ref a_NAME_AND_TYPE)])) (fun _ k => XS.goto X2.here hx rfl (pc0 := 17) (pc' := 21) rfl (hb hby own_d_prog_70_method_4_code_17) (by decide) (by decide) k) ?_
  exact own_ret X2 hx hlk hret rfl (Or.inr (Or.inr (Or.inr (Or.inr ⟨rfl, rfl, rfl⟩)))) (hb hby own_d_prog_70_method_4_code_21) (by decide) (by decide) ⟨rfl, rfl, e2⟩
set_option maxRecDepth 65536 in
set_option maxHeartbeats 40000000 in
theorem own_of_13 (l : Launch) (Z : State) (a0 : Array Value) (hw : ∀ d ∈ tables_1, d.before a0 Z = true) (h0 : Heap) (a_BY_TAG : Addr) (a_METHOD_TYPE : Addr) (a_FIELDREF : Addr) (a_DOUBLE : Addr) (a_STRING : Addr) (a_NAME_AND_TYPE : Addr) (a_UTF8 : Addr) (a_INTEGER : Addr) (a_MODULE : Addr) (a_METHODREF : Addr) (a_INTERFACE_METHODREF : Addr) (a_LONG : Addr) (a_PACKAGE : Addr) (a_INVOKE_DYNAMIC : Addr) (a_METHOD_HANDLE : Addr) (a_FLOAT : Addr) (a_CLASS : Addr) (a_DYNAMIC : Addr) (cl_BY_TAG : Cell) (hE : own_E Z h0 a_BY_TAG a_METHOD_TYPE a_FIELDREF a_DOUBLE a_STRING a_NAME_AND_TYPE a_UTF8 a_INTEGER a_MODULE a_METHODREF a_INTERFACE_METHODREF a_LONG a_PACKAGE a_INVOKE_DYNAMIC a_METHOD_HANDLE a_FLOAT a_CLASS a_DYNAMIC cl_BY_TAG) :
    own_Pure l Z h0 [] ({ frames := 0, cells := 0, slots := 0, locals := 0 } : Room) (⟨"com/example/veritype/veritype/model/ConstantKind", "ofTag", "(I)Lcom/example/veritype/veritype/model/ConstantKind;"⟩ : MethodName) prog_70_method_4_code 1 (some (.object "com/example/veritype/veritype/model/ConstantKind")) #[(.int (13 : Int32))] (some .null) := by
  refine own_body (plainFor_of_name own_pn_0) ?_
  intro p e s m below meth c T0 X0 hx hby hml hown hZ e0 hret hlk hnm hnamed
  replace hown : s.vm.findClass "com/example/veritype/veritype/model/ConstantKind" = some m.cls := hown
  replace hml : c.maxLocals = 1 := hml
  have ef : entryFrame m #[(.int (13 : Int32))] 1 = mkF m 0 #[.val (.int (13 : Int32))] [] := by first | (simp [entryFrame, mkF, argsToLocals, Value.category]; done) | rfl
  rw [ef]
  have S_BY_TAG := own_p_S_BY_TAG hE
  have A_BY_TAG := own_p_A_BY_TAG hE
  have Z_BY_TAG := own_p_Z_BY_TAG hE
  have Y_BY_TAG_13 := own_p_Y_BY_TAG_13 hE
  refine own_st (T' := T0) (g' := (mkF m 1 #[.val (.int (13 : Int32))] [(.int (13 : Int32))])) (fun _ k => XS.iloadN X0.here hx rfl (hb hby own_d_prog_70_method_4_code_0) rfl k) ?_
  refine own_st (T' := T0) (g' := (mkF m 4 #[.val (.int (13 : Int32))] [])) (fun _ k => XS.ifNo X0.here hx rfl (hb hby own_d_prog_70_method_4_code_1) rfl (by decide) k) ?_
  refine own_st (T' := T0) (g' := (mkF m 5 #[.val (.int (13 : Int32))] [(.int (13 : Int32))])) (fun _ k => XS.iloadN X0.here hx rfl (hb hby own_d_prog_70_method_4_code_4) rfl k) ?_
  obtain ⟨T1, X1, e1, st1⟩ := getS2 X0 hx hZ hown (host := "") (Or.inl (hw _ (List.mem_of_getElem? (i := 4) rfl))) Via.refl e0 S_BY_TAG (g := (mkF m 5 #[.val (.int (13 : Int32))] [(.int (13 : Int32))])) rfl (hb hby own_d_prog_70_method_4_code_5)
  refine own_st (T' := T1) (g' := (mkF m 8 #[.val (.int (13 : Int32))] [(.ref a_BY_TAG), (.int (13 : Int32))])) st1 ?_
  refine own_st (T' := T1) (g' := (mkF m 9 #[.val (.int (13 : Int32))] [(.int cl_BY_TAG.slots.size.toInt32), (.int (13 : Int32))])) (fun _ k => X1.arraylength hx (by rw [e1]; exact A_BY_TAG.1) (State.isArrayOf_alike hZ.alike A_BY_TAG.2.1) (g := (mkF m 8 #[.val (.int (13 : Int32))] [(.ref a_BY_TAG), (.int (13 : Int32))])) rfl rfl (hb hby own_d_prog_70_method_4_code_8) _ k) ?_
  rw [len_of Z_BY_TAG (by decide)]
  refine own_st (T' := T1) (g' := (mkF m 12 #[.val (.int (13 : Int32))] [])) (fun _ k => XS.icmpNo X1.here hx rfl (hb hby own_d_prog_70_method_4_code_9) rfl (by decide) k) ?_
  obtain ⟨T2, X2, e2, st2⟩ := getS2 X1 hx hZ hown (host := "") (Or.inl (hw _ (List.mem_of_getElem? (i := 4) rfl))) Via.refl e1 S_BY_TAG (g := (mkF m 12 #[.val (.int (13 : Int32))] [])) rfl (hb hby own_d_prog_70_method_4_code_12)
  refine own_st (T' := T2) (g' := (mkF m 15 #[.val (.int (13 : Int32))] [(.ref a_BY_TAG)])) st2 ?_
  refine own_st (T' := T2) (g' := (mkF m 16 #[.val (.int (13 : Int32))] [(.int (13 : Int32)), (.ref a_BY_TAG)])) (fun _ k => XS.iloadN X2.here hx rfl (hb hby own_d_prog_70_method_4_code_15) rfl k) ?_
  refine own_st (T' := T2) (g' := (mkF m 17 #[.val (.int (13 : Int32))] [.null])) (fun _ k => X2.aaload hx (j := (13 : Int32)) (v := .null) (by rw [e2]; exact A_BY_TAG.1) (State.isArrayOf_alike hZ.alike A_BY_TAG.2.1) rfl A_BY_TAG.2.2 (inb_of Z_BY_TAG ⟨by decide, by decide⟩) Y_BY_TAG_13 (g := (mkF m 16 #[.val (.int (13 : Int32))] [(.int (13 : Int32)), (.ref a_BY_TAG)])) rfl rfl (hb hby own_d_prog_70_method_4_code_16) _ k) ?_
  refine own_st (T' := T2) (g' := (mkF m 21 #[.val (.int (13 : Int32))] [.null])) (fun _ k => XS.goto X2.here hx rfl (pc0 := 17) (pc' := 21) rfl (hb hby own_d_prog_70_method_4_code_17) (by decide) (by decide) k) ?_
  exact own_ret X2 hx hlk hret rfl (Or.inr (Or.inr (Or.inr (Or.inr ⟨rfl, rfl, rfl⟩)))) (hb hby own_d_prog_70_method_4_code_21) (by decide) (by decide) ⟨rfl, rfl, e2⟩
set_option maxRecDepth 65536 in
set_option maxHeartbeats 40000000 in
theorem own_of_14 (l : Launch) (Z : State) (a0 : Array Value) (hw : ∀ d ∈ tables_1, d.before a0 Z = true) (h0 : Heap) (a_BY_TAG : Addr) (a_METHOD_TYPE : Addr) (a_FIELDREF : Addr) (a_DOUBLE : Addr) (a_STRING : Addr) (a_NAME_AND_TYPE : Addr) (a_UTF8 : Addr) (a_INTEGER : Addr) (a_MODULE : Addr) (a_METHODREF : Addr) (a_INTERFACE_METHODREF : Addr) (a_LONG : Addr) (a_PACKAGE : Addr) (a_INVOKE_DYNAMIC : Addr) (a_METHOD_HANDLE : Addr) (a_FLOAT : Addr) (a_CLASS : Addr) (a_DYNAMIC : Addr) (cl_BY_TAG : Cell) (hE : own_E Z h0 a_BY_TAG a_METHOD_TYPE a_FIELDREF a_DOUBLE a_STRING a_NAME_AND_TYPE a_UTF8 a_INTEGER a_MODULE a_METHODREF a_INTERFACE_METHODREF a_LONG a_PACKAGE a_INVOKE_DYNAMIC a_METHOD_HANDLE a_FLOAT a_CLASS a_DYNAMIC cl_BY_TAG) :
    own_Pure l Z h0 [] ({ frames := 0, cells := 0, slots := 0, locals := 0 } : Room) (⟨"com/example/veritype/veritype/model/ConstantKind", "ofTag", "(I)Lcom/example/veritype/veritype/model/ConstantKind;"⟩ : MethodName) prog_70_method_4_code 1 (some (.object "com/example/veritype/veritype/model/ConstantKind")) #[(.int (14 : Int32))] (some .null) := by
  refine own_body (plainFor_of_name own_pn_0) ?_
  intro p e s m below meth c T0 X0 hx hby hml hown hZ e0 hret hlk hnm hnamed
  replace hown : s.vm.findClass "com/example/veritype/veritype/model/ConstantKind" = some m.cls := hown
  replace hml : c.maxLocals = 1 := hml
  have ef : entryFrame m #[(.int (14 : Int32))] 1 = mkF m 0 #[.val (.int (14 : Int32))] [] := by first | (simp [entryFrame, mkF, argsToLocals, Value.category]; done) | rfl
  rw [ef]
  have S_BY_TAG := own_p_S_BY_TAG hE
  have A_BY_TAG := own_p_A_BY_TAG hE
  have Z_BY_TAG := own_p_Z_BY_TAG hE
  have Y_BY_TAG_14 := own_p_Y_BY_TAG_14 hE
  refine own_st (T' := T0) (g' := (mkF m 1 #[.val (.int (14 : Int32))] [(.int (14 : Int32))])) (fun _ k => XS.iloadN X0.here hx rfl (hb hby own_d_prog_70_method_4_code_0) rfl k) ?_
  refine own_st (T' := T0) (g' := (mkF m 4 #[.val (.int (14 : Int32))] [])) (fun _ k => XS.ifNo X0.here hx rfl (hb hby own_d_prog_70_method_4_code_1) rfl (by decide) k) ?_
  refine own_st (T' := T0) (g' := (mkF m 5 #[.val (.int (14 : Int32))] [(.int (14 : Int32))])) (fun _ k => XS.iloadN X0.here hx rfl (hb hby own_d_prog_70_method_4_code_4) rfl k) ?_
  obtain ⟨T1, X1, e1, st1⟩ := getS2 X0 hx hZ hown (host := "") (Or.inl (hw _ (List.mem_of_getElem? (i := 4) rfl))) Via.refl e0 S_BY_TAG (g := (mkF m 5 #[.val (.int (14 : Int32))] [(.int (14 : Int32))])) rfl (hb hby own_d_prog_70_method_4_code_5)
  refine own_st (T' := T1) (g' := (mkF m 8 #[.val (.int (14 : Int32))] [(.ref a_BY_TAG), (.int (14 : Int32))])) st1 ?_
  refine own_st (T' := T1) (g' := (mkF m 9 #[.val (.int (14 : Int32))] [(.int cl_BY_TAG.slots.size.toInt32), (.int (14 : Int32))])) (fun _ k => X1.arraylength hx (by rw [e1]; exact A_BY_TAG.1) (State.isArrayOf_alike hZ.alike A_BY_TAG.2.1) (g := (mkF m 8 #[.val (.int (14 : Int32))] [(.ref a_BY_TAG), (.int (14 : Int32))])) rfl rfl (hb hby own_d_prog_70_method_4_code_8) _ k) ?_
  rw [len_of Z_BY_TAG (by decide)]
  refine own_st (T' := T1) (g' := (mkF m 12 #[.val (.int (14 : Int32))] [])) (fun _ k => XS.icmpNo X1.here hx rfl (hb hby own_d_prog_70_method_4_code_9) rfl (by decide) k) ?_
  obtain ⟨T2, X2, e2, st2⟩ := getS2 X1 hx hZ hown (host := "") (Or.inl (hw _ (List.mem_of_getElem? (i := 4) rfl))) Via.refl e1 S_BY_TAG (g := (mkF m 12 #[.val (.int (14 : Int32))] [])) rfl (hb hby own_d_prog_70_method_4_code_12)
  refine own_st (T' := T2) (g' := (mkF m 15 #[.val (.int (14 : Int32))] [(.ref a_BY_TAG)])) st2 ?_
  refine own_st (T' := T2) (g' := (mkF m 16 #[.val (.int (14 : Int32))] [(.int (14 : Int32)), (.ref a_BY_TAG)])) (fun _ k => XS.iloadN X2.here hx rfl (hb hby own_d_prog_70_method_4_code_15) rfl k) ?_
  refine own_st (T' := T2) (g' := (mkF m 17 #[.val (.int (14 : Int32))] [.null])) (fun _ k => X2.aaload hx (j := (14 : Int32)) (v := .null) (by rw [e2]; exact A_BY_TAG.1) (State.isArrayOf_alike hZ.alike A_BY_TAG.2.1) rfl A_BY_TAG.2.2 (inb_of Z_BY_TAG ⟨by decide, by decide⟩) Y_BY_TAG_14 (g := (mkF m 16 #[.val (.int (14 : Int32))] [(.int (14 : Int32)), (.ref a_BY_TAG)])) rfl rfl (hb hby own_d_prog_70_method_4_code_16) _ k) ?_
  refine own_st (T' := T2) (g' := (mkF m 21 #[.val (.int (14 : Int32))] [.null])) (fun _ k => XS.goto X2.here hx rfl (pc0 := 17) (pc' := 21) rfl (hb hby own_d_prog_70_method_4_code_17) (by decide) (by decide) k) ?_
  exact own_ret X2 hx hlk hret rfl (Or.inr (Or.inr (Or.inr (Or.inr ⟨rfl, rfl, rfl⟩)))) (hb hby own_d_prog_70_method_4_code_21) (by decide) (by decide) ⟨rfl, rfl, e2⟩
set_option maxRecDepth 65536 in
set_option maxHeartbeats 40000000 in
theorem own_of_15 (l : Launch) (Z : State) (a0 : Array Value) (hw : ∀ d ∈ tables_1, d.before a0 Z = true) (h0 : Heap) (a_BY_TAG : Addr) (a_METHOD_TYPE : Addr) (a_FIELDREF : Addr) (a_DOUBLE : Addr) (a_STRING : Addr) (a_NAME_AND_TYPE : Addr) (a_UTF8 : Addr) (a_INTEGER : Addr) (a_MODULE : Addr) (a_METHODREF : Addr) (a_INTERFACE_METHODREF : Addr) (a_LONG : Addr) (a_PACKAGE : Addr) (a_INVOKE_DYNAMIC : Addr) (a_METHOD_HANDLE : Addr) (a_FLOAT : Addr) (a_CLASS : Addr) (a_DYNAMIC : Addr) (cl_BY_TAG : Cell) (hE : own_E Z h0 a_BY_TAG a_METHOD_TYPE a_FIELDREF a_DOUBLE a_STRING a_NAME_AND_TYPE a_UTF8 a_INTEGER a_MODULE a_METHODREF a_INTERFACE_METHODREF a_LONG a_PACKAGE a_INVOKE_DYNAMIC a_METHOD_HANDLE a_FLOAT a_CLASS a_DYNAMIC cl_BY_TAG) :
    own_Pure l Z h0 [] ({ frames := 0, cells := 0, slots := 0, locals := 0 } : Room) (⟨"com/example/veritype/veritype/model/ConstantKind", "ofTag", "(I)Lcom/example/veritype/veritype/model/ConstantKind;"⟩ : MethodName) prog_70_method_4_code 1 (some (.object "com/example/veritype/veritype/model/ConstantKind")) #[(.int (15 : Int32))] (some (.ref a_METHOD_HANDLE)) := by
  refine own_body (plainFor_of_name own_pn_0) ?_
  intro p e s m below meth c T0 X0 hx hby hml hown hZ e0 hret hlk hnm hnamed
  replace hown : s.vm.findClass "com/example/veritype/veritype/model/ConstantKind" = some m.cls := hown
  replace hml : c.maxLocals = 1 := hml
  have ef : entryFrame m #[(.int (15 : Int32))] 1 = mkF m 0 #[.val (.int (15 : Int32))] [] := by first | (simp [entryFrame, mkF, argsToLocals, Value.category]; done) | rfl
  rw [ef]
  have S_BY_TAG := own_p_S_BY_TAG hE
  have A_BY_TAG := own_p_A_BY_TAG hE
  have Z_BY_TAG := own_p_Z_BY_TAG hE
  have Y_BY_TAG_15 := own_p_Y_BY_TAG_15 hE
  refine own_st (T' := T0) (g' := (mkF m 1 #[.val (.int (15 : Int32))] [(.int (15 : Int32))])) (fun _ k => XS.iloadN X0.here hx rfl (hb hby own_d_prog_70_method_4_code_0) rfl k) ?_
  refine own_st (T' := T0) (g' := (mkF m 4 #[.val (.int (15 : Int32))] [])) (fun _ k => XS.ifNo X0.here hx rfl (hb hby own_d_prog_70_method_4_code_1) rfl (by decide) k) ?_
  refine own_st (T' := T0) (g' := (mkF m 5 #[.val (.int (15 : Int32))] [(.int (15 : Int32))])) (fun _ k => XS.iloadN X0.here hx rfl (hb hby own_d_prog_70_method_4_code_4) rfl k) ?_
  obtain ⟨T1, X1, e1, st1⟩ := getS2 X0 hx hZ hown (host := "") (Or.inl (hw _ (List.mem_of_getElem? (i := 4) rfl))) Via.refl e0 S_BY_TAG (g := (mkF m 5 #[.val (.int (15 : Int32))] [(.int (15 : Int32))])) rfl (hb hby own_d_prog_70_method_4_code_5)
  refine own_st (T' := T1) (g' := (mkF m 8 #[.val (.int (15 : Int32))] [(.ref a_BY_TAG), (.int (15 : Int32))])) st1 ?_
  refine own_st (T' := T1) (g' := (mkF m 9 #[.val (.int (15 : Int32))] [(.int cl_BY_TAG.slots.size.toInt32), (.int (15 : Int32))])) (fun _ k => X1.arraylength hx (by rw [e1]; exact A_BY_TAG.1) (State.isArrayOf_alike hZ.alike A_BY_TAG.2.1) (g := (mkF m 8 #[.val (.int (15 : Int32))] [(.ref a_BY_TAG), (.int (15 : Int32))])) rfl rfl (hb hby own_d_prog_70_method_4_code_8) _ k) ?_
  rw [len_of Z_BY_TAG (by decide)]
  refine own_st (T' := T1) (g' := (mkF m 12 #[.val (.int (15 : Int32))] [])) (fun _ k => XS.icmpNo X1.here hx rfl (hb hby own_d_prog_70_method_4_code_9) rfl (by decide) k) ?_
  obtain ⟨T2, X2, e2, st2⟩ := getS2 X1 hx hZ hown (host := "") (Or.inl (hw _ (List.mem_of_getElem? (i := 4) rfl))) Via.refl e1 S_BY_TAG (g := (mkF m 12 #[.val (.int (15 : Int32))] [])) rfl (hb hby own_d_prog_70_method_4_code_12)
  refine own_st (T' := T2) (g' := (mkF m 15 #[.val (.int (15 : Int32))] [(.ref a_BY_TAG)])) st2 ?_
  refine own_st (T' := T2) (g' := (mkF m 16 #[.val (.int (15 : Int32))] [(.int (15 : Int32)), (.ref a_BY_TAG)])) (fun _ k => XS.iloadN X2.here hx rfl (hb hby own_d_prog_70_method_4_code_15) rfl k) ?_
  refine own_st (T' := T2) (g' := (mkF m 17 #[.val (.int (15 : Int32))] [(.ref a_METHOD_HANDLE)])) (fun _ k => X2.aaload hx (j := (15 : Int32)) (v := (.ref a_METHOD_HANDLE)) (by rw [e2]; exact A_BY_TAG.1) (State.isArrayOf_alike hZ.alike A_BY_TAG.2.1) rfl A_BY_TAG.2.2 (inb_of Z_BY_TAG ⟨by decide, by decide⟩) Y_BY_TAG_15 (g := (mkF m 16 #[.val (.int (15 : Int32))] [(.int (15 : Int32)), (.ref a_BY_TAG)])) rfl rfl (hb hby own_d_prog_70_method_4_code_16) _ k) ?_
  refine own_st (T' := T2) (g' := (mkF m 21 #[.val (.int (15 : Int32))] [(.ref a_METHOD_HANDLE)])) (fun _ k => XS.goto X2.here hx rfl (pc0 := 17) (pc' := 21) rfl (hb hby own_d_prog_70_method_4_code_17) (by decide) (by decide) k) ?_
  exact own_ret X2 hx hlk hret rfl (Or.inr (Or.inr (Or.inr (Or.inr ⟨rfl, rfl, rfl⟩)))) (hb hby own_d_prog_70_method_4_code_21) (by decide) (by decide) ⟨rfl, rfl, e2⟩
set_option maxRecDepth 65536 in
set_option maxHeartbeats 40000000 in
theorem own_of_16 (l : Launch) (Z : State) (a0 : Array Value) (hw : ∀ d ∈ tables_1, d.before a0 Z = true) (h0 : Heap) (a_BY_TAG : Addr) (a_METHOD_TYPE : Addr) (a_FIELDREF : Addr) (a_DOUBLE : Addr) (a_STRING : Addr) (a_NAME_AND_TYPE : Addr) (a_UTF8 : Addr) (a_INTEGER : Addr) (a_MODULE : Addr) (a_METHODREF : Addr) (a_INTERFACE_METHODREF : Addr) (a_LONG : Addr) (a_PACKAGE : Addr) (a_INVOKE_DYNAMIC : Addr) (a_METHOD_HANDLE : Addr) (a_FLOAT : Addr) (a_CLASS : Addr) (a_DYNAMIC : Addr) (cl_BY_TAG : Cell) (hE : own_E Z h0 a_BY_TAG a_METHOD_TYPE a_FIELDREF a_DOUBLE a_STRING a_NAME_AND_TYPE a_UTF8 a_INTEGER a_MODULE a_METHODREF a_INTERFACE_METHODREF a_LONG a_PACKAGE a_INVOKE_DYNAMIC a_METHOD_HANDLE a_FLOAT a_CLASS a_DYNAMIC cl_BY_TAG) :
    own_Pure l Z h0 [] ({ frames := 0, cells := 0, slots := 0, locals := 0 } : Room) (⟨"com/example/veritype/veritype/model/ConstantKind", "ofTag", "(I)Lcom/example/veritype/veritype/model/ConstantKind;"⟩ : MethodName) prog_70_method_4_code 1 (some (.object "com/example/veritype/veritype/model/ConstantKind")) #[(.int (16 : Int32))] (some (.ref a_METHOD_TYPE)) := by
  refine own_body (plainFor_of_name own_pn_0) ?_
  intro p e s m below meth c T0 X0 hx hby hml hown hZ e0 hret hlk hnm hnamed
  replace hown : s.vm.findClass "com/example/veritype/veritype/model/ConstantKind" = some m.cls := hown
  replace hml : c.maxLocals = 1 := hml
  have ef : entryFrame m #[(.int (16 : Int32))] 1 = mkF m 0 #[.val (.int (16 : Int32))] [] := by first | (simp [entryFrame, mkF, argsToLocals, Value.category]; done) | rfl
  rw [ef]
  have S_BY_TAG := own_p_S_BY_TAG hE
  have A_BY_TAG := own_p_A_BY_TAG hE
  have Z_BY_TAG := own_p_Z_BY_TAG hE
  have Y_BY_TAG_16 := own_p_Y_BY_TAG_16 hE
  refine own_st (T' := T0) (g' := (mkF m 1 #[.val (.int (16 : Int32))] [(.int (16 : Int32))])) (fun _ k => XS.iloadN X0.here hx rfl (hb hby own_d_prog_70_method_4_code_0) rfl k) ?_
  refine own_st (T' := T0) (g' := (mkF m 4 #[.val (.int (16 : Int32))] [])) (fun _ k => XS.ifNo X0.here hx rfl (hb hby own_d_prog_70_method_4_code_1) rfl (by decide) k) ?_
  refine own_st (T' := T0) (g' := (mkF m 5 #[.val (.int (16 : Int32))] [(.int (16 : Int32))])) (fun _ k => XS.iloadN X0.here hx rfl (hb hby own_d_prog_70_method_4_code_4) rfl k) ?_
  obtain ⟨T1, X1, e1, st1⟩ := getS2 X0 hx hZ hown (host := "") (Or.inl (hw _ (List.mem_of_getElem? (i := 4) rfl))) Via.refl e0 S_BY_TAG (g := (mkF m 5 #[.val (.int (16 : Int32))] [(.int (16 : Int32))])) rfl (hb hby own_d_prog_70_method_4_code_5)
  refine own_st (T' := T1) (g' := (mkF m 8 #[.val (.int (16 : Int32))] [(.ref a_BY_TAG), (.int (16 : Int32))])) st1 ?_
  refine own_st (T' := T1) (g' := (mkF m 9 #[.val (.int (16 : Int32))] [(.int cl_BY_TAG.slots.size.toInt32), (.int (16 : Int32))])) (fun _ k => X1.arraylength hx (by rw [e1]; exact A_BY_TAG.1) (State.isArrayOf_alike hZ.alike A_BY_TAG.2.1) (g := (mkF m 8 #[.val (.int (16 : Int32))] [(.ref a_BY_TAG), (.int (16 : Int32))])) rfl rfl (hb hby own_d_prog_70_method_4_code_8) _ k) ?_
  rw [len_of Z_BY_TAG (by decide)]
  refine own_st (T' := T1) (g' := (mkF m 12 #[.val (.int (16 : Int32))] [])) (fun _ k => XS.icmpNo X1.here hx rfl (hb hby own_d_prog_70_method_4_code_9) rfl (by decide) k) ?_
  obtain ⟨T2, X2, e2, st2⟩ := getS2 X1 hx hZ hown (host := "") (Or.inl (hw _ (List.mem_of_getElem? (i := 4) rfl))) Via.refl e1 S_BY_TAG (g := (mkF m 12 #[.val (.int (16 : Int32))] [])) rfl (hb hby own_d_prog_70_method_4_code_12)
  refine own_st (T' := T2) (g' := (mkF m 15 #[.val (.int (16 : Int32))] [(.ref a_BY_TAG)])) st2 ?_
  refine own_st (T' := T2) (g' := (mkF m 16 #[.val (.int (16 : Int32))] [(.int (16 : Int32)), (.ref a_BY_TAG)])) (fun _ k => XS.iloadN X2.here hx rfl (hb hby own_d_prog_70_method_4_code_15) rfl k) ?_
  refine own_st (T' := T2) (g' := (mkF m 17 #[.val (.int (16 : Int32))] [(.ref a_METHOD_TYPE)])) (fun _ k => X2.aaload hx (j := (16 : Int32)) (v := (.ref a_METHOD_TYPE)) (by rw [e2]; exact A_BY_TAG.1) (State.isArrayOf_alike hZ.alike A_BY_TAG.2.1) rfl A_BY_TAG.2.2 (inb_of Z_BY_TAG ⟨by decide, by decide⟩) Y_BY_TAG_16 (g := (mkF m 16 #[.val (.int (16 : Int32))] [(.int (16 : Int32)), (.ref a_BY_TAG)])) rfl rfl (hb hby own_d_prog_70_method_4_code_16) _ k) ?_
  refine own_st (T' := T2) (g' := (mkF m 21 #[.val (.int (16 : Int32))] [(.ref a_METHOD_TYPE)])) (fun _ k => XS.goto X2.here hx rfl (pc0 := 17) (pc' := 21) rfl (hb hby own_d_prog_70_method_4_code_17) (by decide) (by decide) k) ?_
  exact own_ret X2 hx hlk hret rfl (Or.inr (Or.inr (Or.inr (Or.inr ⟨rfl, rfl, rfl⟩)))) (hb hby own_d_prog_70_method_4_code_21) (by decide) (by decide) ⟨rfl, rfl, e2⟩
set_option maxRecDepth 65536 in
set_option maxHeartbeats 40000000 in
theorem own_of_17 (l : Launch) (Z : State) (a0 : Array Value) (hw : ∀ d ∈ tables_1, d.before a0 Z = true) (h0 : Heap) (a_BY_TAG : Addr) (a_METHOD_TYPE : Addr) (a_FIELDREF : Addr) (a_DOUBLE : Addr) (a_STRING : Addr) (a_NAME_AND_TYPE : Addr) (a_UTF8 : Addr) (a_INTEGER : Addr) (a_MODULE : Addr) (a_METHODREF : Addr) (a_INTERFACE_METHODREF : Addr) (a_LONG : Addr) (a_PACKAGE : Addr) (a_INVOKE_DYNAMIC : Addr) (a_METHOD_HANDLE : Addr) (a_FLOAT : Addr) (a_CLASS : Addr) (a_DYNAMIC : Addr) (cl_BY_TAG : Cell) (hE : own_E Z h0 a_BY_TAG a_METHOD_TYPE a_FIELDREF a_DOUBLE a_STRING a_NAME_AND_TYPE a_UTF8 a_INTEGER a_MODULE a_METHODREF a_INTERFACE_METHODREF a_LONG a_PACKAGE a_INVOKE_DYNAMIC a_METHOD_HANDLE a_FLOAT a_CLASS a_DYNAMIC cl_BY_TAG) :
    own_Pure l Z h0 [] ({ frames := 0, cells := 0, slots := 0, locals := 0 } : Room) (⟨"com/example/veritype/veritype/model/ConstantKind", "ofTag", "(I)Lcom/example/veritype/veritype/model/ConstantKind;"⟩ : MethodName) prog_70_method_4_code 1 (some (.object "com/example/veritype/veritype/model/ConstantKind")) #[(.int (17 : Int32))] (some (.ref a_DYNAMIC)) := by
  refine own_body (plainFor_of_name own_pn_0) ?_
  intro p e s m below meth c T0 X0 hx hby hml hown hZ e0 hret hlk hnm hnamed
  replace hown : s.vm.findClass "com/example/veritype/veritype/model/ConstantKind" = some m.cls := hown
  replace hml : c.maxLocals = 1 := hml
  have ef : entryFrame m #[(.int (17 : Int32))] 1 = mkF m 0 #[.val (.int (17 : Int32))] [] := by first | (simp [entryFrame, mkF, argsToLocals, Value.category]; done) | rfl
  rw [ef]
  have S_BY_TAG := own_p_S_BY_TAG hE
  have A_BY_TAG := own_p_A_BY_TAG hE
  have Z_BY_TAG := own_p_Z_BY_TAG hE
  have Y_BY_TAG_17 := own_p_Y_BY_TAG_17 hE
  refine own_st (T' := T0) (g' := (mkF m 1 #[.val (.int (17 : Int32))] [(.int (17 : Int32))])) (fun _ k => XS.iloadN X0.here hx rfl (hb hby own_d_prog_70_method_4_code_0) rfl k) ?_
  refine own_st (T' := T0) (g' := (mkF m 4 #[.val (.int (17 : Int32))] [])) (fun _ k => XS.ifNo X0.here hx rfl (hb hby own_d_prog_70_method_4_code_1) rfl (by decide) k) ?_
  refine own_st (T' := T0) (g' := (mkF m 5 #[.val (.int (17 : Int32))] [(.int (17 : Int32))])) (fun _ k => XS.iloadN X0.here hx rfl (hb hby own_d_prog_70_method_4_code_4) rfl k) ?_
  obtain ⟨T1, X1, e1, st1⟩ := getS2 X0 hx hZ hown (host := "") (Or.inl (hw _ (List.mem_of_getElem? (i := 4) rfl))) Via.refl e0 S_BY_TAG (g := (mkF m 5 #[.val (.int (17 : Int32))] [(.int (17 : Int32))])) rfl (hb hby own_d_prog_70_method_4_code_5)
  refine own_st (T' := T1) (g' := (mkF m 8 #[.val (.int (17 : Int32))] [(.ref a_BY_TAG), (.int (17 : Int32))])) st1 ?_
  refine own_st (T' := T1) (g' := (mkF m 9 #[.val (.int (17 : Int32))] [(.int cl_BY_TAG.slots.size.toInt32), (.int (17 : Int32))])) (fun _ k => X1.arraylength hx (by rw [e1]; exact A_BY_TAG.1) (State.isArrayOf_alike hZ.alike A_BY_TAG.2.1) (g := (mkF m 8 #[.val (.int (17 : Int32))] [(.ref a_BY_TAG), (.int (17 : Int32))])) rfl rfl (hb hby own_d_prog_70_method_4_code_8) _ k) ?_
  rw [len_of Z_BY_TAG (by decide)]
  refine own_st (T' := T1) (g' := (mkF m 12 #[.val (.int (17 : Int32))] [])) (fun _ k => XS.icmpNo X1.here hx rfl (hb hby own_d_prog_70_method_4_code_9) rfl (by decide) k) ?_
  obtain ⟨T2, X2, e2, st2⟩ := getS2 X1 hx hZ hown (host := "") (Or.inl (hw _ (List.mem_of_getElem? (i := 4) rfl))) Via.refl e1 S_BY_TAG (g := (mkF m 12 #[.val (.int (17 : Int32))] [])) rfl (hb hby own_d_prog_70_method_4_code_12)
  refine own_st (T' := T2) (g' := (mkF m 15 #[.val (.int (17 : Int32))] [(.ref a_BY_TAG)])) st2 ?_
  refine own_st (T' := T2) (g' := (mkF m 16 #[.val (.int (17 : Int32))] [(.int (17 : Int32)), (.ref a_BY_TAG)])) (fun _ k => XS.iloadN X2.here hx rfl (hb hby own_d_prog_70_method_4_code_15) rfl k) ?_
  refine own_st (T' := T2) (g' := (mkF m 17 #[.val (.int (17 : Int32))] [(.ref a_DYNAMIC)])) (fun _ k => X2.aaload hx (j := (17 : Int32)) (v := (.ref a_DYNAMIC)) (by rw [e2]; exact A_BY_TAG.1) (State.isArrayOf_alike hZ.alike A_BY_TAG.2.1) rfl A_BY_TAG.2.2 (inb_of Z_BY_TAG ⟨by decide, by decide⟩) Y_BY_TAG_17 (g := (mkF m 16 #[.val (.int (17 : Int32))] [(.int (17 : Int32)), (.ref a_BY_TAG)])) rfl rfl (hb hby own_d_prog_70_method_4_code_16) _ k) ?_
  refine own_st (T' := T2) (g' := (mkF m 21 #[.val (.int (17 : Int32))] [(.ref a_DYNAMIC)])) (fun _ k => XS.goto X2.here hx rfl (pc0 := 17) (pc' := 21) rfl (hb hby own_d_prog_70_method_4_code_17) (by decide) (by decide) k) ?_
  exact own_ret X2 hx hlk hret rfl (Or.inr (Or.inr (Or.inr (Or.inr ⟨rfl, rfl, rfl⟩)))) (hb hby own_d_prog_70_method_4_code_21) (by decide) (by decide) ⟨rfl, rfl, e2⟩
set_option maxRecDepth 65536 in
set_option maxHeartbeats 40000000 in
theorem own_of_18 (l : Launch) (Z : State) (a0 : Array Value) (hw : ∀ d ∈ tables_1, d.before a0 Z = true) (h0 : Heap) (a_BY_TAG : Addr) (a_METHOD_TYPE : Addr) (a_FIELDREF : Addr) (a_DOUBLE : Addr) (a_STRING : Addr) (a_NAME_AND_TYPE : Addr) (a_UTF8 : Addr) (a_INTEGER : Addr) (a_MODULE : Addr) (a_METHODREF : Addr) (a_INTERFACE_METHODREF : Addr) (a_LONG : Addr) (a_PACKAGE : Addr) (a_INVOKE_DYNAMIC : Addr) (a_METHOD_HANDLE : Addr) (a_FLOAT : Addr) (a_CLASS : Addr) (a_DYNAMIC : Addr) (cl_BY_TAG : Cell) (hE : own_E Z h0 a_BY_TAG a_METHOD_TYPE a_FIELDREF a_DOUBLE a_STRING a_NAME_AND_TYPE a_UTF8 a_INTEGER a_MODULE a_METHODREF a_INTERFACE_METHODREF a_LONG a_PACKAGE a_INVOKE_DYNAMIC a_METHOD_HANDLE a_FLOAT a_CLASS a_DYNAMIC cl_BY_TAG) :
    own_Pure l Z h0 [] ({ frames := 0, cells := 0, slots := 0, locals := 0 } : Room) (⟨"com/example/veritype/veritype/model/ConstantKind", "ofTag", "(I)Lcom/example/veritype/veritype/model/ConstantKind;"⟩ : MethodName) prog_70_method_4_code 1 (some (.object "com/example/veritype/veritype/model/ConstantKind")) #[(.int (18 : Int32))] (some (.ref a_INVOKE_DYNAMIC)) := by
  refine own_body (plainFor_of_name own_pn_0) ?_
  intro p e s m below meth c T0 X0 hx hby hml hown hZ e0 hret hlk hnm hnamed
  replace hown : s.vm.findClass "com/example/veritype/veritype/model/ConstantKind" = some m.cls := hown
  replace hml : c.maxLocals = 1 := hml
  have ef : entryFrame m #[(.int (18 : Int32))] 1 = mkF m 0 #[.val (.int (18 : Int32))] [] := by first | (simp [entryFrame, mkF, argsToLocals, Value.category]; done) | rfl
  rw [ef]
  have S_BY_TAG := own_p_S_BY_TAG hE
  have A_BY_TAG := own_p_A_BY_TAG hE
  have Z_BY_TAG := own_p_Z_BY_TAG hE
  have Y_BY_TAG_18 := own_p_Y_BY_TAG_18 hE
  refine own_st (T' := T0) (g' := (mkF m 1 #[.val (.int (18 : Int32))] [(.int (18 : Int32))])) (fun _ k => XS.iloadN X0.here hx rfl (hb hby own_d_prog_70_method_4_code_0) rfl k) ?_
  refine own_st (T' := T0) (g' := (mkF m 4 #[.val (.int (18 : Int32))] [])) (fun _ k => XS.ifNo X0.here hx rfl (hb hby own_d_prog_70_method_4_code_1) rfl (by decide) k) ?_
  refine own_st (T' := T0) (g' := (mkF m 5 #[.val (.int (18 : Int32))] [(.int (18 : Int32))])) (fun _ k => XS.iloadN X0.here hx rfl (hb hby own_d_prog_70_method_4_code_4) rfl k) ?_
  obtain ⟨T1, X1, e1, st1⟩ := getS2 X0 hx hZ hown (host := "") (Or.inl (hw _ (List.mem_of_getElem? (i := 4) rfl))) Via.refl e0 S_BY_TAG (g := (mkF m 5 #[.val (.int (18 : Int32))] [(.int (18 : Int32))])) rfl (hb hby own_d_prog_70_method_4_code_5)
  refine own_st (T' := T1) (g' := (mkF m 8 #[.val (.int (18 : Int32))] [(.ref a_BY_TAG), (.int (18 : Int32))])) st1 ?_
  refine own_st (T' := T1) (g' := (mkF m 9 #[.val (.int (18 : Int32))] [(.int cl_BY_TAG.slots.size.toInt32), (.int (18 : Int32))])) (fun _ k => X1.arraylength hx (by rw [e1]; exact A_BY_TAG.1) (State.isArrayOf_alike hZ.alike A_BY_TAG.2.1) (g := (mkF m 8 #[.val (.int (18 : Int32))] [(.ref a_BY_TAG), (.int (18 : Int32))])) rfl rfl (hb hby own_d_prog_70_method_4_code_8) _ k) ?_
  rw [len_of Z_BY_TAG (by decide)]
  refine own_st (T' := T1) (g' := (mkF m 12 #[.val (.int (18 : Int32))] [])) (fun _ k => XS.icmpNo X1.here hx rfl (hb hby own_d_prog_70_method_4_code_9) rfl (by decide) k) ?_
  obtain ⟨T2, X2, e2, st2⟩ := getS2 X1 hx hZ hown (host := "") (Or.inl (hw _ (List.mem_of_getElem? (i := 4) rfl))) Via.refl e1 S_BY_TAG (g := (mkF m 12 #[.val (.int (18 : Int32))] [])) rfl (hb hby own_d_prog_70_method_4_code_12)
  refine own_st (T' := T2) (g' := (mkF m 15 #[.val (.int (18 : Int32))] [(.ref a_BY_TAG)])) st2 ?_
  refine own_st (T' := T2) (g' := (mkF m 16 #[.val (.int (18 : Int32))] [(.int (18 : Int32)), (.ref a_BY_TAG)])) (fun _ k => XS.iloadN X2.here hx rfl (hb hby own_d_prog_70_method_4_code_15) rfl k) ?_
  refine own_st (T' := T2) (g' := (mkF m 17 #[.val (.int (18 : Int32))] [(.ref a_INVOKE_DYNAMIC)])) (fun _ k => X2.aaload hx (j := (18 : Int32)) (v := (.ref a_INVOKE_DYNAMIC)) (by rw [e2]; exact A_BY_TAG.1) (State.isArrayOf_alike hZ.alike A_BY_TAG.2.1) rfl A_BY_TAG.2.2 (inb_of Z_BY_TAG ⟨by decide, by decide⟩) Y_BY_TAG_18 (g := (mkF m 16 #[.val (.int (18 : Int32))] [(.int (18 : Int32)), (.ref a_BY_TAG)])) rfl rfl (hb hby own_d_prog_70_method_4_code_16) _ k) ?_
  refine own_st (T' := T2) (g' := (mkF m 21 #[.val (.int (18 : Int32))] [(.ref a_INVOKE_DYNAMIC)])) (fun _ k => XS.goto X2.here hx rfl (pc0 := 17) (pc' := 21) rfl (hb hby own_d_prog_70_method_4_code_17) (by decide) (by decide) k) ?_
  exact own_ret X2 hx hlk hret rfl (Or.inr (Or.inr (Or.inr (Or.inr ⟨rfl, rfl, rfl⟩)))) (hb hby own_d_prog_70_method_4_code_21) (by decide) (by decide) ⟨rfl, rfl, e2⟩
set_option maxRecDepth 65536 in
set_option maxHeartbeats 40000000 in
theorem own_of_19 (l : Launch) (Z : State) (a0 : Array Value) (hw : ∀ d ∈ tables_1, d.before a0 Z = true) (h0 : Heap) (a_BY_TAG : Addr) (a_METHOD_TYPE : Addr) (a_FIELDREF : Addr) (a_DOUBLE : Addr) (a_STRING : Addr) (a_NAME_AND_TYPE : Addr) (a_UTF8 : Addr) (a_INTEGER : Addr) (a_MODULE : Addr) (a_METHODREF : Addr) (a_INTERFACE_METHODREF : Addr) (a_LONG : Addr) (a_PACKAGE : Addr) (a_INVOKE_DYNAMIC : Addr) (a_METHOD_HANDLE : Addr) (a_FLOAT : Addr) (a_CLASS : Addr) (a_DYNAMIC : Addr) (cl_BY_TAG : Cell) (hE : own_E Z h0 a_BY_TAG a_METHOD_TYPE a_FIELDREF a_DOUBLE a_STRING a_NAME_AND_TYPE a_UTF8 a_INTEGER a_MODULE a_METHODREF a_INTERFACE_METHODREF a_LONG a_PACKAGE a_INVOKE_DYNAMIC a_METHOD_HANDLE a_FLOAT a_CLASS a_DYNAMIC cl_BY_TAG) :
    own_Pure l Z h0 [] ({ frames := 0, cells := 0, slots := 0, locals := 0 } : Room) (⟨"com/example/veritype/veritype/model/ConstantKind", "ofTag", "(I)Lcom/example/veritype/veritype/model/ConstantKind;"⟩ : MethodName) prog_70_method_4_code 1 (some (.object "com/example/veritype/veritype/model/ConstantKind")) #[(.int (19 : Int32))] (some (.ref a_MODULE)) := by
  refine own_body (plainFor_of_name own_pn_0) ?_
  intro p e s m below meth c T0 X0 hx hby hml hown hZ e0 hret hlk hnm hnamed
  replace hown : s.vm.findClass "com/example/veritype/veritype/model/ConstantKind" = some m.cls := hown
  replace hml : c.maxLocals = 1 := hml
  have ef : entryFrame m #[(.int (19 : Int32))] 1 = mkF m 0 #[.val (.int (19 : Int32))] [] := by first | (simp [entryFrame, mkF, argsToLocals, Value.category]; done) | rfl
  rw [ef]
  have S_BY_TAG := own_p_S_BY_TAG hE
  have A_BY_TAG := own_p_A_BY_TAG hE
  have Z_BY_TAG := own_p_Z_BY_TAG hE
  have Y_BY_TAG_19 := own_p_Y_BY_TAG_19 hE
  refine own_st (T' := T0) (g' := (mkF m 1 #[.val (.int (19 : Int32))] [(.int (19 : Int32))])) (fun _ k => XS.iloadN X0.here hx rfl (hb hby own_d_prog_70_method_4_code_0) rfl k) ?_
  refine own_st (T' := T0) (g' := (mkF m 4 #[.val (.int (19 : Int32))] [])) (fun _ k => XS.ifNo X0.here hx rfl (hb hby own_d_prog_70_method_4_code_1) rfl (by decide) k) ?_
  refine own_st (T' := T0) (g' := (mkF m 5 #[.val (.int (19 : Int32))] [(.int (19 : Int32))])) (fun _ k => XS.iloadN X0.here hx rfl (hb hby own_d_prog_70_method_4_code_4) rfl k) ?_
  obtain ⟨T1, X1, e1, st1⟩ := getS2 X0 hx hZ hown (host := "") (Or.inl (hw _ (List.mem_of_getElem? (i := 4) rfl))) Via.refl e0 S_BY_TAG (g := (mkF m 5 #[.val (.int (19 : Int32))] [(.int (19 : Int32))])) rfl (hb hby own_d_prog_70_method_4_code_5)
  refine own_st (T' := T1) (g' := (mkF m 8 #[.val (.int (19 : Int32))] [(.ref a_BY_TAG), (.int (19 : Int32))])) st1 ?_
  refine own_st (T' := T1) (g' := (mkF m 9 #[.val (.int (19 : Int32))] [(.int cl_BY_TAG.slots.size.toInt32), (.int (19 : Int32))])) (fun _ k => X1.arraylength hx (by rw [e1]; exact A_BY_TAG.1) (State.isArrayOf_alike hZ.alike A_BY_TAG.2.1) (g := (mkF m 8 #[.val (.int (19 : Int32))] [(.ref a_BY_TAG), (.int (19 : Int32))])) rfl rfl (hb hby own_d_prog_70_method_4_code_8) _ k) ?_
  rw [len_of Z_BY_TAG (by decide)]
  refine own_st (T' := T1) (g' := (mkF m 12 #[.val (.int (19 : Int32))] [])) (fun _ k => XS.icmpNo X1.here hx rfl (hb hby own_d_prog_70_method_4_code_9) rfl (by decide) k) ?_
  obtain ⟨T2, X2, e2, st2⟩ := getS2 X1 hx hZ hown (host := "") (Or.inl (hw _ (List.mem_of_getElem? (i := 4) rfl))) Via.refl e1 S_BY_TAG (g := (mkF m 12 #[.val (.int (19 : Int32))] [])) rfl (hb hby own_d_prog_70_method_4_code_12)
  refine own_st (T' := T2) (g' := (mkF m 15 #[.val (.int (19 : Int32))] [(.ref a_BY_TAG)])) st2 ?_
  refine own_st (T' := T2) (g' := (mkF m 16 #[.val (.int (19 : Int32))] [(.int (19 : Int32)), (.ref a_BY_TAG)])) (fun _ k => XS.iloadN X2.here hx rfl (hb hby own_d_prog_70_method_4_code_15) rfl k) ?_
  refine own_st (T' := T2) (g' := (mkF m 17 #[.val (.int (19 : Int32))] [(.ref a_MODULE)])) (fun _ k => X2.aaload hx (j := (19 : Int32)) (v := (.ref a_MODULE)) (by rw [e2]; exact A_BY_TAG.1) (State.isArrayOf_alike hZ.alike A_BY_TAG.2.1) rfl A_BY_TAG.2.2 (inb_of Z_BY_TAG ⟨by decide, by decide⟩) Y_BY_TAG_19 (g := (mkF m 16 #[.val (.int (19 : Int32))] [(.int (19 : Int32)), (.ref a_BY_TAG)])) rfl rfl (hb hby own_d_prog_70_method_4_code_16) _ k) ?_
  refine own_st (T' := T2) (g' := (mkF m 21 #[.val (.int (19 : Int32))] [(.ref a_MODULE)])) (fun _ k => XS.goto X2.here hx rfl (pc0 := 17) (pc' := 21) rfl (hb hby own_d_prog_70_method_4_code_17) (by decide) (by decide) k) ?_
  exact own_ret X2 hx hlk hret rfl (Or.inr (Or.inr (Or.inr (Or.inr ⟨rfl, rfl, rfl⟩)))) (hb hby own_d_prog_70_method_4_code_21) (by decide) (by decide) ⟨rfl, rfl, e2⟩
set_option maxRecDepth 65536 in
set_option maxHeartbeats 40000000 in
theorem own_of_20 (l : Launch) (Z : State) (a0 : Array Value) (hw : ∀ d ∈ tables_1, d.before a0 Z = true) (h0 : Heap) (a_BY_TAG : Addr) (a_METHOD_TYPE : Addr) (a_FIELDREF : Addr) (a_DOUBLE : Addr) (a_STRING : Addr) (a_NAME_AND_TYPE : Addr) (a_UTF8 : Addr) (a_INTEGER : Addr) (a_MODULE : Addr) (a_METHODREF : Addr) (a_INTERFACE_METHODREF : Addr) (a_LONG : Addr) (a_PACKAGE : Addr) (a_INVOKE_DYNAMIC : Addr) (a_METHOD_HANDLE : Addr) (a_FLOAT : Addr) (a_CLASS : Addr) (a_DYNAMIC : Addr) (cl_BY_TAG : Cell) (hE : own_E Z h0 a_BY_TAG a_METHOD_TYPE a_FIELDREF a_DOUBLE a_STRING a_NAME_AND_TYPE a_UTF8 a_INTEGER a_MODULE a_METHODREF a_INTERFACE_METHODREF a_LONG a_PACKAGE a_INVOKE_DYNAMIC a_METHOD_HANDLE a_FLOAT a_CLASS a_DYNAMIC cl_BY_TAG) :
    own_Pure l Z h0 [] ({ frames := 0, cells := 0, slots := 0, locals := 0 } : Room) (⟨"com/example/veritype/veritype/model/ConstantKind", "ofTag", "(I)Lcom/example/veritype/veritype/model/ConstantKind;"⟩ : MethodName) prog_70_method_4_code 1 (some (.object "com/example/veritype/veritype/model/ConstantKind")) #[(.int (20 : Int32))] (some (.ref a_PACKAGE)) := by
  refine own_body (plainFor_of_name own_pn_0) ?_
  intro p e s m below meth c T0 X0 hx hby hml hown hZ e0 hret hlk hnm hnamed
  replace hown : s.vm.findClass "com/example/veritype/veritype/model/ConstantKind" = some m.cls := hown
  replace hml : c.maxLocals = 1 := hml
  have ef : entryFrame m #[(.int (20 : Int32))] 1 = mkF m 0 #[.val (.int (20 : Int32))] [] := by first | (simp [entryFrame, mkF, argsToLocals, Value.category]; done) | rfl
  rw [ef]
  have S_BY_TAG := own_p_S_BY_TAG hE
  have A_BY_TAG := own_p_A_BY_TAG hE
  have Z_BY_TAG := own_p_Z_BY_TAG hE
  have Y_BY_TAG_20 := own_p_Y_BY_TAG_20 hE
  refine own_st (T' := T0) (g' := (mkF m 1 #[.val (.int (20 : Int32))] [(.int (20 : Int32))])) (fun _ k => XS.iloadN X0.here hx rfl (hb hby own_d_prog_70_method_4_code_0) rfl k) ?_
  refine own_st (T' := T0) (g' := (mkF m 4 #[.val (.int (20 : Int32))] [])) (fun _ k => XS.ifNo X0.here hx rfl (hb hby own_d_prog_70_method_4_code_1) rfl (by decide) k) ?_
  refine own_st (T' := T0) (g' := (mkF m 5 #[.val (.int (20 : Int32))] [(.int (20 : Int32))])) (fun _ k => XS.iloadN X0.here hx rfl (hb hby own_d_prog_70_method_4_code_4) rfl k) ?_
  obtain ⟨T1, X1, e1, st1⟩ := getS2 X0 hx hZ hown (host := "") (Or.inl (hw _ (List.mem_of_getElem? (i := 4) rfl))) Via.refl e0 S_BY_TAG (g := (mkF m 5 #[.val (.int (20 : Int32))] [(.int (20 : Int32))])) rfl (hb hby own_d_prog_70_method_4_code_5)
  refine own_st (T' := T1) (g' := (mkF m 8 #[.val (.int (20 : Int32))] [(.ref a_BY_TAG), (.int (20 : Int32))])) st1 ?_
  refine own_st (T' := T1) (g' := (mkF m 9 #[.val (.int (20 : Int32))] [(.int cl_BY_TAG.slots.size.toInt32), (.int (20 : Int32))])) (fun _ k => X1.arraylength hx (by rw [e1]; exact A_BY_TAG.1) (State.isArrayOf_alike hZ.alike A_BY_TAG.2.1) (g := (mkF m 8 #[.val (.int (20 : Int32))] [(.ref a_BY_TAG), (.int (20 : Int32))])) rfl rfl (hb hby own_d_prog_70_method_4_code_8) _ k) ?_
  rw [len_of Z_BY_TAG (by decide)]
  refine own_st (T' := T1) (g' := (mkF m 12 #[.val (.int (20 : Int32))] [])) (fun _ k => XS.icmpNo X1.here hx rfl (hb hby own_d_prog_70_method_4_code_9) rfl (by decide) k) ?_
  obtain ⟨T2, X2, e2, st2⟩ := getS2 X1 hx hZ hown (host := "") (Or.inl (hw _ (List.mem_of_getElem? (i := 4) rfl))) Via.refl e1 S_BY_TAG (g := (mkF m 12 #[.val (.int (20 : Int32))] [])) rfl (hb hby own_d_prog_70_method_4_code_12)
  refine own_st (T' := T2) (g' := (mkF m 15 #[.val (.int (20 : Int32))] [(.ref a_BY_TAG)])) st2 ?_
  refine own_st (T' := T2) (g' := (mkF m 16 #[.val (.int (20 : Int32))] [(.int (20 : Int32)), (.ref a_BY_TAG)])) (fun _ k => XS.iloadN X2.here hx rfl (hb hby own_d_prog_70_method_4_code_15) rfl k) ?_
  refine own_st (T' := T2) (g' := (mkF m 17 #[.val (.int (20 : Int32))] [(.ref a_PACKAGE)])) (fun _ k => X2.aaload hx (j := (20 : Int32)) (v := (.ref a_PACKAGE)) (by rw [e2]; exact A_BY_TAG.1) (State.isArrayOf_alike hZ.alike A_BY_TAG.2.1) rfl A_BY_TAG.2.2 (inb_of Z_BY_TAG ⟨by decide, by decide⟩) Y_BY_TAG_20 (g := (mkF m 16 #[.val (.int (20 : Int32))] [(.int (20 : Int32)), (.ref a_BY_TAG)])) rfl rfl (hb hby own_d_prog_70_method_4_code_16) _ k) ?_
  refine own_st (T' := T2) (g' := (mkF m 21 #[.val (.int (20 : Int32))] [(.ref a_PACKAGE)])) (fun _ k => XS.goto X2.here hx rfl (pc0 := 17) (pc' := 21) rfl (hb hby own_d_prog_70_method_4_code_17) (by decide) (by decide) k) ?_
  exact own_ret X2 hx hlk hret rfl (Or.inr (Or.inr (Or.inr (Or.inr ⟨rfl, rfl, rfl⟩)))) (hb hby own_d_prog_70_method_4_code_21) (by decide) (by decide) ⟨rfl, rfl, e2⟩
set_option maxRecDepth 65536 in
set_option maxHeartbeats 40000000 in
theorem own_of_neg (l : Launch) (Z : State) (a0 : Array Value) (hw : ∀ d ∈ tables_1, d.before a0 Z = true) (h0 : Heap) (a_BY_TAG : Addr) (a_METHOD_TYPE : Addr) (a_FIELDREF : Addr) (a_DOUBLE : Addr) (a_STRING : Addr) (a_NAME_AND_TYPE : Addr) (a_UTF8 : Addr) (a_INTEGER : Addr) (a_MODULE : Addr) (a_METHODREF : Addr) (a_INTERFACE_METHODREF : Addr) (a_LONG : Addr) (a_PACKAGE : Addr) (a_INVOKE_DYNAMIC : Addr) (a_METHOD_HANDLE : Addr) (a_FLOAT : Addr) (a_CLASS : Addr) (a_DYNAMIC : Addr) (cl_BY_TAG : Cell) (hE : own_E Z h0 a_BY_TAG a_METHOD_TYPE a_FIELDREF a_DOUBLE a_STRING a_NAME_AND_TYPE a_UTF8 a_INTEGER a_MODULE a_METHODREF a_INTERFACE_METHODREF a_LONG a_PACKAGE a_INVOKE_DYNAMIC a_METHOD_HANDLE a_FLOAT a_CLASS a_DYNAMIC cl_BY_TAG) (i : Int32) (f0 : i < (0 : Int32)) :
    own_Pure l Z h0 [] ({ frames := 0, cells := 0, slots := 0, locals := 0 } : Room) (⟨"com/example/veritype/veritype/model/ConstantKind", "ofTag", "(I)Lcom/example/veritype/veritype/model/ConstantKind;"⟩ : MethodName) prog_70_method_4_code 1 (some (.object "com/example/veritype/veritype/model/ConstantKind")) #[(.int i)] (some .null) := by
  refine own_body (plainFor_of_name own_pn_0) ?_
  intro p e s m below meth c T0 X0 hx hby hml hown hZ e0 hret hlk hnm hnamed
  replace hown : s.vm.findClass "com/example/veritype/veritype/model/ConstantKind" = some m.cls := hown
  replace hml : c.maxLocals = 1 := hml
  have ef : entryFrame m #[(.int i)] 1 = mkF m 0 #[.val (.int i)] [] := by first | (simp [entryFrame, mkF, argsToLocals, Value.category]; done) | rfl
  rw [ef]
  refine own_st (T' := T0) (g' := (mkF m 1 #[.val (.int i)] [(.int i)])) (fun _ k => XS.iloadN X0.here hx rfl (hb hby own_d_prog_70_method_4_code_0) rfl k) ?_
  refine own_st (T' := T0) (g' := (mkF m 20 #[.val (.int i)] [])) (fun _ k => XS.ifYes X0.here hx rfl (pc0 := 1) (pc' := 20) rfl (hb hby own_d_prog_70_method_4_code_1) rfl ((if0 _ _).trans (tlt f0).1) (by decide) (by decide) k) ?_
  refine own_st (T' := T0) (g' := (mkF m 21 #[.val (.int i)] [.null])) (fun _ k => XS.aconstNull X0.here hx rfl (hb hby own_d_prog_70_method_4_code_20) k) ?_
  exact own_ret X0 hx hlk hret rfl (Or.inr (Or.inr (Or.inr (Or.inr ⟨rfl, rfl, rfl⟩)))) (hb hby own_d_prog_70_method_4_code_21) (by decide) (by decide) ⟨rfl, rfl, e0⟩
set_option maxRecDepth 65536 in
set_option maxHeartbeats 40000000 in
theorem own_of_big (l : Launch) (Z : State) (a0 : Array Value) (hw : ∀ d ∈ tables_1, d.before a0 Z = true) (h0 : Heap) (a_BY_TAG : Addr) (a_METHOD_TYPE : Addr) (a_FIELDREF : Addr) (a_DOUBLE : Addr) (a_STRING : Addr) (a_NAME_AND_TYPE : Addr) (a_UTF8 : Addr) (a_INTEGER : Addr) (a_MODULE : Addr) (a_METHODREF : Addr) (a_INTERFACE_METHODREF : Addr) (a_LONG : Addr) (a_PACKAGE : Addr) (a_INVOKE_DYNAMIC : Addr) (a_METHOD_HANDLE : Addr) (a_FLOAT : Addr) (a_CLASS : Addr) (a_DYNAMIC : Addr) (cl_BY_TAG : Cell) (hE : own_E Z h0 a_BY_TAG a_METHOD_TYPE a_FIELDREF a_DOUBLE a_STRING a_NAME_AND_TYPE a_UTF8 a_INTEGER a_MODULE a_METHODREF a_INTERFACE_METHODREF a_LONG a_PACKAGE a_INVOKE_DYNAMIC a_METHOD_HANDLE a_FLOAT a_CLASS a_DYNAMIC cl_BY_TAG) (i : Int32) (f0 : ¬ (i < (0 : Int32))) (f2 : ¬ (i < (21 : Int32))) :
    own_Pure l Z h0 [] ({ frames := 0, cells := 0, slots := 0, locals := 0 } : Room) (⟨"com/example/veritype/veritype/model/ConstantKind", "ofTag", "(I)Lcom/example/veritype/veritype/model/ConstantKind;"⟩ : MethodName) prog_70_method_4_code 1 (some (.object "com/example/veritype/veritype/model/ConstantKind")) #[(.int i)] (some .null) := by
  refine own_body (plainFor_of_name own_pn_0) ?_
  intro p e s m below meth c T0 X0 hx hby hml hown hZ e0 hret hlk hnm hnamed
  replace hown : s.vm.findClass "com/example/veritype/veritype/model/ConstantKind" = some m.cls := hown
  replace hml : c.maxLocals = 1 := hml
  have ef : entryFrame m #[(.int i)] 1 = mkF m 0 #[.val (.int i)] [] := by first | (simp [entryFrame, mkF, argsToLocals, Value.category]; done) | rfl
  rw [ef]
  have S_BY_TAG := own_p_S_BY_TAG hE
  have A_BY_TAG := own_p_A_BY_TAG hE
  have Z_BY_TAG := own_p_Z_BY_TAG hE
  refine own_st (T' := T0) (g' := (mkF m 1 #[.val (.int i)] [(.int i)])) (fun _ k => XS.iloadN X0.here hx rfl (hb hby own_d_prog_70_method_4_code_0) rfl k) ?_
  refine own_st (T' := T0) (g' := (mkF m 4 #[.val (.int i)] [])) (fun _ k => XS.ifNo X0.here hx rfl (hb hby own_d_prog_70_method_4_code_1) rfl ((if0 _ _).trans (flt f0).1) k) ?_
  refine own_st (T' := T0) (g' := (mkF m 5 #[.val (.int i)] [(.int i)])) (fun _ k => XS.iloadN X0.here hx rfl (hb hby own_d_prog_70_method_4_code_4) rfl k) ?_
  obtain ⟨T1, X1, e1, st1⟩ := getS2 X0 hx hZ hown (host := "") (Or.inl (hw _ (List.mem_of_getElem? (i := 4) rfl))) Via.refl e0 S_BY_TAG (g := (mkF m 5 #[.val (.int i)] [(.int i)])) rfl (hb hby own_d_prog_70_method_4_code_5)
  refine own_st (T' := T1) (g' := (mkF m 8 #[.val (.int i)] [(.ref a_BY_TAG), (.int i)])) st1 ?_
  refine own_st (T' := T1) (g' := (mkF m 9 #[.val (.int i)] [(.int cl_BY_TAG.slots.size.toInt32), (.int i)])) (fun _ k => X1.arraylength hx (by rw [e1]; exact A_BY_TAG.1) (State.isArrayOf_alike hZ.alike A_BY_TAG.2.1) (g := (mkF m 8 #[.val (.int i)] [(.ref a_BY_TAG), (.int i)])) rfl rfl (hb hby own_d_prog_70_method_4_code_8) _ k) ?_
  rw [len_of Z_BY_TAG (by decide)]
  refine own_st (T' := T1) (g' := (mkF m 20 #[.val (.int i)] [])) (fun _ k => XS.icmpYes X1.here hx rfl (pc0 := 9) (pc' := 20) rfl (hb hby own_d_prog_70_method_4_code_9) rfl (flt f2).2.1 (by decide) (by decide) k) ?_
  refine own_st (T' := T1) (g' := (mkF m 21 #[.val (.int i)] [.null])) (fun _ k => XS.aconstNull X1.here hx rfl (hb hby own_d_prog_70_method_4_code_20) k) ?_
  exact own_ret X1 hx hlk hret rfl (Or.inr (Or.inr (Or.inr (Or.inr ⟨rfl, rfl, rfl⟩)))) (hb hby own_d_prog_70_method_4_code_21) (by decide) (by decide) ⟨rfl, rfl, e1⟩
theorem own_21 (c : Int32) (h1 : ¬ c < (0 : Int32)) (h2 : c < (21 : Int32)) : c = (0 : Int32) ∨ c = (1 : Int32) ∨ c = (2 : Int32) ∨ c = (3 : Int32) ∨ c = (4 : Int32) ∨ c = (5 : Int32) ∨ c = (6 : Int32) ∨ c = (7 : Int32) ∨ c = (8 : Int32) ∨ c = (9 : Int32) ∨ c = (10 : Int32) ∨ c = (11 : Int32) ∨ c = (12 : Int32) ∨ c = (13 : Int32) ∨ c = (14 : Int32) ∨ c = (15 : Int32) ∨ c = (16 : Int32) ∨ c = (17 : Int32) ∨ c = (18 : Int32) ∨ c = (19 : Int32) ∨ c = (20 : Int32) := by
  rw [Int32.lt_iff_toInt_lt] at h1 h2
  have e0 : (0 : Int32).toInt = 0 := rfl; have e21 : (21 : Int32).toInt = 21 := rfl
  have h : c.toInt = 0 ∨ c.toInt = 1 ∨ c.toInt = 2 ∨ c.toInt = 3 ∨ c.toInt = 4 ∨ c.toInt = 5 ∨ c.toInt = 6 ∨ c.toInt = 7 ∨ c.toInt = 8 ∨ c.toInt = 9 ∨ c.toInt = 10 ∨ c.toInt = 11 ∨ c.toInt = 12 ∨ c.toInt = 13 ∨ c.toInt = 14 ∨ c.toInt = 15 ∨ c.toInt = 16 ∨ c.toInt = 17 ∨ c.toInt = 18 ∨ c.toInt = 19 ∨ c.toInt = 20 := by omega
  rcases h with h | h | h | h | h | h | h | h | h | h | h | h | h | h | h | h | h | h | h | h | h
  · exact Or.inl (Int32.toInt_inj.mp h)
  · exact Or.inr (Or.inl (Int32.toInt_inj.mp h))
  · exact Or.inr (Or.inr (Or.inl (Int32.toInt_inj.mp h)))
  · exact Or.inr (Or.inr (Or.inr (Or.inl (Int32.toInt_inj.mp h))))
  · exact Or.inr (Or.inr (Or.inr (Or.inr (Or.inl (Int32.toInt_inj.mp h)))))
  · exact Or.inr (Or.inr (Or.inr (Or.inr (Or.inr (Or.inl (Int32.toInt_inj.mp h))))))
  · exact Or.inr (Or.inr (Or.inr (Or.inr (Or.inr (Or.inr (Or.inl (Int32.toInt_inj.mp h)))))))
  · exact Or.inr (Or.inr (Or.inr (Or.inr (Or.inr (Or.inr (Or.inr (Or.inl (Int32.toInt_inj.mp h))))))))
  · exact Or.inr (Or.inr (Or.inr (Or.inr (Or.inr (Or.inr (Or.inr (Or.inr (Or.inl (Int32.toInt_inj.mp h)))))))))
  · exact Or.inr (Or.inr (Or.inr (Or.inr (Or.inr (Or.inr (Or.inr (Or.inr (Or.inr (Or.inl (Int32.toInt_inj.mp h))))))))))
  · exact Or.inr (Or.inr (Or.inr (Or.inr (Or.inr (Or.inr (Or.inr (Or.inr (Or.inr (Or.inr (Or.inl (Int32.toInt_inj.mp h)))))))))))
  · exact Or.inr (Or.inr (Or.inr (Or.inr (Or.inr (Or.inr (Or.inr (Or.inr (Or.inr (Or.inr (Or.inr (Or.inl (Int32.toInt_inj.mp h))))))))))))
  · exact Or.inr (Or.inr (Or.inr (Or.inr (Or.inr (Or.inr (Or.inr (Or.inr (Or.inr (Or.inr (Or.inr (Or.inr (Or.inl (Int32.toInt_inj.mp h)))))))))))))
  · exact Or.inr (Or.inr (Or.inr (Or.inr (Or.inr (Or.inr (Or.inr (Or.inr (Or.inr (Or.inr (Or.inr (Or.inr (Or.inr (Or.inl (Int32.toInt_inj.mp h))))))))))))))
  · exact Or.inr (Or.inr (Or.inr (Or.inr (Or.inr (Or.inr (Or.inr (Or.inr (Or.inr (Or.inr (Or.inr (Or.inr (Or.inr (Or.inr (Or.inl (Int32.toInt_inj.mp h)))))))))))))))
  · exact Or.inr (Or.inr (Or.inr (Or.inr (Or.inr (Or.inr (Or.inr (Or.inr (Or.inr (Or.inr (Or.inr (Or.inr (Or.inr (Or.inr (Or.inr (Or.inl (Int32.toInt_inj.mp h))))))))))))))))
  · exact Or.inr (Or.inr (Or.inr (Or.inr (Or.inr (Or.inr (Or.inr (Or.inr (Or.inr (Or.inr (Or.inr (Or.inr (Or.inr (Or.inr (Or.inr (Or.inr (Or.inl (Int32.toInt_inj.mp h)))))))))))))))))
  · exact Or.inr (Or.inr (Or.inr (Or.inr (Or.inr (Or.inr (Or.inr (Or.inr (Or.inr (Or.inr (Or.inr (Or.inr (Or.inr (Or.inr (Or.inr (Or.inr (Or.inr (Or.inl (Int32.toInt_inj.mp h))))))))))))))))))
  · exact Or.inr (Or.inr (Or.inr (Or.inr (Or.inr (Or.inr (Or.inr (Or.inr (Or.inr (Or.inr (Or.inr (Or.inr (Or.inr (Or.inr (Or.inr (Or.inr (Or.inr (Or.inr (Or.inl (Int32.toInt_inj.mp h)))))))))))))))))))
  · exact Or.inr (Or.inr (Or.inr (Or.inr (Or.inr (Or.inr (Or.inr (Or.inr (Or.inr (Or.inr (Or.inr (Or.inr (Or.inr (Or.inr (Or.inr (Or.inr (Or.inr (Or.inr (Or.inr (Or.inl (Int32.toInt_inj.mp h))))))))))))))))))))
  · exact Or.inr (Or.inr (Or.inr (Or.inr (Or.inr (Or.inr (Or.inr (Or.inr (Or.inr (Or.inr (Or.inr (Or.inr (Or.inr (Or.inr (Or.inr (Or.inr (Or.inr (Or.inr (Or.inr (Or.inr ((Int32.toInt_inj.mp h)))))))))))))))))))))
theorem own_ofTag (l : Launch) (Z : State) (a0 : Array Value) (hw : ∀ d ∈ tables_1, d.before a0 Z = true) (h0 : Heap) (a_BY_TAG : Addr) (a_METHOD_TYPE : Addr) (a_FIELDREF : Addr) (a_DOUBLE : Addr) (a_STRING : Addr) (a_NAME_AND_TYPE : Addr) (a_UTF8 : Addr) (a_INTEGER : Addr) (a_MODULE : Addr) (a_METHODREF : Addr) (a_INTERFACE_METHODREF : Addr) (a_LONG : Addr) (a_PACKAGE : Addr) (a_INVOKE_DYNAMIC : Addr) (a_METHOD_HANDLE : Addr) (a_FLOAT : Addr) (a_CLASS : Addr) (a_DYNAMIC : Addr) (cl_BY_TAG : Cell) (hE : own_E Z h0 a_BY_TAG a_METHOD_TYPE a_FIELDREF a_DOUBLE a_STRING a_NAME_AND_TYPE a_UTF8 a_INTEGER a_MODULE a_METHODREF a_INTERFACE_METHODREF a_LONG a_PACKAGE a_INVOKE_DYNAMIC a_METHOD_HANDLE a_FLOAT a_CLASS a_DYNAMIC cl_BY_TAG) (i : Int32) :
    own_Pure l Z h0 [] ({ frames := 0, cells := 0, slots := 0, locals := 0 } : Room) (⟨"com/example/veritype/veritype/model/ConstantKind", "ofTag", "(I)Lcom/example/veritype/veritype/model/ConstantKind;"⟩ : MethodName) prog_70_method_4_code 1 (some (.object "com/example/veritype/veritype/model/ConstantKind")) #[(.int i)] (some (own_tab a_UTF8 a_INTEGER a_FLOAT a_LONG a_DOUBLE a_CLASS a_STRING a_FIELDREF a_METHODREF a_INTERFACE_METHODREF a_NAME_AND_TYPE a_METHOD_HANDLE a_METHOD_TYPE a_DYNAMIC a_INVOKE_DYNAMIC a_MODULE a_PACKAGE i)) := by
  by_cases f0 : i < (0 : Int32)
  · have e : (own_tab a_UTF8 a_INTEGER a_FLOAT a_LONG a_DOUBLE a_CLASS a_STRING a_FIELDREF a_METHODREF a_INTERFACE_METHODREF a_NAME_AND_TYPE a_METHOD_HANDLE a_METHOD_TYPE a_DYNAMIC a_INVOKE_DYNAMIC a_MODULE a_PACKAGE i) = .null := by
      have q : ∀ k : Int32, 0 ≤ k.toInt → k.toInt < 21 → i ≠ k := fun k q1 q2 q3 => by subst q3; rw [Int32.lt_iff_toInt_lt] at f0; have e0 : (0 : Int32).toInt = 0 := rfl; have e21 : (21 : Int32).toInt = 21 := rfl; omega
      simp [own_tab, q (1 : Int32) (by decide) (by decide), q (3 : Int32) (by decide) (by decide), q (4 : Int32) (by decide) (by decide), q (5 : Int32) (by decide) (by decide), q (6 : Int32) (by decide) (by decide), q (7 : Int32) (by decide) (by decide), q (8 : Int32) (by decide) (by decide), q (9 : Int32) (by decide) (by decide), q (10 : Int32) (by decide) (by decide), q (11 : Int32) (by decide) (by decide), q (12 : Int32) (by decide) (by decide), q (15 : Int32) (by decide) (by decide), q (16 : Int32) (by decide) (by decide), q (17 : Int32) (by decide) (by decide), q (18 : Int32) (by decide) (by decide), q (19 : Int32) (by decide) (by decide), q (20 : Int32) (by decide) (by decide)]
    rw [e]
    exact own_of_neg l Z a0 hw h0 a_BY_TAG a_METHOD_TYPE a_FIELDREF a_DOUBLE a_STRING a_NAME_AND_TYPE a_UTF8 a_INTEGER a_MODULE a_METHODREF a_INTERFACE_METHODREF a_LONG a_PACKAGE a_INVOKE_DYNAMIC a_METHOD_HANDLE a_FLOAT a_CLASS a_DYNAMIC cl_BY_TAG hE i f0
  by_cases f2 : i < (21 : Int32)
  · rcases own_21 i f0 f2 with rfl | rfl | rfl | rfl | rfl | rfl | rfl | rfl | rfl | rfl | rfl | rfl | rfl | rfl | rfl | rfl | rfl | rfl | rfl | rfl | rfl
    · have e : (own_tab a_UTF8 a_INTEGER a_FLOAT a_LONG a_DOUBLE a_CLASS a_STRING a_FIELDREF a_METHODREF a_INTERFACE_METHODREF a_NAME_AND_TYPE a_METHOD_HANDLE a_METHOD_TYPE a_DYNAMIC a_INVOKE_DYNAMIC a_MODULE a_PACKAGE (0 : Int32)) = .null := by simp [own_tab]
      rw [e]
      exact own_of_0 l Z a0 hw h0 a_BY_TAG a_METHOD_TYPE a_FIELDREF a_DOUBLE a_STRING a_NAME_AND_TYPE a_UTF8 a_INTEGER a_MODULE a_METHODREF a_INTERFACE_METHODREF a_LONG a_PACKAGE a_INVOKE_DYNAMIC a_METHOD_HANDLE a_FLOAT a_CLASS a_DYNAMIC cl_BY_TAG hE
    · have e : (own_tab a_UTF8 a_INTEGER a_FLOAT a_LONG a_DOUBLE a_CLASS a_STRING a_FIELDREF a_METHODREF a_INTERFACE_METHODREF a_NAME_AND_TYPE a_METHOD_HANDLE a_METHOD_TYPE a_DYNAMIC a_INVOKE_DYNAMIC a_MODULE a_PACKAGE (1 : Int32)) = (.ref a_UTF8) := by simp [own_tab]
      rw [e]
      exact own_of_1 l Z a0 hw h0 a_BY_TAG a_METHOD_TYPE a_FIELDREF a_DOUBLE a_STRING a_NAME_AND_TYPE a_UTF8 a_INTEGER a_MODULE a_METHODREF a_INTERFACE_METHODREF a_LONG a_PACKAGE a_INVOKE_DYNAMIC a_METHOD_HANDLE a_FLOAT a_CLASS a_DYNAMIC cl_BY_TAG hE
    · have e : (own_tab a_UTF8 a_INTEGER a_FLOAT a_LONG a_DOUBLE a_CLASS a_STRING a_FIELDREF a_METHODREF a_INTERFACE_METHODREF a_NAME_AND_TYPE a_METHOD_HANDLE a_METHOD_TYPE a_DYNAMIC a_INVOKE_DYNAMIC a_MODULE a_PACKAGE (2 : Int32)) = .null := by simp [own_tab]
      rw [e]
      exact own_of_2 l Z a0 hw h0 a_BY_TAG a_METHOD_TYPE a_FIELDREF a_DOUBLE a_STRING a_NAME_AND_TYPE a_UTF8 a_INTEGER a_MODULE a_METHODREF a_INTERFACE_METHODREF a_LONG a_PACKAGE a_INVOKE_DYNAMIC a_METHOD_HANDLE a_FLOAT a_CLASS a_DYNAMIC cl_BY_TAG hE
    · have e : (own_tab a_UTF8 a_INTEGER a_FLOAT a_LONG a_DOUBLE a_CLASS a_STRING a_FIELDREF a_METHODREF a_INTERFACE_METHODREF a_NAME_AND_TYPE a_METHOD_HANDLE a_METHOD_TYPE a_DYNAMIC a_INVOKE_DYNAMIC a_MODULE a_PACKAGE (3 : Int32)) = (.ref a_INTEGER) := by simp [own_tab]
      rw [e]
      exact own_of_3 l Z a0 hw h0 a_BY_TAG a_METHOD_TYPE a_FIELDREF a_DOUBLE a_STRING a_NAME_AND_TYPE a_UTF8 a_INTEGER a_MODULE a_METHODREF a_INTERFACE_METHODREF a_LONG a_PACKAGE a_INVOKE_DYNAMIC a_METHOD_HANDLE a_FLOAT a_CLASS a_DYNAMIC cl_BY_TAG hE
    · have e : (own_tab a_UTF8 a_INTEGER a_FLOAT a_LONG a_DOUBLE a_CLASS a_STRING a_FIELDREF a_METHODREF a_INTERFACE_METHODREF a_NAME_AND_TYPE a_METHOD_HANDLE a_METHOD_TYPE a_DYNAMIC a_INVOKE_DYNAMIC a_MODULE a_PACKAGE (4 : Int32)) = (.ref a_FLOAT) := by simp [own_tab]
      rw [e]
      exact own_of_4 l Z a0 hw h0 a_BY_TAG a_METHOD_TYPE a_FIELDREF a_DOUBLE a_STRING a_NAME_AND_TYPE a_UTF8 a_INTEGER a_MODULE a_METHODREF a_INTERFACE_METHODREF a_LONG a_PACKAGE a_INVOKE_DYNAMIC a_METHOD_HANDLE a_FLOAT a_CLASS a_DYNAMIC cl_BY_TAG hE
    · have e : (own_tab a_UTF8 a_INTEGER a_FLOAT a_LONG a_DOUBLE a_CLASS a_STRING a_FIELDREF a_METHODREF a_INTERFACE_METHODREF a_NAME_AND_TYPE a_METHOD_HANDLE a_METHOD_TYPE a_DYNAMIC a_INVOKE_DYNAMIC a_MODULE a_PACKAGE (5 : Int32)) = (.ref a_LONG) := by simp [own_tab]
      rw [e]
      exact own_of_5 l Z a0 hw h0 a_BY_TAG a_METHOD_TYPE a_FIELDREF a_DOUBLE a_STRING a_NAME_AND_TYPE a_UTF8 a_INTEGER a_MODULE a_METHODREF a_INTERFACE_METHODREF a_LONG a_PACKAGE a_INVOKE_DYNAMIC a_METHOD_HANDLE a_FLOAT a_CLASS a_DYNAMIC cl_BY_TAG hE
    · have e : (own_tab a_UTF8 a_INTEGER a_FLOAT a_LONG a_DOUBLE a_CLASS a_STRING a_FIELDREF a_METHODREF a_INTERFACE_METHODREF a_NAME_AND_TYPE a_METHOD_HANDLE a_METHOD_TYPE a_DYNAMIC a_INVOKE_DYNAMIC a_MODULE a_PACKAGE (6 : Int32)) = (.ref a_DOUBLE) := by simp [own_tab]
      rw [e]
      exact own_of_6 l Z a0 hw h0 a_BY_TAG a_METHOD_TYPE a_FIELDREF a_DOUBLE a_STRING a_NAME_AND_TYPE a_UTF8 a_INTEGER a_MODULE a_METHODREF a_INTERFACE_METHODREF a_LONG a_PACKAGE a_INVOKE_DYNAMIC a_METHOD_HANDLE a_FLOAT a_CLASS a_DYNAMIC cl_BY_TAG hE
    · have e : (own_tab a_UTF8 a_INTEGER a_FLOAT a_LONG a_DOUBLE a_CLASS a_STRING a_FIELDREF a_METHODREF a_INTERFACE_METHODREF a_NAME_AND_TYPE a_METHOD_HANDLE a_METHOD_TYPE a_DYNAMIC a_INVOKE_DYNAMIC a_MODULE a_PACKAGE (7 : Int32)) = (.ref a_CLASS) := by simp [own_tab]
      rw [e]
      exact own_of_7 l Z a0 hw h0 a_BY_TAG a_METHOD_TYPE a_FIELDREF a_DOUBLE a_STRING a_NAME_AND_TYPE a_UTF8 a_INTEGER a_MODULE a_METHODREF a_INTERFACE_METHODREF a_LONG a_PACKAGE a_INVOKE_DYNAMIC a_METHOD_HANDLE a_FLOAT a_CLASS a_DYNAMIC cl_BY_TAG hE
    · have e : (own_tab a_UTF8 a_INTEGER a_FLOAT a_LONG a_DOUBLE a_CLASS a_STRING a_FIELDREF a_METHODREF a_INTERFACE_METHODREF a_NAME_AND_TYPE a_METHOD_HANDLE a_METHOD_TYPE a_DYNAMIC a_INVOKE_DYNAMIC a_MODULE a_PACKAGE (8 : Int32)) = (.ref a_STRING) := by simp [own_tab]
      rw [e]
      exact own_of_8 l Z a0 hw h0 a_BY_TAG a_METHOD_TYPE a_FIELDREF a_DOUBLE a_STRING a_NAME_AND_TYPE a_UTF8 a_INTEGER a_MODULE a_METHODREF a_INTERFACE_METHODREF a_LONG a_PACKAGE a_INVOKE_DYNAMIC a_METHOD_HANDLE a_FLOAT a_CLASS a_DYNAMIC cl_BY_TAG hE
    · have e : (own_tab a_UTF8 a_INTEGER a_FLOAT a_LONG a_DOUBLE a_CLASS a_STRING a_FIELDREF a_METHODREF a_INTERFACE_METHODREF a_NAME_AND_TYPE a_METHOD_HANDLE a_METHOD_TYPE a_DYNAMIC a_INVOKE_DYNAMIC a_MODULE a_PACKAGE (9 : Int32)) = (.ref a_FIELDREF) := by simp [own_tab]
      rw [e]
      exact own_of_9 l Z a0 hw h0 a_BY_TAG a_METHOD_TYPE a_FIELDREF a_DOUBLE a_STRING a_NAME_AND_TYPE a_UTF8 a_INTEGER a_MODULE a_METHODREF a_INTERFACE_METHODREF a_LONG a_PACKAGE a_INVOKE_DYNAMIC a_METHOD_HANDLE a_FLOAT a_CLASS a_DYNAMIC cl_BY_TAG hE
    · have e : (own_tab a_UTF8 a_INTEGER a_FLOAT a_LONG a_DOUBLE a_CLASS a_STRING a_FIELDREF a_METHODREF a_INTERFACE_METHODREF a_NAME_AND_TYPE a_METHOD_HANDLE a_METHOD_TYPE a_DYNAMIC a_INVOKE_DYNAMIC a_MODULE a_PACKAGE (10 : Int32)) = (.ref a_METHODREF) := by simp [own_tab]
      rw [e]
      exact own_of_10 l Z a0 hw h0 a_BY_TAG a_METHOD_TYPE a_FIELDREF a_DOUBLE a_STRING a_NAME_AND_TYPE a_UTF8 a_INTEGER a_MODULE a_METHODREF a_INTERFACE_METHODREF a_LONG a_PACKAGE a_INVOKE_DYNAMIC a_METHOD_HANDLE a_FLOAT a_CLASS a_DYNAMIC cl_BY_TAG hE
    · have e : (own_tab a_UTF8 a_INTEGER a_FLOAT a_LONG a_DOUBLE a_CLASS a_STRING a_FIELDREF a_METHODREF a_INTERFACE_METHODREF a_NAME_AND_TYPE a_METHOD_HANDLE a_METHOD_TYPE a_DYNAMIC a_INVOKE_DYNAMIC a_MODULE a_PACKAGE (11 : Int32)) = (.ref a_INTERFACE_METHODREF) := by simp [own_tab]
      rw [e]
      exact own_of_11 l Z a0 hw h0 a_BY_TAG a_METHOD_TYPE a_FIELDREF a_DOUBLE a_STRING a_NAME_AND_TYPE a_UTF8 a_INTEGER a_MODULE a_METHODREF a_INTERFACE_METHODREF a_LONG a_PACKAGE a_INVOKE_DYNAMIC a_METHOD_HANDLE a_FLOAT a_CLASS a_DYNAMIC cl_BY_TAG hE
    · have e : (own_tab a_UTF8 a_INTEGER a_FLOAT a_LONG a_DOUBLE a_CLASS a_STRING a_FIELDREF a_METHODREF a_INTERFACE_METHODREF a_NAME_AND_TYPE a_METHOD_HANDLE a_METHOD_TYPE a_DYNAMIC a_INVOKE_DYNAMIC a_MODULE a_PACKAGE (12 : Int32)) = (.ref a_NAME_AND_TYPE) := by simp [own_tab]
      rw [e]
      exact own_of_12 l Z a0 hw h0 a_BY_TAG a_METHOD_TYPE a_FIELDREF a_DOUBLE a_STRING a_NAME_AND_TYPE a_UTF8 a_INTEGER a_MODULE a_METHODREF a_INTERFACE_METHODREF a_LONG a_PACKAGE a_INVOKE_DYNAMIC a_METHOD_HANDLE a_FLOAT a_CLASS a_DYNAMIC cl_BY_TAG hE
    · have e : (own_tab a_UTF8 a_INTEGER a_FLOAT a_LONG a_DOUBLE a_CLASS a_STRING a_FIELDREF a_METHODREF a_INTERFACE_METHODREF a_NAME_AND_TYPE a_METHOD_HANDLE a_METHOD_TYPE a_DYNAMIC a_INVOKE_DYNAMIC a_MODULE a_PACKAGE (13 : Int32)) = .null := by simp [own_tab]
      rw [e]
      exact own_of_13 l Z a0 hw h0 a_BY_TAG a_METHOD_TYPE a_FIELDREF a_DOUBLE a_STRING a_NAME_AND_TYPE a_UTF8 a_INTEGER a_MODULE a_METHODREF a_INTERFACE_METHODREF a_LONG a_PACKAGE a_INVOKE_DYNAMIC a_METHOD_HANDLE a_FLOAT a_CLASS a_DYNAMIC cl_BY_TAG hE
    · have e : (own_tab a_UTF8 a_INTEGER a_FLOAT a_LONG a_DOUBLE a_CLASS a_STRING a_FIELDREF a_METHODREF a_INTERFACE_METHODREF a_NAME_AND_TYPE a_METHOD_HANDLE a_METHOD_TYPE a_DYNAMIC a_INVOKE_DYNAMIC a_MODULE a_PACKAGE (14 : Int32)) = .null := by simp [own_tab]
      rw [e]
      exact own_of_14 l Z a0 hw h0 a_BY_TAG a_METHOD_TYPE a_FIELDREF a_DOUBLE a_STRING a_NAME_AND_TYPE a_UTF8 a_INTEGER a_MODULE a_METHODREF a_INTERFACE_METHODREF a_LONG a_PACKAGE a_INVOKE_DYNAMIC a_METHOD_HANDLE a_FLOAT a_CLASS a_DYNAMIC cl_BY_TAG hE
    · have e : (own_tab a_UTF8 a_INTEGER a_FLOAT a_LONG a_DOUBLE a_CLASS a_STRING a_FIELDREF a_METHODREF a_INTERFACE_METHODREF a_NAME_AND_TYPE a_METHOD_HANDLE a_METHOD_TYPE a_DYNAMIC a_INVOKE_DYNAMIC a_MODULE a_PACKAGE (15 : Int32)) = (.ref a_METHOD_HANDLE) := by simp [own_tab]
      rw [e]
      exact own_of_15 l Z a0 hw h0 a_BY_TAG a_METHOD_TYPE a_FIELDREF a_DOUBLE a_STRING a_NAME_AND_TYPE a_UTF8 a_INTEGER a_MODULE a_METHODREF a_INTERFACE_METHODREF a_LONG a_PACKAGE a_INVOKE_DYNAMIC a_METHOD_HANDLE a_FLOAT a_CLASS a_DYNAMIC cl_BY_TAG hE
    · have e : (own_tab a_UTF8 a_INTEGER a_FLOAT a_LONG a_DOUBLE a_CLASS a_STRING a_FIELDREF a_METHODREF a_INTERFACE_METHODREF a_NAME_AND_TYPE a_METHOD_HANDLE a_METHOD_TYPE a_DYNAMIC a_INVOKE_DYNAMIC a_MODULE a_PACKAGE (16 : Int32)) = (.ref a_METHOD_TYPE) := by simp [own_tab]
      rw [e]
      exact own_of_16 l Z a0 hw h0 a_BY_TAG a_METHOD_TYPE a_FIELDREF a_DOUBLE a_STRING a_NAME_AND_TYPE a_UTF8 a_INTEGER a_MODULE a_METHODREF a_INTERFACE_METHODREF a_LONG a_PACKAGE a_INVOKE_DYNAMIC a_METHOD_HANDLE a_FLOAT a_CLASS a_DYNAMIC cl_BY_TAG hE
    · have e : (own_tab a_UTF8 a_INTEGER a_FLOAT a_LONG a_DOUBLE a_CLASS a_STRING a_FIELDREF a_METHODREF a_INTERFACE_METHODREF a_NAME_AND_TYPE a_METHOD_HANDLE a_METHOD_TYPE a_DYNAMIC a_INVOKE_DYNAMIC a_MODULE a_PACKAGE (17 : Int32)) = (.ref a_DYNAMIC) := by simp [own_tab]
      rw [e]
      exact own_of_17 l Z a0 hw h0 a_BY_TAG a_METHOD_TYPE a_FIELDREF a_DOUBLE a_STRING a_NAME_AND_TYPE a_UTF8 a_INTEGER a_MODULE a_METHODREF a_INTERFACE_METHODREF a_LONG a_PACKAGE a_INVOKE_DYNAMIC a_METHOD_HANDLE a_FLOAT a_CLASS a_DYNAMIC cl_BY_TAG hE
    · have e : (own_tab a_UTF8 a_INTEGER a_FLOAT a_LONG a_DOUBLE a_CLASS a_STRING a_FIELDREF a_METHODREF a_INTERFACE_METHODREF a_NAME_AND_TYPE a_METHOD_HANDLE a_METHOD_TYPE a_DYNAMIC a_INVOKE_DYNAMIC a_MODULE a_PACKAGE (18 : Int32)) = (.ref a_INVOKE_DYNAMIC) := by simp [own_tab]
      rw [e]
      exact own_of_18 l Z a0 hw h0 a_BY_TAG a_METHOD_TYPE a_FIELDREF a_DOUBLE a_STRING a_NAME_AND_TYPE a_UTF8 a_INTEGER a_MODULE a_METHODREF a_INTERFACE_METHODREF a_LONG a_PACKAGE a_INVOKE_DYNAMIC a_METHOD_HANDLE a_FLOAT a_CLASS a_DYNAMIC cl_BY_TAG hE
    · have e : (own_tab a_UTF8 a_INTEGER a_FLOAT a_LONG a_DOUBLE a_CLASS a_STRING a_FIELDREF a_METHODREF a_INTERFACE_METHODREF a_NAME_AND_TYPE a_METHOD_HANDLE a_METHOD_TYPE a_DYNAMIC a_INVOKE_DYNAMIC a_MODULE a_PACKAGE (19 : Int32)) = (.ref a_MODULE) := by simp [own_tab]
      rw [e]
      exact own_of_19 l Z a0 hw h0 a_BY_TAG a_METHOD_TYPE a_FIELDREF a_DOUBLE a_STRING a_NAME_AND_TYPE a_UTF8 a_INTEGER a_MODULE a_METHODREF a_INTERFACE_METHODREF a_LONG a_PACKAGE a_INVOKE_DYNAMIC a_METHOD_HANDLE a_FLOAT a_CLASS a_DYNAMIC cl_BY_TAG hE
    · have e : (own_tab a_UTF8 a_INTEGER a_FLOAT a_LONG a_DOUBLE a_CLASS a_STRING a_FIELDREF a_METHODREF a_INTERFACE_METHODREF a_NAME_AND_TYPE a_METHOD_HANDLE a_METHOD_TYPE a_DYNAMIC a_INVOKE_DYNAMIC a_MODULE a_PACKAGE (20 : Int32)) = (.ref a_PACKAGE) := by simp [own_tab]
      rw [e]
      exact own_of_20 l Z a0 hw h0 a_BY_TAG a_METHOD_TYPE a_FIELDREF a_DOUBLE a_STRING a_NAME_AND_TYPE a_UTF8 a_INTEGER a_MODULE a_METHODREF a_INTERFACE_METHODREF a_LONG a_PACKAGE a_INVOKE_DYNAMIC a_METHOD_HANDLE a_FLOAT a_CLASS a_DYNAMIC cl_BY_TAG hE
  · have e : (own_tab a_UTF8 a_INTEGER a_FLOAT a_LONG a_DOUBLE a_CLASS a_STRING a_FIELDREF a_METHODREF a_INTERFACE_METHODREF a_NAME_AND_TYPE a_METHOD_HANDLE a_METHOD_TYPE a_DYNAMIC a_INVOKE_DYNAMIC a_MODULE a_PACKAGE i) = .null := by
      have q : ∀ k : Int32, 0 ≤ k.toInt → k.toInt < 21 → i ≠ k := fun k q1 q2 q3 => by subst q3; rw [Int32.lt_iff_toInt_lt] at f2; have e0 : (0 : Int32).toInt = 0 := rfl; have e21 : (21 : Int32).toInt = 21 := rfl; omega
      simp [own_tab, q (1 : Int32) (by decide) (by decide), q (3 : Int32) (by decide) (by decide), q (4 : Int32) (by decide) (by decide), q (5 : Int32) (by decide) (by decide), q (6 : Int32) (by decide) (by decide), q (7 : Int32) (by decide) (by decide), q (8 : Int32) (by decide) (by decide), q (9 : Int32) (by decide) (by decide), q (10 : Int32) (by decide) (by decide), q (11 : Int32) (by decide) (by decide), q (12 : Int32) (by decide) (by decide), q (15 : Int32) (by decide) (by decide), q (16 : Int32) (by decide) (by decide), q (17 : Int32) (by decide) (by decide), q (18 : Int32) (by decide) (by decide), q (19 : Int32) (by decide) (by decide), q (20 : Int32) (by decide) (by decide)]
    rw [e]
    exact own_of_big l Z a0 hw h0 a_BY_TAG a_METHOD_TYPE a_FIELDREF a_DOUBLE a_STRING a_NAME_AND_TYPE a_UTF8 a_INTEGER a_MODULE a_METHODREF a_INTERFACE_METHODREF a_LONG a_PACKAGE a_INVOKE_DYNAMIC a_METHOD_HANDLE a_FLOAT a_CLASS a_DYNAMIC cl_BY_TAG hE i f0 f2
set_option maxRecDepth 65536 in
set_option maxHeartbeats 40000000 in
theorem own_expected (l : Launch) (Z : State) (a0 : Array Value) (hw : ∀ d ∈ tables_1, d.before a0 Z = true) (h0 : Heap) (a_BY_TAG : Addr) (a_METHOD_TYPE : Addr) (a_FIELDREF : Addr) (a_DOUBLE : Addr) (a_STRING : Addr) (a_NAME_AND_TYPE : Addr) (a_UTF8 : Addr) (a_INTEGER : Addr) (a_MODULE : Addr) (a_METHODREF : Addr) (a_INTERFACE_METHODREF : Addr) (a_LONG : Addr) (a_PACKAGE : Addr) (a_INVOKE_DYNAMIC : Addr) (a_METHOD_HANDLE : Addr) (a_FLOAT : Addr) (a_CLASS : Addr) (a_DYNAMIC : Addr) (cl_BY_TAG : Cell) (hE : own_E Z h0 a_BY_TAG a_METHOD_TYPE a_FIELDREF a_DOUBLE a_STRING a_NAME_AND_TYPE a_UTF8 a_INTEGER a_MODULE a_METHODREF a_INTERFACE_METHODREF a_LONG a_PACKAGE a_INVOKE_DYNAMIC a_METHOD_HANDLE a_FLOAT a_CLASS a_DYNAMIC cl_BY_TAG) (i : Int32) :
    own_Pure l Z h0 [] ({ frames := 0, cells := 0, slots := 0, locals := 0 } : Room) (⟨"com/example/veritype/veritype/model/ConstantKindOfTagPinLaw", "expected", "(I)Lcom/example/veritype/veritype/model/ConstantKind;"⟩ : MethodName) method_2_code 1 (some (.object "com/example/veritype/veritype/model/ConstantKind")) #[(.int i)] (some (own_tab a_UTF8 a_INTEGER a_FLOAT a_LONG a_DOUBLE a_CLASS a_STRING a_FIELDREF a_METHODREF a_INTERFACE_METHODREF a_NAME_AND_TYPE a_METHOD_HANDLE a_METHOD_TYPE a_DYNAMIC a_INVOKE_DYNAMIC a_MODULE a_PACKAGE i)) := by
  refine own_body (plainFor_of_name own_pn_1) ?_
  intro p e s m below meth c T0 X0 hx hby hml hown hZ e0 hret hlk hnm hnamed
  replace hown : s.vm.findClass "com/example/veritype/veritype/model/ConstantKindOfTagPinLaw" = some m.cls := hown
  replace hml : c.maxLocals = 1 := hml
  have ef : entryFrame m #[(.int i)] 1 = mkF m 0 #[.val (.int i)] [] := by first | (simp [entryFrame, mkF, argsToLocals, Value.category]; done) | rfl
  rw [ef]
  have S_METHOD_TYPE := own_p_S_METHOD_TYPE hE
  have S_FIELDREF := own_p_S_FIELDREF hE
  have S_DOUBLE := own_p_S_DOUBLE hE
  have S_STRING := own_p_S_STRING hE
  have S_NAME_AND_TYPE := own_p_S_NAME_AND_TYPE hE
  have S_UTF8 := own_p_S_UTF8 hE
  have S_INTEGER := own_p_S_INTEGER hE
  have S_MODULE := own_p_S_MODULE hE
  have S_METHODREF := own_p_S_METHODREF hE
  have S_INTERFACE_METHODREF := own_p_S_INTERFACE_METHODREF hE
  have S_LONG := own_p_S_LONG hE
  have S_PACKAGE := own_p_S_PACKAGE hE
  have S_INVOKE_DYNAMIC := own_p_S_INVOKE_DYNAMIC hE
  have S_METHOD_HANDLE := own_p_S_METHOD_HANDLE hE
  have S_FLOAT := own_p_S_FLOAT hE
  have S_CLASS := own_p_S_CLASS hE
  have S_DYNAMIC := own_p_S_DYNAMIC hE
  refine own_st (T' := T0) (g' := (mkF m 1 #[.val (.int i)] [(.int i)])) (fun _ k => XS.iloadN X0.here hx rfl (hb hby own_d_method_2_code_0) rfl k) ?_
  refine own_st (T' := T0) (g' := (mkF m 2 #[.val (.int i)] [(.int (1 : Int32)), (.int i)])) (fun _ k => XS.iconst X0.here hx rfl (hb hby own_d_method_2_code_1) k) ?_
  by_cases hc2_1 : i = (1 : Int32)
  ·
    refine own_st (T' := T0) (g' := (mkF m 5 #[.val (.int i)] [])) (fun _ k => XS.icmpNo X0.here hx rfl (hb hby own_d_method_2_code_2) rfl (teq hc2_1).2 k) ?_
    obtain ⟨T2, X2, e2, st2⟩ := getS2 X0 hx hZ hown (host := "") (Or.inl (hw _ (List.mem_of_getElem? (i := 21) rfl))) Via.refl e0 S_UTF8 (g := (mkF m 5 #[.val (.int i)] [])) rfl (hb hby own_d_method_2_code_5)
    refine own_st (T' := T2) (g' := (mkF m 8 #[.val (.int i)] [(.ref a_UTF8)])) st2 ?_
    exact own_ret X2 hx hlk hret rfl (Or.inr (Or.inr (Or.inr (Or.inr ⟨rfl, rfl, rfl⟩)))) (hb hby own_d_method_2_code_8) (by decide) (by decide) ⟨(by rw [hc2_1]; simp [own_tab]), rfl, e2⟩
  ·
    refine own_st (T' := T0) (g' := (mkF m 9 #[.val (.int i)] [])) (fun _ k => XS.icmpYes X0.here hx rfl (pc0 := 2) (pc' := 9) rfl (hb hby own_d_method_2_code_2) rfl (feq hc2_1).2 (by decide) (by decide) k) ?_
    refine own_st (T' := T0) (g' := (mkF m 10 #[.val (.int i)] [(.int i)])) (fun _ k => XS.iloadN X0.here hx rfl (hb hby own_d_method_2_code_9) rfl k) ?_
    refine own_st (T' := T0) (g' := (mkF m 11 #[.val (.int i)] [(.int (3 : Int32)), (.int i)])) (fun _ k => XS.iconst X0.here hx rfl (hb hby own_d_method_2_code_10) k) ?_
    by_cases hc11_3 : i = (3 : Int32)
    ·
      refine own_st (T' := T0) (g' := (mkF m 14 #[.val (.int i)] [])) (fun _ k => XS.icmpNo X0.here hx rfl (hb hby own_d_method_2_code_11) rfl (teq hc11_3).2 k) ?_
      obtain ⟨T4, X4, e4, st4⟩ := getS2 X0 hx hZ hown (host := "") (Or.inl (hw _ (List.mem_of_getElem? (i := 23) rfl))) Via.refl e0 S_INTEGER (g := (mkF m 14 #[.val (.int i)] [])) rfl (hb hby own_d_method_2_code_14)
      refine own_st (T' := T4) (g' := (mkF m 17 #[.val (.int i)] [(.ref a_INTEGER)])) st4 ?_
      exact own_ret X4 hx hlk hret rfl (Or.inr (Or.inr (Or.inr (Or.inr ⟨rfl, rfl, rfl⟩)))) (hb hby own_d_method_2_code_17) (by decide) (by decide) ⟨(by rw [hc11_3]; simp [own_tab]), rfl, e4⟩
    ·
      refine own_st (T' := T0) (g' := (mkF m 18 #[.val (.int i)] [])) (fun _ k => XS.icmpYes X0.here hx rfl (pc0 := 11) (pc' := 18) rfl (hb hby own_d_method_2_code_11) rfl (feq hc11_3).2 (by decide) (by decide) k) ?_
      refine own_st (T' := T0) (g' := (mkF m 19 #[.val (.int i)] [(.int i)])) (fun _ k => XS.iloadN X0.here hx rfl (hb hby own_d_method_2_code_18) rfl k) ?_
      refine own_st (T' := T0) (g' := (mkF m 20 #[.val (.int i)] [(.int (4 : Int32)), (.int i)])) (fun _ k => XS.iconst X0.here hx rfl (hb hby own_d_method_2_code_19) k) ?_
      by_cases hc20_5 : i = (4 : Int32)
      ·
        refine own_st (T' := T0) (g' := (mkF m 23 #[.val (.int i)] [])) (fun _ k => XS.icmpNo X0.here hx rfl (hb hby own_d_method_2_code_20) rfl (teq hc20_5).2 k) ?_
        obtain ⟨T6, X6, e6, st6⟩ := getS2 X0 hx hZ hown (host := "") (Or.inl (hw _ (List.mem_of_getElem? (i := 39) rfl))) Via.refl e0 S_FLOAT (g := (mkF m 23 #[.val (.int i)] [])) rfl (hb hby own_d_method_2_code_23)
        refine own_st (T' := T6) (g' := (mkF m 26 #[.val (.int i)] [(.ref a_FLOAT)])) st6 ?_
        exact own_ret X6 hx hlk hret rfl (Or.inr (Or.inr (Or.inr (Or.inr ⟨rfl, rfl, rfl⟩)))) (hb hby own_d_method_2_code_26) (by decide) (by decide) ⟨(by rw [hc20_5]; simp [own_tab]), rfl, e6⟩
      ·
        refine own_st (T' := T0) (g' := (mkF m 27 #[.val (.int i)] [])) (fun _ k => XS.icmpYes X0.here hx rfl (pc0 := 20) (pc' := 27) rfl (hb hby own_d_method_2_code_20) rfl (feq hc20_5).2 (by decide) (by decide) k) ?_
        refine own_st (T' := T0) (g' := (mkF m 28 #[.val (.int i)] [(.int i)])) (fun _ k => XS.iloadN X0.here hx rfl (hb hby own_d_method_2_code_27) rfl k) ?_
        refine own_st (T' := T0) (g' := (mkF m 29 #[.val (.int i)] [(.int (5 : Int32)), (.int i)])) (fun _ k => XS.iconst X0.here hx rfl (hb hby own_d_method_2_code_28) k) ?_
        by_cases hc29_7 : i = (5 : Int32)
        ·
          refine own_st (T' := T0) (g' := (mkF m 32 #[.val (.int i)] [])) (fun _ k => XS.icmpNo X0.here hx rfl (hb hby own_d_method_2_code_29) rfl (teq hc29_7).2 k) ?_
          obtain ⟨T8, X8, e8, st8⟩ := getS2 X0 hx hZ hown (host := "") (Or.inl (hw _ (List.mem_of_getElem? (i := 31) rfl))) Via.refl e0 S_LONG (g := (mkF m 32 #[.val (.int i)] [])) rfl (hb hby own_d_method_2_code_32)
          refine own_st (T' := T8) (g' := (mkF m 35 #[.val (.int i)] [(.ref a_LONG)])) st8 ?_
          exact own_ret X8 hx hlk hret rfl (Or.inr (Or.inr (Or.inr (Or.inr ⟨rfl, rfl, rfl⟩)))) (hb hby own_d_method_2_code_35) (by decide) (by decide) ⟨(by rw [hc29_7]; simp [own_tab]), rfl, e8⟩
        ·
          refine own_st (T' := T0) (g' := (mkF m 36 #[.val (.int i)] [])) (fun _ k => XS.icmpYes X0.here hx rfl (pc0 := 29) (pc' := 36) rfl (hb hby own_d_method_2_code_29) rfl (feq hc29_7).2 (by decide) (by decide) k) ?_
          refine own_st (T' := T0) (g' := (mkF m 37 #[.val (.int i)] [(.int i)])) (fun _ k => XS.iloadN X0.here hx rfl (hb hby own_d_method_2_code_36) rfl k) ?_
          refine own_st (T' := T0) (g' := (mkF m 39 #[.val (.int i)] [(.int (6 : Int32)), (.int i)])) (fun _ k => XS.bipush X0.here hx rfl (hb hby own_d_method_2_code_37) k) ?_
          by_cases hc39_9 : i = (6 : Int32)
          ·
            refine own_st (T' := T0) (g' := (mkF m 42 #[.val (.int i)] [])) (fun _ k => XS.icmpNo X0.here hx rfl (hb hby own_d_method_2_code_39) rfl (teq hc39_9).2 k) ?_
            obtain ⟨T10, X10, e10, st10⟩ := getS2 X0 hx hZ hown (host := "") (Or.inl (hw _ (List.mem_of_getElem? (i := 15) rfl))) Via.refl e0 S_DOUBLE (g := (mkF m 42 #[.val (.int i)] [])) rfl (hb hby own_d_method_2_code_42)
            refine own_st (T' := T10) (g' := (mkF m 45 #[.val (.int i)] [(.ref a_DOUBLE)])) st10 ?_
            exact own_ret X10 hx hlk hret rfl (Or.inr (Or.inr (Or.inr (Or.inr ⟨rfl, rfl, rfl⟩)))) (hb hby own_d_method_2_code_45) (by decide) (by decide) ⟨(by rw [hc39_9]; simp [own_tab]), rfl, e10⟩
          ·
            refine own_st (T' := T0) (g' := (mkF m 46 #[.val (.int i)] [])) (fun _ k => XS.icmpYes X0.here hx rfl (pc0 := 39) (pc' := 46) rfl (hb hby own_d_method_2_code_39) rfl (feq hc39_9).2 (by decide) (by decide) k) ?_
            refine own_st (T' := T0) (g' := (mkF m 47 #[.val (.int i)] [(.int i)])) (fun _ k => XS.iloadN X0.here hx rfl (hb hby own_d_method_2_code_46) rfl k) ?_
            refine own_st (T' := T0) (g' := (mkF m 49 #[.val (.int i)] [(.int (7 : Int32)), (.int i)])) (fun _ k => XS.bipush X0.here hx rfl (hb hby own_d_method_2_code_47) k) ?_
            by_cases hc49_11 : i = (7 : Int32)
            ·
              refine own_st (T' := T0) (g' := (mkF m 52 #[.val (.int i)] [])) (fun _ k => XS.icmpNo X0.here hx rfl (hb hby own_d_method_2_code_49) rfl (teq hc49_11).2 k) ?_
              obtain ⟨T12, X12, e12, st12⟩ := getS2 X0 hx hZ hown (host := "") (Or.inl (hw _ (List.mem_of_getElem? (i := 41) rfl))) Via.refl e0 S_CLASS (g := (mkF m 52 #[.val (.int i)] [])) rfl (hb hby own_d_method_2_code_52)
              refine own_st (T' := T12) (g' := (mkF m 55 #[.val (.int i)] [(.ref a_CLASS)])) st12 ?_
              exact own_ret X12 hx hlk hret rfl (Or.inr (Or.inr (Or.inr (Or.inr ⟨rfl, rfl, rfl⟩)))) (hb hby own_d_method_2_code_55) (by decide) (by decide) ⟨(by rw [hc49_11]; simp [own_tab]), rfl, e12⟩
            ·
              refine own_st (T' := T0) (g' := (mkF m 56 #[.val (.int i)] [])) (fun _ k => XS.icmpYes X0.here hx rfl (pc0 := 49) (pc' := 56) rfl (hb hby own_d_method_2_code_49) rfl (feq hc49_11).2 (by decide) (by decide) k) ?_
              refine own_st (T' := T0) (g' := (mkF m 57 #[.val (.int i)] [(.int i)])) (fun _ k => XS.iloadN X0.here hx rfl (hb hby own_d_method_2_code_56) rfl k) ?_
              refine own_st (T' := T0) (g' := (mkF m 59 #[.val (.int i)] [(.int (8 : Int32)), (.int i)])) (fun _ k => XS.bipush X0.here hx rfl (hb hby own_d_method_2_code_57) k) ?_
              by_cases hc59_13 : i = (8 : Int32)
              ·
                refine own_st (T' := T0) (g' := (mkF m 62 #[.val (.int i)] [])) (fun _ k => XS.icmpNo X0.here hx rfl (hb hby own_d_method_2_code_59) rfl (teq hc59_13).2 k) ?_
                obtain ⟨T14, X14, e14, st14⟩ := getS2 X0 hx hZ hown (host := "") (Or.inl (hw _ (List.mem_of_getElem? (i := 17) rfl))) Via.refl e0 S_STRING (g := (mkF m 62 #[.val (.int i)] [])) rfl (hb hby own_d_method_2_code_62)
                refine own_st (T' := T14) (g' := (mkF m 65 #[.val (.int i)] [(.ref a_STRING)])) st14 ?_
                exact own_ret X14 hx hlk hret rfl (Or.inr (Or.inr (Or.inr (Or.inr ⟨rfl, rfl, rfl⟩)))) (hb hby own_d_method_2_code_65) (by decide) (by decide) ⟨(by rw [hc59_13]; simp [own_tab]), rfl, e14⟩
              ·
                refine own_st (T' := T0) (g' := (mkF m 66 #[.val (.int i)] [])) (fun _ k => XS.icmpYes X0.here hx rfl (pc0 := 59) (pc' := 66) rfl (hb hby own_d_method_2_code_59) rfl (feq hc59_13).2 (by decide) (by decide) k) ?_
                refine own_st (T' := T0) (g' := (mkF m 67 #[.val (.int i)] [(.int i)])) (fun _ k => XS.iloadN X0.here hx rfl (hb hby own_d_method_2_code_66) rfl k) ?_
                refine own_st (T' := T0) (g' := (mkF m 69 #[.val (.int i)] [(.int (9 : Int32)), (.int i)])) (fun _ k => XS.bipush X0.here hx rfl (hb hby own_d_method_2_code_67) k) ?_
                by_cases hc69_15 : i = (9 : Int32)
                ·
                  refine own_st (T' := T0) (g' := (mkF m 72 #[.val (.int i)] [])) (fun _ k => XS.icmpNo X0.here hx rfl (hb hby own_d_method_2_code_69) rfl (teq hc69_15).2 k) ?_
                  obtain ⟨T16, X16, e16, st16⟩ := getS2 X0 hx hZ hown (host := "") (Or.inl (hw _ (List.mem_of_getElem? (i := 13) rfl))) Via.refl e0 S_FIELDREF (g := (mkF m 72 #[.val (.int i)] [])) rfl (hb hby own_d_method_2_code_72)
                  refine own_st (T' := T16) (g' := (mkF m 75 #[.val (.int i)] [(.ref a_FIELDREF)])) st16 ?_
                  exact own_ret X16 hx hlk hret rfl (Or.inr (Or.inr (Or.inr (Or.inr ⟨rfl, rfl, rfl⟩)))) (hb hby own_d_method_2_code_75) (by decide) (by decide) ⟨(by rw [hc69_15]; simp [own_tab]), rfl, e16⟩
                ·
                  refine own_st (T' := T0) (g' := (mkF m 76 #[.val (.int i)] [])) (fun _ k => XS.icmpYes X0.here hx rfl (pc0 := 69) (pc' := 76) rfl (hb hby own_d_method_2_code_69) rfl (feq hc69_15).2 (by decide) (by decide) k) ?_
                  refine own_st (T' := T0) (g' := (mkF m 77 #[.val (.int i)] [(.int i)])) (fun _ k => XS.iloadN X0.here hx rfl (hb hby own_d_method_2_code_76) rfl k) ?_
                  refine own_st (T' := T0) (g' := (mkF m 79 #[.val (.int i)] [(.int (10 : Int32)), (.int i)])) (fun _ k => XS.bipush X0.here hx rfl (hb hby own_d_method_2_code_77) k) ?_
                  by_cases hc79_17 : i = (10 : Int32)
                  ·
                    refine own_st (T' := T0) (g' := (mkF m 82 #[.val (.int i)] [])) (fun _ k => XS.icmpNo X0.here hx rfl (hb hby own_d_method_2_code_79) rfl (teq hc79_17).2 k) ?_
                    obtain ⟨T18, X18, e18, st18⟩ := getS2 X0 hx hZ hown (host := "") (Or.inl (hw _ (List.mem_of_getElem? (i := 27) rfl))) Via.refl e0 S_METHODREF (g := (mkF m 82 #[.val (.int i)] [])) rfl (hb hby own_d_method_2_code_82)
                    refine own_st (T' := T18) (g' := (mkF m 85 #[.val (.int i)] [(.ref a_METHODREF)])) st18 ?_
                    exact own_ret X18 hx hlk hret rfl (Or.inr (Or.inr (Or.inr (Or.inr ⟨rfl, rfl, rfl⟩)))) (hb hby own_d_method_2_code_85) (by decide) (by decide) ⟨(by rw [hc79_17]; simp [own_tab]), rfl, e18⟩
                  ·
                    refine own_st (T' := T0) (g' := (mkF m 86 #[.val (.int i)] [])) (fun _ k => XS.icmpYes X0.here hx rfl (pc0 := 79) (pc' := 86) rfl (hb hby own_d_method_2_code_79) rfl (feq hc79_17).2 (by decide) (by decide) k) ?_
                    refine own_st (T' := T0) (g' := (mkF m 87 #[.val (.int i)] [(.int i)])) (fun _ k => XS.iloadN X0.here hx rfl (hb hby own_d_method_2_code_86) rfl k) ?_
                    refine own_st (T' := T0) (g' := (mkF m 89 #[.val (.int i)] [(.int (11 : Int32)), (.int i)])) (fun _ k => XS.bipush X0.here hx rfl (hb hby own_d_method_2_code_87) k) ?_
                    by_cases hc89_19 : i = (11 : Int32)
                    ·
                      refine own_st (T' := T0) (g' := (mkF m 92 #[.val (.int i)] [])) (fun _ k => XS.icmpNo X0.here hx rfl (hb hby own_d_method_2_code_89) rfl (teq hc89_19).2 k) ?_
                      obtain ⟨T20, X20, e20, st20⟩ := getS2 X0 hx hZ hown (host := "") (Or.inl (hw _ (List.mem_of_getElem? (i := 29) rfl))) Via.refl e0 S_INTERFACE_METHODREF (g := (mkF m 92 #[.val (.int i)] [])) rfl (hb hby own_d_method_2_code_92)
                      refine own_st (T' := T20) (g' := (mkF m 95 #[.val (.int i)] [(.ref a_INTERFACE_METHODREF)])) st20 ?_
                      exact own_ret X20 hx hlk hret rfl (Or.inr (Or.inr (Or.inr (Or.inr ⟨rfl, rfl, rfl⟩)))) (hb hby own_d_method_2_code_95) (by decide) (by decide) ⟨(by rw [hc89_19]; simp [own_tab]), rfl, e20⟩
                    ·
                      refine own_st (T' := T0) (g' := (mkF m 96 #[.val (.int i)] [])) (fun _ k => XS.icmpYes X0.here hx rfl (pc0 := 89) (pc' := 96) rfl (hb hby own_d_method_2_code_89) rfl (feq hc89_19).2 (by decide) (by decide) k) ?_
                      refine own_st (T' := T0) (g' := (mkF m 97 #[.val (.int i)] [(.int i)])) (fun _ k => XS.iloadN X0.here hx rfl (hb hby own_d_method_2_code_96) rfl k) ?_
                      refine own_st (T' := T0) (g' := (mkF m 99 #[.val (.int i)] [(.int (12 : Int32)), (.int i)])) (fun _ k => XS.bipush X0.here hx rfl (hb hby own_d_method_2_code_97) k) ?_
                      by_cases hc99_21 : i = (12 : Int32)
                      ·
                        refine own_st (T' := T0) (g' := (mkF m 102 #[.val (.int i)] [])) (fun _ k => XS.icmpNo X0.here hx rfl (hb hby own_d_method_2_code_99) rfl (teq hc99_21).2 k) ?_
                        obtain ⟨T22, X22, e22, st22⟩ := getS2 X0 hx hZ hown (host := "") (Or.inl (hw _ (List.mem_of_getElem? (i := 20) rfl))) Via.refl e0 S_NAME_AND_TYPE (g := (mkF m 102 #[.val (.int i)] [])) rfl (hb hby own_d_method_2_code_102)
                        refine own_st (T' := T22) (g' := (mkF m 105 #[.val (.int i)] [(.ref a_NAME_AND_TYPE)])) st22 ?_
                        exact own_ret X22 hx hlk hret rfl (Or.inr (Or.inr (Or.inr (Or.inr ⟨rfl, rfl, rfl⟩)))) (hb hby own_d_method_2_code_105) (by decide) (by decide) ⟨(by rw [hc99_21]; simp [own_tab]), rfl, e22⟩
                      ·
                        refine own_st (T' := T0) (g' := (mkF m 106 #[.val (.int i)] [])) (fun _ k => XS.icmpYes X0.here hx rfl (pc0 := 99) (pc' := 106) rfl (hb hby own_d_method_2_code_99) rfl (feq hc99_21).2 (by decide) (by decide) k) ?_
                        refine own_st (T' := T0) (g' := (mkF m 107 #[.val (.int i)] [(.int i)])) (fun _ k => XS.iloadN X0.here hx rfl (hb hby own_d_method_2_code_106) rfl k) ?_
                        refine own_st (T' := T0) (g' := (mkF m 109 #[.val (.int i)] [(.int (15 : Int32)), (.int i)])) (fun _ k => XS.bipush X0.here hx rfl (hb hby own_d_method_2_code_107) k) ?_
                        by_cases hc109_23 : i = (15 : Int32)
                        ·
                          refine own_st (T' := T0) (g' := (mkF m 112 #[.val (.int i)] [])) (fun _ k => XS.icmpNo X0.here hx rfl (hb hby own_d_method_2_code_109) rfl (teq hc109_23).2 k) ?_
                          obtain ⟨T24, X24, e24, st24⟩ := getS2 X0 hx hZ hown (host := "") (Or.inl (hw _ (List.mem_of_getElem? (i := 37) rfl))) Via.refl e0 S_METHOD_HANDLE (g := (mkF m 112 #[.val (.int i)] [])) rfl (hb hby own_d_method_2_code_112)
                          refine own_st (T' := T24) (g' := (mkF m 115 #[.val (.int i)] [(.ref a_METHOD_HANDLE)])) st24 ?_
                          exact own_ret X24 hx hlk hret rfl (Or.inr (Or.inr (Or.inr (Or.inr ⟨rfl, rfl, rfl⟩)))) (hb hby own_d_method_2_code_115) (by decide) (by decide) ⟨(by rw [hc109_23]; simp [own_tab]), rfl, e24⟩
                        ·
                          refine own_st (T' := T0) (g' := (mkF m 116 #[.val (.int i)] [])) (fun _ k => XS.icmpYes X0.here hx rfl (pc0 := 109) (pc' := 116) rfl (hb hby own_d_method_2_code_109) rfl (feq hc109_23).2 (by decide) (by decide) k) ?_
                          refine own_st (T' := T0) (g' := (mkF m 117 #[.val (.int i)] [(.int i)])) (fun _ k => XS.iloadN X0.here hx rfl (hb hby own_d_method_2_code_116) rfl k) ?_
                          refine own_st (T' := T0) (g' := (mkF m 119 #[.val (.int i)] [(.int (16 : Int32)), (.int i)])) (fun _ k => XS.bipush X0.here hx rfl (hb hby own_d_method_2_code_117) k) ?_
                          by_cases hc119_25 : i = (16 : Int32)
                          ·
                            refine own_st (T' := T0) (g' := (mkF m 122 #[.val (.int i)] [])) (fun _ k => XS.icmpNo X0.here hx rfl (hb hby own_d_method_2_code_119) rfl (teq hc119_25).2 k) ?_
                            obtain ⟨T26, X26, e26, st26⟩ := getS2 X0 hx hZ hown (host := "") (Or.inl (hw _ (List.mem_of_getElem? (i := 11) rfl))) Via.refl e0 S_METHOD_TYPE (g := (mkF m 122 #[.val (.int i)] [])) rfl (hb hby own_d_method_2_code_122)
                            refine own_st (T' := T26) (g' := (mkF m 125 #[.val (.int i)] [(.ref a_METHOD_TYPE)])) st26 ?_
                            exact own_ret X26 hx hlk hret rfl (Or.inr (Or.inr (Or.inr (Or.inr ⟨rfl, rfl, rfl⟩)))) (hb hby own_d_method_2_code_125) (by decide) (by decide) ⟨(by rw [hc119_25]; simp [own_tab]), rfl, e26⟩
                          ·
                            refine own_st (T' := T0) (g' := (mkF m 126 #[.val (.int i)] [])) (fun _ k => XS.icmpYes X0.here hx rfl (pc0 := 119) (pc' := 126) rfl (hb hby own_d_method_2_code_119) rfl (feq hc119_25).2 (by decide) (by decide) k) ?_
                            refine own_st (T' := T0) (g' := (mkF m 127 #[.val (.int i)] [(.int i)])) (fun _ k => XS.iloadN X0.here hx rfl (hb hby own_d_method_2_code_126) rfl k) ?_
                            refine own_st (T' := T0) (g' := (mkF m 129 #[.val (.int i)] [(.int (17 : Int32)), (.int i)])) (fun _ k => XS.bipush X0.here hx rfl (hb hby own_d_method_2_code_127) k) ?_
                            by_cases hc129_27 : i = (17 : Int32)
                            ·
                              refine own_st (T' := T0) (g' := (mkF m 132 #[.val (.int i)] [])) (fun _ k => XS.icmpNo X0.here hx rfl (hb hby own_d_method_2_code_129) rfl (teq hc129_27).2 k) ?_
                              obtain ⟨T28, X28, e28, st28⟩ := getS2 X0 hx hZ hown (host := "") (Or.inl (hw _ (List.mem_of_getElem? (i := 43) rfl))) Via.refl e0 S_DYNAMIC (g := (mkF m 132 #[.val (.int i)] [])) rfl (hb hby own_d_method_2_code_132)
                              refine own_st (T' := T28) (g' := (mkF m 135 #[.val (.int i)] [(.ref a_DYNAMIC)])) st28 ?_
                              exact own_ret X28 hx hlk hret rfl (Or.inr (Or.inr (Or.inr (Or.inr ⟨rfl, rfl, rfl⟩)))) (hb hby own_d_method_2_code_135) (by decide) (by decide) ⟨(by rw [hc129_27]; simp [own_tab]), rfl, e28⟩
                            ·
                              refine own_st (T' := T0) (g' := (mkF m 136 #[.val (.int i)] [])) (fun _ k => XS.icmpYes X0.here hx rfl (pc0 := 129) (pc' := 136) rfl (hb hby own_d_method_2_code_129) rfl (feq hc129_27).2 (by decide) (by decide) k) ?_
                              refine own_st (T' := T0) (g' := (mkF m 137 #[.val (.int i)] [(.int i)])) (fun _ k => XS.iloadN X0.here hx rfl (hb hby own_d_method_2_code_136) rfl k) ?_
                              refine own_st (T' := T0) (g' := (mkF m 139 #[.val (.int i)] [(.int (18 : Int32)), (.int i)])) (fun _ k => XS.bipush X0.here hx rfl (hb hby own_d_method_2_code_137) k) ?_
                              by_cases hc139_29 : i = (18 : Int32)
                              ·
                                refine own_st (T' := T0) (g' := (mkF m 142 #[.val (.int i)] [])) (fun _ k => XS.icmpNo X0.here hx rfl (hb hby own_d_method_2_code_139) rfl (teq hc139_29).2 k) ?_
                                obtain ⟨T30, X30, e30, st30⟩ := getS2 X0 hx hZ hown (host := "") (Or.inl (hw _ (List.mem_of_getElem? (i := 35) rfl))) Via.refl e0 S_INVOKE_DYNAMIC (g := (mkF m 142 #[.val (.int i)] [])) rfl (hb hby own_d_method_2_code_142)
                                refine own_st (T' := T30) (g' := (mkF m 145 #[.val (.int i)] [(.ref a_INVOKE_DYNAMIC)])) st30 ?_
                                exact own_ret X30 hx hlk hret rfl (Or.inr (Or.inr (Or.inr (Or.inr ⟨rfl, rfl, rfl⟩)))) (hb hby own_d_method_2_code_145) (by decide) (by decide) ⟨(by rw [hc139_29]; simp [own_tab]), rfl, e30⟩
                              ·
                                refine own_st (T' := T0) (g' := (mkF m 146 #[.val (.int i)] [])) (fun _ k => XS.icmpYes X0.here hx rfl (pc0 := 139) (pc' := 146) rfl (hb hby own_d_method_2_code_139) rfl (feq hc139_29).2 (by decide) (by decide) k) ?_
                                refine own_st (T' := T0) (g' := (mkF m 147 #[.val (.int i)] [(.int i)])) (fun _ k => XS.iloadN X0.here hx rfl (hb hby own_d_method_2_code_146) rfl k) ?_
                                refine own_st (T' := T0) (g' := (mkF m 149 #[.val (.int i)] [(.int (19 : Int32)), (.int i)])) (fun _ k => XS.bipush X0.here hx rfl (hb hby own_d_method_2_code_147) k) ?_
                                by_cases hc149_31 : i = (19 : Int32)
                                ·
                                  refine own_st (T' := T0) (g' := (mkF m 152 #[.val (.int i)] [])) (fun _ k => XS.icmpNo X0.here hx rfl (hb hby own_d_method_2_code_149) rfl (teq hc149_31).2 k) ?_
                                  obtain ⟨T32, X32, e32, st32⟩ := getS2 X0 hx hZ hown (host := "") (Or.inl (hw _ (List.mem_of_getElem? (i := 25) rfl))) Via.refl e0 S_MODULE (g := (mkF m 152 #[.val (.int i)] [])) rfl (hb hby own_d_method_2_code_152)
                                  refine own_st (T' := T32) (g' := (mkF m 155 #[.val (.int i)] [(.ref a_MODULE)])) st32 ?_
                                  exact own_ret X32 hx hlk hret rfl (Or.inr (Or.inr (Or.inr (Or.inr ⟨rfl, rfl, rfl⟩)))) (hb hby own_d_method_2_code_155) (by decide) (by decide) ⟨(by rw [hc149_31]; simp [own_tab]), rfl, e32⟩
                                ·
                                  refine own_st (T' := T0) (g' := (mkF m 156 #[.val (.int i)] [])) (fun _ k => XS.icmpYes X0.here hx rfl (pc0 := 149) (pc' := 156) rfl (hb hby own_d_method_2_code_149) rfl (feq hc149_31).2 (by decide) (by decide) k) ?_
                                  refine own_st (T' := T0) (g' := (mkF m 157 #[.val (.int i)] [(.int i)])) (fun _ k => XS.iloadN X0.here hx rfl (hb hby own_d_method_2_code_156) rfl k) ?_
                                  refine own_st (T' := T0) (g' := (mkF m 159 #[.val (.int i)] [(.int (20 : Int32)), (.int i)])) (fun _ k => XS.bipush X0.here hx rfl (hb hby own_d_method_2_code_157) k) ?_
                                  by_cases hc159_33 : i = (20 : Int32)
                                  ·
                                    refine own_st (T' := T0) (g' := (mkF m 162 #[.val (.int i)] [])) (fun _ k => XS.icmpNo X0.here hx rfl (hb hby own_d_method_2_code_159) rfl (teq hc159_33).2 k) ?_
                                    obtain ⟨T34, X34, e34, st34⟩ := getS2 X0 hx hZ hown (host := "") (Or.inl (hw _ (List.mem_of_getElem? (i := 33) rfl))) Via.refl e0 S_PACKAGE (g := (mkF m 162 #[.val (.int i)] [])) rfl (hb hby own_d_method_2_code_162)
                                    refine own_st (T' := T34) (g' := (mkF m 165 #[.val (.int i)] [(.ref a_PACKAGE)])) st34 ?_
                                    exact own_ret X34 hx hlk hret rfl (Or.inr (Or.inr (Or.inr (Or.inr ⟨rfl, rfl, rfl⟩)))) (hb hby own_d_method_2_code_165) (by decide) (by decide) ⟨(by rw [hc159_33]; simp [own_tab]), rfl, e34⟩
                                  ·
                                    refine own_st (T' := T0) (g' := (mkF m 166 #[.val (.int i)] [])) (fun _ k => XS.icmpYes X0.here hx rfl (pc0 := 159) (pc' := 166) rfl (hb hby own_d_method_2_code_159) rfl (feq hc159_33).2 (by decide) (by decide) k) ?_
                                    refine own_st (T' := T0) (g' := (mkF m 167 #[.val (.int i)] [.null])) (fun _ k => XS.aconstNull X0.here hx rfl (hb hby own_d_method_2_code_166) k) ?_
                                    exact own_ret X0 hx hlk hret rfl (Or.inr (Or.inr (Or.inr (Or.inr ⟨rfl, rfl, rfl⟩)))) (hb hby own_d_method_2_code_167) (by decide) (by decide) ⟨(by simp [own_tab, hc2_1, hc11_3, hc20_5, hc29_7, hc39_9, hc49_11, hc59_13, hc69_15, hc79_17, hc89_19, hc99_21, hc109_23, hc119_25, hc129_27, hc139_29, hc149_31, hc159_33]), rfl, e0⟩
set_option maxRecDepth 65536 in
set_option maxHeartbeats 40000000 in
theorem own_lawP (l : Launch) (Z : State) (a0 : Array Value) (hw : ∀ d ∈ tables_1, d.before a0 Z = true) (h0 : Heap) (a_BY_TAG : Addr) (a_METHOD_TYPE : Addr) (a_FIELDREF : Addr) (a_DOUBLE : Addr) (a_STRING : Addr) (a_NAME_AND_TYPE : Addr) (a_UTF8 : Addr) (a_INTEGER : Addr) (a_MODULE : Addr) (a_METHODREF : Addr) (a_INTERFACE_METHODREF : Addr) (a_LONG : Addr) (a_PACKAGE : Addr) (a_INVOKE_DYNAMIC : Addr) (a_METHOD_HANDLE : Addr) (a_FLOAT : Addr) (a_CLASS : Addr) (a_DYNAMIC : Addr) (cl_BY_TAG : Cell) (hE : own_E Z h0 a_BY_TAG a_METHOD_TYPE a_FIELDREF a_DOUBLE a_STRING a_NAME_AND_TYPE a_UTF8 a_INTEGER a_MODULE a_METHODREF a_INTERFACE_METHODREF a_LONG a_PACKAGE a_INVOKE_DYNAMIC a_METHOD_HANDLE a_FLOAT a_CLASS a_DYNAMIC cl_BY_TAG) (i j : Int32) :
    own_Pure l Z h0 tables_1 room_1 x code maxLocals ret #[(.int i), (.int j)] (some (.int (1 : Int32))) := by
  refine own_body (plainFor_of_name own_pn_1) ?_
  intro p e s m below meth c T0 X0 hx hby hml hown hZ e0 hret hlk hnm hnamed
  replace hown : s.vm.findClass "com/example/veritype/veritype/model/ConstantKindOfTagPinLaw" = some m.cls := hown
  replace hml : c.maxLocals = 5 := hml
  have ef : entryFrame m #[(.int i), (.int j)] maxLocals = mkF m 0 #[.val (.int i), .val (.int j), .unset, .unset, .unset] [] := by first | (simp [entryFrame, mkF, argsToLocals, Value.category, maxLocals]; done) | rfl
  rw [ef]
  refine own_st (T' := T0) (g' := (mkF m 1 #[.val (.int i), .val (.int j), .unset, .unset, .unset] [(.int j)])) (fun _ k => XS.iloadN X0.here hx rfl (hb hby at_0) rfl k) ?_
  refine own_st (T' := T0) (g' := (mkF m 3 #[.val (.int i), .val (.int j), .unset, .unset, .unset] [(.int (31 : Int32)), (.int j)])) (fun _ k => XS.bipush X0.here hx rfl (hb hby at_1) k) ?_
  refine own_st (T' := T0) (g' := (mkF m 4 #[.val (.int i), .val (.int j), .unset, .unset, .unset] [(.int (j &&& (31 : Int32)))])) (fun _ k => XS.iand X0.here hx rfl (hb hby at_3) rfl k) ?_
  refine own_st (T' := T0) (g' := (mkF m 5 #[.val (.int i), .val (.int j), .unset, .unset, .unset] [(.int (4 : Int32)), (.int (j &&& (31 : Int32)))])) (fun _ k => XS.iconst X0.here hx rfl (hb hby at_4) k) ?_
  refine own_st (T' := T0) (g' := (mkF m 6 #[.val (.int i), .val (.int j), .unset, .unset, .unset] [(.int ((j &&& (31 : Int32)) - (4 : Int32)))])) (fun _ k => XS.isub X0.here hx rfl (hb hby at_5) rfl k) ?_
  refine own_st (T' := T0) (g' := (mkF m 7 #[.val (.int i), .val (.int j), .val (.int ((j &&& (31 : Int32)) - (4 : Int32))), .unset, .unset] [])) (fun _ k => XS.istoreN X0.here hx rfl (hb hby at_6) rfl (l' := #[.val (.int i), .val (.int j), .val (.int ((j &&& (31 : Int32)) - (4 : Int32))), .unset, .unset]) rfl k) ?_
  refine own_st (T' := T0) (g' := (mkF m 8 #[.val (.int i), .val (.int j), .val (.int ((j &&& (31 : Int32)) - (4 : Int32))), .unset, .unset] [(.int i)])) (fun _ k => XS.iloadN X0.here hx rfl (hb hby at_7) rfl k) ?_
  obtain ⟨T1, X1, e1, st1⟩ := own_pure (w := (own_tab a_UTF8 a_INTEGER a_FLOAT a_LONG a_DOUBLE a_CLASS a_STRING a_FIELDREF a_METHODREF a_INTERFACE_METHODREF a_NAME_AND_TYPE a_METHOD_HANDLE a_METHOD_TYPE a_DYNAMIC a_INVOKE_DYNAMIC a_MODULE a_PACKAGE i)) rfl rfl (own_gS X0 hx hZ hown (hw _ (List.mem_of_getElem? (i := 0) rfl)) (hw _ (List.mem_of_getElem? (i := 1) rfl)) (hw _ (List.mem_of_getElem? (i := 2) rfl)) (hw _ (List.mem_of_getElem? (i := 3) rfl)) (by decide) e0 (own_ofTag l Z a0 hw h0 a_BY_TAG a_METHOD_TYPE a_FIELDREF a_DOUBLE a_STRING a_NAME_AND_TYPE a_UTF8 a_INTEGER a_MODULE a_METHODREF a_INTERFACE_METHODREF a_LONG a_PACKAGE a_INVOKE_DYNAMIC a_METHOD_HANDLE a_FLOAT a_CLASS a_DYNAMIC cl_BY_TAG hE i) (by decide) (by decide) (by decide) (by decide) (Q := fun v h L => v = some (own_tab a_UTF8 a_INTEGER a_FLOAT a_LONG a_DOUBLE a_CLASS a_STRING a_FIELDREF a_METHODREF a_INTERFACE_METHODREF a_NAME_AND_TYPE a_METHOD_HANDLE a_METHOD_TYPE a_DYNAMIC a_INVOKE_DYNAMIC a_MODULE a_PACKAGE i) ∧ L = [] ∧ h = h0) (W := 0) (g := (mkF m 8 #[.val (.int i), .val (.int j), .val (.int ((j &&& (31 : Int32)) - (4 : Int32))), .unset, .unset] [(.int i)])) (argsL := [(.int i)]) (rest := []) rfl (by rw [hml]; rfl) (lenOf own_pd_0 rfl) rfl (by show 2 * 0 + _ ≤ _; exact Nat.le_of_eq rfl) (hb hby at_8))
  refine own_st (T' := T1) (g' := (mkF m 11 #[.val (.int i), .val (.int j), .val (.int ((j &&& (31 : Int32)) - (4 : Int32))), .unset, .unset] [(own_tab a_UTF8 a_INTEGER a_FLOAT a_LONG a_DOUBLE a_CLASS a_STRING a_FIELDREF a_METHODREF a_INTERFACE_METHODREF a_NAME_AND_TYPE a_METHOD_HANDLE a_METHOD_TYPE a_DYNAMIC a_INVOKE_DYNAMIC a_MODULE a_PACKAGE i)])) st1 ?_
  refine own_st (T' := T1) (g' := (mkF m 12 #[.val (.int i), .val (.int j), .val (.int ((j &&& (31 : Int32)) - (4 : Int32))), .val (own_tab a_UTF8 a_INTEGER a_FLOAT a_LONG a_DOUBLE a_CLASS a_STRING a_FIELDREF a_METHODREF a_INTERFACE_METHODREF a_NAME_AND_TYPE a_METHOD_HANDLE a_METHOD_TYPE a_DYNAMIC a_INVOKE_DYNAMIC a_MODULE a_PACKAGE i), .unset] [])) (fun _ k => XS.astoreN X1.here hx rfl (hb hby at_11) rfl own_tab_ref (l' := #[.val (.int i), .val (.int j), .val (.int ((j &&& (31 : Int32)) - (4 : Int32))), .val (own_tab a_UTF8 a_INTEGER a_FLOAT a_LONG a_DOUBLE a_CLASS a_STRING a_FIELDREF a_METHODREF a_INTERFACE_METHODREF a_NAME_AND_TYPE a_METHOD_HANDLE a_METHOD_TYPE a_DYNAMIC a_INVOKE_DYNAMIC a_MODULE a_PACKAGE i), .unset]) (XS.store1 (o := .unset) rfl One.u (own_cat1 own_tab_ref)) k) ?_
  refine own_st (T' := T1) (g' := (mkF m 13 #[.val (.int i), .val (.int j), .val (.int ((j &&& (31 : Int32)) - (4 : Int32))), .val (own_tab a_UTF8 a_INTEGER a_FLOAT a_LONG a_DOUBLE a_CLASS a_STRING a_FIELDREF a_METHODREF a_INTERFACE_METHODREF a_NAME_AND_TYPE a_METHOD_HANDLE a_METHOD_TYPE a_DYNAMIC a_INVOKE_DYNAMIC a_MODULE a_PACKAGE i), .unset] [(.int ((j &&& (31 : Int32)) - (4 : Int32)))])) (fun _ k => XS.iloadN X1.here hx rfl (hb hby at_12) rfl k) ?_
  obtain ⟨T2, X2, e2, st2⟩ := own_pure (w := (own_tab a_UTF8 a_INTEGER a_FLOAT a_LONG a_DOUBLE a_CLASS a_STRING a_FIELDREF a_METHODREF a_INTERFACE_METHODREF a_NAME_AND_TYPE a_METHOD_HANDLE a_METHOD_TYPE a_DYNAMIC a_INVOKE_DYNAMIC a_MODULE a_PACKAGE ((j &&& (31 : Int32)) - (4 : Int32)))) rfl rfl (own_gS X1 hx hZ hown (hw _ (List.mem_of_getElem? (i := 0) rfl)) (hw _ (List.mem_of_getElem? (i := 1) rfl)) (hw _ (List.mem_of_getElem? (i := 2) rfl)) (hw _ (List.mem_of_getElem? (i := 3) rfl)) (by decide) e1 (own_ofTag l Z a0 hw h0 a_BY_TAG a_METHOD_TYPE a_FIELDREF a_DOUBLE a_STRING a_NAME_AND_TYPE a_UTF8 a_INTEGER a_MODULE a_METHODREF a_INTERFACE_METHODREF a_LONG a_PACKAGE a_INVOKE_DYNAMIC a_METHOD_HANDLE a_FLOAT a_CLASS a_DYNAMIC cl_BY_TAG hE ((j &&& (31 : Int32)) - (4 : Int32))) (by decide) (by decide) (by decide) (by decide) (Q := fun v h L => v = some (own_tab a_UTF8 a_INTEGER a_FLOAT a_LONG a_DOUBLE a_CLASS a_STRING a_FIELDREF a_METHODREF a_INTERFACE_METHODREF a_NAME_AND_TYPE a_METHOD_HANDLE a_METHOD_TYPE a_DYNAMIC a_INVOKE_DYNAMIC a_MODULE a_PACKAGE ((j &&& (31 : Int32)) - (4 : Int32))) ∧ L = [] ∧ h = h0) (W := 0) (g := (mkF m 13 #[.val (.int i), .val (.int j), .val (.int ((j &&& (31 : Int32)) - (4 : Int32))), .val (own_tab a_UTF8 a_INTEGER a_FLOAT a_LONG a_DOUBLE a_CLASS a_STRING a_FIELDREF a_METHODREF a_INTERFACE_METHODREF a_NAME_AND_TYPE a_METHOD_HANDLE a_METHOD_TYPE a_DYNAMIC a_INVOKE_DYNAMIC a_MODULE a_PACKAGE i), .unset] [(.int ((j &&& (31 : Int32)) - (4 : Int32)))])) (argsL := [(.int ((j &&& (31 : Int32)) - (4 : Int32)))]) (rest := []) rfl (by rw [hml]; rfl) (lenOf own_pd_0 rfl) rfl (by show 2 * 0 + _ ≤ _; exact Nat.le_of_eq rfl) (hb hby at_13))
  refine own_st (T' := T2) (g' := (mkF m 16 #[.val (.int i), .val (.int j), .val (.int ((j &&& (31 : Int32)) - (4 : Int32))), .val (own_tab a_UTF8 a_INTEGER a_FLOAT a_LONG a_DOUBLE a_CLASS a_STRING a_FIELDREF a_METHODREF a_INTERFACE_METHODREF a_NAME_AND_TYPE a_METHOD_HANDLE a_METHOD_TYPE a_DYNAMIC a_INVOKE_DYNAMIC a_MODULE a_PACKAGE i), .unset] [(own_tab a_UTF8 a_INTEGER a_FLOAT a_LONG a_DOUBLE a_CLASS a_STRING a_FIELDREF a_METHODREF a_INTERFACE_METHODREF a_NAME_AND_TYPE a_METHOD_HANDLE a_METHOD_TYPE a_DYNAMIC a_INVOKE_DYNAMIC a_MODULE a_PACKAGE ((j &&& (31 : Int32)) - (4 : Int32)))])) st2 ?_
  refine own_st (T' := T2) (g' := (mkF m 18 #[.val (.int i), .val (.int j), .val (.int ((j &&& (31 : Int32)) - (4 : Int32))), .val (own_tab a_UTF8 a_INTEGER a_FLOAT a_LONG a_DOUBLE a_CLASS a_STRING a_FIELDREF a_METHODREF a_INTERFACE_METHODREF a_NAME_AND_TYPE a_METHOD_HANDLE a_METHOD_TYPE a_DYNAMIC a_INVOKE_DYNAMIC a_MODULE a_PACKAGE i), .val (own_tab a_UTF8 a_INTEGER a_FLOAT a_LONG a_DOUBLE a_CLASS a_STRING a_FIELDREF a_METHODREF a_INTERFACE_METHODREF a_NAME_AND_TYPE a_METHOD_HANDLE a_METHOD_TYPE a_DYNAMIC a_INVOKE_DYNAMIC a_MODULE a_PACKAGE ((j &&& (31 : Int32)) - (4 : Int32)))] [])) (fun _ k => XS.astore X2.here hx rfl (hb hby at_16) rfl own_tab_ref (l' := #[.val (.int i), .val (.int j), .val (.int ((j &&& (31 : Int32)) - (4 : Int32))), .val (own_tab a_UTF8 a_INTEGER a_FLOAT a_LONG a_DOUBLE a_CLASS a_STRING a_FIELDREF a_METHODREF a_INTERFACE_METHODREF a_NAME_AND_TYPE a_METHOD_HANDLE a_METHOD_TYPE a_DYNAMIC a_INVOKE_DYNAMIC a_MODULE a_PACKAGE i), .val (own_tab a_UTF8 a_INTEGER a_FLOAT a_LONG a_DOUBLE a_CLASS a_STRING a_FIELDREF a_METHODREF a_INTERFACE_METHODREF a_NAME_AND_TYPE a_METHOD_HANDLE a_METHOD_TYPE a_DYNAMIC a_INVOKE_DYNAMIC a_MODULE a_PACKAGE ((j &&& (31 : Int32)) - (4 : Int32)))]) (XS.store1 (o := .unset) rfl One.u (own_cat1 own_tab_ref)) k) ?_
  refine own_st (T' := T2) (g' := (mkF m 19 #[.val (.int i), .val (.int j), .val (.int ((j &&& (31 : Int32)) - (4 : Int32))), .val (own_tab a_UTF8 a_INTEGER a_FLOAT a_LONG a_DOUBLE a_CLASS a_STRING a_FIELDREF a_METHODREF a_INTERFACE_METHODREF a_NAME_AND_TYPE a_METHOD_HANDLE a_METHOD_TYPE a_DYNAMIC a_INVOKE_DYNAMIC a_MODULE a_PACKAGE i), .val (own_tab a_UTF8 a_INTEGER a_FLOAT a_LONG a_DOUBLE a_CLASS a_STRING a_FIELDREF a_METHODREF a_INTERFACE_METHODREF a_NAME_AND_TYPE a_METHOD_HANDLE a_METHOD_TYPE a_DYNAMIC a_INVOKE_DYNAMIC a_MODULE a_PACKAGE ((j &&& (31 : Int32)) - (4 : Int32)))] [(own_tab a_UTF8 a_INTEGER a_FLOAT a_LONG a_DOUBLE a_CLASS a_STRING a_FIELDREF a_METHODREF a_INTERFACE_METHODREF a_NAME_AND_TYPE a_METHOD_HANDLE a_METHOD_TYPE a_DYNAMIC a_INVOKE_DYNAMIC a_MODULE a_PACKAGE i)])) (fun _ k => XS.aloadN X2.here hx rfl (hb hby at_18) rfl own_tab_ref k) ?_
  refine own_st (T' := T2) (g' := (mkF m 20 #[.val (.int i), .val (.int j), .val (.int ((j &&& (31 : Int32)) - (4 : Int32))), .val (own_tab a_UTF8 a_INTEGER a_FLOAT a_LONG a_DOUBLE a_CLASS a_STRING a_FIELDREF a_METHODREF a_INTERFACE_METHODREF a_NAME_AND_TYPE a_METHOD_HANDLE a_METHOD_TYPE a_DYNAMIC a_INVOKE_DYNAMIC a_MODULE a_PACKAGE i), .val (own_tab a_UTF8 a_INTEGER a_FLOAT a_LONG a_DOUBLE a_CLASS a_STRING a_FIELDREF a_METHODREF a_INTERFACE_METHODREF a_NAME_AND_TYPE a_METHOD_HANDLE a_METHOD_TYPE a_DYNAMIC a_INVOKE_DYNAMIC a_MODULE a_PACKAGE ((j &&& (31 : Int32)) - (4 : Int32)))] [(.int i), (own_tab a_UTF8 a_INTEGER a_FLOAT a_LONG a_DOUBLE a_CLASS a_STRING a_FIELDREF a_METHODREF a_INTERFACE_METHODREF a_NAME_AND_TYPE a_METHOD_HANDLE a_METHOD_TYPE a_DYNAMIC a_INVOKE_DYNAMIC a_MODULE a_PACKAGE i)])) (fun _ k => XS.iloadN X2.here hx rfl (hb hby at_19) rfl k) ?_
  obtain ⟨T3, X3, e3, st3⟩ := own_pure (w := (own_tab a_UTF8 a_INTEGER a_FLOAT a_LONG a_DOUBLE a_CLASS a_STRING a_FIELDREF a_METHODREF a_INTERFACE_METHODREF a_NAME_AND_TYPE a_METHOD_HANDLE a_METHOD_TYPE a_DYNAMIC a_INVOKE_DYNAMIC a_MODULE a_PACKAGE i)) rfl rfl (own_gS X2 hx hZ hown (hw _ (List.mem_of_getElem? (i := 6) rfl)) (hw _ (List.mem_of_getElem? (i := 7) rfl)) (hw _ (List.mem_of_getElem? (i := 8) rfl)) (hw _ (List.mem_of_getElem? (i := 9) rfl)) (by decide) e2 (own_expected l Z a0 hw h0 a_BY_TAG a_METHOD_TYPE a_FIELDREF a_DOUBLE a_STRING a_NAME_AND_TYPE a_UTF8 a_INTEGER a_MODULE a_METHODREF a_INTERFACE_METHODREF a_LONG a_PACKAGE a_INVOKE_DYNAMIC a_METHOD_HANDLE a_FLOAT a_CLASS a_DYNAMIC cl_BY_TAG hE i) (by decide) (by decide) (by decide) (by decide) (Q := fun v h L => v = some (own_tab a_UTF8 a_INTEGER a_FLOAT a_LONG a_DOUBLE a_CLASS a_STRING a_FIELDREF a_METHODREF a_INTERFACE_METHODREF a_NAME_AND_TYPE a_METHOD_HANDLE a_METHOD_TYPE a_DYNAMIC a_INVOKE_DYNAMIC a_MODULE a_PACKAGE i) ∧ L = [] ∧ h = h0) (W := 1) (g := (mkF m 20 #[.val (.int i), .val (.int j), .val (.int ((j &&& (31 : Int32)) - (4 : Int32))), .val (own_tab a_UTF8 a_INTEGER a_FLOAT a_LONG a_DOUBLE a_CLASS a_STRING a_FIELDREF a_METHODREF a_INTERFACE_METHODREF a_NAME_AND_TYPE a_METHOD_HANDLE a_METHOD_TYPE a_DYNAMIC a_INVOKE_DYNAMIC a_MODULE a_PACKAGE i), .val (own_tab a_UTF8 a_INTEGER a_FLOAT a_LONG a_DOUBLE a_CLASS a_STRING a_FIELDREF a_METHODREF a_INTERFACE_METHODREF a_NAME_AND_TYPE a_METHOD_HANDLE a_METHOD_TYPE a_DYNAMIC a_INVOKE_DYNAMIC a_MODULE a_PACKAGE ((j &&& (31 : Int32)) - (4 : Int32)))] [(.int i), (own_tab a_UTF8 a_INTEGER a_FLOAT a_LONG a_DOUBLE a_CLASS a_STRING a_FIELDREF a_METHODREF a_INTERFACE_METHODREF a_NAME_AND_TYPE a_METHOD_HANDLE a_METHOD_TYPE a_DYNAMIC a_INVOKE_DYNAMIC a_MODULE a_PACKAGE i)])) (argsL := [(.int i)]) (rest := [(own_tab a_UTF8 a_INTEGER a_FLOAT a_LONG a_DOUBLE a_CLASS a_STRING a_FIELDREF a_METHODREF a_INTERFACE_METHODREF a_NAME_AND_TYPE a_METHOD_HANDLE a_METHOD_TYPE a_DYNAMIC a_INVOKE_DYNAMIC a_MODULE a_PACKAGE i)]) rfl (by rw [hml]; rfl) (lenOf own_pd_0 rfl) rfl (by simp [mkF, own_cat1 (w := (own_tab a_UTF8 a_INTEGER a_FLOAT a_LONG a_DOUBLE a_CLASS a_STRING a_FIELDREF a_METHODREF a_INTERFACE_METHODREF a_NAME_AND_TYPE a_METHOD_HANDLE a_METHOD_TYPE a_DYNAMIC a_INVOKE_DYNAMIC a_MODULE a_PACKAGE i)) own_tab_ref]) (hb hby at_20))
  refine own_st (T' := T3) (g' := (mkF m 23 #[.val (.int i), .val (.int j), .val (.int ((j &&& (31 : Int32)) - (4 : Int32))), .val (own_tab a_UTF8 a_INTEGER a_FLOAT a_LONG a_DOUBLE a_CLASS a_STRING a_FIELDREF a_METHODREF a_INTERFACE_METHODREF a_NAME_AND_TYPE a_METHOD_HANDLE a_METHOD_TYPE a_DYNAMIC a_INVOKE_DYNAMIC a_MODULE a_PACKAGE i), .val (own_tab a_UTF8 a_INTEGER a_FLOAT a_LONG a_DOUBLE a_CLASS a_STRING a_FIELDREF a_METHODREF a_INTERFACE_METHODREF a_NAME_AND_TYPE a_METHOD_HANDLE a_METHOD_TYPE a_DYNAMIC a_INVOKE_DYNAMIC a_MODULE a_PACKAGE ((j &&& (31 : Int32)) - (4 : Int32)))] [(own_tab a_UTF8 a_INTEGER a_FLOAT a_LONG a_DOUBLE a_CLASS a_STRING a_FIELDREF a_METHODREF a_INTERFACE_METHODREF a_NAME_AND_TYPE a_METHOD_HANDLE a_METHOD_TYPE a_DYNAMIC a_INVOKE_DYNAMIC a_MODULE a_PACKAGE i), (own_tab a_UTF8 a_INTEGER a_FLOAT a_LONG a_DOUBLE a_CLASS a_STRING a_FIELDREF a_METHODREF a_INTERFACE_METHODREF a_NAME_AND_TYPE a_METHOD_HANDLE a_METHOD_TYPE a_DYNAMIC a_INVOKE_DYNAMIC a_MODULE a_PACKAGE i)])) st3 ?_
  refine own_st (T' := T3) (g' := (mkF m 26 #[.val (.int i), .val (.int j), .val (.int ((j &&& (31 : Int32)) - (4 : Int32))), .val (own_tab a_UTF8 a_INTEGER a_FLOAT a_LONG a_DOUBLE a_CLASS a_STRING a_FIELDREF a_METHODREF a_INTERFACE_METHODREF a_NAME_AND_TYPE a_METHOD_HANDLE a_METHOD_TYPE a_DYNAMIC a_INVOKE_DYNAMIC a_MODULE a_PACKAGE i), .val (own_tab a_UTF8 a_INTEGER a_FLOAT a_LONG a_DOUBLE a_CLASS a_STRING a_FIELDREF a_METHODREF a_INTERFACE_METHODREF a_NAME_AND_TYPE a_METHOD_HANDLE a_METHOD_TYPE a_DYNAMIC a_INVOKE_DYNAMIC a_MODULE a_PACKAGE ((j &&& (31 : Int32)) - (4 : Int32)))] [])) (fun _ k => Jvm.RoadKit.acmp (g := (mkF m 23 #[.val (.int i), .val (.int j), .val (.int ((j &&& (31 : Int32)) - (4 : Int32))), .val (own_tab a_UTF8 a_INTEGER a_FLOAT a_LONG a_DOUBLE a_CLASS a_STRING a_FIELDREF a_METHODREF a_INTERFACE_METHODREF a_NAME_AND_TYPE a_METHOD_HANDLE a_METHOD_TYPE a_DYNAMIC a_INVOKE_DYNAMIC a_MODULE a_PACKAGE i), .val (own_tab a_UTF8 a_INTEGER a_FLOAT a_LONG a_DOUBLE a_CLASS a_STRING a_FIELDREF a_METHODREF a_INTERFACE_METHODREF a_NAME_AND_TYPE a_METHOD_HANDLE a_METHOD_TYPE a_DYNAMIC a_INVOKE_DYNAMIC a_MODULE a_PACKAGE ((j &&& (31 : Int32)) - (4 : Int32)))] [(own_tab a_UTF8 a_INTEGER a_FLOAT a_LONG a_DOUBLE a_CLASS a_STRING a_FIELDREF a_METHODREF a_INTERFACE_METHODREF a_NAME_AND_TYPE a_METHOD_HANDLE a_METHOD_TYPE a_DYNAMIC a_INVOKE_DYNAMIC a_MODULE a_PACKAGE i), (own_tab a_UTF8 a_INTEGER a_FLOAT a_LONG a_DOUBLE a_CLASS a_STRING a_FIELDREF a_METHODREF a_INTERFACE_METHODREF a_NAME_AND_TYPE a_METHOD_HANDLE a_METHOD_TYPE a_DYNAMIC a_INVOKE_DYNAMIC a_MODULE a_PACKAGE i)])) X3 hx rfl own_tab_ref own_tab_ref (pc0 := 23) (pc' := 26) (same := true) rfl (hb hby at_23) rfl (decide_eq_true rfl) (by decide) (by decide) k) ?_
  refine own_st (T' := T3) (g' := (mkF m 28 #[.val (.int i), .val (.int j), .val (.int ((j &&& (31 : Int32)) - (4 : Int32))), .val (own_tab a_UTF8 a_INTEGER a_FLOAT a_LONG a_DOUBLE a_CLASS a_STRING a_FIELDREF a_METHODREF a_INTERFACE_METHODREF a_NAME_AND_TYPE a_METHOD_HANDLE a_METHOD_TYPE a_DYNAMIC a_INVOKE_DYNAMIC a_MODULE a_PACKAGE i), .val (own_tab a_UTF8 a_INTEGER a_FLOAT a_LONG a_DOUBLE a_CLASS a_STRING a_FIELDREF a_METHODREF a_INTERFACE_METHODREF a_NAME_AND_TYPE a_METHOD_HANDLE a_METHOD_TYPE a_DYNAMIC a_INVOKE_DYNAMIC a_MODULE a_PACKAGE ((j &&& (31 : Int32)) - (4 : Int32)))] [(own_tab a_UTF8 a_INTEGER a_FLOAT a_LONG a_DOUBLE a_CLASS a_STRING a_FIELDREF a_METHODREF a_INTERFACE_METHODREF a_NAME_AND_TYPE a_METHOD_HANDLE a_METHOD_TYPE a_DYNAMIC a_INVOKE_DYNAMIC a_MODULE a_PACKAGE ((j &&& (31 : Int32)) - (4 : Int32)))])) (fun _ k => XS.aload X3.here hx rfl (hb hby at_26) rfl own_tab_ref k) ?_
  refine own_st (T' := T3) (g' := (mkF m 29 #[.val (.int i), .val (.int j), .val (.int ((j &&& (31 : Int32)) - (4 : Int32))), .val (own_tab a_UTF8 a_INTEGER a_FLOAT a_LONG a_DOUBLE a_CLASS a_STRING a_FIELDREF a_METHODREF a_INTERFACE_METHODREF a_NAME_AND_TYPE a_METHOD_HANDLE a_METHOD_TYPE a_DYNAMIC a_INVOKE_DYNAMIC a_MODULE a_PACKAGE i), .val (own_tab a_UTF8 a_INTEGER a_FLOAT a_LONG a_DOUBLE a_CLASS a_STRING a_FIELDREF a_METHODREF a_INTERFACE_METHODREF a_NAME_AND_TYPE a_METHOD_HANDLE a_METHOD_TYPE a_DYNAMIC a_INVOKE_DYNAMIC a_MODULE a_PACKAGE ((j &&& (31 : Int32)) - (4 : Int32)))] [(.int ((j &&& (31 : Int32)) - (4 : Int32))), (own_tab a_UTF8 a_INTEGER a_FLOAT a_LONG a_DOUBLE a_CLASS a_STRING a_FIELDREF a_METHODREF a_INTERFACE_METHODREF a_NAME_AND_TYPE a_METHOD_HANDLE a_METHOD_TYPE a_DYNAMIC a_INVOKE_DYNAMIC a_MODULE a_PACKAGE ((j &&& (31 : Int32)) - (4 : Int32)))])) (fun _ k => XS.iloadN X3.here hx rfl (hb hby at_28) rfl k) ?_
  obtain ⟨T4, X4, e4, st4⟩ := own_pure (w := (own_tab a_UTF8 a_INTEGER a_FLOAT a_LONG a_DOUBLE a_CLASS a_STRING a_FIELDREF a_METHODREF a_INTERFACE_METHODREF a_NAME_AND_TYPE a_METHOD_HANDLE a_METHOD_TYPE a_DYNAMIC a_INVOKE_DYNAMIC a_MODULE a_PACKAGE ((j &&& (31 : Int32)) - (4 : Int32)))) rfl rfl (own_gS X3 hx hZ hown (hw _ (List.mem_of_getElem? (i := 6) rfl)) (hw _ (List.mem_of_getElem? (i := 7) rfl)) (hw _ (List.mem_of_getElem? (i := 8) rfl)) (hw _ (List.mem_of_getElem? (i := 9) rfl)) (by decide) e3 (own_expected l Z a0 hw h0 a_BY_TAG a_METHOD_TYPE a_FIELDREF a_DOUBLE a_STRING a_NAME_AND_TYPE a_UTF8 a_INTEGER a_MODULE a_METHODREF a_INTERFACE_METHODREF a_LONG a_PACKAGE a_INVOKE_DYNAMIC a_METHOD_HANDLE a_FLOAT a_CLASS a_DYNAMIC cl_BY_TAG hE ((j &&& (31 : Int32)) - (4 : Int32))) (by decide) (by decide) (by decide) (by decide) (Q := fun v h L => v = some (own_tab a_UTF8 a_INTEGER a_FLOAT a_LONG a_DOUBLE a_CLASS a_STRING a_FIELDREF a_METHODREF a_INTERFACE_METHODREF a_NAME_AND_TYPE a_METHOD_HANDLE a_METHOD_TYPE a_DYNAMIC a_INVOKE_DYNAMIC a_MODULE a_PACKAGE ((j &&& (31 : Int32)) - (4 : Int32))) ∧ L = [] ∧ h = h0) (W := 1) (g := (mkF m 29 #[.val (.int i), .val (.int j), .val (.int ((j &&& (31 : Int32)) - (4 : Int32))), .val (own_tab a_UTF8 a_INTEGER a_FLOAT a_LONG a_DOUBLE a_CLASS a_STRING a_FIELDREF a_METHODREF a_INTERFACE_METHODREF a_NAME_AND_TYPE a_METHOD_HANDLE a_METHOD_TYPE a_DYNAMIC a_INVOKE_DYNAMIC a_MODULE a_PACKAGE i), .val (own_tab a_UTF8 a_INTEGER a_FLOAT a_LONG a_DOUBLE a_CLASS a_STRING a_FIELDREF a_METHODREF a_INTERFACE_METHODREF a_NAME_AND_TYPE a_METHOD_HANDLE a_METHOD_TYPE a_DYNAMIC a_INVOKE_DYNAMIC a_MODULE a_PACKAGE ((j &&& (31 : Int32)) - (4 : Int32)))] [(.int ((j &&& (31 : Int32)) - (4 : Int32))), (own_tab a_UTF8 a_INTEGER a_FLOAT a_LONG a_DOUBLE a_CLASS a_STRING a_FIELDREF a_METHODREF a_INTERFACE_METHODREF a_NAME_AND_TYPE a_METHOD_HANDLE a_METHOD_TYPE a_DYNAMIC a_INVOKE_DYNAMIC a_MODULE a_PACKAGE ((j &&& (31 : Int32)) - (4 : Int32)))])) (argsL := [(.int ((j &&& (31 : Int32)) - (4 : Int32)))]) (rest := [(own_tab a_UTF8 a_INTEGER a_FLOAT a_LONG a_DOUBLE a_CLASS a_STRING a_FIELDREF a_METHODREF a_INTERFACE_METHODREF a_NAME_AND_TYPE a_METHOD_HANDLE a_METHOD_TYPE a_DYNAMIC a_INVOKE_DYNAMIC a_MODULE a_PACKAGE ((j &&& (31 : Int32)) - (4 : Int32)))]) rfl (by rw [hml]; rfl) (lenOf own_pd_0 rfl) rfl (by simp [mkF, own_cat1 (w := (own_tab a_UTF8 a_INTEGER a_FLOAT a_LONG a_DOUBLE a_CLASS a_STRING a_FIELDREF a_METHODREF a_INTERFACE_METHODREF a_NAME_AND_TYPE a_METHOD_HANDLE a_METHOD_TYPE a_DYNAMIC a_INVOKE_DYNAMIC a_MODULE a_PACKAGE ((j &&& (31 : Int32)) - (4 : Int32)))) own_tab_ref]) (hb hby at_29))
  refine own_st (T' := T4) (g' := (mkF m 32 #[.val (.int i), .val (.int j), .val (.int ((j &&& (31 : Int32)) - (4 : Int32))), .val (own_tab a_UTF8 a_INTEGER a_FLOAT a_LONG a_DOUBLE a_CLASS a_STRING a_FIELDREF a_METHODREF a_INTERFACE_METHODREF a_NAME_AND_TYPE a_METHOD_HANDLE a_METHOD_TYPE a_DYNAMIC a_INVOKE_DYNAMIC a_MODULE a_PACKAGE i), .val (own_tab a_UTF8 a_INTEGER a_FLOAT a_LONG a_DOUBLE a_CLASS a_STRING a_FIELDREF a_METHODREF a_INTERFACE_METHODREF a_NAME_AND_TYPE a_METHOD_HANDLE a_METHOD_TYPE a_DYNAMIC a_INVOKE_DYNAMIC a_MODULE a_PACKAGE ((j &&& (31 : Int32)) - (4 : Int32)))] [(own_tab a_UTF8 a_INTEGER a_FLOAT a_LONG a_DOUBLE a_CLASS a_STRING a_FIELDREF a_METHODREF a_INTERFACE_METHODREF a_NAME_AND_TYPE a_METHOD_HANDLE a_METHOD_TYPE a_DYNAMIC a_INVOKE_DYNAMIC a_MODULE a_PACKAGE ((j &&& (31 : Int32)) - (4 : Int32))), (own_tab a_UTF8 a_INTEGER a_FLOAT a_LONG a_DOUBLE a_CLASS a_STRING a_FIELDREF a_METHODREF a_INTERFACE_METHODREF a_NAME_AND_TYPE a_METHOD_HANDLE a_METHOD_TYPE a_DYNAMIC a_INVOKE_DYNAMIC a_MODULE a_PACKAGE ((j &&& (31 : Int32)) - (4 : Int32)))])) st4 ?_
  refine own_st (T' := T4) (g' := (mkF m 35 #[.val (.int i), .val (.int j), .val (.int ((j &&& (31 : Int32)) - (4 : Int32))), .val (own_tab a_UTF8 a_INTEGER a_FLOAT a_LONG a_DOUBLE a_CLASS a_STRING a_FIELDREF a_METHODREF a_INTERFACE_METHODREF a_NAME_AND_TYPE a_METHOD_HANDLE a_METHOD_TYPE a_DYNAMIC a_INVOKE_DYNAMIC a_MODULE a_PACKAGE i), .val (own_tab a_UTF8 a_INTEGER a_FLOAT a_LONG a_DOUBLE a_CLASS a_STRING a_FIELDREF a_METHODREF a_INTERFACE_METHODREF a_NAME_AND_TYPE a_METHOD_HANDLE a_METHOD_TYPE a_DYNAMIC a_INVOKE_DYNAMIC a_MODULE a_PACKAGE ((j &&& (31 : Int32)) - (4 : Int32)))] [])) (fun _ k => Jvm.RoadKit.acmp (g := (mkF m 32 #[.val (.int i), .val (.int j), .val (.int ((j &&& (31 : Int32)) - (4 : Int32))), .val (own_tab a_UTF8 a_INTEGER a_FLOAT a_LONG a_DOUBLE a_CLASS a_STRING a_FIELDREF a_METHODREF a_INTERFACE_METHODREF a_NAME_AND_TYPE a_METHOD_HANDLE a_METHOD_TYPE a_DYNAMIC a_INVOKE_DYNAMIC a_MODULE a_PACKAGE i), .val (own_tab a_UTF8 a_INTEGER a_FLOAT a_LONG a_DOUBLE a_CLASS a_STRING a_FIELDREF a_METHODREF a_INTERFACE_METHODREF a_NAME_AND_TYPE a_METHOD_HANDLE a_METHOD_TYPE a_DYNAMIC a_INVOKE_DYNAMIC a_MODULE a_PACKAGE ((j &&& (31 : Int32)) - (4 : Int32)))] [(own_tab a_UTF8 a_INTEGER a_FLOAT a_LONG a_DOUBLE a_CLASS a_STRING a_FIELDREF a_METHODREF a_INTERFACE_METHODREF a_NAME_AND_TYPE a_METHOD_HANDLE a_METHOD_TYPE a_DYNAMIC a_INVOKE_DYNAMIC a_MODULE a_PACKAGE ((j &&& (31 : Int32)) - (4 : Int32))), (own_tab a_UTF8 a_INTEGER a_FLOAT a_LONG a_DOUBLE a_CLASS a_STRING a_FIELDREF a_METHODREF a_INTERFACE_METHODREF a_NAME_AND_TYPE a_METHOD_HANDLE a_METHOD_TYPE a_DYNAMIC a_INVOKE_DYNAMIC a_MODULE a_PACKAGE ((j &&& (31 : Int32)) - (4 : Int32)))])) X4 hx rfl own_tab_ref own_tab_ref (pc0 := 32) (pc' := 35) (same := true) rfl (hb hby at_32) rfl (decide_eq_true rfl) (by decide) (by decide) k) ?_
  refine own_st (T' := T4) (g' := (mkF m 36 #[.val (.int i), .val (.int j), .val (.int ((j &&& (31 : Int32)) - (4 : Int32))), .val (own_tab a_UTF8 a_INTEGER a_FLOAT a_LONG a_DOUBLE a_CLASS a_STRING a_FIELDREF a_METHODREF a_INTERFACE_METHODREF a_NAME_AND_TYPE a_METHOD_HANDLE a_METHOD_TYPE a_DYNAMIC a_INVOKE_DYNAMIC a_MODULE a_PACKAGE i), .val (own_tab a_UTF8 a_INTEGER a_FLOAT a_LONG a_DOUBLE a_CLASS a_STRING a_FIELDREF a_METHODREF a_INTERFACE_METHODREF a_NAME_AND_TYPE a_METHOD_HANDLE a_METHOD_TYPE a_DYNAMIC a_INVOKE_DYNAMIC a_MODULE a_PACKAGE ((j &&& (31 : Int32)) - (4 : Int32)))] [(.int (1 : Int32))])) (fun _ k => XS.iconst X4.here hx rfl (hb hby at_35) k) ?_
  refine own_st (T' := T4) (g' := (mkF m 40 #[.val (.int i), .val (.int j), .val (.int ((j &&& (31 : Int32)) - (4 : Int32))), .val (own_tab a_UTF8 a_INTEGER a_FLOAT a_LONG a_DOUBLE a_CLASS a_STRING a_FIELDREF a_METHODREF a_INTERFACE_METHODREF a_NAME_AND_TYPE a_METHOD_HANDLE a_METHOD_TYPE a_DYNAMIC a_INVOKE_DYNAMIC a_MODULE a_PACKAGE i), .val (own_tab a_UTF8 a_INTEGER a_FLOAT a_LONG a_DOUBLE a_CLASS a_STRING a_FIELDREF a_METHODREF a_INTERFACE_METHODREF a_NAME_AND_TYPE a_METHOD_HANDLE a_METHOD_TYPE a_DYNAMIC a_INVOKE_DYNAMIC a_MODULE a_PACKAGE ((j &&& (31 : Int32)) - (4 : Int32)))] [(.int (1 : Int32))])) (fun _ k => XS.goto X4.here hx rfl (pc0 := 36) (pc' := 40) rfl (hb hby at_36) (by decide) (by decide) k) ?_
  exact own_ret X4 hx hlk hret rfl (Or.inl ⟨rfl, Or.inr (Or.inl rfl), _, rfl⟩) (hb hby at_40) (by decide) (by decide) ⟨rfl, rfl, e4⟩
/-! ### from the case's words to the owed theorems -/
theorem own_comes (H : ∀ (l : Launch) (s : State) (args : Array Value), Fit s → (∀ d ∈ tables_1, d.before args s = true) → given_1.value args s none s [] = some true → narrow_1.value args s none s [] = some true → own_Met l s s.heap tables_1 room_1 x code maxLocals ret args (fun v h L => v = some (.int 1) ∧ Fr s.heap.size L))
    {Post : Tables → Env → Array Value → State → Outcome → State → Prop} (hpost : ∀ tb e args s v u, (limb_1_1.after args s (.returned v) u = true ∧ limb_1_2.after args s (.returned v) u = true) → FrameEnd s (.returned v) u (Jvm.fieldLocs frame_1_writes args s ++ Jvm.arrayLocs frame_1_arrays args s ++ Jvm.staticLocs frame_1_statics s) 0 0 → Post tb e args s (.returned v) u) :
    ArmFor flags0 classFile x code maxLocals ret World_1 tables_1 room_1 Calls_1 rest_1 Pre_1 Post := by
  intro l hfl _ _ p e ha hc hk s m args below hf hA hF happ hP
  obtain ⟨hcalls, hrest, hpre⟩ := hP
  obtain ⟨-, -, -, hnamed, -, -, -, hat⟩ := (Spec.applies_iff hf).mp happ
  obtain ⟨hg, hn⟩ := and_e (Cond.before_iff.mp (show (Jvm.Cond.and given_1 narrow_1).before args s = true from hpre))
  have hw := fun d (hd : d ∈ tables_1) => atoms_spec (ws := Jvm.Cond.code x code maxLocals ret :: tables_1) hat d (List.mem_cons_of_mem _ hd)
  have hfit : Fit s := fun {y c} hc i hi => by
    obtain ⟨ha, rfl⟩ := Array.getElem?_eq_some_iff.mp hc
    have q := List.all_eq_true.mp ((Array.all_eq_true_iff_forall_mem.mp hF) _ (Array.getElem_mem ha)) i (List.mem_range.mpr hi)
    simpa [Array.getElem?_eq_getElem hi] using q
  obtain ⟨n, o, h1, h2, h3, _, L, rfl, ⟨rfl, N⟩, hq⟩ := H l s args hfit hw hg hn p e ha hc hk s m args below hf ((Spec.applies_iff_loose hf).mp happ).1 ⟨rfl, State.Warmed39.refl s, rfl⟩ trivial
  exact ⟨n, _, h1, h2, h3, hpost _ _ _ _ _ _ ⟨Cond.after_iff.mpr rfl, Cond.after_iff.mpr (eq_i res_at (Term.int_eval (1)) rfl)⟩ ⟨hq.1, hq.2.1, (hq.2.2.sift fun y hy => Or.inr (N y hy)).mono (by decide) (by decide)⟩⟩
set_option maxRecDepth 65536 in
theorem own_law (l : Launch) (s : State) (args : Array Value) (hfit : Fit s) (hw : ∀ d ∈ tables_1, d.before args s = true) (hg : given_1.value args s none s [] = some true) (hn : narrow_1.value args s none s [] = some true) :
    own_Met l s s.heap tables_1 room_1 x code maxLocals ret args (fun v h L => v = some (.int 1) ∧ Fr s.heap.size L) := by
  obtain ⟨i, j, rfl⟩ := own_args2 (k := 0) hg
  obtain ⟨n0a, n0b⟩ := and_e hn
  obtain ⟨n1a, n1b⟩ := and_e n0b
  obtain ⟨n2a, n2b⟩ := and_e n1b
  obtain ⟨n3a, n3b⟩ := and_e n2b
  obtain ⟨n4a, n4b⟩ := and_e n3b
  obtain ⟨n5a, n5b⟩ := and_e n4b
  obtain ⟨n6a, n6b⟩ := and_e n5b
  obtain ⟨n7a, n7b⟩ := and_e n6b
  obtain ⟨n8a, n8b⟩ := and_e n7b
  obtain ⟨n9a, n9b⟩ := and_e n8b
  obtain ⟨n10a, n10b⟩ := and_e n9b
  obtain ⟨n11a, n11b⟩ := and_e n10b
  obtain ⟨n12a, n12b⟩ := and_e n11b
  obtain ⟨n13a, n13b⟩ := and_e n12b
  obtain ⟨n14a, n14b⟩ := and_e n13b
  obtain ⟨n15a, n15b⟩ := and_e n14b
  obtain ⟨n16a, n16b⟩ := and_e n15b
  obtain ⟨n17a, n17b⟩ := and_e n16b
  obtain ⟨n18a, n18b⟩ := and_e n17b
  obtain ⟨n19a, n19b⟩ := and_e n18b
  obtain ⟨n20a, n20b⟩ := and_e n19b
  obtain ⟨n21a, n21b⟩ := and_e n20b
  obtain ⟨n22a, n22b⟩ := and_e n21b
  obtain ⟨n23a, n23b⟩ := and_e n22b
  obtain ⟨n24a, n24b⟩ := and_e n23b
  obtain ⟨n25a, n25b⟩ := and_e n24b
  obtain ⟨n26a, n26b⟩ := and_e n25b
  obtain ⟨n27a, n27b⟩ := and_e n26b
  obtain ⟨n28a, n28b⟩ := and_e n27b
  obtain ⟨n29a, n29b⟩ := and_e n28b
  obtain ⟨n30a, n30b⟩ := and_e n29b
  obtain ⟨n31a, n31b⟩ := and_e n30b
  obtain ⟨n32a, n32b⟩ := and_e n31b
  obtain ⟨n33a, n33b⟩ := and_e n32b
  obtain ⟨n34a, n34b⟩ := and_e n33b
  obtain ⟨n35a, n35b⟩ := and_e n34b
  obtain ⟨n36a, n36b⟩ := and_e n35b
  obtain ⟨n37a, n37b⟩ := and_e n36b
  obtain ⟨n38a, n38b⟩ := and_e n37b
  obtain ⟨a_BY_TAG, cl_BY_TAG, V_BY_TAG, A_BY_TAG, S_BY_TAG⟩ := own_ax n0a (hw _ (List.mem_of_getElem? (i := 2) rfl)) (hw _ (List.mem_of_getElem? (i := 5) rfl))
  have Z_BY_TAG := own_len V_BY_TAG A_BY_TAG n1a
  have Y_BY_TAG_0 := own_eln V_BY_TAG A_BY_TAG n2a
  have Y_BY_TAG_14 := own_eln V_BY_TAG A_BY_TAG n3a
  obtain ⟨a_METHOD_TYPE, V_METHOD_TYPE, E_METHOD_TYPE, S_METHOD_TYPE⟩ := own_sx n4a (hw _ (List.mem_of_getElem? (i := 2) rfl)) (hw _ (List.mem_of_getElem? (i := 10) rfl))
  have Y_BY_TAG_16 := own_elr V_BY_TAG A_BY_TAG V_METHOD_TYPE n5a
  obtain ⟨a_FIELDREF, V_FIELDREF, E_FIELDREF, S_FIELDREF⟩ := own_sx n6a (hw _ (List.mem_of_getElem? (i := 2) rfl)) (hw _ (List.mem_of_getElem? (i := 12) rfl))
  have Y_BY_TAG_9 := own_elr V_BY_TAG A_BY_TAG V_FIELDREF n7a
  obtain ⟨a_DOUBLE, V_DOUBLE, E_DOUBLE, S_DOUBLE⟩ := own_sx n8a (hw _ (List.mem_of_getElem? (i := 2) rfl)) (hw _ (List.mem_of_getElem? (i := 14) rfl))
  have Y_BY_TAG_6 := own_elr V_BY_TAG A_BY_TAG V_DOUBLE n9a
  obtain ⟨a_STRING, V_STRING, E_STRING, S_STRING⟩ := own_sx n10a (hw _ (List.mem_of_getElem? (i := 2) rfl)) (hw _ (List.mem_of_getElem? (i := 16) rfl))
  have Y_BY_TAG_8 := own_elr V_BY_TAG A_BY_TAG V_STRING n11a
  obtain ⟨a_NAME_AND_TYPE, V_NAME_AND_TYPE, E_NAME_AND_TYPE, S_NAME_AND_TYPE⟩ := own_sx n12a (hw _ (List.mem_of_getElem? (i := 2) rfl)) (hw _ (List.mem_of_getElem? (i := 18) rfl))
  have Y_BY_TAG_12 := own_elr V_BY_TAG A_BY_TAG V_NAME_AND_TYPE n13a
  obtain ⟨a_UTF8, V_UTF8, E_UTF8, S_UTF8⟩ := own_sx n14a (hw _ (List.mem_of_getElem? (i := 2) rfl)) (hw _ (List.mem_of_getElem? (i := 19) rfl))
  have Y_BY_TAG_1 := own_elr V_BY_TAG A_BY_TAG V_UTF8 n15a
  obtain ⟨a_INTEGER, V_INTEGER, E_INTEGER, S_INTEGER⟩ := own_sx n16a (hw _ (List.mem_of_getElem? (i := 2) rfl)) (hw _ (List.mem_of_getElem? (i := 22) rfl))
  have Y_BY_TAG_3 := own_elr V_BY_TAG A_BY_TAG V_INTEGER n17a
  obtain ⟨a_MODULE, V_MODULE, E_MODULE, S_MODULE⟩ := own_sx n18a (hw _ (List.mem_of_getElem? (i := 2) rfl)) (hw _ (List.mem_of_getElem? (i := 24) rfl))
  have Y_BY_TAG_19 := own_elr V_BY_TAG A_BY_TAG V_MODULE n19a
  have Y_BY_TAG_2 := own_eln V_BY_TAG A_BY_TAG n20a
  obtain ⟨a_METHODREF, V_METHODREF, E_METHODREF, S_METHODREF⟩ := own_sx n21a (hw _ (List.mem_of_getElem? (i := 2) rfl)) (hw _ (List.mem_of_getElem? (i := 26) rfl))
  have Y_BY_TAG_10 := own_elr V_BY_TAG A_BY_TAG V_METHODREF n22a
  obtain ⟨a_INTERFACE_METHODREF, V_INTERFACE_METHODREF, E_INTERFACE_METHODREF, S_INTERFACE_METHODREF⟩ := own_sx n23a (hw _ (List.mem_of_getElem? (i := 2) rfl)) (hw _ (List.mem_of_getElem? (i := 28) rfl))
  have Y_BY_TAG_11 := own_elr V_BY_TAG A_BY_TAG V_INTERFACE_METHODREF n24a
  obtain ⟨a_LONG, V_LONG, E_LONG, S_LONG⟩ := own_sx n25a (hw _ (List.mem_of_getElem? (i := 2) rfl)) (hw _ (List.mem_of_getElem? (i := 30) rfl))
  have Y_BY_TAG_5 := own_elr V_BY_TAG A_BY_TAG V_LONG n26a
  obtain ⟨a_PACKAGE, V_PACKAGE, E_PACKAGE, S_PACKAGE⟩ := own_sx n27a (hw _ (List.mem_of_getElem? (i := 2) rfl)) (hw _ (List.mem_of_getElem? (i := 32) rfl))
  have Y_BY_TAG_20 := own_elr V_BY_TAG A_BY_TAG V_PACKAGE n28a
  obtain ⟨a_INVOKE_DYNAMIC, V_INVOKE_DYNAMIC, E_INVOKE_DYNAMIC, S_INVOKE_DYNAMIC⟩ := own_sx n29a (hw _ (List.mem_of_getElem? (i := 2) rfl)) (hw _ (List.mem_of_getElem? (i := 34) rfl))
  have Y_BY_TAG_18 := own_elr V_BY_TAG A_BY_TAG V_INVOKE_DYNAMIC n30a
  obtain ⟨a_METHOD_HANDLE, V_METHOD_HANDLE, E_METHOD_HANDLE, S_METHOD_HANDLE⟩ := own_sx n31a (hw _ (List.mem_of_getElem? (i := 2) rfl)) (hw _ (List.mem_of_getElem? (i := 36) rfl))
  have Y_BY_TAG_15 := own_elr V_BY_TAG A_BY_TAG V_METHOD_HANDLE n32a
  have Y_BY_TAG_13 := own_eln V_BY_TAG A_BY_TAG n33a
  obtain ⟨a_FLOAT, V_FLOAT, E_FLOAT, S_FLOAT⟩ := own_sx n34a (hw _ (List.mem_of_getElem? (i := 2) rfl)) (hw _ (List.mem_of_getElem? (i := 38) rfl))
  have Y_BY_TAG_4 := own_elr V_BY_TAG A_BY_TAG V_FLOAT n35a
  obtain ⟨a_CLASS, V_CLASS, E_CLASS, S_CLASS⟩ := own_sx n36a (hw _ (List.mem_of_getElem? (i := 2) rfl)) (hw _ (List.mem_of_getElem? (i := 40) rfl))
  have Y_BY_TAG_7 := own_elr V_BY_TAG A_BY_TAG V_CLASS n37a
  obtain ⟨a_DYNAMIC, V_DYNAMIC, E_DYNAMIC, S_DYNAMIC⟩ := own_sx n38a (hw _ (List.mem_of_getElem? (i := 2) rfl)) (hw _ (List.mem_of_getElem? (i := 42) rfl))
  have Y_BY_TAG_17 := own_elr V_BY_TAG A_BY_TAG V_DYNAMIC n38b
  have hE : own_E s s.heap a_BY_TAG a_METHOD_TYPE a_FIELDREF a_DOUBLE a_STRING a_NAME_AND_TYPE a_UTF8 a_INTEGER a_MODULE a_METHODREF a_INTERFACE_METHODREF a_LONG a_PACKAGE a_INVOKE_DYNAMIC a_METHOD_HANDLE a_FLOAT a_CLASS a_DYNAMIC cl_BY_TAG := ⟨S_BY_TAG, S_METHOD_TYPE, S_FIELDREF, S_DOUBLE, S_STRING, S_NAME_AND_TYPE, S_UTF8, S_INTEGER, S_MODULE, S_METHODREF, S_INTERFACE_METHODREF, S_LONG, S_PACKAGE, S_INVOKE_DYNAMIC, S_METHOD_HANDLE, S_FLOAT, S_CLASS, S_DYNAMIC, A_BY_TAG, Z_BY_TAG, Y_BY_TAG_0, Y_BY_TAG_1, Y_BY_TAG_2, Y_BY_TAG_3, Y_BY_TAG_4, Y_BY_TAG_5, Y_BY_TAG_6, Y_BY_TAG_7, Y_BY_TAG_8, Y_BY_TAG_9, Y_BY_TAG_10, Y_BY_TAG_11, Y_BY_TAG_12, Y_BY_TAG_13, Y_BY_TAG_14, Y_BY_TAG_15, Y_BY_TAG_16, Y_BY_TAG_17, Y_BY_TAG_18, Y_BY_TAG_19, Y_BY_TAG_20, E_METHOD_TYPE, E_FIELDREF, E_DOUBLE, E_STRING, E_NAME_AND_TYPE, E_UTF8, E_INTEGER, E_MODULE, E_METHODREF, E_INTERFACE_METHODREF, E_LONG, E_PACKAGE, E_INVOKE_DYNAMIC, E_METHOD_HANDLE, E_FLOAT, E_CLASS, E_DYNAMIC, trivial⟩
  exact own_weaken (own_lawP l s _ hw s.heap a_BY_TAG a_METHOD_TYPE a_FIELDREF a_DOUBLE a_STRING a_NAME_AND_TYPE a_UTF8 a_INTEGER a_MODULE a_METHODREF a_INTERFACE_METHODREF a_LONG a_PACKAGE a_INVOKE_DYNAMIC a_METHOD_HANDLE a_FLOAT a_CLASS a_DYNAMIC cl_BY_TAG hE i j)
theorem main_1_1 : Claimed_1_1 := own_comes own_law fun _ _ _ _ _ _ h hF => ⟨h.1, hF⟩
theorem main_1_2 : Claimed_1_2 := own_comes own_law fun _ _ _ _ _ _ h hF => ⟨h.2, hF⟩
end Jvm.Pilot.@@N@@
namespace Jvm.Pilot.@@N@@
open Jvm Jvm.ClassFile Sem Op Lib Jvm.Free Jvm.Stand Jvm.Pilot.@@N@@.Jvm.D
/-! MADE BY PROGRAM (witnessworld.py) out of the Statement's table words and the real class files: 13 classes; the members and pool entries that the words name. The judged class is class 1, her method 2. -/
namespace start1
open Jvm.ClassFile
def u (s : String) : CpInfo := .utf8 (stringToUtf16 s)
/-- a pool by its gaps: so many unusable entries, then the entry; so many at the end -/
def gap : Nat → List CpInfo → List CpInfo
  | 0, r => r
  | n + 1, r => .unusable :: gap n r
def poolList (es : List (Nat × CpInfo)) (last : Nat) : List CpInfo := es.foldr (fun e r => gap e.1 (e.2 :: r)) (gap last [])
def pool (es : List (Nat × CpInfo)) (last : Nat) : Array CpInfo := ⟨poolList es last⟩
def fileOf (pool : Array CpInfo) (this : Nat) (attrs : Array Attribute := #[]) (ms : Array MethodInfo := #[]) (fl : Nat := 33) (sup : Nat := 0) (ifs : Array Nat := #[]) (fds : Array FieldInfo := #[]) : ClassFile where
  minorVersion := 0
  majorVersion := 65
  constantPool := pool
  accessFlags := fl
  thisClass := this
  superClass := sup
  interfaces := ifs
  fields := fds
  methods := ms
  attributes := attrs
def plain (name : String) (sup : Option ClassId) : Class where
  name := name
  kind := .ordinary
  loader := none
  accessFlags := 33
  super := sup
  interfaces := #[]
  cf := none
  fields := #[]
  methods := #[]
  instanceTypes := #[]
  staticTypes := #[]
  resolved := #[]
  callSites := []
  init := .initialized
  statics := none
  mirror := none

def pool0 : Array CpInfo := pool [(5, u "<init>"), (0, u "()V"), (1, .class_ 10), (1, u "java/lang/Object")] 113

def k0m0 : Method := { name := "<init>", desc := "()V", sig := { parameters := [], returnType := none }, accessFlags := 1, code := none }
/-- java/lang/Object -/
def k0 : Class := { plain "java/lang/Object" none with
  accessFlags := 33
  interfaces := #[]
  cf := some (fileOf pool0 8 #[] #[{ accessFlags := 1, nameIndex := 5, descriptorIndex := 6, attributes := #[] }] 33 0 #[] #[])
  fields := #[]
  methods := #[k0m0]
  instanceTypes := #[]
  staticTypes := #[]
  resolved := Array.replicate 124 none
  statics := none }

def pool1 : Array CpInfo := pool [(2, .class_ 4), (1, u "java/lang/Object"), (0, u "<init>"), (0, u "()V"), (0, .fieldref 8 9), (0, .class_ 10), (0, .nameAndType 11 12), (0, u "com/example/veritype/veritype/model/ConstantKind"), (0, u "UTF8"), (0, u "Lcom/example/veritype/veritype/model/ConstantKind;"), (0, .fieldref 8 14), (0, .nameAndType 15 12), (0, u "INTEGER"), (0, .fieldref 8 17), (0, .nameAndType 18 12), (0, u "FLOAT"), (0, .fieldref 8 20), (0, .nameAndType 21 12), (0, u "LONG"), (0, .fieldref 8 23), (0, .nameAndType 24 12), (0, u "DOUBLE"), (0, .fieldref 8 26), (0, .nameAndType 27 12), (0, u "CLASS"), (0, .fieldref 8 29), (0, .nameAndType 30 12), (0, u "STRING"), (0, .fieldref 8 32), (0, .nameAndType 33 12), (0, u "FIELDREF"), (0, .fieldref 8 35), (0, .nameAndType 36 12), (0, u "METHODREF"), (0, .fieldref 8 38), (0, .nameAndType 39 12), (0, u "INTERFACE_METHODREF"), (0, .fieldref 8 41), (0, .nameAndType 42 12), (0, u "NAME_AND_TYPE"), (0, .fieldref 8 44), (0, .nameAndType 45 12), (0, u "METHOD_HANDLE"), (0, .fieldref 8 47), (0, .nameAndType 48 12), (0, u "METHOD_TYPE"), (0, .fieldref 8 50), (0, .nameAndType 51 12), (0, u "DYNAMIC"), (0, .fieldref 8 53), (0, .nameAndType 54 12), (0, u "INVOKE_DYNAMIC"), (0, .fieldref 8 56), (0, .nameAndType 57 12), (0, u "MODULE"), (0, .fieldref 8 59), (0, .nameAndType 60 12), (0, u "PACKAGE"), (0, .methodref 8 62), (0, .nameAndType 63 64), (0, u "ofTag"), (0, u "(I)Lcom/example/veritype/veritype/model/ConstantKind;"), (0, .methodref 66 67), (0, .class_ 68), (0, .nameAndType 69 64), (0, u "com/example/veritype/veritype/model/ConstantKindOfTagPinLaw"), (0, u "expected"), (3, u "law"), (0, u "(II)Z")] 2

def k1m0 : Method := { name := "<init>", desc := "()V", sig := { parameters := [], returnType := none }, accessFlags := 1, code := none }
def k1c1 : Code := { maxStack := 2, maxLocals := 1, code := method_2_code, exceptionTable := #[], attributes := #[] }
def k1m1 : Method := { name := "expected", desc := "(I)Lcom/example/veritype/veritype/model/ConstantKind;", sig := { parameters := [.int], returnType := some (.object "com/example/veritype/veritype/model/ConstantKind") }, accessFlags := 10, code := some k1c1 }
def k1c2 : Code := { maxStack := 2, maxLocals := 5, code := code, exceptionTable := #[], attributes := #[] }
def k1m2 : Method := { name := "law", desc := "(II)Z", sig := { parameters := [.int, .int], returnType := some .boolean }, accessFlags := 9, code := some k1c2 }
/-- com/example/veritype/veritype/model/ConstantKindOfTagPinLaw -/
def k1 : Class := { plain "com/example/veritype/veritype/model/ConstantKindOfTagPinLaw" (some 0) with
  accessFlags := 49
  interfaces := #[]
  cf := some (fileOf pool1 66 #[] #[{ accessFlags := 1, nameIndex := 5, descriptorIndex := 6, attributes := #[] }, { accessFlags := 10, nameIndex := 69, descriptorIndex := 64, attributes := #[] }, { accessFlags := 9, nameIndex := 73, descriptorIndex := 74, attributes := #[] }] 49 2 #[] #[])
  fields := #[]
  methods := #[k1m0, k1m1, k1m2]
  instanceTypes := #[]
  staticTypes := #[]
  resolved := Array.replicate 77 none
  statics := none }

def pool2 : Array CpInfo := pool [(1, .class_ 2), (0, u "java/lang/constant/Constable"), (0, .class_ 4), (0, u "java/lang/Object")] 6

/-- java/lang/constant/Constable -/
def k2 : Class := { plain "java/lang/constant/Constable" (some 0) with
  accessFlags := 1537
  interfaces := #[]
  cf := some (fileOf pool2 1 #[] #[] 1537 3 #[] #[])
  fields := #[]
  methods := #[]
  instanceTypes := #[]
  staticTypes := #[]
  resolved := Array.replicate 11 none
  statics := none }

def pool3 : Array CpInfo := pool [(1, .class_ 2), (0, u "java/lang/Comparable"), (0, .class_ 4), (0, u "java/lang/Object")] 7

/-- java/lang/Comparable -/
def k3 : Class := { plain "java/lang/Comparable" (some 0) with
  accessFlags := 1537
  interfaces := #[]
  cf := some (fileOf pool3 1 #[] #[] 1537 3 #[] #[])
  fields := #[]
  methods := #[]
  instanceTypes := #[]
  staticTypes := #[]
  resolved := Array.replicate 12 none
  statics := none }

def pool4 : Array CpInfo := pool [(1, .class_ 2), (0, u "java/io/Serializable"), (0, .class_ 4), (0, u "java/lang/Object")] 2

/-- java/io/Serializable -/
def k4 : Class := { plain "java/io/Serializable" (some 0) with
  accessFlags := 1537
  interfaces := #[]
  cf := some (fileOf pool4 1 #[] #[] 1537 3 #[] #[])
  fields := #[]
  methods := #[]
  instanceTypes := #[]
  staticTypes := #[]
  resolved := Array.replicate 7 none
  statics := none }

def pool5 : Array CpInfo := pool [(2, .class_ 4), (1, u "java/lang/Enum"), (0, u "name"), (0, u "Ljava/lang/String;"), (2, u "ordinal"), (0, u "I"), (1, .class_ 14), (1, u "java/lang/Object"), (4, u "hash"), (86, .class_ 108), (1, u "java/lang/Enum$EnumDesc"), (2, .class_ 112), (0, u "java/lang/constant/Constable"), (0, .class_ 114), (0, u "java/lang/Comparable"), (0, .class_ 116), (0, u "java/io/Serializable")] 87

/-- java/lang/Enum -/
def k5 : Class := { plain "java/lang/Enum" (some 0) with
  accessFlags := 1057
  interfaces := #[2, 3, 4]
  cf := some (fileOf pool5 2 #[.nestMembers #[106]] #[] 1057 12 #[111, 113, 115] #[{ accessFlags := 18, nameIndex := 5, descriptorIndex := 6, attributes := #[] }, { accessFlags := 18, nameIndex := 9, descriptorIndex := 10, attributes := #[] }, { accessFlags := 2, nameIndex := 19, descriptorIndex := 10, attributes := #[] }])
  fields := #[{ name := "name", type := (.object "java/lang/String"), accessFlags := 18, slot := 0, constantValue := 0 }, { name := "ordinal", type := .int, accessFlags := 18, slot := 1, constantValue := 0 }, { name := "hash", type := .int, accessFlags := 2, slot := 2, constantValue := 0 }]
  methods := #[]
  instanceTypes := #[(.object "java/lang/String"), .int, .int]
  staticTypes := #[]
  resolved := Array.replicate 204 none
  statics := none }

def pool6 : Array CpInfo := pool [(1, .class_ 2), (0, u "com/example/veritype/veritype/model/ConstantKind"), (2, u "UTF8"), (0, u "Lcom/example/veritype/veritype/model/ConstantKind;"), (2, u "INTEGER"), (2, u "FLOAT"), (2, u "LONG"), (2, u "DOUBLE"), (2, u "CLASS"), (2, u "STRING"), (2, u "FIELDREF"), (2, u "METHODREF"), (2, u "INTERFACE_METHODREF"), (2, u "NAME_AND_TYPE"), (2, u "METHOD_HANDLE"), (2, u "METHOD_TYPE"), (2, u "DYNAMIC"), (2, u "INVOKE_DYNAMIC"), (2, u "MODULE"), (2, u "PACKAGE"), (2, u "$VALUES"), (0, u "[Lcom/example/veritype/veritype/model/ConstantKind;"), (6, .class_ 67), (1, u "java/lang/Enum"), (8, u "tag"), (0, u "I"), (2, u "specName"), (0, u "Ljava/lang/String;"), (2, u "sinceMajor"), (2, u "slots"), (2, u "loadable"), (0, u "Z"), (0, .fieldref 1 93), (0, .nameAndType 94 58), (0, u "BY_TAG"), (67, u "ofTag"), (0, u "(I)Lcom/example/veritype/veritype/model/ConstantKind;")] 10

def k6c0 : Code := { maxStack := 2, maxLocals := 1, code := prog_70_method_4_code, exceptionTable := #[], attributes := #[] }
def k6m0 : Method := { name := "ofTag", desc := "(I)Lcom/example/veritype/veritype/model/ConstantKind;", sig := { parameters := [.int], returnType := some (.object "com/example/veritype/veritype/model/ConstantKind") }, accessFlags := 9, code := some k6c0 }
/-- com/example/veritype/veritype/model/ConstantKind -/
def k6 : Class := { plain "com/example/veritype/veritype/model/ConstantKind" (some 5) with
  accessFlags := 16433
  interfaces := #[]
  cf := some (fileOf pool6 1 #[] #[{ accessFlags := 9, nameIndex := 162, descriptorIndex := 163, attributes := #[] }] 16433 65 #[] #[{ accessFlags := 16409, nameIndex := 5, descriptorIndex := 6, attributes := #[] }, { accessFlags := 16409, nameIndex := 9, descriptorIndex := 6, attributes := #[] }, { accessFlags := 16409, nameIndex := 12, descriptorIndex := 6, attributes := #[] }, { accessFlags := 16409, nameIndex := 15, descriptorIndex := 6, attributes := #[] }, { accessFlags := 16409, nameIndex := 18, descriptorIndex := 6, attributes := #[] }, { accessFlags := 16409, nameIndex := 21, descriptorIndex := 6, attributes := #[] }, { accessFlags := 16409, nameIndex := 24, descriptorIndex := 6, attributes := #[] }, { accessFlags := 16409, nameIndex := 27, descriptorIndex := 6, attributes := #[] }, { accessFlags := 16409, nameIndex := 30, descriptorIndex := 6, attributes := #[] }, { accessFlags := 16409, nameIndex := 33, descriptorIndex := 6, attributes := #[] }, { accessFlags := 16409, nameIndex := 36, descriptorIndex := 6, attributes := #[] }, { accessFlags := 16409, nameIndex := 39, descriptorIndex := 6, attributes := #[] }, { accessFlags := 16409, nameIndex := 42, descriptorIndex := 6, attributes := #[] }, { accessFlags := 16409, nameIndex := 45, descriptorIndex := 6, attributes := #[] }, { accessFlags := 16409, nameIndex := 48, descriptorIndex := 6, attributes := #[] }, { accessFlags := 16409, nameIndex := 51, descriptorIndex := 6, attributes := #[] }, { accessFlags := 16409, nameIndex := 54, descriptorIndex := 6, attributes := #[] }, { accessFlags := 26, nameIndex := 94, descriptorIndex := 58, attributes := #[] }, { accessFlags := 18, nameIndex := 76, descriptorIndex := 77, attributes := #[] }, { accessFlags := 18, nameIndex := 80, descriptorIndex := 81, attributes := #[] }, { accessFlags := 18, nameIndex := 84, descriptorIndex := 77, attributes := #[] }, { accessFlags := 18, nameIndex := 87, descriptorIndex := 77, attributes := #[] }, { accessFlags := 18, nameIndex := 90, descriptorIndex := 91, attributes := #[] }, { accessFlags := 4122, nameIndex := 57, descriptorIndex := 58, attributes := #[] }])
  fields := #[{ name := "UTF8", type := (.object "com/example/veritype/veritype/model/ConstantKind"), accessFlags := 16409, slot := 0, constantValue := 0 }, { name := "INTEGER", type := (.object "com/example/veritype/veritype/model/ConstantKind"), accessFlags := 16409, slot := 1, constantValue := 0 }, { name := "FLOAT", type := (.object "com/example/veritype/veritype/model/ConstantKind"), accessFlags := 16409, slot := 2, constantValue := 0 }, { name := "LONG", type := (.object "com/example/veritype/veritype/model/ConstantKind"), accessFlags := 16409, slot := 3, constantValue := 0 }, { name := "DOUBLE", type := (.object "com/example/veritype/veritype/model/ConstantKind"), accessFlags := 16409, slot := 4, constantValue := 0 }, { name := "CLASS", type := (.object "com/example/veritype/veritype/model/ConstantKind"), accessFlags := 16409, slot := 5, constantValue := 0 }, { name := "STRING", type := (.object "com/example/veritype/veritype/model/ConstantKind"), accessFlags := 16409, slot := 6, constantValue := 0 }, { name := "FIELDREF", type := (.object "com/example/veritype/veritype/model/ConstantKind"), accessFlags := 16409, slot := 7, constantValue := 0 }, { name := "METHODREF", type := (.object "com/example/veritype/veritype/model/ConstantKind"), accessFlags := 16409, slot := 8, constantValue := 0 }, { name := "INTERFACE_METHODREF", type := (.object "com/example/veritype/veritype/model/ConstantKind"), accessFlags := 16409, slot := 9, constantValue := 0 }, { name := "NAME_AND_TYPE", type := (.object "com/example/veritype/veritype/model/ConstantKind"), accessFlags := 16409, slot := 10, constantValue := 0 }, { name := "METHOD_HANDLE", type := (.object "com/example/veritype/veritype/model/ConstantKind"), accessFlags := 16409, slot := 11, constantValue := 0 }, { name := "METHOD_TYPE", type := (.object "com/example/veritype/veritype/model/ConstantKind"), accessFlags := 16409, slot := 12, constantValue := 0 }, { name := "DYNAMIC", type := (.object "com/example/veritype/veritype/model/ConstantKind"), accessFlags := 16409, slot := 13, constantValue := 0 }, { name := "INVOKE_DYNAMIC", type := (.object "com/example/veritype/veritype/model/ConstantKind"), accessFlags := 16409, slot := 14, constantValue := 0 }, { name := "MODULE", type := (.object "com/example/veritype/veritype/model/ConstantKind"), accessFlags := 16409, slot := 15, constantValue := 0 }, { name := "PACKAGE", type := (.object "com/example/veritype/veritype/model/ConstantKind"), accessFlags := 16409, slot := 16, constantValue := 0 }, { name := "BY_TAG", type := (.array (.object "com/example/veritype/veritype/model/ConstantKind")), accessFlags := 26, slot := 17, constantValue := 0 }, { name := "tag", type := .int, accessFlags := 18, slot := 3, constantValue := 0 }, { name := "specName", type := (.object "java/lang/String"), accessFlags := 18, slot := 4, constantValue := 0 }, { name := "sinceMajor", type := .int, accessFlags := 18, slot := 5, constantValue := 0 }, { name := "slots", type := .int, accessFlags := 18, slot := 6, constantValue := 0 }, { name := "loadable", type := .boolean, accessFlags := 18, slot := 7, constantValue := 0 }, { name := "$VALUES", type := (.array (.object "com/example/veritype/veritype/model/ConstantKind")), accessFlags := 4122, slot := 18, constantValue := 0 }]
  methods := #[k6m0]
  instanceTypes := #[(.object "java/lang/String"), .int, .int, .int, (.object "java/lang/String"), .int, .int, .boolean]
  staticTypes := #[(.object "com/example/veritype/veritype/model/ConstantKind"), (.object "com/example/veritype/veritype/model/ConstantKind"), (.object "com/example/veritype/veritype/model/ConstantKind"), (.object "com/example/veritype/veritype/model/ConstantKind"), (.object "com/example/veritype/veritype/model/ConstantKind"), (.object "com/example/veritype/veritype/model/ConstantKind"), (.object "com/example/veritype/veritype/model/ConstantKind"), (.object "com/example/veritype/veritype/model/ConstantKind"), (.object "com/example/veritype/veritype/model/ConstantKind"), (.object "com/example/veritype/veritype/model/ConstantKind"), (.object "com/example/veritype/veritype/model/ConstantKind"), (.object "com/example/veritype/veritype/model/ConstantKind"), (.object "com/example/veritype/veritype/model/ConstantKind"), (.object "com/example/veritype/veritype/model/ConstantKind"), (.object "com/example/veritype/veritype/model/ConstantKind"), (.object "com/example/veritype/veritype/model/ConstantKind"), (.object "com/example/veritype/veritype/model/ConstantKind"), (.array (.object "com/example/veritype/veritype/model/ConstantKind")), (.array (.object "com/example/veritype/veritype/model/ConstantKind"))]
  resolved := Array.replicate 174 none
  statics := some 0 }

def pool7 : Array CpInfo := pool [(1, u "java/lang/Cloneable"), (0, .class_ 1), (0, u "java/lang/Object"), (0, .class_ 3)] 3

/-- java/lang/Cloneable -/
def k7 : Class := { plain "java/lang/Cloneable" (some 0) with
  accessFlags := 1537
  interfaces := #[]
  cf := some (fileOf pool7 2 #[] #[] 1537 4 #[] #[])
  fields := #[]
  methods := #[]
  instanceTypes := #[]
  staticTypes := #[]
  resolved := Array.replicate 8 none
  statics := none }

/-- the primitive byte -/
def k8 : Class := { plain "byte" none with kind := .primitive 'B', accessFlags := 0x411 }
/-- [B -/
def k9 : Class := { plain "[B" (some 0) with kind := .array 8 .byte, interfaces := #[7, 4], accessFlags := 1041 }

/-- the primitive int -/
def k10 : Class := { plain "int" none with kind := .primitive 'I', accessFlags := 0x411 }
/-- [I -/
def k11 : Class := { plain "[I" (some 0) with kind := .array 10 .int, interfaces := #[7, 4], accessFlags := 1041 }

/-- [Lcom/example/veritype/veritype/model/ConstantKind; -/
def k12 : Class := { plain "[Lcom/example/veritype/veritype/model/ConstantKind;" (some 0) with kind := .array 6 (.object "com/example/veritype/veritype/model/ConstantKind"), interfaces := #[7, 4], accessFlags := 1041 }

def heap : Heap := #[{ cls := 6, slots := #[.ref 7, .ref 8, .ref 16, .ref 12, .ref 4, .ref 17, .ref 5, .ref 3, .ref 10, .ref 11, .ref 6, .ref 15, .ref 2, .ref 18, .ref 14, .ref 9, .ref 13, .ref 1, .null], vm := .statics 6 },
  { cls := 12, slots := #[.null, .ref 7, .null, .ref 8, .ref 16, .ref 12, .ref 4, .ref 17, .ref 5, .ref 3, .ref 10, .ref 11, .ref 6, .null, .null, .ref 15, .ref 2, .ref 18, .ref 14, .ref 9, .ref 13], vm := .none },
  { cls := 6, slots := #[.null, .int 0, .int 0, .int 0, .null, .int 0, .int 0, .int 0], vm := .none },
  { cls := 6, slots := #[.null, .int 0, .int 0, .int 0, .null, .int 0, .int 0, .int 0], vm := .none },
  { cls := 6, slots := #[.null, .int 0, .int 0, .int 0, .null, .int 0, .int 0, .int 0], vm := .none },
  { cls := 6, slots := #[.null, .int 0, .int 0, .int 0, .null, .int 0, .int 0, .int 0], vm := .none },
  { cls := 6, slots := #[.null, .int 0, .int 0, .int 0, .null, .int 0, .int 0, .int 0], vm := .none },
  { cls := 6, slots := #[.null, .int 0, .int 0, .int 0, .null, .int 0, .int 0, .int 0], vm := .none },
  { cls := 6, slots := #[.null, .int 0, .int 0, .int 0, .null, .int 0, .int 0, .int 0], vm := .none },
  { cls := 6, slots := #[.null, .int 0, .int 0, .int 0, .null, .int 0, .int 0, .int 0], vm := .none },
  { cls := 6, slots := #[.null, .int 0, .int 0, .int 0, .null, .int 0, .int 0, .int 0], vm := .none },
  { cls := 6, slots := #[.null, .int 0, .int 0, .int 0, .null, .int 0, .int 0, .int 0], vm := .none },
  { cls := 6, slots := #[.null, .int 0, .int 0, .int 0, .null, .int 0, .int 0, .int 0], vm := .none },
  { cls := 6, slots := #[.null, .int 0, .int 0, .int 0, .null, .int 0, .int 0, .int 0], vm := .none },
  { cls := 6, slots := #[.null, .int 0, .int 0, .int 0, .null, .int 0, .int 0, .int 0], vm := .none },
  { cls := 6, slots := #[.null, .int 0, .int 0, .int 0, .null, .int 0, .int 0, .int 0], vm := .none },
  { cls := 6, slots := #[.null, .int 0, .int 0, .int 0, .null, .int 0, .int 0, .int 0], vm := .none },
  { cls := 6, slots := #[.null, .int 0, .int 0, .int 0, .null, .int 0, .int 0, .int 0], vm := .none },
  { cls := 6, slots := #[.null, .int 0, .int 0, .int 0, .null, .int 0, .int 0, .int 0], vm := .none }]
def classes : Array Class := #[k0, k1, k2, k3, k4, k5, k6, k7, k8, k9, k10, k11, k12]
def interned : List (Array UInt16 × Addr) := []
def slotsUsed : Nat := 176
def theMethod : MethodId := ⟨1, 2⟩
def args0 : Array Value := #[.int 5, .int 6]
def aboutOver (below : List Frame) : State where
  vm := { classes := classes, interned := interned.toArray }
  heap := heap
  slotsUsed := slotsUsed
  threads := #[{ frames := .invoking theMethod args0 :: below }]
def below0 : List Frame := [.native { method := ⟨0, 0⟩, args := #[] }]
def about1 : State := aboutOver below0
def p0 : Program := .bare "" "" ""
def e0 : Env := launch0.env 0 0 0
theorem w_frames : about1.frames = Frame.invoking theMethod args0 :: below0 := rfl
set_option maxRecDepth 65536 in
theorem w_args : argsFit about1.vm theMethod args0 = true := by decide +kernel
set_option maxRecDepth 65536 in
theorem w_heap : heapFits about1 = true := by decide +kernel
set_option maxRecDepth 65536 in
theorem w_runnable : about1.curStatus? = some .runnable := by decide +kernel
set_option maxRecDepth 65536 in
theorem w_alone : about1.alone = true := by decide +kernel
set_option maxRecDepth 65536 in
theorem w_named : about1.methodNamed? x = some theMethod := by decide +kernel
set_option maxRecDepth 65536 in
theorem w_hears : about1.hears theMethod below0 = true := by decide +kernel
set_option maxRecDepth 65536 in
theorem w_ripe : about1.ripe theMethod args0 below0 = true := by decide +kernel
theorem w_running : about1.status = .running := rfl
set_option maxRecDepth 65536 in
theorem w_room : about1.hasRoom e0.platform room_1 = true :=
  launch0.hasRoom_least _ room_1 (by decide +kernel) (by decide +kernel) (by decide +kernel) (by decide +kernel) (by decide +kernel) (by decide +kernel)
theorem allAtoms_all (ts : List Jvm.Cond) (a : Array Jvm.Value) (st : Jvm.State) : (allAtoms ts).before a st = ts.all (fun c => c.before a st) := by
  induction ts with
  | nil => rfl
  | cons c t ih =>
    show (Jvm.Cond.and c (allAtoms t)).before a st = _
    rw [Jvm.Cond.before_and, ih, List.all_cons]
def words1 : List Jvm.Cond := Jvm.Cond.code x code maxLocals ret :: tables_1
/-- a 'code' word, met by the world's own term for the bytes: nothing is compared byte by byte -/
theorem code_word {y : MethodName} {bytes : ByteArray} {mx : Nat} {rt : Option FieldType} {a : Array Value} {s : State} {m : MethodId} {meth : Method} {c : Code} (h1 : s.methodNamed? y = some m) (h2 : s.vm.method? m = some meth) (h3 : meth.code = some c) (h4 : c.code = bytes)
    (h5 : (c.maxLocals == mx && c.exceptionTable.isEmpty && decide (c.maxStack ≤ mostOperands) && decide (meth.sig.returnType = rt) && !meth.locks && decide (parseMethodDescriptor y.desc = some meth.sig)) = true) : (Jvm.Cond.code y bytes mx rt).before a s = true := by
  simp only [Bool.and_eq_true, beq_iff_eq, Bool.not_eq_true', decide_eq_true_eq] at h5
  obtain ⟨⟨⟨⟨⟨g1, g2⟩, g3⟩, g4⟩, g5⟩, g6⟩ := h5
  simp [Cond.before, Cond.holds, Cond.value, h1, h2, h3, h4, g1, g2, g3, g4, g5, g6]
def isCode : Jvm.Cond → Bool
  | .code _ _ _ _ => true
  | _ => false
theorem all_split {L : List Jvm.Cond} {P : Jvm.Cond → Bool} (h1 : L.all (fun c => isCode c || P c) = true) (h2 : ∀ c ∈ L.filter isCode, P c = true) : L.all P = true := by
  refine List.all_eq_true.mpr fun c hc => ?_
  have h := List.all_eq_true.mp h1 c hc
  rcases Bool.eq_false_or_eq_true (isCode c) with hi | hi
  · exact h2 c (List.mem_filter.mpr ⟨hc, hi⟩)
  · simpa [hi] using h
set_option maxRecDepth 65536 in
theorem w_c0 : (Jvm.Cond.code x code maxLocals ret).before args0 about1 = true := code_word (m := ⟨1, 2⟩) (meth := k1m2) (c := k1c2) (by decide +kernel) rfl rfl rfl (by decide +kernel)
set_option maxRecDepth 65536 in
theorem w_c1 : (Jvm.Cond.code ({ cls := "com/example/veritype/veritype/model/ConstantKind", name := "ofTag", desc := "(I)Lcom/example/veritype/veritype/model/ConstantKind;" } : Jvm.MethodName) prog_70_method_4_code (1 : Nat) (Option.some (Jvm.ClassFile.FieldType.object "com/example/veritype/veritype/model/ConstantKind"))).before args0 about1 = true := code_word (m := ⟨6, 0⟩) (meth := k6m0) (c := k6c0) (by decide +kernel) rfl rfl rfl (by decide +kernel)
set_option maxRecDepth 65536 in
theorem w_c2 : (Jvm.Cond.code ({ cls := "com/example/veritype/veritype/model/ConstantKindOfTagPinLaw", name := "expected", desc := "(I)Lcom/example/veritype/veritype/model/ConstantKind;" } : Jvm.MethodName) method_2_code (1 : Nat) (Option.some (Jvm.ClassFile.FieldType.object "com/example/veritype/veritype/model/ConstantKind"))).before args0 about1 = true := code_word (m := ⟨1, 1⟩) (meth := k1m1) (c := k1c1) (by decide +kernel) rfl rfl rfl (by decide +kernel)
def codes1 : List Jvm.Cond := [Jvm.Cond.code x code maxLocals ret, Jvm.Cond.code ({ cls := "com/example/veritype/veritype/model/ConstantKind", name := "ofTag", desc := "(I)Lcom/example/veritype/veritype/model/ConstantKind;" } : Jvm.MethodName) prog_70_method_4_code (1 : Nat) (Option.some (Jvm.ClassFile.FieldType.object "com/example/veritype/veritype/model/ConstantKind")), Jvm.Cond.code ({ cls := "com/example/veritype/veritype/model/ConstantKindOfTagPinLaw", name := "expected", desc := "(I)Lcom/example/veritype/veritype/model/ConstantKind;" } : Jvm.MethodName) method_2_code (1 : Nat) (Option.some (Jvm.ClassFile.FieldType.object "com/example/veritype/veritype/model/ConstantKind"))]
set_option maxRecDepth 65536 in
theorem codes_eq : words1.filter isCode = codes1 := rfl
theorem w_codes : ∀ c ∈ words1.filter isCode, c.before args0 about1 = true := by
  rw [codes_eq]
  intro c hc
  simp only [codes1, List.mem_cons, List.not_mem_nil, or_false] at hc
  rcases hc with rfl | rfl | rfl
  · exact w_c0
  · exact w_c1
  · exact w_c2
set_option maxRecDepth 65536 in
theorem w_t1 : (words1.take 24).all (fun c => isCode c || c.before args0 about1) = true := by decide +kernel
set_option maxRecDepth 65536 in
theorem w_t2 : (words1.drop 24).all (fun c => isCode c || c.before args0 about1) = true := by decide +kernel
theorem w_tables : (allAtoms (Jvm.Cond.code x code maxLocals ret :: tables_1)).before args0 about1 = true := by
  rw [allAtoms_all]
  show words1.all (fun c => c.before args0 about1) = true
  refine all_split ?_ w_codes
  rw [← List.take_append_drop 24 words1, List.all_append, w_t1, w_t2]
  rfl
set_option maxRecDepth 65536 in
theorem w_case : (Jvm.Cond.and given_1 narrow_1).before args0 about1 = true := by decide +kernel
theorem w_applies : (headSpec (Jvm.Cond.code x code maxLocals ret :: tables_1) room_1).applies x e0.platform about1 = true :=
  (Spec.applies_iff w_frames).mpr ⟨w_running, w_runnable, w_alone, w_named, w_hears, w_ripe, w_room, w_tables⟩
theorem atStart : AtStart classFile x code maxLocals ret World_1 tables_1 room_1 Calls_1 rest_1 Pre_1 launch0 p0 e0 about1 theMethod args0 below0 :=
  ⟨lists_1, trivial, launch0.admits_env _ _ _, launch0.least_env, fairChoices_fair.cas, fairChoices_fair.clock, w_frames, w_args, w_heap, w_applies, trivial, trivial, w_case⟩
end start1
theorem witness_1 : WitnessClaimed_1 := ⟨start1.p0, start1.e0, start1.about1, start1.theMethod, start1.args0, start1.below0, start1.atStart⟩
end Jvm.Pilot.@@N@@
