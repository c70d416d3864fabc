import JvmDerived
import JvmDerived.Pilot.@@N@@Statement
import JvmDerived.Pilot.@@N@@Code
set_option linter.unusedVariables false
set_option linter.unusedSimpArgs false
namespace Jvm.Pilot.@@N@@
open Jvm Jvm.ClassFile Sem Op Lib Jvm.Free Jvm.Stand Jvm.LawKit Jvm.RoadKit Bundle Jvm.Pilot.@@N@@.Jvm.D
/-! ### how a walk is told: 'own_Go' says that from here the body comes to its end, and what holds there -/
section OwnKit
variable {p : Program} {l : Launch} {e : Env} {R : Room} {s : State} {m : MethodId} {args : Array Value} {below : List Frame} {meth : Method} {c : Code} {T T' : State} {locs : List Loc} {cells slots kc ks : Nat} {F : Option Value → State → Prop} {Q : Option Value → Heap → List Loc → Prop} {g g' : JFrame} {Z : State} {a0 : Array Value} {h0 : Heap}
def own_Go (p : Program) (e : Env) (below : List Frame) (F : Option Value → State → Prop) (T : State) (g : JFrame) : Prop :=
  ∃ U v, Steps p.tables e below (T.setTop g) U ∧ U.status = .running ∧ Ended U below (.returned v) ∧ F v U
def own_N (s : State) (kc ks : Nat) (Q : Option Value → Heap → List Loc → Prop) : Option Value → State → Prop := fun v U => ∃ L, Q v U.heap L ∧ FrameEnd s (.returned v) U L kc ks
def own_W (s : State) (kc ks : Nat) (Q : Option Value → Heap → List Loc → Prop) : Option Value → State → Prop := fun v U => ∃ L, Q v U.heap L ∧ ReturnedEndW s (.returned v) U L kc ks
theorem own_st (h : ∀ t, Steps p.tables e below (T'.setTop g') t → Steps p.tables e below (T.setTop g) t) (G : own_Go p e below F T' g') : own_Go p e below F T g := by
  obtain ⟨U, v, h1, r⟩ := G
  exact ⟨U, v, h _ h1, r⟩
theorem own_ret (X : Stand p l e R s m args below meth c T locs cells slots) (hx : p.tables.exec = Jvm.exec) (hlk : meth.locks = false) {pc : Nat} {Ls : Array Slot} {w : Value} {t : FieldType} {i : Instr} {rest : List Value} (hret : meth.sig.returnType = some t) (hn : narrow t w = w)
    (hi : (i = .ireturn ∧ (t = .int ∨ t = .boolean ∨ t = .byte ∨ t = .char ∨ t = .short) ∧ ∃ z, w = .int z) ∨ (i = .lreturn ∧ t = .long ∧ ∃ z, w = .long z) ∨ (i = .dreturn ∧ t = .double ∧ ∃ z, w = .double z) ∨ (i = .freturn ∧ t = .float ∧ ∃ z, w = .float z) ∨ (i = .areturn ∧ t.isReference = true ∧ w.isRef = true))
    (hd : decode c.code pc = .ok (i, 1)) (hc : cells ≤ kc) (hs : slots ≤ ks) (q : Q (some w) T.heap locs) : own_Go p e below (own_N s kc ks Q) T (mkF m pc Ls (w :: rest)) := by
  obtain ⟨fs, hr, hrun, hended, hW, hsame⟩ := X.leave (v := some w) (fun h => by rw [hret] at h; cases h) hlk
  exact ⟨_, _, retOut X hx hret hn hi hd hr, hrun, hended, _, q, ⟨_, rfl⟩, hW, hsame.mono hc hs⟩
theorem own_retV (X : Stand p l e R s m args below meth c T locs cells slots) (hx : p.tables.exec = Jvm.exec) (hlk : meth.locks = false) {pc : Nat} {Ls : Array Slot} (hret : meth.sig.returnType = none) (hd : decode c.code pc = .ok (.return_, 1)) (hc : cells ≤ kc) (hs : slots ≤ ks) (q : Q none T.heap locs) : own_Go p e below (own_N s kc ks Q) T (mkF m pc Ls []) := by
  obtain ⟨fs, hr, hrun, hended, hW, hsame⟩ := X.leave (v := none) (fun _ => rfl) hlk
  exact ⟨_, _, X.returnOut hx hret hd hr, hrun, hended, _, q, ⟨_, rfl⟩, hW, hsame.mono hc hs⟩
theorem own_cat1 {w : Value} (h : w.isRef = true) : w.category = 1 := by
  rcases ref_cases h with rfl | ⟨a, rfl⟩ <;> rfl
/-- what a body does, begun at the heap h0 with these arguments -/
def own_Met (l : Launch) (Z : State) (h0 : Heap) (ws : List Jvm.Cond) (rm : Room) (y : MethodName) (bytes : ByteArray) (maxL : Nat) (ret : Option FieldType) (as' : Array Value) (Q : Option Value → Heap → List Loc → Prop) : Prop :=
  MetFree l y (head1 (Jvm.Cond.code y bytes maxL ret :: ws) rm) (fun a U => a = as' ∧ Z.Warmed39 U.vm ∧ U.heap = h0) (fun _ _ _ _ _ => True) (fun _ U o U' => ∃ v L, o = .returned v ∧ Q v U'.heap L ∧ FrameEnd U o U' L rm.cells rm.slots)
/-- it returns w and writes nothing -/
def own_Pure (l : Launch) (Z : State) (h0 : Heap) (ws : List Jvm.Cond) (rm : Room) (y : MethodName) (bytes : ByteArray) (maxL : Nat) (ret : Option FieldType) (as' : Array Value) (w : Option Value) : Prop :=
  own_Met l Z h0 ws rm y bytes maxL ret as' (fun v h L => v = w ∧ L = [] ∧ h = h0)
theorem own_body {ws : List Jvm.Cond} {rm : Room} {y : MethodName} {bytes : ByteArray} {maxL : Nat} {ret : Option FieldType} {as' : Array Value} (hpl : plainFor y = true)
    (H : ∀ (p : Program) (e : Env) (s : State) (m : MethodId) (below : List Frame) (meth : Method) (c : Code) (T : State), Stand p l e rm s m as' below meth c T [] 0 0 → p.tables.exec = Jvm.exec → c.code = bytes → c.maxLocals = maxL → s.vm.findClass y.cls = some m.cls → Z.Warmed39 s.vm → T.heap = h0 → meth.sig.returnType = ret → meth.locks = false → meth.name = y.name → s.methodNamed? y = some m →
      own_Go p e below (own_N s rm.cells rm.slots Q) T (entryFrame m as' maxL)) : own_Met l Z h0 ws rm y bytes maxL ret as' Q := by
  refine MetFree.of_bodySF hpl hisR ?_
  intro p e s m args below meth c s₁ Bd hml0 hP hK
  obtain ⟨rfl, hZ, hh⟩ := hP
  obtain ⟨U, v, h1, h2, h3, L, h4, h5⟩ := H p e s m below meth c s₁ (Stand.of_body Bd) Bd.exec Bd.bytes hml0 (findClass_of_methodNamed Bd.named) hZ (by rw [← hh, Bd.state]; rfl) Bd.returns Bd.notSynchronized (name_of_methodNamed Bd.named Bd.method).1 Bd.named
  exact ⟨U, _, h1, h2, h3, v, L, rfl, h4, h5⟩
theorem own_gS {rm : Room} {y : MethodName} {bytes : ByteArray} {maxL W index : Nat} {ret : Option FieldType} {own : String} {argsL rest : List Value} (X : Stand p l e R s m args below meth c T locs cells slots) (hx : p.tables.exec = Jvm.exec) (hZ : Z.Warmed39 s.vm) (hown : s.vm.findClass own = some m.cls)
    (w1 : (Jvm.Cond.methodLink own index y).before a0 Z = true) (w2 : (Jvm.Cond.static y).before a0 Z = true) (w3 : (Jvm.Cond.initialized y.cls).before a0 Z = true) (w4 : (Jvm.Cond.code y bytes maxL ret).before a0 Z = true) (hy : y.cls ≠ "java/lang/invoke/MethodHandle" ∧ y.cls ≠ "java/lang/invoke/VarHandle") (eT : T.heap = h0)
    (hM : own_Met l Z h0 [] rm y bytes maxL ret argsL.toArray Q) (hf : rm.frames + 1 ≤ R.frames) (hl : W + (maxL + 11) + rm.locals ≤ R.locals) (hc1 : cells + rm.cells ≤ R.cells) (hs1 : slots + rm.slots ≤ R.slots)
    (hg : g.method = m) (hsize : g.locals.size = c.maxLocals) (hlen : ∀ sig, parseMethodDescriptor y.desc = some sig → argsL.length = sig.parameters.length) (hstack : g.stack = argsL.reverse ++ rest) (hW : 2 * g.monitorRoom + (rest.map fun v => v.category).sum ≤ W) (hdg : decode c.code g.pc = .ok (.invokestatic index, 3)) :
    ∃ (v : Option Value) (T' : State) (L : List Loc), Stand p l e R s m args below meth c T' (locs ++ L) (cells + rm.cells) (slots + rm.slots) ∧ Q v T'.heap L ∧ ∀ target, Steps p.tables e below (T'.setTop { g with pc := g.pc + 3, stack := v.toList ++ rest }) target → Steps p.tables e below (T.setTop g) target := by
  obtain ⟨v, _, ⟨T1, L1, k1, n1⟩, -, X1, ⟨Lc, hq, l1, y1, z1⟩, st⟩ := Jvm.LawKit.callS X hx (y := y) hown (mvT hZ w1) (mvT hZ w2) (mvT hZ w3) (mvT hZ w4) hy (backOf (W := W) (Q := Q) hM hZ w4 w3 hf hl) (g := g) hg hsize (argsL := argsL) (rest := rest) hlen hstack hW hdg (fun _ _ => ⟨rfl, eT, hc1, hs1⟩)
  dsimp only [Pt.U, Pt.locs, Pt.cells, Pt.slots] at X1 l1 y1 z1 st hq
  subst l1 y1 z1
  exact ⟨v, T1, Lc, X1, hq, st⟩
theorem own_gV {rm : Room} {y z : MethodName} {bytes : ByteArray} {maxL W index : Nat} {ret : Option FieldType} {own C : String} {argsL rest : List Value} {b : Addr} (X : Stand p l e R s m args below meth c T locs cells slots) (hx : p.tables.exec = Jvm.exec) (hZ : Z.Warmed39 s.vm) (hown : s.vm.findClass own = some m.cls)
    (w1 : (Jvm.Cond.methodLink own index y).before a0 Z = true) (w2 : (Jvm.Cond.declares y).before a0 Z = true) (hnf : NotFace s y) (w5 : (Jvm.Cond.selects C y z).before a0 Z = true) (w6 : (Jvm.Cond.instanceMethod z).before a0 Z = true) (w3 : (Jvm.Cond.initialized z.cls).before a0 Z = true) (w4 : (Jvm.Cond.code z bytes maxL ret).before a0 Z = true) (hy : y.cls ≠ "java/lang/invoke/MethodHandle" ∧ y.cls ≠ "java/lang/invoke/VarHandle") (eT : T.heap = h0) (E : Exa Z h0 b C)
    (hM : own_Met l Z h0 [] rm z bytes maxL ret (.ref b :: argsL).toArray Q) (hf : rm.frames + 1 ≤ R.frames) (hl : W + (maxL + 11) + rm.locals ≤ R.locals) (hc1 : cells + rm.cells ≤ R.cells) (hs1 : slots + rm.slots ≤ R.slots)
    (hg : g.method = m) (hsize : g.locals.size = c.maxLocals) (hlen : ∀ sig, parseMethodDescriptor y.desc = some sig → argsL.length = sig.parameters.length) (hstack : g.stack = argsL.reverse ++ .ref b :: rest) (hW : 2 * g.monitorRoom + (rest.map fun v => v.category).sum ≤ W) (hdg : decode c.code g.pc = .ok (.invokevirtual index, 3)) :
    ∃ (v : Option Value) (T' : State) (L : List Loc), Stand p l e R s m args below meth c T' (locs ++ L) (cells + rm.cells) (slots + rm.slots) ∧ Q v T'.heap L ∧ ∀ target, Steps p.tables e below (T'.setTop { g with pc := g.pc + 3, stack := v.toList ++ rest }) target → Steps p.tables e below (T.setTop g) target := by
  obtain ⟨cq, kq, qa, qb, qc⟩ := isOf hZ eT E
  obtain ⟨v, _, ⟨T1, L1, k1, n1⟩, -, X1, ⟨Lc, hq, l1, y1, z1⟩, st⟩ := X.virtualBack hx (y := y) (z := z) hown (mvT hZ w1) (mvT hZ w2) hnf (mvT hZ w5) (mvT hZ w6) hy (backOf (W := W) (Q := Q) hM hZ w4 w3 hf hl) qa qc (g := g) hg hsize (Steps.refl _) (argsL := argsL) (rest := rest) hlen hstack hW hdg (fun _ _ => ⟨rfl, eT, hc1, hs1⟩)
  dsimp only [Pt.U, Pt.locs, Pt.cells, Pt.slots] at X1 l1 y1 z1 st hq
  subst l1 y1 z1
  exact ⟨v, T1, Lc, X1, hq, fun _ k => st.trans k⟩
theorem own_gVU {rm : Room} {y z : MethodName} {owner : String} {bytes : ByteArray} {maxL W index : Nat} {ret : Option FieldType} {own C : String} {argsL rest : List Value} {b : Addr} (X : Stand p l e R s m args below meth c T locs cells slots) (hx : p.tables.exec = Jvm.exec) (hZ : Z.Warmed39 s.vm) (hown : s.vm.findClass own = some m.cls)
    (w1 : (Jvm.Cond.methodLink own index y).before a0 Z = true) (wsm : (Jvm.Cond.sameMethod y.cls owner y.name y.desc).before a0 Z = true) (w2 : (Jvm.Cond.declares ⟨owner, y.name, y.desc⟩).before a0 Z = true) (ho : owner ≠ "java/lang/invoke/MethodHandle" ∧ owner ≠ "java/lang/invoke/VarHandle") (w5 : (Jvm.Cond.selects C y z).before a0 Z = true) (w6 : (Jvm.Cond.instanceMethod z).before a0 Z = true) (w3 : (Jvm.Cond.initialized z.cls).before a0 Z = true) (w4 : (Jvm.Cond.code z bytes maxL ret).before a0 Z = true) (eT : T.heap = h0) (E : Exa Z h0 b C)
    (hM : own_Met l Z h0 [] rm z bytes maxL ret (.ref b :: argsL).toArray Q) (hf : rm.frames + 1 ≤ R.frames) (hl : W + (maxL + 11) + rm.locals ≤ R.locals) (hc1 : cells + rm.cells ≤ R.cells) (hs1 : slots + rm.slots ≤ R.slots)
    (hg : g.method = m) (hsize : g.locals.size = c.maxLocals) (hlen : ∀ sig, parseMethodDescriptor y.desc = some sig → argsL.length = sig.parameters.length) (hstack : g.stack = argsL.reverse ++ .ref b :: rest) (hW : 2 * g.monitorRoom + (rest.map fun v => v.category).sum ≤ W) (hdg : decode c.code g.pc = .ok (.invokevirtual index, 3)) :
    ∃ (v : Option Value) (T' : State) (L : List Loc), Stand p l e R s m args below meth c T' (locs ++ L) (cells + rm.cells) (slots + rm.slots) ∧ Q v T'.heap L ∧ ∀ target, Steps p.tables e below (T'.setTop { g with pc := g.pc + 3, stack := v.toList ++ rest }) target → Steps p.tables e below (T.setTop g) target := by
  obtain ⟨cq, kq, qa, qb, qc⟩ := isOf hZ eT E
  obtain ⟨v, _, ⟨T1, L1, k1, n1⟩, -, X1, ⟨Lc, hq, l1, y1, z1⟩, st⟩ := X.virtualBackUp hx (x := y) (y := z) (owner := owner) hown (mvT hZ w1) (mvT hZ wsm) (mvT hZ w2) ho (mvT hZ w5) (mvT hZ w6) (backOf (W := W) (Q := Q) hM hZ w4 w3 hf hl) qa qc (g := g) hg hsize (Steps.refl _) (argsL := argsL) (rest := rest) hlen hstack hW hdg (fun _ _ => ⟨rfl, eT, hc1, hs1⟩)
  dsimp only [Pt.U, Pt.locs, Pt.cells, Pt.slots] at X1 l1 y1 z1 st hq
  subst l1 y1 z1
  exact ⟨v, T1, Lc, X1, hq, fun _ k => st.trans k⟩
/-- behind a call that writes nothing -/
theorem own_pure {w : Value} {rm : Room} {rest : List Value} (hc0 : rm.cells = 0) (hs0 : rm.slots = 0)
    (H : ∃ (v : Option Value) (T' : State) (L : List Loc), Stand p l e R s m args below meth c T' (locs ++ L) (cells + rm.cells) (slots + rm.slots) ∧ (v = some w ∧ L = [] ∧ T'.heap = h0) ∧ ∀ target, Steps p.tables e below (T'.setTop { g with pc := g.pc + 3, stack := v.toList ++ rest }) target → Steps p.tables e below (T.setTop g) target) :
    ∃ T', Stand p l e R s m args below meth c T' locs cells slots ∧ T'.heap = h0 ∧ ∀ target, Steps p.tables e below (T'.setTop { g with pc := g.pc + 3, stack := w :: rest }) target → Steps p.tables e below (T.setTop g) target := by
  obtain ⟨_, T', _, X', ⟨rfl, rfl, hh⟩, st⟩ := H
  rw [hc0, hs0, List.append_nil] at X'
  exact ⟨T', X', hh, st⟩
/-- what the case says of statics and fields, as facts of the start -/
theorem own_sx {C n d K : String} (h : (Jvm.Cond.exactly (Term.static C n d) K).value args s none s [] = some true) (wi : (Jvm.Cond.initialized C).before args s = true) (wl : (Jvm.Cond.laysStatic C n d).before args s = true) :
    ∃ a, (Term.static C n d).eval args s none [] s = some (.ref a) ∧ Exa s s.heap a K ∧ Sta s s.heap C n d (.ref a) := by
  obtain ⟨a, ev⟩ := exa_v h
  exact ⟨a, ev, Exa.start ev h, Sta.start ev (Or.inr ⟨wi, wl⟩)⟩
theorem own_fi {t : Term} {a : Addr} {C n d : String} {k : Int32} (ev : t.eval args s none [] s = some (.ref a)) (h : (Jvm.Cond.eq (Term.field t C n d) (Term.int k)).value args s none s [] = some true) : Fld s s.heap a C n d (.int k) := by
  have q := eqv_i (Term.int_eval k) h
  rw [fld_at ev] at q
  exact Fld.start q
theorem own_fn {t : Term} {a : Addr} {C n d : String} (ev : t.eval args s none [] s = some (.ref a)) (h : (Jvm.Cond.eq (Term.field t C n d) Term.null).value args s none s [] = some true) : Fld s s.heap a C n d .null := by
  have q := null_v h
  rw [fld_at ev] at q
  exact Fld.start q
theorem own_fx {t : Term} {a : Addr} {C n d K : String} (ev : t.eval args s none [] s = some (.ref a)) (h : (Jvm.Cond.exactly (Term.field t C n d) K).value args s none s [] = some true) : ∃ b, Fld s s.heap a C n d (.ref b) ∧ Exa s s.heap b K := by
  obtain ⟨b, q⟩ := exa_v h
  have E := Exa.start q h
  rw [fld_at ev] at q
  exact ⟨b, Fld.start q, E⟩
theorem own_eqr {t u : Term} {b : Addr} (eu : u.eval args s none [] s = some (.ref b)) (h : (Jvm.Cond.eq t u).value args s none s [] = some true) : t.eval args s none [] s = some (.ref b) := by
  obtain ⟨x, y, h1, h2, -⟩ := cmp_v (Or.inl h)
  rw [eu] at h2
  cases h2
  simp only [Cond.value, h1, eu] at h
  cases x <;> simp_all
theorem own_fs {t u : Term} {a b : Addr} {C n d : String} (ev : t.eval args s none [] s = some (.ref a)) (eu : u.eval args s none [] s = some (.ref b)) (h : (Jvm.Cond.eq (Term.field t C n d) u).value args s none s [] = some true) : Fld s s.heap a C n d (.ref b) := by
  have q := own_eqr eu h
  rw [fld_at ev] at q
  exact Fld.start q
theorem own_ax {C n d : String} {ty : FieldType} (h : (Jvm.Cond.arrayOf (Term.static C n d) ty).value args s none s [] = some true) (wi : (Jvm.Cond.initialized C).before args s = true) (wl : (Jvm.Cond.laysStatic C n d).before args s = true) :
    ∃ b cl, (Term.static C n d).eval args s none [] s = some (.ref b) ∧ Arr s s.heap b cl ty ∧ Sta s s.heap C n d (.ref b) := by
  obtain ⟨b, ev⟩ := arr_v h
  obtain ⟨cl, A⟩ := Arr.start ev h
  exact ⟨b, cl, ev, A, Sta.start ev (Or.inr ⟨wi, wl⟩)⟩
theorem own_len {t : Term} {b : Addr} {cl : Cell} {ty : FieldType} {k : Int32} (ev : t.eval args s none [] s = some (.ref b)) (A : Arr s s.heap b cl ty) (h : (Jvm.Cond.eq (Term.length t) (Term.int k)).value args s none s [] = some true) : cl.slots.size = k.toNatClampNeg := by
  have q := eqv_i (Term.int_eval k) h
  have ha : s.arrayAt? b = some cl := A.fin (Vm.Alike.refl _)
  by_cases hl : cl.slots.size < 2 ^ 31
  · rw [len_f ev ha hl] at q
    have e : cl.slots.size.toInt32 = k := Value.int.inj (Option.some.inj q)
    have e1 := len_toInt hl
    rw [← e]
    simp only [Int32.toNatClampNeg, e1]
    rfl
  · simp [Term.eval, ev, ha, hl] at q
theorem own_elr {t u : Term} {b x : Addr} {cl : Cell} {ty : FieldType} {k : Int32} (ev : t.eval args s none [] s = some (.ref b)) (A : Arr s s.heap b cl ty) (eu : u.eval args s none [] s = some (.ref x)) (h : (Jvm.Cond.eq (Term.elem t (Term.int k)) u).value args s none s [] = some true) : cl.slots[k.toNatClampNeg]? = some (.ref x) :=
  (elem_in (own_eqr eu h) ev (Term.int_eval k) A.1).2
theorem own_eln {t : Term} {b : Addr} {cl : Cell} {ty : FieldType} {k : Int32} (ev : t.eval args s none [] s = some (.ref b)) (A : Arr s s.heap b cl ty) (h : (Jvm.Cond.eq (Term.elem t (Term.int k)) Term.null).value args s none s [] = some true) : cl.slots[k.toNatClampNeg]? = some .null :=
  (elem_in (null_v h) ev (Term.int_eval k) A.1).2
theorem own_eli {t : Term} {b : Addr} {cl : Cell} {ty : FieldType} {k v : Int32} (ev : t.eval args s none [] s = some (.ref b)) (A : Arr s s.heap b cl ty) (h : (Jvm.Cond.eq (Term.elem t (Term.int k)) (Term.int v)).value args s none s [] = some true) : cl.slots[k.toNatClampNeg]? = some (.int v) :=
  (elem_in (eqv_i (Term.int_eval v) h) ev (Term.int_eval k) A.1).2
theorem own_args1 {k : Nat} (h : (Jvm.Cond.and (Jvm.Cond.count 1) (Jvm.Cond.isInt (Term.arg 0))).value args s none s [] = some true) : ∃ a : Int32, args = #[.int a] := by
  obtain ⟨h1, h2⟩ := and_e h
  have hs : args.size = 1 := by simpa [Cond.value] using h1
  obtain ⟨L⟩ := args
  match L, hs with
  | [w0], _ =>
    obtain ⟨i, e0⟩ := is_v h2
    obtain rfl : w0 = (.int i) := Option.some.inj e0
    exact ⟨i, rfl⟩
theorem own_args2 {k : Nat} (h : (Jvm.Cond.and (Jvm.Cond.count 2) (Jvm.Cond.and (Jvm.Cond.isInt (Term.arg 0)) (Jvm.Cond.isInt (Term.arg 1)))).value args s none s [] = some true) : ∃ a b : Int32, args = #[.int a, .int b] := by
  obtain ⟨h1, h2⟩ := and_e h
  obtain ⟨h2, h3⟩ := and_e h2
  have hs : args.size = 2 := by simpa [Cond.value] using h1
  obtain ⟨L⟩ := args
  match L, hs with
  | [w0, w1], _ =>
    obtain ⟨i, e0⟩ := is_v h2
    obtain ⟨j, e1⟩ := is_v h3
    obtain rfl : w0 = (.int i) := Option.some.inj e0
    obtain rfl : w1 = (.int j) := Option.some.inj e1
    exact ⟨i, j, rfl⟩
theorem own_weaken {ws : List Jvm.Cond} {rm : Room} {y : MethodName} {bytes : ByteArray} {maxL : Nat} {ret : Option FieldType} {as' : Array Value} {w : Value} {n0 : Nat} (M : own_Pure l Z h0 ws rm y bytes maxL ret as' (some w)) : own_Met l Z h0 ws rm y bytes maxL ret as' (fun v h L => v = some w ∧ Fr n0 L) := by
  intro p e ha hc hk s m args below hf happ hP hK
  obtain ⟨n, o, h1, h2, h3, v, L, h4, ⟨h5, h6, h7⟩, h8⟩ := M p e ha hc hk s m args below hf happ hP hK
  exact ⟨n, o, h1, h2, h3, v, L, h4, ⟨h5, by rw [h6]; exact Fr.nil n0⟩, h8⟩
end OwnKit

theorem own_pn_0 : plainName "com/example/tracewell/tracewell/RecordKind" = true := by first | (simp [plainName, overriddenIn]; done) | decide +kernel
theorem own_pn_1 : plainName "com/example/tracewell/tracewell/RecordKindOfPinLaw" = true := by first | (simp [plainName, overriddenIn]; done) | decide +kernel
theorem own_pd_0 : parseMethodDescriptor "(I)Lcom/example/tracewell/tracewell/RecordKind;" = some ⟨[.int], some (.object "com/example/tracewell/tracewell/RecordKind")⟩ := by decide +kernel
theorem own_pd_1 : parseMethodDescriptor "()I" = some ⟨[], some .int⟩ := by decide +kernel
theorem own_pd_2 : parseMethodDescriptor "(I)Z" = some ⟨[.int], some .boolean⟩ := by decide +kernel
theorem own_d_prog_60_method_4_code_0 : decode prog_60_method_4_code 0 = .ok (.iload_n 0, 1) := by decide +kernel
theorem own_d_prog_60_method_4_code_1 : decode prog_60_method_4_code 1 = .ok (.ifCond .lt 19, 3) := by decide +kernel
theorem own_d_prog_60_method_4_code_4 : decode prog_60_method_4_code 4 = .ok (.iload_n 0, 1) := by decide +kernel
theorem own_d_prog_60_method_4_code_5 : decode prog_60_method_4_code 5 = .ok (.getstatic 91, 3) := by decide +kernel
theorem own_d_prog_60_method_4_code_8 : decode prog_60_method_4_code 8 = .ok (.arraylength, 1) := by decide +kernel
theorem own_d_prog_60_method_4_code_9 : decode prog_60_method_4_code 9 = .ok (.if_icmp .ge 11, 3) := by decide +kernel
theorem own_d_prog_60_method_4_code_12 : decode prog_60_method_4_code 12 = .ok (.getstatic 91, 3) := by decide +kernel
theorem own_d_prog_60_method_4_code_15 : decode prog_60_method_4_code 15 = .ok (.iload_n 0, 1) := by decide +kernel
theorem own_d_prog_60_method_4_code_16 : decode prog_60_method_4_code 16 = .ok (.aaload, 1) := by decide +kernel
theorem own_d_prog_60_method_4_code_17 : decode prog_60_method_4_code 17 = .ok (.goto 4, 3) := by decide +kernel
theorem own_d_prog_60_method_4_code_21 : decode prog_60_method_4_code 21 = .ok (.areturn, 1) := by decide +kernel
theorem own_d_method_3_code_0 : decode method_3_code 0 = .ok (.iload_n 0, 1) := by decide +kernel
theorem own_d_method_3_code_1 : decode method_3_code 1 = .ok (.invokestatic 13, 3) := by decide +kernel
theorem own_d_method_3_code_4 : decode method_3_code 4 = .ok (.astore_n 1, 1) := by decide +kernel
theorem own_d_method_3_code_5 : decode method_3_code 5 = .ok (.iload_n 0, 1) := by decide +kernel
theorem own_d_method_3_code_6 : decode method_3_code 6 = .ok (.iconst 1, 1) := by decide +kernel
theorem own_d_method_3_code_7 : decode method_3_code 7 = .ok (.if_icmp .lt 13, 3) := by decide +kernel
theorem own_d_method_3_code_20 : decode method_3_code 20 = .ok (.iconst 0, 1) := by decide +kernel
theorem own_d_method_3_code_21 : decode method_3_code 21 = .ok (.istore_n 2, 1) := by decide +kernel
theorem own_d_method_3_code_22 : decode method_3_code 22 = .ok (.iload_n 2, 1) := by decide +kernel
theorem own_d_method_3_code_23 : decode method_3_code 23 = .ok (.ifCond .ne 13, 3) := by decide +kernel
theorem own_d_method_3_code_26 : decode method_3_code 26 = .ok (.aload_n 1, 1) := by decide +kernel
theorem own_d_method_3_code_27 : decode method_3_code 27 = .ok (.ifnonnull 7, 3) := by decide +kernel
theorem own_d_method_3_code_30 : decode method_3_code 30 = .ok (.iconst 1, 1) := by decide +kernel
theorem own_d_method_3_code_31 : decode method_3_code 31 = .ok (.goto 4, 3) := by decide +kernel
theorem own_d_method_3_code_35 : decode method_3_code 35 = .ok (.ireturn, 1) := by decide +kernel
theorem own_d_prog_60_method_6_code_0 : decode prog_60_method_6_code 0 = .ok (.aload_n 0, 1) := by decide +kernel
theorem own_d_prog_60_method_6_code_1 : decode prog_60_method_6_code 1 = .ok (.getfield 83, 3) := by decide +kernel
theorem own_d_prog_60_method_6_code_4 : decode prog_60_method_6_code 4 = .ok (.ireturn, 1) := by decide +kernel
theorem own_d_method_3_code_10 : decode method_3_code 10 = .ok (.iload_n 0, 1) := by decide +kernel
theorem own_d_method_3_code_11 : decode method_3_code 11 = .ok (.bipush 20, 2) := by decide +kernel
theorem own_d_method_3_code_13 : decode method_3_code 13 = .ok (.if_icmp .gt 7, 3) := by decide +kernel
theorem own_d_method_3_code_16 : decode method_3_code 16 = .ok (.iconst 1, 1) := by decide +kernel
theorem own_d_method_3_code_17 : decode method_3_code 17 = .ok (.goto 4, 3) := by decide +kernel
theorem own_d_method_3_code_36 : decode method_3_code 36 = .ok (.aload_n 1, 1) := by decide +kernel
theorem own_d_method_3_code_37 : decode method_3_code 37 = .ok (.ifnull 15, 3) := by decide +kernel
theorem own_d_method_3_code_40 : decode method_3_code 40 = .ok (.aload_n 1, 1) := by decide +kernel
theorem own_d_method_3_code_41 : decode method_3_code 41 = .ok (.invokevirtual 19, 3) := by decide +kernel
theorem own_d_method_3_code_44 : decode method_3_code 44 = .ok (.iload_n 0, 1) := by decide +kernel
theorem own_d_method_3_code_45 : decode method_3_code 45 = .ok (.if_icmp .ne 7, 3) := by decide +kernel
theorem own_d_method_3_code_48 : decode method_3_code 48 = .ok (.iconst 1, 1) := by decide +kernel
theorem own_d_method_3_code_49 : decode method_3_code 49 = .ok (.goto 4, 3) := by decide +kernel
theorem own_d_method_3_code_53 : decode method_3_code 53 = .ok (.ireturn, 1) := by decide +kernel
theorem own_d_prog_60_method_4_code_20 : decode prog_60_method_4_code 20 = .ok (.aconst_null, 1) := by decide +kernel
def own_E (Z : State) (h0 : Heap) (a_BY_CODE : Addr) (a_BUFFERS : Addr) (a_HOLDABLE_CLASS : Addr) (a_UNPARK : Addr) (a_MONITOR_ENTER : Addr) (a_CPU_TIMER : Addr) (a_CLASS : Addr) (a_ALLOC_INTERVAL : Addr) (a_THREAD : Addr) (a_OPTIONS : Addr) (a_END : Addr) (a_STACK : Addr) (a_TIME : Addr) (a_UNDER_WAY : Addr) (a_PARK : Addr) (a_ALLOC_SAMPLE : Addr) (a_SAMPLE : Addr) (a_WALL_SAMPLE : Addr) (a_METHOD : Addr) (a_VIRTUAL_THREAD : Addr) (a_WALL_INTERVAL : Addr) (cl_BY_CODE : Cell) : Prop :=
  (Sta Z h0 "com/example/tracewell/tracewell/RecordKind" "BY_CODE" "[Lcom/example/tracewell/tracewell/RecordKind;" (.ref a_BY_CODE)) ∧
  (Sta Z h0 "com/example/tracewell/tracewell/RecordKind" "BUFFERS" "Lcom/example/tracewell/tracewell/RecordKind;" (.ref a_BUFFERS)) ∧
  (Sta Z h0 "com/example/tracewell/tracewell/RecordKind" "HOLDABLE_CLASS" "Lcom/example/tracewell/tracewell/RecordKind;" (.ref a_HOLDABLE_CLASS)) ∧
  (Sta Z h0 "com/example/tracewell/tracewell/RecordKind" "UNPARK" "Lcom/example/tracewell/tracewell/RecordKind;" (.ref a_UNPARK)) ∧
  (Sta Z h0 "com/example/tracewell/tracewell/RecordKind" "MONITOR_ENTER" "Lcom/example/tracewell/tracewell/RecordKind;" (.ref a_MONITOR_ENTER)) ∧
  (Sta Z h0 "com/example/tracewell/tracewell/RecordKind" "CPU_TIMER" "Lcom/example/tracewell/tracewell/RecordKind;" (.ref a_CPU_TIMER)) ∧
  (Sta Z h0 "com/example/tracewell/tracewell/RecordKind" "CLASS" "Lcom/example/tracewell/tracewell/RecordKind;" (.ref a_CLASS)) ∧
  (Sta Z h0 "com/example/tracewell/tracewell/RecordKind" "ALLOC_INTERVAL" "Lcom/example/tracewell/tracewell/RecordKind;" (.ref a_ALLOC_INTERVAL)) ∧
  (Sta Z h0 "com/example/tracewell/tracewell/RecordKind" "THREAD" "Lcom/example/tracewell/tracewell/RecordKind;" (.ref a_THREAD)) ∧
  (Sta Z h0 "com/example/tracewell/tracewell/RecordKind" "OPTIONS" "Lcom/example/tracewell/tracewell/RecordKind;" (.ref a_OPTIONS)) ∧
  (Sta Z h0 "com/example/tracewell/tracewell/RecordKind" "END" "Lcom/example/tracewell/tracewell/RecordKind;" (.ref a_END)) ∧
  (Sta Z h0 "com/example/tracewell/tracewell/RecordKind" "STACK" "Lcom/example/tracewell/tracewell/RecordKind;" (.ref a_STACK)) ∧
  (Sta Z h0 "com/example/tracewell/tracewell/RecordKind" "TIME" "Lcom/example/tracewell/tracewell/RecordKind;" (.ref a_TIME)) ∧
  (Sta Z h0 "com/example/tracewell/tracewell/RecordKind" "UNDER_WAY" "Lcom/example/tracewell/tracewell/RecordKind;" (.ref a_UNDER_WAY)) ∧
  (Sta Z h0 "com/example/tracewell/tracewell/RecordKind" "PARK" "Lcom/example/tracewell/tracewell/RecordKind;" (.ref a_PARK)) ∧
  (Sta Z h0 "com/example/tracewell/tracewell/RecordKind" "ALLOC_SAMPLE" "Lcom/example/tracewell/tracewell/RecordKind;" (.ref a_ALLOC_SAMPLE)) ∧
  (Sta Z h0 "com/example/tracewell/tracewell/RecordKind" "SAMPLE" "Lcom/example/tracewell/tracewell/RecordKind;" (.ref a_SAMPLE)) ∧
  (Sta Z h0 "com/example/tracewell/tracewell/RecordKind" "WALL_SAMPLE" "Lcom/example/tracewell/tracewell/RecordKind;" (.ref a_WALL_SAMPLE)) ∧
  (Sta Z h0 "com/example/tracewell/tracewell/RecordKind" "METHOD" "Lcom/example/tracewell/tracewell/RecordKind;" (.ref a_METHOD)) ∧
  (Sta Z h0 "com/example/tracewell/tracewell/RecordKind" "VIRTUAL_THREAD" "Lcom/example/tracewell/tracewell/RecordKind;" (.ref a_VIRTUAL_THREAD)) ∧
  (Sta Z h0 "com/example/tracewell/tracewell/RecordKind" "WALL_INTERVAL" "Lcom/example/tracewell/tracewell/RecordKind;" (.ref a_WALL_INTERVAL)) ∧
  (Arr Z h0 a_BY_CODE cl_BY_CODE (.object "com/example/tracewell/tracewell/RecordKind")) ∧
  (cl_BY_CODE.slots.size = (21 : Int32).toNatClampNeg) ∧
  (cl_BY_CODE.slots[(0 : Int32).toNatClampNeg]? = some .null) ∧
  (cl_BY_CODE.slots[(1 : Int32).toNatClampNeg]? = some (.ref a_THREAD)) ∧
  (cl_BY_CODE.slots[(2 : Int32).toNatClampNeg]? = some (.ref a_END)) ∧
  (cl_BY_CODE.slots[(3 : Int32).toNatClampNeg]? = some (.ref a_CLASS)) ∧
  (cl_BY_CODE.slots[(4 : Int32).toNatClampNeg]? = some (.ref a_METHOD)) ∧
  (cl_BY_CODE.slots[(5 : Int32).toNatClampNeg]? = some (.ref a_STACK)) ∧
  (cl_BY_CODE.slots[(6 : Int32).toNatClampNeg]? = some (.ref a_MONITOR_ENTER)) ∧
  (cl_BY_CODE.slots[(7 : Int32).toNatClampNeg]? = some (.ref a_PARK)) ∧
  (cl_BY_CODE.slots[(8 : Int32).toNatClampNeg]? = some (.ref a_UNPARK)) ∧
  (cl_BY_CODE.slots[(9 : Int32).toNatClampNeg]? = some (.ref a_SAMPLE)) ∧
  (cl_BY_CODE.slots[(10 : Int32).toNatClampNeg]? = some (.ref a_UNDER_WAY)) ∧
  (cl_BY_CODE.slots[(11 : Int32).toNatClampNeg]? = some (.ref a_TIME)) ∧
  (cl_BY_CODE.slots[(12 : Int32).toNatClampNeg]? = some (.ref a_CPU_TIMER)) ∧
  (cl_BY_CODE.slots[(13 : Int32).toNatClampNeg]? = some (.ref a_VIRTUAL_THREAD)) ∧
  (cl_BY_CODE.slots[(14 : Int32).toNatClampNeg]? = some (.ref a_BUFFERS)) ∧
  (cl_BY_CODE.slots[(15 : Int32).toNatClampNeg]? = some (.ref a_HOLDABLE_CLASS)) ∧
  (cl_BY_CODE.slots[(16 : Int32).toNatClampNeg]? = some (.ref a_WALL_INTERVAL)) ∧
  (cl_BY_CODE.slots[(17 : Int32).toNatClampNeg]? = some (.ref a_WALL_SAMPLE)) ∧
  (cl_BY_CODE.slots[(18 : Int32).toNatClampNeg]? = some (.ref a_ALLOC_INTERVAL)) ∧
  (cl_BY_CODE.slots[(19 : Int32).toNatClampNeg]? = some (.ref a_ALLOC_SAMPLE)) ∧
  (cl_BY_CODE.slots[(20 : Int32).toNatClampNeg]? = some (.ref a_OPTIONS)) ∧
  (Exa Z h0 a_BUFFERS "com/example/tracewell/tracewell/RecordKind") ∧
  (Exa Z h0 a_HOLDABLE_CLASS "com/example/tracewell/tracewell/RecordKind") ∧
  (Exa Z h0 a_UNPARK "com/example/tracewell/tracewell/RecordKind") ∧
  (Exa Z h0 a_MONITOR_ENTER "com/example/tracewell/tracewell/RecordKind") ∧
  (Exa Z h0 a_CPU_TIMER "com/example/tracewell/tracewell/RecordKind") ∧
  (Exa Z h0 a_CLASS "com/example/tracewell/tracewell/RecordKind") ∧
  (Exa Z h0 a_ALLOC_INTERVAL "com/example/tracewell/tracewell/RecordKind") ∧
  (Exa Z h0 a_THREAD "com/example/tracewell/tracewell/RecordKind") ∧
  (Exa Z h0 a_OPTIONS "com/example/tracewell/tracewell/RecordKind") ∧
  (Exa Z h0 a_END "com/example/tracewell/tracewell/RecordKind") ∧
  (Exa Z h0 a_STACK "com/example/tracewell/tracewell/RecordKind") ∧
  (Exa Z h0 a_TIME "com/example/tracewell/tracewell/RecordKind") ∧
  (Exa Z h0 a_UNDER_WAY "com/example/tracewell/tracewell/RecordKind") ∧
  (Exa Z h0 a_PARK "com/example/tracewell/tracewell/RecordKind") ∧
  (Exa Z h0 a_ALLOC_SAMPLE "com/example/tracewell/tracewell/RecordKind") ∧
  (Exa Z h0 a_SAMPLE "com/example/tracewell/tracewell/RecordKind") ∧
  (Exa Z h0 a_WALL_SAMPLE "com/example/tracewell/tracewell/RecordKind") ∧
  (Exa Z h0 a_METHOD "com/example/tracewell/tracewell/RecordKind") ∧
  (Exa Z h0 a_VIRTUAL_THREAD "com/example/tracewell/tracewell/RecordKind") ∧
  (Exa Z h0 a_WALL_INTERVAL "com/example/tracewell/tracewell/RecordKind") ∧
  (Fld Z h0 a_BUFFERS "com/example/tracewell/tracewell/RecordKind" "code" "I" (.int (14 : Int32))) ∧
  (Fld Z h0 a_HOLDABLE_CLASS "com/example/tracewell/tracewell/RecordKind" "code" "I" (.int (15 : Int32))) ∧
  (Fld Z h0 a_UNPARK "com/example/tracewell/tracewell/RecordKind" "code" "I" (.int (8 : Int32))) ∧
  (Fld Z h0 a_MONITOR_ENTER "com/example/tracewell/tracewell/RecordKind" "code" "I" (.int (6 : Int32))) ∧
  (Fld Z h0 a_CPU_TIMER "com/example/tracewell/tracewell/RecordKind" "code" "I" (.int (12 : Int32))) ∧
  (Fld Z h0 a_CLASS "com/example/tracewell/tracewell/RecordKind" "code" "I" (.int (3 : Int32))) ∧
  (Fld Z h0 a_ALLOC_INTERVAL "com/example/tracewell/tracewell/RecordKind" "code" "I" (.int (18 : Int32))) ∧
  (Fld Z h0 a_THREAD "com/example/tracewell/tracewell/RecordKind" "code" "I" (.int (1 : Int32))) ∧
  (Fld Z h0 a_OPTIONS "com/example/tracewell/tracewell/RecordKind" "code" "I" (.int (20 : Int32))) ∧
  (Fld Z h0 a_END "com/example/tracewell/tracewell/RecordKind" "code" "I" (.int (2 : Int32))) ∧
  (Fld Z h0 a_STACK "com/example/tracewell/tracewell/RecordKind" "code" "I" (.int (5 : Int32))) ∧
  (Fld Z h0 a_TIME "com/example/tracewell/tracewell/RecordKind" "code" "I" (.int (11 : Int32))) ∧
  (Fld Z h0 a_UNDER_WAY "com/example/tracewell/tracewell/RecordKind" "code" "I" (.int (10 : Int32))) ∧
  (Fld Z h0 a_PARK "com/example/tracewell/tracewell/RecordKind" "code" "I" (.int (7 : Int32))) ∧
  (Fld Z h0 a_ALLOC_SAMPLE "com/example/tracewell/tracewell/RecordKind" "code" "I" (.int (19 : Int32))) ∧
  (Fld Z h0 a_SAMPLE "com/example/tracewell/tracewell/RecordKind" "code" "I" (.int (9 : Int32))) ∧
  (Fld Z h0 a_WALL_SAMPLE "com/example/tracewell/tracewell/RecordKind" "code" "I" (.int (17 : Int32))) ∧
  (Fld Z h0 a_METHOD "com/example/tracewell/tracewell/RecordKind" "code" "I" (.int (4 : Int32))) ∧
  (Fld Z h0 a_VIRTUAL_THREAD "com/example/tracewell/tracewell/RecordKind" "code" "I" (.int (13 : Int32))) ∧
  (Fld Z h0 a_WALL_INTERVAL "com/example/tracewell/tracewell/RecordKind" "code" "I" (.int (16 : Int32))) ∧ True
theorem own_p_S_BY_CODE {Z : State} {h0 : Heap} {a_BY_CODE : Addr} {a_BUFFERS : Addr} {a_HOLDABLE_CLASS : Addr} {a_UNPARK : Addr} {a_MONITOR_ENTER : Addr} {a_CPU_TIMER : Addr} {a_CLASS : Addr} {a_ALLOC_INTERVAL : Addr} {a_THREAD : Addr} {a_OPTIONS : Addr} {a_END : Addr} {a_STACK : Addr} {a_TIME : Addr} {a_UNDER_WAY : Addr} {a_PARK : Addr} {a_ALLOC_SAMPLE : Addr} {a_SAMPLE : Addr} {a_WALL_SAMPLE : Addr} {a_METHOD : Addr} {a_VIRTUAL_THREAD : Addr} {a_WALL_INTERVAL : Addr} {cl_BY_CODE : Cell} (hE : own_E Z h0 a_BY_CODE a_BUFFERS a_HOLDABLE_CLASS a_UNPARK a_MONITOR_ENTER a_CPU_TIMER a_CLASS a_ALLOC_INTERVAL a_THREAD a_OPTIONS a_END a_STACK a_TIME a_UNDER_WAY a_PARK a_ALLOC_SAMPLE a_SAMPLE a_WALL_SAMPLE a_METHOD a_VIRTUAL_THREAD a_WALL_INTERVAL cl_BY_CODE) : Sta Z h0 "com/example/tracewell/tracewell/RecordKind" "BY_CODE" "[Lcom/example/tracewell/tracewell/RecordKind;" (.ref a_BY_CODE) := hE.1
theorem own_p_S_BUFFERS {Z : State} {h0 : Heap} {a_BY_CODE : Addr} {a_BUFFERS : Addr} {a_HOLDABLE_CLASS : Addr} {a_UNPARK : Addr} {a_MONITOR_ENTER : Addr} {a_CPU_TIMER : Addr} {a_CLASS : Addr} {a_ALLOC_INTERVAL : Addr} {a_THREAD : Addr} {a_OPTIONS : Addr} {a_END : Addr} {a_STACK : Addr} {a_TIME : Addr} {a_UNDER_WAY : Addr} {a_PARK : Addr} {a_ALLOC_SAMPLE : Addr} {a_SAMPLE : Addr} {a_WALL_SAMPLE : Addr} {a_METHOD : Addr} {a_VIRTUAL_THREAD : Addr} {a_WALL_INTERVAL : Addr} {cl_BY_CODE : Cell} (hE : own_E Z h0 a_BY_CODE a_BUFFERS a_HOLDABLE_CLASS a_UNPARK a_MONITOR_ENTER a_CPU_TIMER a_CLASS a_ALLOC_INTERVAL a_THREAD a_OPTIONS a_END a_STACK a_TIME a_UNDER_WAY a_PARK a_ALLOC_SAMPLE a_SAMPLE a_WALL_SAMPLE a_METHOD a_VIRTUAL_THREAD a_WALL_INTERVAL cl_BY_CODE) : Sta Z h0 "com/example/tracewell/tracewell/RecordKind" "BUFFERS" "Lcom/example/tracewell/tracewell/RecordKind;" (.ref a_BUFFERS) := hE.2.1
theorem own_p_S_HOLDABLE_CLASS {Z : State} {h0 : Heap} {a_BY_CODE : Addr} {a_BUFFERS : Addr} {a_HOLDABLE_CLASS : Addr} {a_UNPARK : Addr} {a_MONITOR_ENTER : Addr} {a_CPU_TIMER : Addr} {a_CLASS : Addr} {a_ALLOC_INTERVAL : Addr} {a_THREAD : Addr} {a_OPTIONS : Addr} {a_END : Addr} {a_STACK : Addr} {a_TIME : Addr} {a_UNDER_WAY : Addr} {a_PARK : Addr} {a_ALLOC_SAMPLE : Addr} {a_SAMPLE : Addr} {a_WALL_SAMPLE : Addr} {a_METHOD : Addr} {a_VIRTUAL_THREAD : Addr} {a_WALL_INTERVAL : Addr} {cl_BY_CODE : Cell} (hE : own_E Z h0 a_BY_CODE a_BUFFERS a_HOLDABLE_CLASS a_UNPARK a_MONITOR_ENTER a_CPU_TIMER a_CLASS a_ALLOC_INTERVAL a_THREAD a_OPTIONS a_END a_STACK a_TIME a_UNDER_WAY a_PARK a_ALLOC_SAMPLE a_SAMPLE a_WALL_SAMPLE a_METHOD a_VIRTUAL_THREAD a_WALL_INTERVAL cl_BY_CODE) : Sta Z h0 "com/example/tracewell/tracewell/RecordKind" "HOLDABLE_CLASS" "Lcom/example/tracewell/tracewell/RecordKind;" (.ref a_HOLDABLE_CLASS) := hE.2.2.1
theorem own_p_S_UNPARK {Z : State} {h0 : Heap} {a_BY_CODE : Addr} {a_BUFFERS : Addr} {a_HOLDABLE_CLASS : Addr} {a_UNPARK : Addr} {a_MONITOR_ENTER : Addr} {a_CPU_TIMER : Addr} {a_CLASS : Addr} {a_ALLOC_INTERVAL : Addr} {a_THREAD : Addr} {a_OPTIONS : Addr} {a_END : Addr} {a_STACK : Addr} {a_TIME : Addr} {a_UNDER_WAY : Addr} {a_PARK : Addr} {a_ALLOC_SAMPLE : Addr} {a_SAMPLE : Addr} {a_WALL_SAMPLE : Addr} {a_METHOD : Addr} {a_VIRTUAL_THREAD : Addr} {a_WALL_INTERVAL : Addr} {cl_BY_CODE : Cell} (hE : own_E Z h0 a_BY_CODE a_BUFFERS a_HOLDABLE_CLASS a_UNPARK a_MONITOR_ENTER a_CPU_TIMER a_CLASS a_ALLOC_INTERVAL a_THREAD a_OPTIONS a_END a_STACK a_TIME a_UNDER_WAY a_PARK a_ALLOC_SAMPLE a_SAMPLE a_WALL_SAMPLE a_METHOD a_VIRTUAL_THREAD a_WALL_INTERVAL cl_BY_CODE) : Sta Z h0 "com/example/tracewell/tracewell/RecordKind" "UNPARK" "Lcom/example/tracewell/tracewell/RecordKind;" (.ref a_UNPARK) := hE.2.2.2.1
theorem own_p_S_MONITOR_ENTER {Z : State} {h0 : Heap} {a_BY_CODE : Addr} {a_BUFFERS : Addr} {a_HOLDABLE_CLASS : Addr} {a_UNPARK : Addr} {a_MONITOR_ENTER : Addr} {a_CPU_TIMER : Addr} {a_CLASS : Addr} {a_ALLOC_INTERVAL : Addr} {a_THREAD : Addr} {a_OPTIONS : Addr} {a_END : Addr} {a_STACK : Addr} {a_TIME : Addr} {a_UNDER_WAY : Addr} {a_PARK : Addr} {a_ALLOC_SAMPLE : Addr} {a_SAMPLE : Addr} {a_WALL_SAMPLE : Addr} {a_METHOD : Addr} {a_VIRTUAL_THREAD : Addr} {a_WALL_INTERVAL : Addr} {cl_BY_CODE : Cell} (hE : own_E Z h0 a_BY_CODE a_BUFFERS a_HOLDABLE_CLASS a_UNPARK a_MONITOR_ENTER a_CPU_TIMER a_CLASS a_ALLOC_INTERVAL a_THREAD a_OPTIONS a_END a_STACK a_TIME a_UNDER_WAY a_PARK a_ALLOC_SAMPLE a_SAMPLE a_WALL_SAMPLE a_METHOD a_VIRTUAL_THREAD a_WALL_INTERVAL cl_BY_CODE) : Sta Z h0 "com/example/tracewell/tracewell/RecordKind" "MONITOR_ENTER" "Lcom/example/tracewell/tracewell/RecordKind;" (.ref a_MONITOR_ENTER) := hE.2.2.2.2.1
theorem own_p_S_CPU_TIMER {Z : State} {h0 : Heap} {a_BY_CODE : Addr} {a_BUFFERS : Addr} {a_HOLDABLE_CLASS : Addr} {a_UNPARK : Addr} {a_MONITOR_ENTER : Addr} {a_CPU_TIMER : Addr} {a_CLASS : Addr} {a_ALLOC_INTERVAL : Addr} {a_THREAD : Addr} {a_OPTIONS : Addr} {a_END : Addr} {a_STACK : Addr} {a_TIME : Addr} {a_UNDER_WAY : Addr} {a_PARK : Addr} {a_ALLOC_SAMPLE : Addr} {a_SAMPLE : Addr} {a_WALL_SAMPLE : Addr} {a_METHOD : Addr} {a_VIRTUAL_THREAD : Addr} {a_WALL_INTERVAL : Addr} {cl_BY_CODE : Cell} (hE : own_E Z h0 a_BY_CODE a_BUFFERS a_HOLDABLE_CLASS a_UNPARK a_MONITOR_ENTER a_CPU_TIMER a_CLASS a_ALLOC_INTERVAL a_THREAD a_OPTIONS a_END a_STACK a_TIME a_UNDER_WAY a_PARK a_ALLOC_SAMPLE a_SAMPLE a_WALL_SAMPLE a_METHOD a_VIRTUAL_THREAD a_WALL_INTERVAL cl_BY_CODE) : Sta Z h0 "com/example/tracewell/tracewell/RecordKind" "CPU_TIMER" "Lcom/example/tracewell/tracewell/RecordKind;" (.ref a_CPU_TIMER) := hE.2.2.2.2.2.1
theorem own_p_S_CLASS {Z : State} {h0 : Heap} {a_BY_CODE : Addr} {a_BUFFERS : Addr} {a_HOLDABLE_CLASS : Addr} {a_UNPARK : Addr} {a_MONITOR_ENTER : Addr} {a_CPU_TIMER : Addr} {a_CLASS : Addr} {a_ALLOC_INTERVAL : Addr} {a_THREAD : Addr} {a_OPTIONS : Addr} {a_END : Addr} {a_STACK : Addr} {a_TIME : Addr} {a_UNDER_WAY : Addr} {a_PARK : Addr} {a_ALLOC_SAMPLE : Addr} {a_SAMPLE : Addr} {a_WALL_SAMPLE : Addr} {a_METHOD : Addr} {a_VIRTUAL_THREAD : Addr} {a_WALL_INTERVAL : Addr} {cl_BY_CODE : Cell} (hE : own_E Z h0 a_BY_CODE a_BUFFERS a_HOLDABLE_CLASS a_UNPARK a_MONITOR_ENTER a_CPU_TIMER a_CLASS a_ALLOC_INTERVAL a_THREAD a_OPTIONS a_END a_STACK a_TIME a_UNDER_WAY a_PARK a_ALLOC_SAMPLE a_SAMPLE a_WALL_SAMPLE a_METHOD a_VIRTUAL_THREAD a_WALL_INTERVAL cl_BY_CODE) : Sta Z h0 "com/example/tracewell/tracewell/RecordKind" "CLASS" "Lcom/example/tracewell/tracewell/RecordKind;" (.ref a_CLASS) := hE.2.2.2.2.2.2.1
theorem own_p_S_ALLOC_INTERVAL {Z : State} {h0 : Heap} {a_BY_CODE : Addr} {a_BUFFERS : Addr} {a_HOLDABLE_CLASS : Addr} {a_UNPARK : Addr} {a_MONITOR_ENTER : Addr} {a_CPU_TIMER : Addr} {a_CLASS : Addr} {a_ALLOC_INTERVAL : Addr} {a_THREAD : Addr} {a_OPTIONS : Addr} {a_END : Addr} {a_STACK : Addr} {a_TIME : Addr} {a_UNDER_WAY : Addr} {a_PARK : Addr} {a_ALLOC_SAMPLE : Addr} {a_SAMPLE : Addr} {a_WALL_SAMPLE : Addr} {a_METHOD : Addr} {a_VIRTUAL_THREAD : Addr} {a_WALL_INTERVAL : Addr} {cl_BY_CODE : Cell} (hE : own_E Z h0 a_BY_CODE a_BUFFERS a_HOLDABLE_CLASS a_UNPARK a_MONITOR_ENTER a_CPU_TIMER a_CLASS a_ALLOC_INTERVAL a_THREAD a_OPTIONS a_END a_STACK a_TIME a_UNDER_WAY a_PARK a_ALLOC_SAMPLE a_SAMPLE a_WALL_SAMPLE a_METHOD a_VIRTUAL_THREAD a_WALL_INTERVAL cl_BY_CODE) : Sta Z h0 "com/example/tracewell/tracewell/RecordKind" "ALLOC_INTERVAL" "Lcom/example/tracewell/tracewell/RecordKind;" (.ref a_ALLOC_INTERVAL) := hE.2.2.2.2.2.2.2.1
theorem own_p_S_THREAD {Z : State} {h0 : Heap} {a_BY_CODE : Addr} {a_BUFFERS : Addr} {a_HOLDABLE_CLASS : Addr} {a_UNPARK : Addr} {a_MONITOR_ENTER : Addr} {a_CPU_TIMER : Addr} {a_CLASS : Addr} {a_ALLOC_INTERVAL : Addr} {a_THREAD : Addr} {a_OPTIONS : Addr} {a_END : Addr} {a_STACK : Addr} {a_TIME : Addr} {a_UNDER_WAY : Addr} {a_PARK : Addr} {a_ALLOC_SAMPLE : Addr} {a_SAMPLE : Addr} {a_WALL_SAMPLE : Addr} {a_METHOD : Addr} {a_VIRTUAL_THREAD : Addr} {a_WALL_INTERVAL : Addr} {cl_BY_CODE : Cell} (hE : own_E Z h0 a_BY_CODE a_BUFFERS a_HOLDABLE_CLASS a_UNPARK a_MONITOR_ENTER a_CPU_TIMER a_CLASS a_ALLOC_INTERVAL a_THREAD a_OPTIONS a_END a_STACK a_TIME a_UNDER_WAY a_PARK a_ALLOC_SAMPLE a_SAMPLE a_WALL_SAMPLE a_METHOD a_VIRTUAL_THREAD a_WALL_INTERVAL cl_BY_CODE) : Sta Z h0 "com/example/tracewell/tracewell/RecordKind" "THREAD" "Lcom/example/tracewell/tracewell/RecordKind;" (.ref a_THREAD) := hE.2.2.2.2.2.2.2.2.1
theorem own_p_S_OPTIONS {Z : State} {h0 : Heap} {a_BY_CODE : Addr} {a_BUFFERS : Addr} {a_HOLDABLE_CLASS : Addr} {a_UNPARK : Addr} {a_MONITOR_ENTER : Addr} {a_CPU_TIMER : Addr} {a_CLASS : Addr} {a_ALLOC_INTERVAL : Addr} {a_THREAD : Addr} {a_OPTIONS : Addr} {a_END : Addr} {a_STACK : Addr} {a_TIME : Addr} {a_UNDER_WAY : Addr} {a_PARK : Addr} {a_ALLOC_SAMPLE : Addr} {a_SAMPLE : Addr} {a_WALL_SAMPLE : Addr} {a_METHOD : Addr} {a_VIRTUAL_THREAD : Addr} {a_WALL_INTERVAL : Addr} {cl_BY_CODE : Cell} (hE : own_E Z h0 a_BY_CODE a_BUFFERS a_HOLDABLE_CLASS a_UNPARK a_MONITOR_ENTER a_CPU_TIMER a_CLASS a_ALLOC_INTERVAL a_THREAD a_OPTIONS a_END a_STACK a_TIME a_UNDER_WAY a_PARK a_ALLOC_SAMPLE a_SAMPLE a_WALL_SAMPLE a_METHOD a_VIRTUAL_THREAD a_WALL_INTERVAL cl_BY_CODE) : Sta Z h0 "com/example/tracewell/tracewell/RecordKind" "OPTIONS" "Lcom/example/tracewell/tracewell/RecordKind;" (.ref a_OPTIONS) := hE.2.2.2.2.2.2.2.2.2.1
theorem own_p_S_END {Z : State} {h0 : Heap} {a_BY_CODE : Addr} {a_BUFFERS : Addr} {a_HOLDABLE_CLASS : Addr} {a_UNPARK : Addr} {a_MONITOR_ENTER : Addr} {a_CPU_TIMER : Addr} {a_CLASS : Addr} {a_ALLOC_INTERVAL : Addr} {a_THREAD : Addr} {a_OPTIONS : Addr} {a_END : Addr} {a_STACK : Addr} {a_TIME : Addr} {a_UNDER_WAY : Addr} {a_PARK : Addr} {a_ALLOC_SAMPLE : Addr} {a_SAMPLE : Addr} {a_WALL_SAMPLE : Addr} {a_METHOD : Addr} {a_VIRTUAL_THREAD : Addr} {a_WALL_INTERVAL : Addr} {cl_BY_CODE : Cell} (hE : own_E Z h0 a_BY_CODE a_BUFFERS a_HOLDABLE_CLASS a_UNPARK a_MONITOR_ENTER a_CPU_TIMER a_CLASS a_ALLOC_INTERVAL a_THREAD a_OPTIONS a_END a_STACK a_TIME a_UNDER_WAY a_PARK a_ALLOC_SAMPLE a_SAMPLE a_WALL_SAMPLE a_METHOD a_VIRTUAL_THREAD a_WALL_INTERVAL cl_BY_CODE) : Sta Z h0 "com/example/tracewell/tracewell/RecordKind" "END" "Lcom/example/tracewell/tracewell/RecordKind;" (.ref a_END) := hE.2.2.2.2.2.2.2.2.2.2.1
theorem own_p_S_STACK {Z : State} {h0 : Heap} {a_BY_CODE : Addr} {a_BUFFERS : Addr} {a_HOLDABLE_CLASS : Addr} {a_UNPARK : Addr} {a_MONITOR_ENTER : Addr} {a_CPU_TIMER : Addr} {a_CLASS : Addr} {a_ALLOC_INTERVAL : Addr} {a_THREAD : Addr} {a_OPTIONS : Addr} {a_END : Addr} {a_STACK : Addr} {a_TIME : Addr} {a_UNDER_WAY : Addr} {a_PARK : Addr} {a_ALLOC_SAMPLE : Addr} {a_SAMPLE : Addr} {a_WALL_SAMPLE : Addr} {a_METHOD : Addr} {a_VIRTUAL_THREAD : Addr} {a_WALL_INTERVAL : Addr} {cl_BY_CODE : Cell} (hE : own_E Z h0 a_BY_CODE a_BUFFERS a_HOLDABLE_CLASS a_UNPARK a_MONITOR_ENTER a_CPU_TIMER a_CLASS a_ALLOC_INTERVAL a_THREAD a_OPTIONS a_END a_STACK a_TIME a_UNDER_WAY a_PARK a_ALLOC_SAMPLE a_SAMPLE a_WALL_SAMPLE a_METHOD a_VIRTUAL_THREAD a_WALL_INTERVAL cl_BY_CODE) : Sta Z h0 "com/example/tracewell/tracewell/RecordKind" "STACK" "Lcom/example/tracewell/tracewell/RecordKind;" (.ref a_STACK) := hE.2.2.2.2.2.2.2.2.2.2.2.1
theorem own_p_S_TIME {Z : State} {h0 : Heap} {a_BY_CODE : Addr} {a_BUFFERS : Addr} {a_HOLDABLE_CLASS : Addr} {a_UNPARK : Addr} {a_MONITOR_ENTER : Addr} {a_CPU_TIMER : Addr} {a_CLASS : Addr} {a_ALLOC_INTERVAL : Addr} {a_THREAD : Addr} {a_OPTIONS : Addr} {a_END : Addr} {a_STACK : Addr} {a_TIME : Addr} {a_UNDER_WAY : Addr} {a_PARK : Addr} {a_ALLOC_SAMPLE : Addr} {a_SAMPLE : Addr} {a_WALL_SAMPLE : Addr} {a_METHOD : Addr} {a_VIRTUAL_THREAD : Addr} {a_WALL_INTERVAL : Addr} {cl_BY_CODE : Cell} (hE : own_E Z h0 a_BY_CODE a_BUFFERS a_HOLDABLE_CLASS a_UNPARK a_MONITOR_ENTER a_CPU_TIMER a_CLASS a_ALLOC_INTERVAL a_THREAD a_OPTIONS a_END a_STACK a_TIME a_UNDER_WAY a_PARK a_ALLOC_SAMPLE a_SAMPLE a_WALL_SAMPLE a_METHOD a_VIRTUAL_THREAD a_WALL_INTERVAL cl_BY_CODE) : Sta Z h0 "com/example/tracewell/tracewell/RecordKind" "TIME" "Lcom/example/tracewell/tracewell/RecordKind;" (.ref a_TIME) := hE.2.2.2.2.2.2.2.2.2.2.2.2.1
theorem own_p_S_UNDER_WAY {Z : State} {h0 : Heap} {a_BY_CODE : Addr} {a_BUFFERS : Addr} {a_HOLDABLE_CLASS : Addr} {a_UNPARK : Addr} {a_MONITOR_ENTER : Addr} {a_CPU_TIMER : Addr} {a_CLASS : Addr} {a_ALLOC_INTERVAL : Addr} {a_THREAD : Addr} {a_OPTIONS : Addr} {a_END : Addr} {a_STACK : Addr} {a_TIME : Addr} {a_UNDER_WAY : Addr} {a_PARK : Addr} {a_ALLOC_SAMPLE : Addr} {a_SAMPLE : Addr} {a_WALL_SAMPLE : Addr} {a_METHOD : Addr} {a_VIRTUAL_THREAD : Addr} {a_WALL_INTERVAL : Addr} {cl_BY_CODE : Cell} (hE : own_E Z h0 a_BY_CODE a_BUFFERS a_HOLDABLE_CLASS a_UNPARK a_MONITOR_ENTER a_CPU_TIMER a_CLASS a_ALLOC_INTERVAL a_THREAD a_OPTIONS a_END a_STACK a_TIME a_UNDER_WAY a_PARK a_ALLOC_SAMPLE a_SAMPLE a_WALL_SAMPLE a_METHOD a_VIRTUAL_THREAD a_WALL_INTERVAL cl_BY_CODE) : Sta Z h0 "com/example/tracewell/tracewell/RecordKind" "UNDER_WAY" "Lcom/example/tracewell/tracewell/RecordKind;" (.ref a_UNDER_WAY) := hE.2.2.2.2.2.2.2.2.2.2.2.2.2.1
theorem own_p_S_PARK {Z : State} {h0 : Heap} {a_BY_CODE : Addr} {a_BUFFERS : Addr} {a_HOLDABLE_CLASS : Addr} {a_UNPARK : Addr} {a_MONITOR_ENTER : Addr} {a_CPU_TIMER : Addr} {a_CLASS : Addr} {a_ALLOC_INTERVAL : Addr} {a_THREAD : Addr} {a_OPTIONS : Addr} {a_END : Addr} {a_STACK : Addr} {a_TIME : Addr} {a_UNDER_WAY : Addr} {a_PARK : Addr} {a_ALLOC_SAMPLE : Addr} {a_SAMPLE : Addr} {a_WALL_SAMPLE : Addr} {a_METHOD : Addr} {a_VIRTUAL_THREAD : Addr} {a_WALL_INTERVAL : Addr} {cl_BY_CODE : Cell} (hE : own_E Z h0 a_BY_CODE a_BUFFERS a_HOLDABLE_CLASS a_UNPARK a_MONITOR_ENTER a_CPU_TIMER a_CLASS a_ALLOC_INTERVAL a_THREAD a_OPTIONS a_END a_STACK a_TIME a_UNDER_WAY a_PARK a_ALLOC_SAMPLE a_SAMPLE a_WALL_SAMPLE a_METHOD a_VIRTUAL_THREAD a_WALL_INTERVAL cl_BY_CODE) : Sta Z h0 "com/example/tracewell/tracewell/RecordKind" "PARK" "Lcom/example/tracewell/tracewell/RecordKind;" (.ref a_PARK) := hE.2.2.2.2.2.2.2.2.2.2.2.2.2.2.1
theorem own_p_S_ALLOC_SAMPLE {Z : State} {h0 : Heap} {a_BY_CODE : Addr} {a_BUFFERS : Addr} {a_HOLDABLE_CLASS : Addr} {a_UNPARK : Addr} {a_MONITOR_ENTER : Addr} {a_CPU_TIMER : Addr} {a_CLASS : Addr} {a_ALLOC_INTERVAL : Addr} {a_THREAD : Addr} {a_OPTIONS : Addr} {a_END : Addr} {a_STACK : Addr} {a_TIME : Addr} {a_UNDER_WAY : Addr} {a_PARK : Addr} {a_ALLOC_SAMPLE : Addr} {a_SAMPLE : Addr} {a_WALL_SAMPLE : Addr} {a_METHOD : Addr} {a_VIRTUAL_THREAD : Addr} {a_WALL_INTERVAL : Addr} {cl_BY_CODE : Cell} (hE : own_E Z h0 a_BY_CODE a_BUFFERS a_HOLDABLE_CLASS a_UNPARK a_MONITOR_ENTER a_CPU_TIMER a_CLASS a_ALLOC_INTERVAL a_THREAD a_OPTIONS a_END a_STACK a_TIME a_UNDER_WAY a_PARK a_ALLOC_SAMPLE a_SAMPLE a_WALL_SAMPLE a_METHOD a_VIRTUAL_THREAD a_WALL_INTERVAL cl_BY_CODE) : Sta Z h0 "com/example/tracewell/tracewell/RecordKind" "ALLOC_SAMPLE" "Lcom/example/tracewell/tracewell/RecordKind;" (.ref a_ALLOC_SAMPLE) := hE.2.2.2.2.2.2.2.2.2.2.2.2.2.2.2.1
theorem own_p_S_SAMPLE {Z : State} {h0 : Heap} {a_BY_CODE : Addr} {a_BUFFERS : Addr} {a_HOLDABLE_CLASS : Addr} {a_UNPARK : Addr} {a_MONITOR_ENTER : Addr} {a_CPU_TIMER : Addr} {a_CLASS : Addr} {a_ALLOC_INTERVAL : Addr} {a_THREAD : Addr} {a_OPTIONS : Addr} {a_END : Addr} {a_STACK : Addr} {a_TIME : Addr} {a_UNDER_WAY : Addr} {a_PARK : Addr} {a_ALLOC_SAMPLE : Addr} {a_SAMPLE : Addr} {a_WALL_SAMPLE : Addr} {a_METHOD : Addr} {a_VIRTUAL_THREAD : Addr} {a_WALL_INTERVAL : Addr} {cl_BY_CODE : Cell} (hE : own_E Z h0 a_BY_CODE a_BUFFERS a_HOLDABLE_CLASS a_UNPARK a_MONITOR_ENTER a_CPU_TIMER a_CLASS a_ALLOC_INTERVAL a_THREAD a_OPTIONS a_END a_STACK a_TIME a_UNDER_WAY a_PARK a_ALLOC_SAMPLE a_SAMPLE a_WALL_SAMPLE a_METHOD a_VIRTUAL_THREAD a_WALL_INTERVAL cl_BY_CODE) : Sta Z h0 "com/example/tracewell/tracewell/RecordKind" "SAMPLE" "Lcom/example/tracewell/tracewell/RecordKind;" (.ref a_SAMPLE) := hE.2.2.2.2.2.2.2.2.2.2.2.2.2.2.2.2.1
theorem own_p_S_WALL_SAMPLE {Z : State} {h0 : Heap} {a_BY_CODE : Addr} {a_BUFFERS : Addr} {a_HOLDABLE_CLASS : Addr} {a_UNPARK : Addr} {a_MONITOR_ENTER : Addr} {a_CPU_TIMER : Addr} {a_CLASS : Addr} {a_ALLOC_INTERVAL : Addr} {a_THREAD : Addr} {a_OPTIONS : Addr} {a_END : Addr} {a_STACK : Addr} {a_TIME : Addr} {a_UNDER_WAY : Addr} {a_PARK : Addr} {a_ALLOC_SAMPLE : Addr} {a_SAMPLE : Addr} {a_WALL_SAMPLE : Addr} {a_METHOD : Addr} {a_VIRTUAL_THREAD : Addr} {a_WALL_INTERVAL : Addr} {cl_BY_CODE : Cell} (hE : own_E Z h0 a_BY_CODE a_BUFFERS a_HOLDABLE_CLASS a_UNPARK a_MONITOR_ENTER a_CPU_TIMER a_CLASS a_ALLOC_INTERVAL a_THREAD a_OPTIONS a_END a_STACK a_TIME a_UNDER_WAY a_PARK a_ALLOC_SAMPLE a_SAMPLE a_WALL_SAMPLE a_METHOD a_VIRTUAL_THREAD a_WALL_INTERVAL cl_BY_CODE) : Sta Z h0 "com/example/tracewell/tracewell/RecordKind" "WALL_SAMPLE" "Lcom/example/tracewell/tracewell/RecordKind;" (.ref a_WALL_SAMPLE) := hE.2.2.2.2.2.2.2.2.2.2.2.2.2.2.2.2.2.1
theorem own_p_S_METHOD {Z : State} {h0 : Heap} {a_BY_CODE : Addr} {a_BUFFERS : Addr} {a_HOLDABLE_CLASS : Addr} {a_UNPARK : Addr} {a_MONITOR_ENTER : Addr} {a_CPU_TIMER : Addr} {a_CLASS : Addr} {a_ALLOC_INTERVAL : Addr} {a_THREAD : Addr} {a_OPTIONS : Addr} {a_END : Addr} {a_STACK : Addr} {a_TIME : Addr} {a_UNDER_WAY : Addr} {a_PARK : Addr} {a_ALLOC_SAMPLE : Addr} {a_SAMPLE : Addr} {a_WALL_SAMPLE : Addr} {a_METHOD : Addr} {a_VIRTUAL_THREAD : Addr} {a_WALL_INTERVAL : Addr} {cl_BY_CODE : Cell} (hE : own_E Z h0 a_BY_CODE a_BUFFERS a_HOLDABLE_CLASS a_UNPARK a_MONITOR_ENTER a_CPU_TIMER a_CLASS a_ALLOC_INTERVAL a_THREAD a_OPTIONS a_END a_STACK a_TIME a_UNDER_WAY a_PARK a_ALLOC_SAMPLE a_SAMPLE a_WALL_SAMPLE a_METHOD a_VIRTUAL_THREAD a_WALL_INTERVAL cl_BY_CODE) : Sta Z h0 "com/example/tracewell/tracewell/RecordKind" "METHOD" "Lcom/example/tracewell/tracewell/RecordKind;" (.ref a_METHOD) := hE.2.2.2.2.2.2.2.2.2.2.2.2.2.2.2.2.2.2.1
theorem own_p_S_VIRTUAL_THREAD {Z : State} {h0 : Heap} {a_BY_CODE : Addr} {a_BUFFERS : Addr} {a_HOLDABLE_CLASS : Addr} {a_UNPARK : Addr} {a_MONITOR_ENTER : Addr} {a_CPU_TIMER : Addr} {a_CLASS : Addr} {a_ALLOC_INTERVAL : Addr} {a_THREAD : Addr} {a_OPTIONS : Addr} {a_END : Addr} {a_STACK : Addr} {a_TIME : Addr} {a_UNDER_WAY : Addr} {a_PARK : Addr} {a_ALLOC_SAMPLE : Addr} {a_SAMPLE : Addr} {a_WALL_SAMPLE : Addr} {a_METHOD : Addr} {a_VIRTUAL_THREAD : Addr} {a_WALL_INTERVAL : Addr} {cl_BY_CODE : Cell} (hE : own_E Z h0 a_BY_CODE a_BUFFERS a_HOLDABLE_CLASS a_UNPARK a_MONITOR_ENTER a_CPU_TIMER a_CLASS a_ALLOC_INTERVAL a_THREAD a_OPTIONS a_END a_STACK a_TIME a_UNDER_WAY a_PARK a_ALLOC_SAMPLE a_SAMPLE a_WALL_SAMPLE a_METHOD a_VIRTUAL_THREAD a_WALL_INTERVAL cl_BY_CODE) : Sta Z h0 "com/example/tracewell/tracewell/RecordKind" "VIRTUAL_THREAD" "Lcom/example/tracewell/tracewell/RecordKind;" (.ref a_VIRTUAL_THREAD) := hE.2.2.2.2.2.2.2.2.2.2.2.2.2.2.2.2.2.2.2.1
theorem own_p_S_WALL_INTERVAL {Z : State} {h0 : Heap} {a_BY_CODE : Addr} {a_BUFFERS : Addr} {a_HOLDABLE_CLASS : Addr} {a_UNPARK : Addr} {a_MONITOR_ENTER : Addr} {a_CPU_TIMER : Addr} {a_CLASS : Addr} {a_ALLOC_INTERVAL : Addr} {a_THREAD : Addr} {a_OPTIONS : Addr} {a_END : Addr} {a_STACK : Addr} {a_TIME : Addr} {a_UNDER_WAY : Addr} {a_PARK : Addr} {a_ALLOC_SAMPLE : Addr} {a_SAMPLE : Addr} {a_WALL_SAMPLE : Addr} {a_METHOD : Addr} {a_VIRTUAL_THREAD : Addr} {a_WALL_INTERVAL : Addr} {cl_BY_CODE : Cell} (hE : own_E Z h0 a_BY_CODE a_BUFFERS a_HOLDABLE_CLASS a_UNPARK a_MONITOR_ENTER a_CPU_TIMER a_CLASS a_ALLOC_INTERVAL a_THREAD a_OPTIONS a_END a_STACK a_TIME a_UNDER_WAY a_PARK a_ALLOC_SAMPLE a_SAMPLE a_WALL_SAMPLE a_METHOD a_VIRTUAL_THREAD a_WALL_INTERVAL cl_BY_CODE) : Sta Z h0 "com/example/tracewell/tracewell/RecordKind" "WALL_INTERVAL" "Lcom/example/tracewell/tracewell/RecordKind;" (.ref a_WALL_INTERVAL) := hE.2.2.2.2.2.2.2.2.2.2.2.2.2.2.2.2.2.2.2.2.1
theorem own_p_A_BY_CODE {Z : State} {h0 : Heap} {a_BY_CODE : Addr} {a_BUFFERS : Addr} {a_HOLDABLE_CLASS : Addr} {a_UNPARK : Addr} {a_MONITOR_ENTER : Addr} {a_CPU_TIMER : Addr} {a_CLASS : Addr} {a_ALLOC_INTERVAL : Addr} {a_THREAD : Addr} {a_OPTIONS : Addr} {a_END : Addr} {a_STACK : Addr} {a_TIME : Addr} {a_UNDER_WAY : Addr} {a_PARK : Addr} {a_ALLOC_SAMPLE : Addr} {a_SAMPLE : Addr} {a_WALL_SAMPLE : Addr} {a_METHOD : Addr} {a_VIRTUAL_THREAD : Addr} {a_WALL_INTERVAL : Addr} {cl_BY_CODE : Cell} (hE : own_E Z h0 a_BY_CODE a_BUFFERS a_HOLDABLE_CLASS a_UNPARK a_MONITOR_ENTER a_CPU_TIMER a_CLASS a_ALLOC_INTERVAL a_THREAD a_OPTIONS a_END a_STACK a_TIME a_UNDER_WAY a_PARK a_ALLOC_SAMPLE a_SAMPLE a_WALL_SAMPLE a_METHOD a_VIRTUAL_THREAD a_WALL_INTERVAL cl_BY_CODE) : Arr Z h0 a_BY_CODE cl_BY_CODE (.object "com/example/tracewell/tracewell/RecordKind") := hE.2.2.2.2.2.2.2.2.2.2.2.2.2.2.2.2.2.2.2.2.2.1
theorem own_p_Z_BY_CODE {Z : State} {h0 : Heap} {a_BY_CODE : Addr} {a_BUFFERS : Addr} {a_HOLDABLE_CLASS : Addr} {a_UNPARK : Addr} {a_MONITOR_ENTER : Addr} {a_CPU_TIMER : Addr} {a_CLASS : Addr} {a_ALLOC_INTERVAL : Addr} {a_THREAD : Addr} {a_OPTIONS : Addr} {a_END : Addr} {a_STACK : Addr} {a_TIME : Addr} {a_UNDER_WAY : Addr} {a_PARK : Addr} {a_ALLOC_SAMPLE : Addr} {a_SAMPLE : Addr} {a_WALL_SAMPLE : Addr} {a_METHOD : Addr} {a_VIRTUAL_THREAD : Addr} {a_WALL_INTERVAL : Addr} {cl_BY_CODE : Cell} (hE : own_E Z h0 a_BY_CODE a_BUFFERS a_HOLDABLE_CLASS a_UNPARK a_MONITOR_ENTER a_CPU_TIMER a_CLASS a_ALLOC_INTERVAL a_THREAD a_OPTIONS a_END a_STACK a_TIME a_UNDER_WAY a_PARK a_ALLOC_SAMPLE a_SAMPLE a_WALL_SAMPLE a_METHOD a_VIRTUAL_THREAD a_WALL_INTERVAL cl_BY_CODE) : cl_BY_CODE.slots.size = (21 : Int32).toNatClampNeg := hE.2.2.2.2.2.2.2.2.2.2.2.2.2.2.2.2.2.2.2.2.2.2.1
theorem own_p_Y_BY_CODE_0 {Z : State} {h0 : Heap} {a_BY_CODE : Addr} {a_BUFFERS : Addr} {a_HOLDABLE_CLASS : Addr} {a_UNPARK : Addr} {a_MONITOR_ENTER : Addr} {a_CPU_TIMER : Addr} {a_CLASS : Addr} {a_ALLOC_INTERVAL : Addr} {a_THREAD : Addr} {a_OPTIONS : Addr} {a_END : Addr} {a_STACK : Addr} {a_TIME : Addr} {a_UNDER_WAY : Addr} {a_PARK : Addr} {a_ALLOC_SAMPLE : Addr} {a_SAMPLE : Addr} {a_WALL_SAMPLE : Addr} {a_METHOD : Addr} {a_VIRTUAL_THREAD : Addr} {a_WALL_INTERVAL : Addr} {cl_BY_CODE : Cell} (hE : own_E Z h0 a_BY_CODE a_BUFFERS a_HOLDABLE_CLASS a_UNPARK a_MONITOR_ENTER a_CPU_TIMER a_CLASS a_ALLOC_INTERVAL a_THREAD a_OPTIONS a_END a_STACK a_TIME a_UNDER_WAY a_PARK a_ALLOC_SAMPLE a_SAMPLE a_WALL_SAMPLE a_METHOD a_VIRTUAL_THREAD a_WALL_INTERVAL cl_BY_CODE) : cl_BY_CODE.slots[(0 : Int32).toNatClampNeg]? = some .null := hE.2.2.2.2.2.2.2.2.2.2.2.2.2.2.2.2.2.2.2.2.2.2.2.1
theorem own_p_Y_BY_CODE_1 {Z : State} {h0 : Heap} {a_BY_CODE : Addr} {a_BUFFERS : Addr} {a_HOLDABLE_CLASS : Addr} {a_UNPARK : Addr} {a_MONITOR_ENTER : Addr} {a_CPU_TIMER : Addr} {a_CLASS : Addr} {a_ALLOC_INTERVAL : Addr} {a_THREAD : Addr} {a_OPTIONS : Addr} {a_END : Addr} {a_STACK : Addr} {a_TIME : Addr} {a_UNDER_WAY : Addr} {a_PARK : Addr} {a_ALLOC_SAMPLE : Addr} {a_SAMPLE : Addr} {a_WALL_SAMPLE : Addr} {a_METHOD : Addr} {a_VIRTUAL_THREAD : Addr} {a_WALL_INTERVAL : Addr} {cl_BY_CODE : Cell} (hE : own_E Z h0 a_BY_CODE a_BUFFERS a_HOLDABLE_CLASS a_UNPARK a_MONITOR_ENTER a_CPU_TIMER a_CLASS a_ALLOC_INTERVAL a_THREAD a_OPTIONS a_END a_STACK a_TIME a_UNDER_WAY a_PARK a_ALLOC_SAMPLE a_SAMPLE a_WALL_SAMPLE a_METHOD a_VIRTUAL_THREAD a_WALL_INTERVAL cl_BY_CODE) : cl_BY_CODE.slots[(1 : Int32).toNatClampNeg]? = some (.ref a_THREAD) := hE.2.2.2.2.2.2.2.2.2.2.2.2.2.2.2.2.2.2.2.2.2.2.2.2.1
theorem own_p_Y_BY_CODE_2 {Z : State} {h0 : Heap} {a_BY_CODE : Addr} {a_BUFFERS : Addr} {a_HOLDABLE_CLASS : Addr} {a_UNPARK : Addr} {a_MONITOR_ENTER : Addr} {a_CPU_TIMER : Addr} {a_CLASS : Addr} {a_ALLOC_INTERVAL : Addr} {a_THREAD : Addr} {a_OPTIONS : Addr} {a_END : Addr} {a_STACK : Addr} {a_TIME : Addr} {a_UNDER_WAY : Addr} {a_PARK : Addr} {a_ALLOC_SAMPLE : Addr} {a_SAMPLE : Addr} {a_WALL_SAMPLE : Addr} {a_METHOD : Addr} {a_VIRTUAL_THREAD : Addr} {a_WALL_INTERVAL : Addr} {cl_BY_CODE : Cell} (hE : own_E Z h0 a_BY_CODE a_BUFFERS a_HOLDABLE_CLASS a_UNPARK a_MONITOR_ENTER a_CPU_TIMER a_CLASS a_ALLOC_INTERVAL a_THREAD a_OPTIONS a_END a_STACK a_TIME a_UNDER_WAY a_PARK a_ALLOC_SAMPLE a_SAMPLE a_WALL_SAMPLE a_METHOD a_VIRTUAL_THREAD a_WALL_INTERVAL cl_BY_CODE) : cl_BY_CODE.slots[(2 : Int32).toNatClampNeg]? = some (.ref a_END) := hE.2.2.2.2.2.2.2.2.2.2.2.2.2.2.2.2.2.2.2.2.2.2.2.2.2.1
theorem own_p_Y_BY_CODE_3 {Z : State} {h0 : Heap} {a_BY_CODE : Addr} {a_BUFFERS : Addr} {a_HOLDABLE_CLASS : Addr} {a_UNPARK : Addr} {a_MONITOR_ENTER : Addr} {a_CPU_TIMER : Addr} {a_CLASS : Addr} {a_ALLOC_INTERVAL : Addr} {a_THREAD : Addr} {a_OPTIONS : Addr} {a_END : Addr} {a_STACK : Addr} {a_TIME : Addr} {a_UNDER_WAY : Addr} {a_PARK : Addr} {a_ALLOC_SAMPLE : Addr} {a_SAMPLE : Addr} {a_WALL_SAMPLE : Addr} {a_METHOD : Addr} {a_VIRTUAL_THREAD : Addr} {a_WALL_INTERVAL : Addr} {cl_BY_CODE : Cell} (hE : own_E Z h0 a_BY_CODE a_BUFFERS a_HOLDABLE_CLASS a_UNPARK a_MONITOR_ENTER a_CPU_TIMER a_CLASS a_ALLOC_INTERVAL a_THREAD a_OPTIONS a_END a_STACK a_TIME a_UNDER_WAY a_PARK a_ALLOC_SAMPLE a_SAMPLE a_WALL_SAMPLE a_METHOD a_VIRTUAL_THREAD a_WALL_INTERVAL cl_BY_CODE) : cl_BY_CODE.slots[(3 : Int32).toNatClampNeg]? = some (.ref a_CLASS) := hE.2.2.2.2.2.2.2.2.2.2.2.2.2.2.2.2.2.2.2.2.2.2.2.2.2.2.1
theorem own_p_Y_BY_CODE_4 {Z : State} {h0 : Heap} {a_BY_CODE : Addr} {a_BUFFERS : Addr} {a_HOLDABLE_CLASS : Addr} {a_UNPARK : Addr} {a_MONITOR_ENTER : Addr} {a_CPU_TIMER : Addr} {a_CLASS : Addr} {a_ALLOC_INTERVAL : Addr} {a_THREAD : Addr} {a_OPTIONS : Addr} {a_END : Addr} {a_STACK : Addr} {a_TIME : Addr} {a_UNDER_WAY : Addr} {a_PARK : Addr} {a_ALLOC_SAMPLE : Addr} {a_SAMPLE : Addr} {a_WALL_SAMPLE : Addr} {a_METHOD : Addr} {a_VIRTUAL_THREAD : Addr} {a_WALL_INTERVAL : Addr} {cl_BY_CODE : Cell} (hE : own_E Z h0 a_BY_CODE a_BUFFERS a_HOLDABLE_CLASS a_UNPARK a_MONITOR_ENTER a_CPU_TIMER a_CLASS a_ALLOC_INTERVAL a_THREAD a_OPTIONS a_END a_STACK a_TIME a_UNDER_WAY a_PARK a_ALLOC_SAMPLE a_SAMPLE a_WALL_SAMPLE a_METHOD a_VIRTUAL_THREAD a_WALL_INTERVAL cl_BY_CODE) : cl_BY_CODE.slots[(4 : Int32).toNatClampNeg]? = some (.ref a_METHOD) := hE.2.2.2.2.2.2.2.2.2.2.2.2.2.2.2.2.2.2.2.2.2.2.2.2.2.2.2.1
theorem own_p_Y_BY_CODE_5 {Z : State} {h0 : Heap} {a_BY_CODE : Addr} {a_BUFFERS : Addr} {a_HOLDABLE_CLASS : Addr} {a_UNPARK : Addr} {a_MONITOR_ENTER : Addr} {a_CPU_TIMER : Addr} {a_CLASS : Addr} {a_ALLOC_INTERVAL : Addr} {a_THREAD : Addr} {a_OPTIONS : Addr} {a_END : Addr} {a_STACK : Addr} {a_TIME : Addr} {a_UNDER_WAY : Addr} {a_PARK : Addr} {a_ALLOC_SAMPLE : Addr} {a_SAMPLE : Addr} {a_WALL_SAMPLE : Addr} {a_METHOD : Addr} {a_VIRTUAL_THREAD : Addr} {a_WALL_INTERVAL : Addr} {cl_BY_CODE : Cell} (hE : own_E Z h0 a_BY_CODE a_BUFFERS a_HOLDABLE_CLASS a_UNPARK a_MONITOR_ENTER a_CPU_TIMER a_CLASS a_ALLOC_INTERVAL a_THREAD a_OPTIONS a_END a_STACK a_TIME a_UNDER_WAY a_PARK a_ALLOC_SAMPLE a_SAMPLE a_WALL_SAMPLE a_METHOD a_VIRTUAL_THREAD a_WALL_INTERVAL cl_BY_CODE) : cl_BY_CODE.slots[(5 : Int32).toNatClampNeg]? = some (.ref a_STACK) := hE.2.2.2.2.2.2.2.2.2.2.2.2.2.2.2.2.2.2.2.2.2.2.2.2.2.2.2.2.1
theorem own_p_Y_BY_CODE_6 {Z : State} {h0 : Heap} {a_BY_CODE : Addr} {a_BUFFERS : Addr} {a_HOLDABLE_CLASS : Addr} {a_UNPARK : Addr} {a_MONITOR_ENTER : Addr} {a_CPU_TIMER : Addr} {a_CLASS : Addr} {a_ALLOC_INTERVAL : Addr} {a_THREAD : Addr} {a_OPTIONS : Addr} {a_END : Addr} {a_STACK : Addr} {a_TIME : Addr} {a_UNDER_WAY : Addr} {a_PARK : Addr} {a_ALLOC_SAMPLE : Addr} {a_SAMPLE : Addr} {a_WALL_SAMPLE : Addr} {a_METHOD : Addr} {a_VIRTUAL_THREAD : Addr} {a_WALL_INTERVAL : Addr} {cl_BY_CODE : Cell} (hE : own_E Z h0 a_BY_CODE a_BUFFERS a_HOLDABLE_CLASS a_UNPARK a_MONITOR_ENTER a_CPU_TIMER a_CLASS a_ALLOC_INTERVAL a_THREAD a_OPTIONS a_END a_STACK a_TIME a_UNDER_WAY a_PARK a_ALLOC_SAMPLE a_SAMPLE a_WALL_SAMPLE a_METHOD a_VIRTUAL_THREAD a_WALL_INTERVAL cl_BY_CODE) : cl_BY_CODE.slots[(6 : Int32).toNatClampNeg]? = some (.ref a_MONITOR_ENTER) := hE.2.2.2.2.2.2.2.2.2.2.2.2.2.2.2.2.2.2.2.2.2.2.2.2.2.2.2.2.2.1
theorem own_p_Y_BY_CODE_7 {Z : State} {h0 : Heap} {a_BY_CODE : Addr} {a_BUFFERS : Addr} {a_HOLDABLE_CLASS : Addr} {a_UNPARK : Addr} {a_MONITOR_ENTER : Addr} {a_CPU_TIMER : Addr} {a_CLASS : Addr} {a_ALLOC_INTERVAL : Addr} {a_THREAD : Addr} {a_OPTIONS : Addr} {a_END : Addr} {a_STACK : Addr} {a_TIME : Addr} {a_UNDER_WAY : Addr} {a_PARK : Addr} {a_ALLOC_SAMPLE : Addr} {a_SAMPLE : Addr} {a_WALL_SAMPLE : Addr} {a_METHOD : Addr} {a_VIRTUAL_THREAD : Addr} {a_WALL_INTERVAL : Addr} {cl_BY_CODE : Cell} (hE : own_E Z h0 a_BY_CODE a_BUFFERS a_HOLDABLE_CLASS a_UNPARK a_MONITOR_ENTER a_CPU_TIMER a_CLASS a_ALLOC_INTERVAL a_THREAD a_OPTIONS a_END a_STACK a_TIME a_UNDER_WAY a_PARK a_ALLOC_SAMPLE a_SAMPLE a_WALL_SAMPLE a_METHOD a_VIRTUAL_THREAD a_WALL_INTERVAL cl_BY_CODE) : cl_BY_CODE.slots[(7 : Int32).toNatClampNeg]? = some (.ref a_PARK) := hE.2.2.2.2.2.2.2.2.2.2.2.2.2.2.2.2.2.2.2.2.2.2.2.2.2.2.2.2.2.2.1
theorem own_p_Y_BY_CODE_8 {Z : State} {h0 : Heap} {a_BY_CODE : Addr} {a_BUFFERS : Addr} {a_HOLDABLE_CLASS : Addr} {a_UNPARK : Addr} {a_MONITOR_ENTER : Addr} {a_CPU_TIMER : Addr} {a_CLASS : Addr} {a_ALLOC_INTERVAL : Addr} {a_THREAD : Addr} {a_OPTIONS : Addr} {a_END : Addr} {a_STACK : Addr} {a_TIME : Addr} {a_UNDER_WAY : Addr} {a_PARK : Addr} {a_ALLOC_SAMPLE : Addr} {a_SAMPLE : Addr} {a_WALL_SAMPLE : Addr} {a_METHOD : Addr} {a_VIRTUAL_THREAD : Addr} {a_WALL_INTERVAL : Addr} {cl_BY_CODE : Cell} (hE : own_E Z h0 a_BY_CODE a_BUFFERS a_HOLDABLE_CLASS a_UNPARK a_MONITOR_ENTER a_CPU_TIMER a_CLASS a_ALLOC_INTERVAL a_THREAD a_OPTIONS a_END a_STACK a_TIME a_UNDER_WAY a_PARK a_ALLOC_SAMPLE a_SAMPLE a_WALL_SAMPLE a_METHOD a_VIRTUAL_THREAD a_WALL_INTERVAL cl_BY_CODE) : cl_BY_CODE.slots[(8 : Int32).toNatClampNeg]? = some (.ref a_UNPARK) := hE.2.2.2.2.2.2.2.2.2.2.2.2.2.2.2.2.2.2.2.2.2.2.2.2.2.2.2.2.2.2.2.1
theorem own_p_Y_BY_CODE_9 {Z : State} {h0 : Heap} {a_BY_CODE : Addr} {a_BUFFERS : Addr} {a_HOLDABLE_CLASS : Addr} {a_UNPARK : Addr} {a_MONITOR_ENTER : Addr} {a_CPU_TIMER : Addr} {a_CLASS : Addr} {a_ALLOC_INTERVAL : Addr} {a_THREAD : Addr} {a_OPTIONS : Addr} {a_END : Addr} {a_STACK : Addr} {a_TIME : Addr} {a_UNDER_WAY : Addr} {a_PARK : Addr} {a_ALLOC_SAMPLE : Addr} {a_SAMPLE : Addr} {a_WALL_SAMPLE : Addr} {a_METHOD : Addr} {a_VIRTUAL_THREAD : Addr} {a_WALL_INTERVAL : Addr} {cl_BY_CODE : Cell} (hE : own_E Z h0 a_BY_CODE a_BUFFERS a_HOLDABLE_CLASS a_UNPARK a_MONITOR_ENTER a_CPU_TIMER a_CLASS a_ALLOC_INTERVAL a_THREAD a_OPTIONS a_END a_STACK a_TIME a_UNDER_WAY a_PARK a_ALLOC_SAMPLE a_SAMPLE a_WALL_SAMPLE a_METHOD a_VIRTUAL_THREAD a_WALL_INTERVAL cl_BY_CODE) : cl_BY_CODE.slots[(9 : Int32).toNatClampNeg]? = some (.ref a_SAMPLE) := hE.2.2.2.2.2.2.2.2.2.2.2.2.2.2.2.2.2.2.2.2.2.2.2.2.2.2.2.2.2.2.2.2.1
theorem own_p_Y_BY_CODE_10 {Z : State} {h0 : Heap} {a_BY_CODE : Addr} {a_BUFFERS : Addr} {a_HOLDABLE_CLASS : Addr} {a_UNPARK : Addr} {a_MONITOR_ENTER : Addr} {a_CPU_TIMER : Addr} {a_CLASS : Addr} {a_ALLOC_INTERVAL : Addr} {a_THREAD : Addr} {a_OPTIONS : Addr} {a_END : Addr} {a_STACK : Addr} {a_TIME : Addr} {a_UNDER_WAY : Addr} {a_PARK : Addr} {a_ALLOC_SAMPLE : Addr} {a_SAMPLE : Addr} {a_WALL_SAMPLE : Addr} {a_METHOD : Addr} {a_VIRTUAL_THREAD : Addr} {a_WALL_INTERVAL : Addr} {cl_BY_CODE : Cell} (hE : own_E Z h0 a_BY_CODE a_BUFFERS a_HOLDABLE_CLASS a_UNPARK a_MONITOR_ENTER a_CPU_TIMER a_CLASS a_ALLOC_INTERVAL a_THREAD a_OPTIONS a_END a_STACK a_TIME a_UNDER_WAY a_PARK a_ALLOC_SAMPLE a_SAMPLE a_WALL_SAMPLE a_METHOD a_VIRTUAL_THREAD a_WALL_INTERVAL cl_BY_CODE) : cl_BY_CODE.slots[(10 : Int32).toNatClampNeg]? = some (.ref a_UNDER_WAY) := hE.2.2.2.2.2.2.2.2.2.2.2.2.2.2.2.2.2.2.2.2.2.2.2.2.2.2.2.2.2.2.2.2.2.1
theorem own_p_Y_BY_CODE_11 {Z : State} {h0 : Heap} {a_BY_CODE : Addr} {a_BUFFERS : Addr} {a_HOLDABLE_CLASS : Addr} {a_UNPARK : Addr} {a_MONITOR_ENTER : Addr} {a_CPU_TIMER : Addr} {a_CLASS : Addr} {a_ALLOC_INTERVAL : Addr} {a_THREAD : Addr} {a_OPTIONS : Addr} {a_END : Addr} {a_STACK : Addr} {a_TIME : Addr} {a_UNDER_WAY : Addr} {a_PARK : Addr} {a_ALLOC_SAMPLE : Addr} {a_SAMPLE : Addr} {a_WALL_SAMPLE : Addr} {a_METHOD : Addr} {a_VIRTUAL_THREAD : Addr} {a_WALL_INTERVAL : Addr} {cl_BY_CODE : Cell} (hE : own_E Z h0 a_BY_CODE a_BUFFERS a_HOLDABLE_CLASS a_UNPARK a_MONITOR_ENTER a_CPU_TIMER a_CLASS a_ALLOC_INTERVAL a_THREAD a_OPTIONS a_END a_STACK a_TIME a_UNDER_WAY a_PARK a_ALLOC_SAMPLE a_SAMPLE a_WALL_SAMPLE a_METHOD a_VIRTUAL_THREAD a_WALL_INTERVAL cl_BY_CODE) : cl_BY_CODE.slots[(11 : Int32).toNatClampNeg]? = some (.ref a_TIME) := hE.2.2.2.2.2.2.2.2.2.2.2.2.2.2.2.2.2.2.2.2.2.2.2.2.2.2.2.2.2.2.2.2.2.2.1
theorem own_p_Y_BY_CODE_12 {Z : State} {h0 : Heap} {a_BY_CODE : Addr} {a_BUFFERS : Addr} {a_HOLDABLE_CLASS : Addr} {a_UNPARK : Addr} {a_MONITOR_ENTER : Addr} {a_CPU_TIMER : Addr} {a_CLASS : Addr} {a_ALLOC_INTERVAL : Addr} {a_THREAD : Addr} {a_OPTIONS : Addr} {a_END : Addr} {a_STACK : Addr} {a_TIME : Addr} {a_UNDER_WAY : Addr} {a_PARK : Addr} {a_ALLOC_SAMPLE : Addr} {a_SAMPLE : Addr} {a_WALL_SAMPLE : Addr} {a_METHOD : Addr} {a_VIRTUAL_THREAD : Addr} {a_WALL_INTERVAL : Addr} {cl_BY_CODE : Cell} (hE : own_E Z h0 a_BY_CODE a_BUFFERS a_HOLDABLE_CLASS a_UNPARK a_MONITOR_ENTER a_CPU_TIMER a_CLASS a_ALLOC_INTERVAL a_THREAD a_OPTIONS a_END a_STACK a_TIME a_UNDER_WAY a_PARK a_ALLOC_SAMPLE a_SAMPLE a_WALL_SAMPLE a_METHOD a_VIRTUAL_THREAD a_WALL_INTERVAL cl_BY_CODE) : cl_BY_CODE.slots[(12 : Int32).toNatClampNeg]? = some (.ref a_CPU_TIMER) := hE.2.2.2.2.2.2.2.2.2.2.2.2.2.2.2.2.2.2.2.2.2.2.2.2.2.2.2.2.2.2.2.2.2.2.2.1
theorem own_p_Y_BY_CODE_13 {Z : State} {h0 : Heap} {a_BY_CODE : Addr} {a_BUFFERS : Addr} {a_HOLDABLE_CLASS : Addr} {a_UNPARK : Addr} {a_MONITOR_ENTER : Addr} {a_CPU_TIMER : Addr} {a_CLASS : Addr} {a_ALLOC_INTERVAL : Addr} {a_THREAD : Addr} {a_OPTIONS : Addr} {a_END : Addr} {a_STACK : Addr} {a_TIME : Addr} {a_UNDER_WAY : Addr} {a_PARK : Addr} {a_ALLOC_SAMPLE : Addr} {a_SAMPLE : Addr} {a_WALL_SAMPLE : Addr} {a_METHOD : Addr} {a_VIRTUAL_THREAD : Addr} {a_WALL_INTERVAL : Addr} {cl_BY_CODE : Cell} (hE : own_E Z h0 a_BY_CODE a_BUFFERS a_HOLDABLE_CLASS a_UNPARK a_MONITOR_ENTER a_CPU_TIMER a_CLASS a_ALLOC_INTERVAL a_THREAD a_OPTIONS a_END a_STACK a_TIME a_UNDER_WAY a_PARK a_ALLOC_SAMPLE a_SAMPLE a_WALL_SAMPLE a_METHOD a_VIRTUAL_THREAD a_WALL_INTERVAL cl_BY_CODE) : cl_BY_CODE.slots[(13 : Int32).toNatClampNeg]? = some (.ref a_VIRTUAL_THREAD) := hE.2.2.2.2.2.2.2.2.2.2.2.2.2.2.2.2.2.2.2.2.2.2.2.2.2.2.2.2.2.2.2.2.2.2.2.2.1
theorem own_p_Y_BY_CODE_14 {Z : State} {h0 : Heap} {a_BY_CODE : Addr} {a_BUFFERS : Addr} {a_HOLDABLE_CLASS : Addr} {a_UNPARK : Addr} {a_MONITOR_ENTER : Addr} {a_CPU_TIMER : Addr} {a_CLASS : Addr} {a_ALLOC_INTERVAL : Addr} {a_THREAD : Addr} {a_OPTIONS : Addr} {a_END : Addr} {a_STACK : Addr} {a_TIME : Addr} {a_UNDER_WAY : Addr} {a_PARK : Addr} {a_ALLOC_SAMPLE : Addr} {a_SAMPLE : Addr} {a_WALL_SAMPLE : Addr} {a_METHOD : Addr} {a_VIRTUAL_THREAD : Addr} {a_WALL_INTERVAL : Addr} {cl_BY_CODE : Cell} (hE : own_E Z h0 a_BY_CODE a_BUFFERS a_HOLDABLE_CLASS a_UNPARK a_MONITOR_ENTER a_CPU_TIMER a_CLASS a_ALLOC_INTERVAL a_THREAD a_OPTIONS a_END a_STACK a_TIME a_UNDER_WAY a_PARK a_ALLOC_SAMPLE a_SAMPLE a_WALL_SAMPLE a_METHOD a_VIRTUAL_THREAD a_WALL_INTERVAL cl_BY_CODE) : cl_BY_CODE.slots[(14 : Int32).toNatClampNeg]? = some (.ref a_BUFFERS) := hE.2.2.2.2.2.2.2.2.2.2.2.2.2.2.2.2.2.2.2.2.2.2.2.2.2.2.2.2.2.2.2.2.2.2.2.2.2.1
theorem own_p_Y_BY_CODE_15 {Z : State} {h0 : Heap} {a_BY_CODE : Addr} {a_BUFFERS : Addr} {a_HOLDABLE_CLASS : Addr} {a_UNPARK : Addr} {a_MONITOR_ENTER : Addr} {a_CPU_TIMER : Addr} {a_CLASS : Addr} {a_ALLOC_INTERVAL : Addr} {a_THREAD : Addr} {a_OPTIONS : Addr} {a_END : Addr} {a_STACK : Addr} {a_TIME : Addr} {a_UNDER_WAY : Addr} {a_PARK : Addr} {a_ALLOC_SAMPLE : Addr} {a_SAMPLE : Addr} {a_WALL_SAMPLE : Addr} {a_METHOD : Addr} {a_VIRTUAL_THREAD : Addr} {a_WALL_INTERVAL : Addr} {cl_BY_CODE : Cell} (hE : own_E Z h0 a_BY_CODE a_BUFFERS a_HOLDABLE_CLASS a_UNPARK a_MONITOR_ENTER a_CPU_TIMER a_CLASS a_ALLOC_INTERVAL a_THREAD a_OPTIONS a_END a_STACK a_TIME a_UNDER_WAY a_PARK a_ALLOC_SAMPLE a_SAMPLE a_WALL_SAMPLE a_METHOD a_VIRTUAL_THREAD a_WALL_INTERVAL cl_BY_CODE) : cl_BY_CODE.slots[(15 : Int32).toNatClampNeg]? = some (.ref a_HOLDABLE_CLASS) := hE.2.2.2.2.2.2.2.2.2.2.2.2.2.2.2.2.2.2.2.2.2.2.2.2.2.2.2.2.2.2.2.2.2.2.2.2.2.2.1
theorem own_p_Y_BY_CODE_16 {Z : State} {h0 : Heap} {a_BY_CODE : Addr} {a_BUFFERS : Addr} {a_HOLDABLE_CLASS : Addr} {a_UNPARK : Addr} {a_MONITOR_ENTER : Addr} {a_CPU_TIMER : Addr} {a_CLASS : Addr} {a_ALLOC_INTERVAL : Addr} {a_THREAD : Addr} {a_OPTIONS : Addr} {a_END : Addr} {a_STACK : Addr} {a_TIME : Addr} {a_UNDER_WAY : Addr} {a_PARK : Addr} {a_ALLOC_SAMPLE : Addr} {a_SAMPLE : Addr} {a_WALL_SAMPLE : Addr} {a_METHOD : Addr} {a_VIRTUAL_THREAD : Addr} {a_WALL_INTERVAL : Addr} {cl_BY_CODE : Cell} (hE : own_E Z h0 a_BY_CODE a_BUFFERS a_HOLDABLE_CLASS a_UNPARK a_MONITOR_ENTER a_CPU_TIMER a_CLASS a_ALLOC_INTERVAL a_THREAD a_OPTIONS a_END a_STACK a_TIME a_UNDER_WAY a_PARK a_ALLOC_SAMPLE a_SAMPLE a_WALL_SAMPLE a_METHOD a_VIRTUAL_THREAD a_WALL_INTERVAL cl_BY_CODE) : cl_BY_CODE.slots[(16 : Int32).toNatClampNeg]? = some (.ref a_WALL_INTERVAL) := hE.2.2.2.2.2.2.2.2.2.2.2.2.2.2.2.2.2.2.2.2.2.2.2.2.2.2.2.2.2.2.2.2.2.2.2.2.2.2.2.1
theorem own_p_Y_BY_CODE_17 {Z : State} {h0 : Heap} {a_BY_CODE : Addr} {a_BUFFERS : Addr} {a_HOLDABLE_CLASS : Addr} {a_UNPARK : Addr} {a_MONITOR_ENTER : Addr} {a_CPU_TIMER : Addr} {a_CLASS : Addr} {a_ALLOC_INTERVAL : Addr} {a_THREAD : Addr} {a_OPTIONS : Addr} {a_END : Addr} {a_STACK : Addr} {a_TIME : Addr} {a_UNDER_WAY : Addr} {a_PARK : Addr} {a_ALLOC_SAMPLE : Addr} {a_SAMPLE : Addr} {a_WALL_SAMPLE : Addr} {a_METHOD : Addr} {a_VIRTUAL_THREAD : Addr} {a_WALL_INTERVAL : Addr} {cl_BY_CODE : Cell} (hE : own_E Z h0 a_BY_CODE a_BUFFERS a_HOLDABLE_CLASS a_UNPARK a_MONITOR_ENTER a_CPU_TIMER a_CLASS a_ALLOC_INTERVAL a_THREAD a_OPTIONS a_END a_STACK a_TIME a_UNDER_WAY a_PARK a_ALLOC_SAMPLE a_SAMPLE a_WALL_SAMPLE a_METHOD a_VIRTUAL_THREAD a_WALL_INTERVAL cl_BY_CODE) : cl_BY_CODE.slots[(17 : Int32).toNatClampNeg]? = some (.ref a_WALL_SAMPLE) := hE.2.2.2.2.2.2.2.2.2.2.2.2.2.2.2.2.2.2.2.2.2.2.2.2.2.2.2.2.2.2.2.2.2.2.2.2.2.2.2.2.1
theorem own_p_Y_BY_CODE_18 {Z : State} {h0 : Heap} {a_BY_CODE : Addr} {a_BUFFERS : Addr} {a_HOLDABLE_CLASS : Addr} {a_UNPARK : Addr} {a_MONITOR_ENTER : Addr} {a_CPU_TIMER : Addr} {a_CLASS : Addr} {a_ALLOC_INTERVAL : Addr} {a_THREAD : Addr} {a_OPTIONS : Addr} {a_END : Addr} {a_STACK : Addr} {a_TIME : Addr} {a_UNDER_WAY : Addr} {a_PARK : Addr} {a_ALLOC_SAMPLE : Addr} {a_SAMPLE : Addr} {a_WALL_SAMPLE : Addr} {a_METHOD : Addr} {a_VIRTUAL_THREAD : Addr} {a_WALL_INTERVAL : Addr} {cl_BY_CODE : Cell} (hE : own_E Z h0 a_BY_CODE a_BUFFERS a_HOLDABLE_CLASS a_UNPARK a_MONITOR_ENTER a_CPU_TIMER a_CLASS a_ALLOC_INTERVAL a_THREAD a_OPTIONS a_END a_STACK a_TIME a_UNDER_WAY a_PARK a_ALLOC_SAMPLE a_SAMPLE a_WALL_SAMPLE a_METHOD a_VIRTUAL_THREAD a_WALL_INTERVAL cl_BY_CODE) : cl_BY_CODE.slots[(18 : Int32).toNatClampNeg]? = some (.ref a_ALLOC_INTERVAL) := hE.2.2.2.2.2.2.2.2.2.2.2.2.2.2.2.2.2.2.2.2.2.2.2.2.2.2.2.2.2.2.2.2.2.2.2.2.2.2.2.2.2.1
theorem own_p_Y_BY_CODE_19 {Z : State} {h0 : Heap} {a_BY_CODE : Addr} {a_BUFFERS : Addr} {a_HOLDABLE_CLASS : Addr} {a_UNPARK : Addr} {a_MONITOR_ENTER : Addr} {a_CPU_TIMER : Addr} {a_CLASS : Addr} {a_ALLOC_INTERVAL : Addr} {a_THREAD : Addr} {a_OPTIONS : Addr} {a_END : Addr} {a_STACK : Addr} {a_TIME : Addr} {a_UNDER_WAY : Addr} {a_PARK : Addr} {a_ALLOC_SAMPLE : Addr} {a_SAMPLE : Addr} {a_WALL_SAMPLE : Addr} {a_METHOD : Addr} {a_VIRTUAL_THREAD : Addr} {a_WALL_INTERVAL : Addr} {cl_BY_CODE : Cell} (hE : own_E Z h0 a_BY_CODE a_BUFFERS a_HOLDABLE_CLASS a_UNPARK a_MONITOR_ENTER a_CPU_TIMER a_CLASS a_ALLOC_INTERVAL a_THREAD a_OPTIONS a_END a_STACK a_TIME a_UNDER_WAY a_PARK a_ALLOC_SAMPLE a_SAMPLE a_WALL_SAMPLE a_METHOD a_VIRTUAL_THREAD a_WALL_INTERVAL cl_BY_CODE) : cl_BY_CODE.slots[(19 : Int32).toNatClampNeg]? = some (.ref a_ALLOC_SAMPLE) := hE.2.2.2.2.2.2.2.2.2.2.2.2.2.2.2.2.2.2.2.2.2.2.2.2.2.2.2.2.2.2.2.2.2.2.2.2.2.2.2.2.2.2.1
theorem own_p_Y_BY_CODE_20 {Z : State} {h0 : Heap} {a_BY_CODE : Addr} {a_BUFFERS : Addr} {a_HOLDABLE_CLASS : Addr} {a_UNPARK : Addr} {a_MONITOR_ENTER : Addr} {a_CPU_TIMER : Addr} {a_CLASS : Addr} {a_ALLOC_INTERVAL : Addr} {a_THREAD : Addr} {a_OPTIONS : Addr} {a_END : Addr} {a_STACK : Addr} {a_TIME : Addr} {a_UNDER_WAY : Addr} {a_PARK : Addr} {a_ALLOC_SAMPLE : Addr} {a_SAMPLE : Addr} {a_WALL_SAMPLE : Addr} {a_METHOD : Addr} {a_VIRTUAL_THREAD : Addr} {a_WALL_INTERVAL : Addr} {cl_BY_CODE : Cell} (hE : own_E Z h0 a_BY_CODE a_BUFFERS a_HOLDABLE_CLASS a_UNPARK a_MONITOR_ENTER a_CPU_TIMER a_CLASS a_ALLOC_INTERVAL a_THREAD a_OPTIONS a_END a_STACK a_TIME a_UNDER_WAY a_PARK a_ALLOC_SAMPLE a_SAMPLE a_WALL_SAMPLE a_METHOD a_VIRTUAL_THREAD a_WALL_INTERVAL cl_BY_CODE) : cl_BY_CODE.slots[(20 : Int32).toNatClampNeg]? = some (.ref a_OPTIONS) := hE.2.2.2.2.2.2.2.2.2.2.2.2.2.2.2.2.2.2.2.2.2.2.2.2.2.2.2.2.2.2.2.2.2.2.2.2.2.2.2.2.2.2.2.1
theorem own_p_E_BUFFERS {Z : State} {h0 : Heap} {a_BY_CODE : Addr} {a_BUFFERS : Addr} {a_HOLDABLE_CLASS : Addr} {a_UNPARK : Addr} {a_MONITOR_ENTER : Addr} {a_CPU_TIMER : Addr} {a_CLASS : Addr} {a_ALLOC_INTERVAL : Addr} {a_THREAD : Addr} {a_OPTIONS : Addr} {a_END : Addr} {a_STACK : Addr} {a_TIME : Addr} {a_UNDER_WAY : Addr} {a_PARK : Addr} {a_ALLOC_SAMPLE : Addr} {a_SAMPLE : Addr} {a_WALL_SAMPLE : Addr} {a_METHOD : Addr} {a_VIRTUAL_THREAD : Addr} {a_WALL_INTERVAL : Addr} {cl_BY_CODE : Cell} (hE : own_E Z h0 a_BY_CODE a_BUFFERS a_HOLDABLE_CLASS a_UNPARK a_MONITOR_ENTER a_CPU_TIMER a_CLASS a_ALLOC_INTERVAL a_THREAD a_OPTIONS a_END a_STACK a_TIME a_UNDER_WAY a_PARK a_ALLOC_SAMPLE a_SAMPLE a_WALL_SAMPLE a_METHOD a_VIRTUAL_THREAD a_WALL_INTERVAL cl_BY_CODE) : Exa Z h0 a_BUFFERS "com/example/tracewell/tracewell/RecordKind" := hE.2.2.2.2.2.2.2.2.2.2.2.2.2.2.2.2.2.2.2.2.2.2.2.2.2.2.2.2.2.2.2.2.2.2.2.2.2.2.2.2.2.2.2.2.1
theorem own_p_E_HOLDABLE_CLASS {Z : State} {h0 : Heap} {a_BY_CODE : Addr} {a_BUFFERS : Addr} {a_HOLDABLE_CLASS : Addr} {a_UNPARK : Addr} {a_MONITOR_ENTER : Addr} {a_CPU_TIMER : Addr} {a_CLASS : Addr} {a_ALLOC_INTERVAL : Addr} {a_THREAD : Addr} {a_OPTIONS : Addr} {a_END : Addr} {a_STACK : Addr} {a_TIME : Addr} {a_UNDER_WAY : Addr} {a_PARK : Addr} {a_ALLOC_SAMPLE : Addr} {a_SAMPLE : Addr} {a_WALL_SAMPLE : Addr} {a_METHOD : Addr} {a_VIRTUAL_THREAD : Addr} {a_WALL_INTERVAL : Addr} {cl_BY_CODE : Cell} (hE : own_E Z h0 a_BY_CODE a_BUFFERS a_HOLDABLE_CLASS a_UNPARK a_MONITOR_ENTER a_CPU_TIMER a_CLASS a_ALLOC_INTERVAL a_THREAD a_OPTIONS a_END a_STACK a_TIME a_UNDER_WAY a_PARK a_ALLOC_SAMPLE a_SAMPLE a_WALL_SAMPLE a_METHOD a_VIRTUAL_THREAD a_WALL_INTERVAL cl_BY_CODE) : Exa Z h0 a_HOLDABLE_CLASS "com/example/tracewell/tracewell/RecordKind" := hE.2.2.2.2.2.2.2.2.2.2.2.2.2.2.2.2.2.2.2.2.2.2.2.2.2.2.2.2.2.2.2.2.2.2.2.2.2.2.2.2.2.2.2.2.2.1
theorem own_p_E_UNPARK {Z : State} {h0 : Heap} {a_BY_CODE : Addr} {a_BUFFERS : Addr} {a_HOLDABLE_CLASS : Addr} {a_UNPARK : Addr} {a_MONITOR_ENTER : Addr} {a_CPU_TIMER : Addr} {a_CLASS : Addr} {a_ALLOC_INTERVAL : Addr} {a_THREAD : Addr} {a_OPTIONS : Addr} {a_END : Addr} {a_STACK : Addr} {a_TIME : Addr} {a_UNDER_WAY : Addr} {a_PARK : Addr} {a_ALLOC_SAMPLE : Addr} {a_SAMPLE : Addr} {a_WALL_SAMPLE : Addr} {a_METHOD : Addr} {a_VIRTUAL_THREAD : Addr} {a_WALL_INTERVAL : Addr} {cl_BY_CODE : Cell} (hE : own_E Z h0 a_BY_CODE a_BUFFERS a_HOLDABLE_CLASS a_UNPARK a_MONITOR_ENTER a_CPU_TIMER a_CLASS a_ALLOC_INTERVAL a_THREAD a_OPTIONS a_END a_STACK a_TIME a_UNDER_WAY a_PARK a_ALLOC_SAMPLE a_SAMPLE a_WALL_SAMPLE a_METHOD a_VIRTUAL_THREAD a_WALL_INTERVAL cl_BY_CODE) : Exa Z h0 a_UNPARK "com/example/tracewell/tracewell/RecordKind" := hE.2.2.2.2.2.2.2.2.2.2.2.2.2.2.2.2.2.2.2.2.2.2.2.2.2.2.2.2.2.2.2.2.2.2.2.2.2.2.2.2.2.2.2.2.2.2.1
theorem own_p_E_MONITOR_ENTER {Z : State} {h0 : Heap} {a_BY_CODE : Addr} {a_BUFFERS : Addr} {a_HOLDABLE_CLASS : Addr} {a_UNPARK : Addr} {a_MONITOR_ENTER : Addr} {a_CPU_TIMER : Addr} {a_CLASS : Addr} {a_ALLOC_INTERVAL : Addr} {a_THREAD : Addr} {a_OPTIONS : Addr} {a_END : Addr} {a_STACK : Addr} {a_TIME : Addr} {a_UNDER_WAY : Addr} {a_PARK : Addr} {a_ALLOC_SAMPLE : Addr} {a_SAMPLE : Addr} {a_WALL_SAMPLE : Addr} {a_METHOD : Addr} {a_VIRTUAL_THREAD : Addr} {a_WALL_INTERVAL : Addr} {cl_BY_CODE : Cell} (hE : own_E Z h0 a_BY_CODE a_BUFFERS a_HOLDABLE_CLASS a_UNPARK a_MONITOR_ENTER a_CPU_TIMER a_CLASS a_ALLOC_INTERVAL a_THREAD a_OPTIONS a_END a_STACK a_TIME a_UNDER_WAY a_PARK a_ALLOC_SAMPLE a_SAMPLE a_WALL_SAMPLE a_METHOD a_VIRTUAL_THREAD a_WALL_INTERVAL cl_BY_CODE) : Exa Z h0 a_MONITOR_ENTER "com/example/tracewell/tracewell/RecordKind" := hE.2.2.2.2.2.2.2.2.2.2.2.2.2.2.2.2.2.2.2.2.2.2.2.2.2.2.2.2.2.2.2.2.2.2.2.2.2.2.2.2.2.2.2.2.2.2.2.1
theorem own_p_E_CPU_TIMER {Z : State} {h0 : Heap} {a_BY_CODE : Addr} {a_BUFFERS : Addr} {a_HOLDABLE_CLASS : Addr} {a_UNPARK : Addr} {a_MONITOR_ENTER : Addr} {a_CPU_TIMER : Addr} {a_CLASS : Addr} {a_ALLOC_INTERVAL : Addr} {a_THREAD : Addr} {a_OPTIONS : Addr} {a_END : Addr} {a_STACK : Addr} {a_TIME : Addr} {a_UNDER_WAY : Addr} {a_PARK : Addr} {a_ALLOC_SAMPLE : Addr} {a_SAMPLE : Addr} {a_WALL_SAMPLE : Addr} {a_METHOD : Addr} {a_VIRTUAL_THREAD : Addr} {a_WALL_INTERVAL : Addr} {cl_BY_CODE : Cell} (hE : own_E Z h0 a_BY_CODE a_BUFFERS a_HOLDABLE_CLASS a_UNPARK a_MONITOR_ENTER a_CPU_TIMER a_CLASS a_ALLOC_INTERVAL a_THREAD a_OPTIONS a_END a_STACK a_TIME a_UNDER_WAY a_PARK a_ALLOC_SAMPLE a_SAMPLE a_WALL_SAMPLE a_METHOD a_VIRTUAL_THREAD a_WALL_INTERVAL cl_BY_CODE) : Exa Z h0 a_CPU_TIMER "com/example/tracewell/tracewell/RecordKind" := hE.2.2.2.2.2.2.2.2.2.2.2.2.2.2.2.2.2.2.2.2.2.2.2.2.2.2.2.2.2.2.2.2.2.2.2.2.2.2.2.2.2.2.2.2.2.2.2.2.1
theorem own_p_E_CLASS {Z : State} {h0 : Heap} {a_BY_CODE : Addr} {a_BUFFERS : Addr} {a_HOLDABLE_CLASS : Addr} {a_UNPARK : Addr} {a_MONITOR_ENTER : Addr} {a_CPU_TIMER : Addr} {a_CLASS : Addr} {a_ALLOC_INTERVAL : Addr} {a_THREAD : Addr} {a_OPTIONS : Addr} {a_END : Addr} {a_STACK : Addr} {a_TIME : Addr} {a_UNDER_WAY : Addr} {a_PARK : Addr} {a_ALLOC_SAMPLE : Addr} {a_SAMPLE : Addr} {a_WALL_SAMPLE : Addr} {a_METHOD : Addr} {a_VIRTUAL_THREAD : Addr} {a_WALL_INTERVAL : Addr} {cl_BY_CODE : Cell} (hE : own_E Z h0 a_BY_CODE a_BUFFERS a_HOLDABLE_CLASS a_UNPARK a_MONITOR_ENTER a_CPU_TIMER a_CLASS a_ALLOC_INTERVAL a_THREAD a_OPTIONS a_END a_STACK a_TIME a_UNDER_WAY a_PARK a_ALLOC_SAMPLE a_SAMPLE a_WALL_SAMPLE a_METHOD a_VIRTUAL_THREAD a_WALL_INTERVAL cl_BY_CODE) : Exa Z h0 a_CLASS "com/example/tracewell/tracewell/RecordKind" := hE.2.2.2.2.2.2.2.2.2.2.2.2.2.2.2.2.2.2.2.2.2.2.2.2.2.2.2.2.2.2.2.2.2.2.2.2.2.2.2.2.2.2.2.2.2.2.2.2.2.1
theorem own_p_E_ALLOC_INTERVAL {Z : State} {h0 : Heap} {a_BY_CODE : Addr} {a_BUFFERS : Addr} {a_HOLDABLE_CLASS : Addr} {a_UNPARK : Addr} {a_MONITOR_ENTER : Addr} {a_CPU_TIMER : Addr} {a_CLASS : Addr} {a_ALLOC_INTERVAL : Addr} {a_THREAD : Addr} {a_OPTIONS : Addr} {a_END : Addr} {a_STACK : Addr} {a_TIME : Addr} {a_UNDER_WAY : Addr} {a_PARK : Addr} {a_ALLOC_SAMPLE : Addr} {a_SAMPLE : Addr} {a_WALL_SAMPLE : Addr} {a_METHOD : Addr} {a_VIRTUAL_THREAD : Addr} {a_WALL_INTERVAL : Addr} {cl_BY_CODE : Cell} (hE : own_E Z h0 a_BY_CODE a_BUFFERS a_HOLDABLE_CLASS a_UNPARK a_MONITOR_ENTER a_CPU_TIMER a_CLASS a_ALLOC_INTERVAL a_THREAD a_OPTIONS a_END a_STACK a_TIME a_UNDER_WAY a_PARK a_ALLOC_SAMPLE a_SAMPLE a_WALL_SAMPLE a_METHOD a_VIRTUAL_THREAD a_WALL_INTERVAL cl_BY_CODE) : Exa Z h0 a_ALLOC_INTERVAL "com/example/tracewell/tracewell/RecordKind" := hE.2.2.2.2.2.2.2.2.2.2.2.2.2.2.2.2.2.2.2.2.2.2.2.2.2.2.2.2.2.2.2.2.2.2.2.2.2.2.2.2.2.2.2.2.2.2.2.2.2.2.1
theorem own_p_E_THREAD {Z : State} {h0 : Heap} {a_BY_CODE : Addr} {a_BUFFERS : Addr} {a_HOLDABLE_CLASS : Addr} {a_UNPARK : Addr} {a_MONITOR_ENTER : Addr} {a_CPU_TIMER : Addr} {a_CLASS : Addr} {a_ALLOC_INTERVAL : Addr} {a_THREAD : Addr} {a_OPTIONS : Addr} {a_END : Addr} {a_STACK : Addr} {a_TIME : Addr} {a_UNDER_WAY : Addr} {a_PARK : Addr} {a_ALLOC_SAMPLE : Addr} {a_SAMPLE : Addr} {a_WALL_SAMPLE : Addr} {a_METHOD : Addr} {a_VIRTUAL_THREAD : Addr} {a_WALL_INTERVAL : Addr} {cl_BY_CODE : Cell} (hE : own_E Z h0 a_BY_CODE a_BUFFERS a_HOLDABLE_CLASS a_UNPARK a_MONITOR_ENTER a_CPU_TIMER a_CLASS a_ALLOC_INTERVAL a_THREAD a_OPTIONS a_END a_STACK a_TIME a_UNDER_WAY a_PARK a_ALLOC_SAMPLE a_SAMPLE a_WALL_SAMPLE a_METHOD a_VIRTUAL_THREAD a_WALL_INTERVAL cl_BY_CODE) : Exa Z h0 a_THREAD "com/example/tracewell/tracewell/RecordKind" := hE.2.2.2.2.2.2.2.2.2.2.2.2.2.2.2.2.2.2.2.2.2.2.2.2.2.2.2.2.2.2.2.2.2.2.2.2.2.2.2.2.2.2.2.2.2.2.2.2.2.2.2.1
theorem own_p_E_OPTIONS {Z : State} {h0 : Heap} {a_BY_CODE : Addr} {a_BUFFERS : Addr} {a_HOLDABLE_CLASS : Addr} {a_UNPARK : Addr} {a_MONITOR_ENTER : Addr} {a_CPU_TIMER : Addr} {a_CLASS : Addr} {a_ALLOC_INTERVAL : Addr} {a_THREAD : Addr} {a_OPTIONS : Addr} {a_END : Addr} {a_STACK : Addr} {a_TIME : Addr} {a_UNDER_WAY : Addr} {a_PARK : Addr} {a_ALLOC_SAMPLE : Addr} {a_SAMPLE : Addr} {a_WALL_SAMPLE : Addr} {a_METHOD : Addr} {a_VIRTUAL_THREAD : Addr} {a_WALL_INTERVAL : Addr} {cl_BY_CODE : Cell} (hE : own_E Z h0 a_BY_CODE a_BUFFERS a_HOLDABLE_CLASS a_UNPARK a_MONITOR_ENTER a_CPU_TIMER a_CLASS a_ALLOC_INTERVAL a_THREAD a_OPTIONS a_END a_STACK a_TIME a_UNDER_WAY a_PARK a_ALLOC_SAMPLE a_SAMPLE a_WALL_SAMPLE a_METHOD a_VIRTUAL_THREAD a_WALL_INTERVAL cl_BY_CODE) : Exa Z h0 a_OPTIONS "com/example/tracewell/tracewell/RecordKind" := hE.2.2.2.2.2.2.2.2.2.2.2.2.2.2.2.2.2.2.2.2.2.2.2.2.2.2.2.2.2.2.2.2.2.2.2.2.2.2.2.2.2.2.2.2.2.2.2.2.2.2.2.2.1
theorem own_p_E_END {Z : State} {h0 : Heap} {a_BY_CODE : Addr} {a_BUFFERS : Addr} {a_HOLDABLE_CLASS : Addr} {a_UNPARK : Addr} {a_MONITOR_ENTER : Addr} {a_CPU_TIMER : Addr} {a_CLASS : Addr} {a_ALLOC_INTERVAL : Addr} {a_THREAD : Addr} {a_OPTIONS : Addr} {a_END : Addr} {a_STACK : Addr} {a_TIME : Addr} {a_UNDER_WAY : Addr} {a_PARK : Addr} {a_ALLOC_SAMPLE : Addr} {a_SAMPLE : Addr} {a_WALL_SAMPLE : Addr} {a_METHOD : Addr} {a_VIRTUAL_THREAD : Addr} {a_WALL_INTERVAL : Addr} {cl_BY_CODE : Cell} (hE : own_E Z h0 a_BY_CODE a_BUFFERS a_HOLDABLE_CLASS a_UNPARK a_MONITOR_ENTER a_CPU_TIMER a_CLASS a_ALLOC_INTERVAL a_THREAD a_OPTIONS a_END a_STACK a_TIME a_UNDER_WAY a_PARK a_ALLOC_SAMPLE a_SAMPLE a_WALL_SAMPLE a_METHOD a_VIRTUAL_THREAD a_WALL_INTERVAL cl_BY_CODE) : Exa Z h0 a_END "com/example/tracewell/tracewell/RecordKind" := hE.2.2.2.2.2.2.2.2.2.2.2.2.2.2.2.2.2.2.2.2.2.2.2.2.2.2.2.2.2.2.2.2.2.2.2.2.2.2.2.2.2.2.2.2.2.2.2.2.2.2.2.2.2.1
theorem own_p_E_STACK {Z : State} {h0 : Heap} {a_BY_CODE : Addr} {a_BUFFERS : Addr} {a_HOLDABLE_CLASS : Addr} {a_UNPARK : Addr} {a_MONITOR_ENTER : Addr} {a_CPU_TIMER : Addr} {a_CLASS : Addr} {a_ALLOC_INTERVAL : Addr} {a_THREAD : Addr} {a_OPTIONS : Addr} {a_END : Addr} {a_STACK : Addr} {a_TIME : Addr} {a_UNDER_WAY : Addr} {a_PARK : Addr} {a_ALLOC_SAMPLE : Addr} {a_SAMPLE : Addr} {a_WALL_SAMPLE : Addr} {a_METHOD : Addr} {a_VIRTUAL_THREAD : Addr} {a_WALL_INTERVAL : Addr} {cl_BY_CODE : Cell} (hE : own_E Z h0 a_BY_CODE a_BUFFERS a_HOLDABLE_CLASS a_UNPARK a_MONITOR_ENTER a_CPU_TIMER a_CLASS a_ALLOC_INTERVAL a_THREAD a_OPTIONS a_END a_STACK a_TIME a_UNDER_WAY a_PARK a_ALLOC_SAMPLE a_SAMPLE a_WALL_SAMPLE a_METHOD a_VIRTUAL_THREAD a_WALL_INTERVAL cl_BY_CODE) : Exa Z h0 a_STACK "com/example/tracewell/tracewell/RecordKind" := hE.2.2.2.2.2.2.2.2.2.2.2.2.2.2.2.2.2.2.2.2.2.2.2.2.2.2.2.2.2.2.2.2.2.2.2.2.2.2.2.2.2.2.2.2.2.2.2.2.2.2.2.2.2.2.1
theorem own_p_E_TIME {Z : State} {h0 : Heap} {a_BY_CODE : Addr} {a_BUFFERS : Addr} {a_HOLDABLE_CLASS : Addr} {a_UNPARK : Addr} {a_MONITOR_ENTER : Addr} {a_CPU_TIMER : Addr} {a_CLASS : Addr} {a_ALLOC_INTERVAL : Addr} {a_THREAD : Addr} {a_OPTIONS : Addr} {a_END : Addr} {a_STACK : Addr} {a_TIME : Addr} {a_UNDER_WAY : Addr} {a_PARK : Addr} {a_ALLOC_SAMPLE : Addr} {a_SAMPLE : Addr} {a_WALL_SAMPLE : Addr} {a_METHOD : Addr} {a_VIRTUAL_THREAD : Addr} {a_WALL_INTERVAL : Addr} {cl_BY_CODE : Cell} (hE : own_E Z h0 a_BY_CODE a_BUFFERS a_HOLDABLE_CLASS a_UNPARK a_MONITOR_ENTER a_CPU_TIMER a_CLASS a_ALLOC_INTERVAL a_THREAD a_OPTIONS a_END a_STACK a_TIME a_UNDER_WAY a_PARK a_ALLOC_SAMPLE a_SAMPLE a_WALL_SAMPLE a_METHOD a_VIRTUAL_THREAD a_WALL_INTERVAL cl_BY_CODE) : Exa Z h0 a_TIME "com/example/tracewell/tracewell/RecordKind" := hE.2.2.2.2.2.2.2.2.2.2.2.2.2.2.2.2.2.2.2.2.2.2.2.2.2.2.2.2.2.2.2.2.2.2.2.2.2.2.2.2.2.2.2.2.2.2.2.2.2.2.2.2.2.2.2.1
theorem own_p_E_UNDER_WAY {Z : State} {h0 : Heap} {a_BY_CODE : Addr} {a_BUFFERS : Addr} {a_HOLDABLE_CLASS : Addr} {a_UNPARK : Addr} {a_MONITOR_ENTER : Addr} {a_CPU_TIMER : Addr} {a_CLASS : Addr} {a_ALLOC_INTERVAL : Addr} {a_THREAD : Addr} {a_OPTIONS : Addr} {a_END : Addr} {a_STACK : Addr} {a_TIME : Addr} {a_UNDER_WAY : Addr} {a_PARK : Addr} {a_ALLOC_SAMPLE : Addr} {a_SAMPLE : Addr} {a_WALL_SAMPLE : Addr} {a_METHOD : Addr} {a_VIRTUAL_THREAD : Addr} {a_WALL_INTERVAL : Addr} {cl_BY_CODE : Cell} (hE : own_E Z h0 a_BY_CODE a_BUFFERS a_HOLDABLE_CLASS a_UNPARK a_MONITOR_ENTER a_CPU_TIMER a_CLASS a_ALLOC_INTERVAL a_THREAD a_OPTIONS a_END a_STACK a_TIME a_UNDER_WAY a_PARK a_ALLOC_SAMPLE a_SAMPLE a_WALL_SAMPLE a_METHOD a_VIRTUAL_THREAD a_WALL_INTERVAL cl_BY_CODE) : Exa Z h0 a_UNDER_WAY "com/example/tracewell/tracewell/RecordKind" := hE.2.2.2.2.2.2.2.2.2.2.2.2.2.2.2.2.2.2.2.2.2.2.2.2.2.2.2.2.2.2.2.2.2.2.2.2.2.2.2.2.2.2.2.2.2.2.2.2.2.2.2.2.2.2.2.2.1
theorem own_p_E_PARK {Z : State} {h0 : Heap} {a_BY_CODE : Addr} {a_BUFFERS : Addr} {a_HOLDABLE_CLASS : Addr} {a_UNPARK : Addr} {a_MONITOR_ENTER : Addr} {a_CPU_TIMER : Addr} {a_CLASS : Addr} {a_ALLOC_INTERVAL : Addr} {a_THREAD : Addr} {a_OPTIONS : Addr} {a_END : Addr} {a_STACK : Addr} {a_TIME : Addr} {a_UNDER_WAY : Addr} {a_PARK : Addr} {a_ALLOC_SAMPLE : Addr} {a_SAMPLE : Addr} {a_WALL_SAMPLE : Addr} {a_METHOD : Addr} {a_VIRTUAL_THREAD : Addr} {a_WALL_INTERVAL : Addr} {cl_BY_CODE : Cell} (hE : own_E Z h0 a_BY_CODE a_BUFFERS a_HOLDABLE_CLASS a_UNPARK a_MONITOR_ENTER a_CPU_TIMER a_CLASS a_ALLOC_INTERVAL a_THREAD a_OPTIONS a_END a_STACK a_TIME a_UNDER_WAY a_PARK a_ALLOC_SAMPLE a_SAMPLE a_WALL_SAMPLE a_METHOD a_VIRTUAL_THREAD a_WALL_INTERVAL cl_BY_CODE) : Exa Z h0 a_PARK "com/example/tracewell/tracewell/RecordKind" := hE.2.2.2.2.2.2.2.2.2.2.2.2.2.2.2.2.2.2.2.2.2.2.2.2.2.2.2.2.2.2.2.2.2.2.2.2.2.2.2.2.2.2.2.2.2.2.2.2.2.2.2.2.2.2.2.2.2.1
theorem own_p_E_ALLOC_SAMPLE {Z : State} {h0 : Heap} {a_BY_CODE : Addr} {a_BUFFERS : Addr} {a_HOLDABLE_CLASS : Addr} {a_UNPARK : Addr} {a_MONITOR_ENTER : Addr} {a_CPU_TIMER : Addr} {a_CLASS : Addr} {a_ALLOC_INTERVAL : Addr} {a_THREAD : Addr} {a_OPTIONS : Addr} {a_END : Addr} {a_STACK : Addr} {a_TIME : Addr} {a_UNDER_WAY : Addr} {a_PARK : Addr} {a_ALLOC_SAMPLE : Addr} {a_SAMPLE : Addr} {a_WALL_SAMPLE : Addr} {a_METHOD : Addr} {a_VIRTUAL_THREAD : Addr} {a_WALL_INTERVAL : Addr} {cl_BY_CODE : Cell} (hE : own_E Z h0 a_BY_CODE a_BUFFERS a_HOLDABLE_CLASS a_UNPARK a_MONITOR_ENTER a_CPU_TIMER a_CLASS a_ALLOC_INTERVAL a_THREAD a_OPTIONS a_END a_STACK a_TIME a_UNDER_WAY a_PARK a_ALLOC_SAMPLE a_SAMPLE a_WALL_SAMPLE a_METHOD a_VIRTUAL_THREAD a_WALL_INTERVAL cl_BY_CODE) : Exa Z h0 a_ALLOC_SAMPLE "com/example/tracewell/tracewell/RecordKind" := hE.2.2.2.2.2.2.2.2.2.2.2.2.2.2.2.2.2.2.2.2.2.2.2.2.2.2.2.2.2.2.2.2.2.2.2.2.2.2.2.2.2.2.2.2.2.2.2.2.2.2.2.2.2.2.2.2.2.2.1
theorem own_p_E_SAMPLE {Z : State} {h0 : Heap} {a_BY_CODE : Addr} {a_BUFFERS : Addr} {a_HOLDABLE_CLASS : Addr} {a_UNPARK : Addr} {a_MONITOR_ENTER : Addr} {a_CPU_TIMER : Addr} {a_CLASS : Addr} {a_ALLOC_INTERVAL : Addr} {a_THREAD : Addr} {a_OPTIONS : Addr} {a_END : Addr} {a_STACK : Addr} {a_TIME : Addr} {a_UNDER_WAY : Addr} {a_PARK : Addr} {a_ALLOC_SAMPLE : Addr} {a_SAMPLE : Addr} {a_WALL_SAMPLE : Addr} {a_METHOD : Addr} {a_VIRTUAL_THREAD : Addr} {a_WALL_INTERVAL : Addr} {cl_BY_CODE : Cell} (hE : own_E Z h0 a_BY_CODE a_BUFFERS a_HOLDABLE_CLASS a_UNPARK a_MONITOR_ENTER a_CPU_TIMER a_CLASS a_ALLOC_INTERVAL a_THREAD a_OPTIONS a_END a_STACK a_TIME a_UNDER_WAY a_PARK a_ALLOC_SAMPLE a_SAMPLE a_WALL_SAMPLE a_METHOD a_VIRTUAL_THREAD a_WALL_INTERVAL cl_BY_CODE) : Exa Z h0 a_SAMPLE "com/example/tracewell/tracewell/RecordKind" := hE.2.2.2.2.2.2.2.2.2.2.2.2.2.2.2.2.2.2.2.2.2.2.2.2.2.2.2.2.2.2.2.2.2.2.2.2.2.2.2.2.2.2.2.2.2.2.2.2.2.2.2.2.2.2.2.2.2.2.2.1
theorem own_p_E_WALL_SAMPLE {Z : State} {h0 : Heap} {a_BY_CODE : Addr} {a_BUFFERS : Addr} {a_HOLDABLE_CLASS : Addr} {a_UNPARK : Addr} {a_MONITOR_ENTER : Addr} {a_CPU_TIMER : Addr} {a_CLASS : Addr} {a_ALLOC_INTERVAL : Addr} {a_THREAD : Addr} {a_OPTIONS : Addr} {a_END : Addr} {a_STACK : Addr} {a_TIME : Addr} {a_UNDER_WAY : Addr} {a_PARK : Addr} {a_ALLOC_SAMPLE : Addr} {a_SAMPLE : Addr} {a_WALL_SAMPLE : Addr} {a_METHOD : Addr} {a_VIRTUAL_THREAD : Addr} {a_WALL_INTERVAL : Addr} {cl_BY_CODE : Cell} (hE : own_E Z h0 a_BY_CODE a_BUFFERS a_HOLDABLE_CLASS a_UNPARK a_MONITOR_ENTER a_CPU_TIMER a_CLASS a_ALLOC_INTERVAL a_THREAD a_OPTIONS a_END a_STACK a_TIME a_UNDER_WAY a_PARK a_ALLOC_SAMPLE a_SAMPLE a_WALL_SAMPLE a_METHOD a_VIRTUAL_THREAD a_WALL_INTERVAL cl_BY_CODE) : Exa Z h0 a_WALL_SAMPLE "com/example/tracewell/tracewell/RecordKind" := hE.2.2.2.2.2.2.2.2.2.2.2.2.2.2.2.2.2.2.2.2.2.2.2.2.2.2.2.2.2.2.2.2.2.2.2.2.2.2.2.2.2.2.2.2.2.2.2.2.2.2.2.2.2.2.2.2.2.2.2.2.1
theorem own_p_E_METHOD {Z : State} {h0 : Heap} {a_BY_CODE : Addr} {a_BUFFERS : Addr} {a_HOLDABLE_CLASS : Addr} {a_UNPARK : Addr} {a_MONITOR_ENTER : Addr} {a_CPU_TIMER : Addr} {a_CLASS : Addr} {a_ALLOC_INTERVAL : Addr} {a_THREAD : Addr} {a_OPTIONS : Addr} {a_END : Addr} {a_STACK : Addr} {a_TIME : Addr} {a_UNDER_WAY : Addr} {a_PARK : Addr} {a_ALLOC_SAMPLE : Addr} {a_SAMPLE : Addr} {a_WALL_SAMPLE : Addr} {a_METHOD : Addr} {a_VIRTUAL_THREAD : Addr} {a_WALL_INTERVAL : Addr} {cl_BY_CODE : Cell} (hE : own_E Z h0 a_BY_CODE a_BUFFERS a_HOLDABLE_CLASS a_UNPARK a_MONITOR_ENTER a_CPU_TIMER a_CLASS a_ALLOC_INTERVAL a_THREAD a_OPTIONS a_END a_STACK a_TIME a_UNDER_WAY a_PARK a_ALLOC_SAMPLE a_SAMPLE a_WALL_SAMPLE a_METHOD a_VIRTUAL_THREAD a_WALL_INTERVAL cl_BY_CODE) : Exa Z h0 a_METHOD "com/example/tracewell/tracewell/RecordKind" := hE.2.2.2.2.2.2.2.2.2.2.2.2.2.2.2.2.2.2.2.2.2.2.2.2.2.2.2.2.2.2.2.2.2.2.2.2.2.2.2.2.2.2.2.2.2.2.2.2.2.2.2.2.2.2.2.2.2.2.2.2.2.1
theorem own_p_E_VIRTUAL_THREAD {Z : State} {h0 : Heap} {a_BY_CODE : Addr} {a_BUFFERS : Addr} {a_HOLDABLE_CLASS : Addr} {a_UNPARK : Addr} {a_MONITOR_ENTER : Addr} {a_CPU_TIMER : Addr} {a_CLASS : Addr} {a_ALLOC_INTERVAL : Addr} {a_THREAD : Addr} {a_OPTIONS : Addr} {a_END : Addr} {a_STACK : Addr} {a_TIME : Addr} {a_UNDER_WAY : Addr} {a_PARK : Addr} {a_ALLOC_SAMPLE : Addr} {a_SAMPLE : Addr} {a_WALL_SAMPLE : Addr} {a_METHOD : Addr} {a_VIRTUAL_THREAD : Addr} {a_WALL_INTERVAL : Addr} {cl_BY_CODE : Cell} (hE : own_E Z h0 a_BY_CODE a_BUFFERS a_HOLDABLE_CLASS a_UNPARK a_MONITOR_ENTER a_CPU_TIMER a_CLASS a_ALLOC_INTERVAL a_THREAD a_OPTIONS a_END a_STACK a_TIME a_UNDER_WAY a_PARK a_ALLOC_SAMPLE a_SAMPLE a_WALL_SAMPLE a_METHOD a_VIRTUAL_THREAD a_WALL_INTERVAL cl_BY_CODE) : Exa Z h0 a_VIRTUAL_THREAD "com/example/tracewell/tracewell/RecordKind" := hE.2.2.2.2.2.2.2.2.2.2.2.2.2.2.2.2.2.2.2.2.2.2.2.2.2.2.2.2.2.2.2.2.2.2.2.2.2.2.2.2.2.2.2.2.2.2.2.2.2.2.2.2.2.2.2.2.2.2.2.2.2.2.1
theorem own_p_E_WALL_INTERVAL {Z : State} {h0 : Heap} {a_BY_CODE : Addr} {a_BUFFERS : Addr} {a_HOLDABLE_CLASS : Addr} {a_UNPARK : Addr} {a_MONITOR_ENTER : Addr} {a_CPU_TIMER : Addr} {a_CLASS : Addr} {a_ALLOC_INTERVAL : Addr} {a_THREAD : Addr} {a_OPTIONS : Addr} {a_END : Addr} {a_STACK : Addr} {a_TIME : Addr} {a_UNDER_WAY : Addr} {a_PARK : Addr} {a_ALLOC_SAMPLE : Addr} {a_SAMPLE : Addr} {a_WALL_SAMPLE : Addr} {a_METHOD : Addr} {a_VIRTUAL_THREAD : Addr} {a_WALL_INTERVAL : Addr} {cl_BY_CODE : Cell} (hE : own_E Z h0 a_BY_CODE a_BUFFERS a_HOLDABLE_CLASS a_UNPARK a_MONITOR_ENTER a_CPU_TIMER a_CLASS a_ALLOC_INTERVAL a_THREAD a_OPTIONS a_END a_STACK a_TIME a_UNDER_WAY a_PARK a_ALLOC_SAMPLE a_SAMPLE a_WALL_SAMPLE a_METHOD a_VIRTUAL_THREAD a_WALL_INTERVAL cl_BY_CODE) : Exa Z h0 a_WALL_INTERVAL "com/example/tracewell/tracewell/RecordKind" := hE.2.2.2.2.2.2.2.2.2.2.2.2.2.2.2.2.2.2.2.2.2.2.2.2.2.2.2.2.2.2.2.2.2.2.2.2.2.2.2.2.2.2.2.2.2.2.2.2.2.2.2.2.2.2.2.2.2.2.2.2.2.2.2.1
theorem own_p_F_BUFFERS_code {Z : State} {h0 : Heap} {a_BY_CODE : Addr} {a_BUFFERS : Addr} {a_HOLDABLE_CLASS : Addr} {a_UNPARK : Addr} {a_MONITOR_ENTER : Addr} {a_CPU_TIMER : Addr} {a_CLASS : Addr} {a_ALLOC_INTERVAL : Addr} {a_THREAD : Addr} {a_OPTIONS : Addr} {a_END : Addr} {a_STACK : Addr} {a_TIME : Addr} {a_UNDER_WAY : Addr} {a_PARK : Addr} {a_ALLOC_SAMPLE : Addr} {a_SAMPLE : Addr} {a_WALL_SAMPLE : Addr} {a_METHOD : Addr} {a_VIRTUAL_THREAD : Addr} {a_WALL_INTERVAL : Addr} {cl_BY_CODE : Cell} (hE : own_E Z h0 a_BY_CODE a_BUFFERS a_HOLDABLE_CLASS a_UNPARK a_MONITOR_ENTER a_CPU_TIMER a_CLASS a_ALLOC_INTERVAL a_THREAD a_OPTIONS a_END a_STACK a_TIME a_UNDER_WAY a_PARK a_ALLOC_SAMPLE a_SAMPLE a_WALL_SAMPLE a_METHOD a_VIRTUAL_THREAD a_WALL_INTERVAL cl_BY_CODE) : Fld Z h0 a_BUFFERS "com/example/tracewell/tracewell/RecordKind" "code" "I" (.int (14 : Int32)) := hE.2.2.2.2.2.2.2.2.2.2.2.2.2.2.2.2.2.2.2.2.2.2.2.2.2.2.2.2.2.2.2.2.2.2.2.2.2.2.2.2.2.2.2.2.2.2.2.2.2.2.2.2.2.2.2.2.2.2.2.2.2.2.2.2.1
theorem own_p_F_HOLDABLE_CLASS_code {Z : State} {h0 : Heap} {a_BY_CODE : Addr} {a_BUFFERS : Addr} {a_HOLDABLE_CLASS : Addr} {a_UNPARK : Addr} {a_MONITOR_ENTER : Addr} {a_CPU_TIMER : Addr} {a_CLASS : Addr} {a_ALLOC_INTERVAL : Addr} {a_THREAD : Addr} {a_OPTIONS : Addr} {a_END : Addr} {a_STACK : Addr} {a_TIME : Addr} {a_UNDER_WAY : Addr} {a_PARK : Addr} {a_ALLOC_SAMPLE : Addr} {a_SAMPLE : Addr} {a_WALL_SAMPLE : Addr} {a_METHOD : Addr} {a_VIRTUAL_THREAD : Addr} {a_WALL_INTERVAL : Addr} {cl_BY_CODE : Cell} (hE : own_E Z h0 a_BY_CODE a_BUFFERS a_HOLDABLE_CLASS a_UNPARK a_MONITOR_ENTER a_CPU_TIMER a_CLASS a_ALLOC_INTERVAL a_THREAD a_OPTIONS a_END a_STACK a_TIME a_UNDER_WAY a_PARK a_ALLOC_SAMPLE a_SAMPLE a_WALL_SAMPLE a_METHOD a_VIRTUAL_THREAD a_WALL_INTERVAL cl_BY_CODE) : Fld Z h0 a_HOLDABLE_CLASS "com/example/tracewell/tracewell/RecordKind" "code" "I" (.int (15 : Int32)) := hE.2.2.2.2.2.2.2.2.2.2.2.2.2.2.2.2.2.2.2.2.2.2.2.2.2.2.2.2.2.2.2.2.2.2.2.2.2.2.2.2.2.2.2.2.2.2.2.2.2.2.2.2.2.2.2.2.2.2.2.2.2.2.2.2.2.1
theorem own_p_F_UNPARK_code {Z : State} {h0 : Heap} {a_BY_CODE : Addr} {a_BUFFERS : Addr} {a_HOLDABLE_CLASS : Addr} {a_UNPARK : Addr} {a_MONITOR_ENTER : Addr} {a_CPU_TIMER : Addr} {a_CLASS : Addr} {a_ALLOC_INTERVAL : Addr} {a_THREAD : Addr} {a_OPTIONS : Addr} {a_END : Addr} {a_STACK : Addr} {a_TIME : Addr} {a_UNDER_WAY : Addr} {a_PARK : Addr} {a_ALLOC_SAMPLE : Addr} {a_SAMPLE : Addr} {a_WALL_SAMPLE : Addr} {a_METHOD : Addr} {a_VIRTUAL_THREAD : Addr} {a_WALL_INTERVAL : Addr} {cl_BY_CODE : Cell} (hE : own_E Z h0 a_BY_CODE a_BUFFERS a_HOLDABLE_CLASS a_UNPARK a_MONITOR_ENTER a_CPU_TIMER a_CLASS a_ALLOC_INTERVAL a_THREAD a_OPTIONS a_END a_STACK a_TIME a_UNDER_WAY a_PARK a_ALLOC_SAMPLE a_SAMPLE a_WALL_SAMPLE a_METHOD a_VIRTUAL_THREAD a_WALL_INTERVAL cl_BY_CODE) : Fld Z h0 a_UNPARK "com/example/tracewell/tracewell/RecordKind" "code" "I" (.int (8 : Int32)) := hE.2.2.2.2.2.2.2.2.2.2.2.2.2.2.2.2.2.2.2.2.2.2.2.2.2.2.2.2.2.2.2.2.2.2.2.2.2.2.2.2.2.2.2.2.2.2.2.2.2.2.2.2.2.2.2.2.2.2.2.2.2.2.2.2.2.2.1
theorem own_p_F_MONITOR_ENTER_code {Z : State} {h0 : Heap} {a_BY_CODE : Addr} {a_BUFFERS : Addr} {a_HOLDABLE_CLASS : Addr} {a_UNPARK : Addr} {a_MONITOR_ENTER : Addr} {a_CPU_TIMER : Addr} {a_CLASS : Addr} {a_ALLOC_INTERVAL : Addr} {a_THREAD : Addr} {a_OPTIONS : Addr} {a_END : Addr} {a_STACK : Addr} {a_TIME : Addr} {a_UNDER_WAY : Addr} {a_PARK : Addr} {a_ALLOC_SAMPLE : Addr} {a_SAMPLE : Addr} {a_WALL_SAMPLE : Addr} {a_METHOD : Addr} {a_VIRTUAL_THREAD : Addr} {a_WALL_INTERVAL : Addr} {cl_BY_CODE : Cell} (hE : own_E Z h0 a_BY_CODE a_BUFFERS a_HOLDABLE_CLASS a_UNPARK a_MONITOR_ENTER a_CPU_TIMER a_CLASS a_ALLOC_INTERVAL a_THREAD a_OPTIONS a_END a_STACK a_TIME a_UNDER_WAY a_PARK a_ALLOC_SAMPLE a_SAMPLE a_WALL_SAMPLE a_METHOD a_VIRTUAL_THREAD a_WALL_INTERVAL cl_BY_CODE) : Fld Z h0 a_MONITOR_ENTER "com/example/tracewell/tracewell/RecordKind" "code" "I" (.int (6 : Int32)) := hE.2.2.2.2.2.2.2.2.2.2.2.2.2.2.2.2.2.2.2.2.2.2.2.2.2.2.2.2.2.2.2.2.2.2.2.2.2.2.2.2.2.2.2.2.2.2.2.2.2.2.2.2.2.2.2.2.2.2.2.2.2.2.2.2.2.2.2.1
theorem own_p_F_CPU_TIMER_code {Z : State} {h0 : Heap} {a_BY_CODE : Addr} {a_BUFFERS : Addr} {a_HOLDABLE_CLASS : Addr} {a_UNPARK : Addr} {a_MONITOR_ENTER : Addr} {a_CPU_TIMER : Addr} {a_CLASS : Addr} {a_ALLOC_INTERVAL : Addr} {a_THREAD : Addr} {a_OPTIONS : Addr} {a_END : Addr} {a_STACK : Addr} {a_TIME : Addr} {a_UNDER_WAY : Addr} {a_PARK : Addr} {a_ALLOC_SAMPLE : Addr} {a_SAMPLE : Addr} {a_WALL_SAMPLE : Addr} {a_METHOD : Addr} {a_VIRTUAL_THREAD : Addr} {a_WALL_INTERVAL : Addr} {cl_BY_CODE : Cell} (hE : own_E Z h0 a_BY_CODE a_BUFFERS a_HOLDABLE_CLASS a_UNPARK a_MONITOR_ENTER a_CPU_TIMER a_CLASS a_ALLOC_INTERVAL a_THREAD a_OPTIONS a_END a_STACK a_TIME a_UNDER_WAY a_PARK a_ALLOC_SAMPLE a_SAMPLE a_WALL_SAMPLE a_METHOD a_VIRTUAL_THREAD a_WALL_INTERVAL cl_BY_CODE) : Fld Z h0 a_CPU_TIMER "com/example/tracewell/tracewell/RecordKind" "code" "I" (.int (12 : Int32)) := hE.2.2.2.2.2.2.2.2.2.2.2.2.2.2.2.2.2.2.2.2.2.2.2.2.2.2.2.2.2.2.2.2.2.2.2.2.2.2.2.2.2.2.2.2.2.2.2.2.2.2.2.2.2.2.2.2.2.2.2.2.2.2.2.2.2.2.2.2.1
theorem own_p_F_CLASS_code {Z : State} {h0 : Heap} {a_BY_CODE : Addr} {a_BUFFERS : Addr} {a_HOLDABLE_CLASS : Addr} {a_UNPARK : Addr} {a_MONITOR_ENTER : Addr} {a_CPU_TIMER : Addr} {a_CLASS : Addr} {a_ALLOC_INTERVAL : Addr} {a_THREAD : Addr} {a_OPTIONS : Addr} {a_END : Addr} {a_STACK : Addr} {a_TIME : Addr} {a_UNDER_WAY : Addr} {a_PARK : Addr} {a_ALLOC_SAMPLE : Addr} {a_SAMPLE : Addr} {a_WALL_SAMPLE : Addr} {a_METHOD : Addr} {a_VIRTUAL_THREAD : Addr} {a_WALL_INTERVAL : Addr} {cl_BY_CODE : Cell} (hE : own_E Z h0 a_BY_CODE a_BUFFERS a_HOLDABLE_CLASS a_UNPARK a_MONITOR_ENTER a_CPU_TIMER a_CLASS a_ALLOC_INTERVAL a_THREAD a_OPTIONS a_END a_STACK a_TIME a_UNDER_WAY a_PARK a_ALLOC_SAMPLE a_SAMPLE a_WALL_SAMPLE a_METHOD a_VIRTUAL_THREAD a_WALL_INTERVAL cl_BY_CODE) : Fld Z h0 a_CLASS "com/example/tracewell/tracewell/RecordKind" "code" "I" (.int (3 : Int32)) := hE.2.2.2.2.2.2.2.2.2.2.2.2.2.2.2.2.2.2.2.2.2.2.2.2.2.2.2.2.2.2.2.2.2.2.2.2.2.2.2.2.2.2.2.2.2.2.2.2.2.2.2.2.2.2.2.2.2.2.2.2.2.2.2.2.2.2.2.2.2.1
theorem own_p_F_ALLOC_INTERVAL_code {Z : State} {h0 : Heap} {a_BY_CODE : Addr} {a_BUFFERS : Addr} {a_HOLDABLE_CLASS : Addr} {a_UNPARK : Addr} {a_MONITOR_ENTER : Addr} {a_CPU_TIMER : Addr} {a_CLASS : Addr} {a_ALLOC_INTERVAL : Addr} {a_THREAD : Addr} {a_OPTIONS : Addr} {a_END : Addr} {a_STACK : Addr} {a_TIME : Addr} {a_UNDER_WAY : Addr} {a_PARK : Addr} {a_ALLOC_SAMPLE : Addr} {a_SAMPLE : Addr} {a_WALL_SAMPLE : Addr} {a_METHOD : Addr} {a_VIRTUAL_THREAD : Addr} {a_WALL_INTERVAL : Addr} {cl_BY_CODE : Cell} (hE : own_E Z h0 a_BY_CODE a_BUFFERS a_HOLDABLE_CLASS a_UNPARK a_MONITOR_ENTER a_CPU_TIMER a_CLASS a_ALLOC_INTERVAL a_THREAD a_OPTIONS a_END a_STACK a_TIME a_UNDER_WAY a_PARK a_ALLOC_SAMPLE a_SAMPLE a_WALL_SAMPLE a_METHOD a_VIRTUAL_THREAD a_WALL_INTERVAL cl_BY_CODE) : Fld Z h0 a_ALLOC_INTERVAL "com/example/tracewell/tracewell/RecordKind" "code" "I" (.int (18 : Int32)) := hE.2.2.2.2.2.2.2.2.2.2.2.2.2.2.2.2.2.2.2.2.2.2.2.2.2.2.2.2.2.2.2.2.2.2.2.2.2.2.2.2.2.2.2.2.2.2.2.2.2.2.2.2.2.2.2.2.2.2.2.2.2.2.2.2.2.2.2.2.2.2.1
theorem own_p_F_THREAD_code {Z : State} {h0 : Heap} {a_BY_CODE : Addr} {a_BUFFERS : Addr} {a_HOLDABLE_CLASS : Addr} {a_UNPARK : Addr} {a_MONITOR_ENTER : Addr} {a_CPU_TIMER : Addr} {a_CLASS : Addr} {a_ALLOC_INTERVAL : Addr} {a_THREAD : Addr} {a_OPTIONS : Addr} {a_END : Addr} {a_STACK : Addr} {a_TIME : Addr} {a_UNDER_WAY : Addr} {a_PARK : Addr} {a_ALLOC_SAMPLE : Addr} {a_SAMPLE : Addr} {a_WALL_SAMPLE : Addr} {a_METHOD : Addr} {a_VIRTUAL_THREAD : Addr} {a_WALL_INTERVAL : Addr} {cl_BY_CODE : Cell} (hE : own_E Z h0 a_BY_CODE a_BUFFERS a_HOLDABLE_CLASS a_UNPARK a_MONITOR_ENTER a_CPU_TIMER a_CLASS a_ALLOC_INTERVAL a_THREAD a_OPTIONS a_END a_STACK a_TIME a_UNDER_WAY a_PARK a_ALLOC_SAMPLE a_SAMPLE a_WALL_SAMPLE a_METHOD a_VIRTUAL_THREAD a_WALL_INTERVAL cl_BY_CODE) : Fld Z h0 a_THREAD "com/example/tracewell/tracewell/RecordKind" "code" "I" (.int (1 : Int32)) := hE.2.2.2.2.2.2.2.2.2.2.2.2.2.2.2.2.2.2.2.2.2.2.2.2.2.2.2.2.2.2.2.2.2.2.2.2.2.2.2.2.2.2.2.2.2.2.2.2.2.2.2.2.2.2.2.2.2.2.2.2.2.2.2.2.2.2.2.2.2.2.2.1
theorem own_p_F_OPTIONS_code {Z : State} {h0 : Heap} {a_BY_CODE : Addr} {a_BUFFERS : Addr} {a_HOLDABLE_CLASS : Addr} {a_UNPARK : Addr} {a_MONITOR_ENTER : Addr} {a_CPU_TIMER : Addr} {a_CLASS : Addr} {a_ALLOC_INTERVAL : Addr} {a_THREAD : Addr} {a_OPTIONS : Addr} {a_END : Addr} {a_STACK : Addr} {a_TIME : Addr} {a_UNDER_WAY : Addr} {a_PARK : Addr} {a_ALLOC_SAMPLE : Addr} {a_SAMPLE : Addr} {a_WALL_SAMPLE : Addr} {a_METHOD : Addr} {a_VIRTUAL_THREAD : Addr} {a_WALL_INTERVAL : Addr} {cl_BY_CODE : Cell} (hE : own_E Z h0 a_BY_CODE a_BUFFERS a_HOLDABLE_CLASS a_UNPARK a_MONITOR_ENTER a_CPU_TIMER a_CLASS a_ALLOC_INTERVAL a_THREAD a_OPTIONS a_END a_STACK a_TIME a_UNDER_WAY a_PARK a_ALLOC_SAMPLE a_SAMPLE a_WALL_SAMPLE a_METHOD a_VIRTUAL_THREAD a_WALL_INTERVAL cl_BY_CODE) : Fld Z h0 a_OPTIONS "com/example/tracewell/tracewell/RecordKind" "code" "I" (.int (20 : Int32)) := hE.2.2.2.2.2.2.2.2.2.2.2.2.2.2.2.2.2.2.2.2.2.2.2.2.2.2.2.2.2.2.2.2.2.2.2.2.2.2.2.2.2.2.2.2.2.2.2.2.2.2.2.2.2.2.2.2.2.2.2.2.2.2.2.2.2.2.2.2.2.2.2.2.1
theorem own_p_F_END_code {Z : State} {h0 : Heap} {a_BY_CODE : Addr} {a_BUFFERS : Addr} {a_HOLDABLE_CLASS : Addr} {a_UNPARK : Addr} {a_MONITOR_ENTER : Addr} {a_CPU_TIMER : Addr} {a_CLASS : Addr} {a_ALLOC_INTERVAL : Addr} {a_THREAD : Addr} {a_OPTIONS : Addr} {a_END : Addr} {a_STACK : Addr} {a_TIME : Addr} {a_UNDER_WAY : Addr} {a_PARK : Addr} {a_ALLOC_SAMPLE : Addr} {a_SAMPLE : Addr} {a_WALL_SAMPLE : Addr} {a_METHOD : Addr} {a_VIRTUAL_THREAD : Addr} {a_WALL_INTERVAL : Addr} {cl_BY_CODE : Cell} (hE : own_E Z h0 a_BY_CODE a_BUFFERS a_HOLDABLE_CLASS a_UNPARK a_MONITOR_ENTER a_CPU_TIMER a_CLASS a_ALLOC_INTERVAL a_THREAD a_OPTIONS a_END a_STACK a_TIME a_UNDER_WAY a_PARK a_ALLOC_SAMPLE a_SAMPLE a_WALL_SAMPLE a_METHOD a_VIRTUAL_THREAD a_WALL_INTERVAL cl_BY_CODE) : Fld Z h0 a_END "com/example/tracewell/tracewell/RecordKind" "code" "I" (.int (2 : Int32)) := hE.2.2.2.2.2.2.2.2.2.2.2.2.2.2.2.2.2.2.2.2.2.2.2.2.2.2.2.2.2.2.2.2.2.2.2.2.2.2.2.2.2.2.2.2.2.2.2.2.2.2.2.2.2.2.2.2.2.2.2.2.2.2.2.2.2.2.2.2.2.2.2.2.2.1
theorem own_p_F_STACK_code {Z : State} {h0 : Heap} {a_BY_CODE : Addr} {a_BUFFERS : Addr} {a_HOLDABLE_CLASS : Addr} {a_UNPARK : Addr} {a_MONITOR_ENTER : Addr} {a_CPU_TIMER : Addr} {a_CLASS : Addr} {a_ALLOC_INTERVAL : Addr} {a_THREAD : Addr} {a_OPTIONS : Addr} {a_END : Addr} {a_STACK : Addr} {a_TIME : Addr} {a_UNDER_WAY : Addr} {a_PARK : Addr} {a_ALLOC_SAMPLE : Addr} {a_SAMPLE : Addr} {a_WALL_SAMPLE : Addr} {a_METHOD : Addr} {a_VIRTUAL_THREAD : Addr} {a_WALL_INTERVAL : Addr} {cl_BY_CODE : Cell} (hE : own_E Z h0 a_BY_CODE a_BUFFERS a_HOLDABLE_CLASS a_UNPARK a_MONITOR_ENTER a_CPU_TIMER a_CLASS a_ALLOC_INTERVAL a_THREAD a_OPTIONS a_END a_STACK a_TIME a_UNDER_WAY a_PARK a_ALLOC_SAMPLE a_SAMPLE a_WALL_SAMPLE a_METHOD a_VIRTUAL_THREAD a_WALL_INTERVAL cl_BY_CODE) : Fld Z h0 a_STACK "com/example/tracewell/tracewell/RecordKind" "code" "I" (.int (5 : Int32)) := hE.2.2.2.2.2.2.2.2.2.2.2.2.2.2.2.2.2.2.2.2.2.2.2.2.2.2.2.2.2.2.2.2.2.2.2.2.2.2.2.2.2.2.2.2.2.2.2.2.2.2.2.2.2.2.2.2.2.2.2.2.2.2.2.2.2.2.2.2.2.2.2.2.2.2.1
theorem own_p_F_TIME_code {Z : State} {h0 : Heap} {a_BY_CODE : Addr} {a_BUFFERS : Addr} {a_HOLDABLE_CLASS : Addr} {a_UNPARK : Addr} {a_MONITOR_ENTER : Addr} {a_CPU_TIMER : Addr} {a_CLASS : Addr} {a_ALLOC_INTERVAL : Addr} {a_THREAD : Addr} {a_OPTIONS : Addr} {a_END : Addr} {a_STACK : Addr} {a_TIME : Addr} {a_UNDER_WAY : Addr} {a_PARK : Addr} {a_ALLOC_SAMPLE : Addr} {a_SAMPLE : Addr} {a_WALL_SAMPLE : Addr} {a_METHOD : Addr} {a_VIRTUAL_THREAD : Addr} {a_WALL_INTERVAL : Addr} {cl_BY_CODE : Cell} (hE : own_E Z h0 a_BY_CODE a_BUFFERS a_HOLDABLE_CLASS a_UNPARK a_MONITOR_ENTER a_CPU_TIMER a_CLASS a_ALLOC_INTERVAL a_THREAD a_OPTIONS a_END a_STACK a_TIME a_UNDER_WAY a_PARK a_ALLOC_SAMPLE a_SAMPLE a_WALL_SAMPLE a_METHOD a_VIRTUAL_THREAD a_WALL_INTERVAL cl_BY_CODE) : Fld Z h0 a_TIME "com/example/tracewell/tracewell/RecordKind" "code" "I" (.int (11 : Int32)) := hE.2.2.2.2.2.2.2.2.2.2.2.2.2.2.2.2.2.2.2.2.2.2.2.2.2.2.2.2.2.2.2.2.2.2.2.2.2.2.2.2.2.2.2.2.2.2.2.2.2.2.2.2.2.2.2.2.2.2.2.2.2.2.2.2.2.2.2.2.2.2.2.2.2.2.2.1
theorem own_p_F_UNDER_WAY_code {Z : State} {h0 : Heap} {a_BY_CODE : Addr} {a_BUFFERS : Addr} {a_HOLDABLE_CLASS : Addr} {a_UNPARK : Addr} {a_MONITOR_ENTER : Addr} {a_CPU_TIMER : Addr} {a_CLASS : Addr} {a_ALLOC_INTERVAL : Addr} {a_THREAD : Addr} {a_OPTIONS : Addr} {a_END : Addr} {a_STACK : Addr} {a_TIME : Addr} {a_UNDER_WAY : Addr} {a_PARK : Addr} {a_ALLOC_SAMPLE : Addr} {a_SAMPLE : Addr} {a_WALL_SAMPLE : Addr} {a_METHOD : Addr} {a_VIRTUAL_THREAD : Addr} {a_WALL_INTERVAL : Addr} {cl_BY_CODE : Cell} (hE : own_E Z h0 a_BY_CODE a_BUFFERS a_HOLDABLE_CLASS a_UNPARK a_MONITOR_ENTER a_CPU_TIMER a_CLASS a_ALLOC_INTERVAL a_THREAD a_OPTIONS a_END a_STACK a_TIME a_UNDER_WAY a_PARK a_ALLOC_SAMPLE a_SAMPLE a_WALL_SAMPLE a_METHOD a_VIRTUAL_THREAD a_WALL_INTERVAL cl_BY_CODE) : Fld Z h0 a_UNDER_WAY "com/example/tracewell/tracewell/RecordKind" "code" "I" (.int (10 : Int32)) := hE.2.2.2.2.2.2.2.2.2.2.2.2.2.2.2.2.2.2.2.2.2.2.2.2.2.2.2.2.2.2.2.2.2.2.2.2.2.2.2.2.2.2.2.2.2.2.2.2.2.2.2.2.2.2.2.2.2.2.2.2.2.2.2.2.2.2.2.2.2.2.2.2.2.2.2.2.1
theorem own_p_F_PARK_code {Z : State} {h0 : Heap} {a_BY_CODE : Addr} {a_BUFFERS : Addr} {a_HOLDABLE_CLASS : Addr} {a_UNPARK : Addr} {a_MONITOR_ENTER : Addr} {a_CPU_TIMER : Addr} {a_CLASS : Addr} {a_ALLOC_INTERVAL : Addr} {a_THREAD : Addr} {a_OPTIONS : Addr} {a_END : Addr} {a_STACK : Addr} {a_TIME : Addr} {a_UNDER_WAY : Addr} {a_PARK : Addr} {a_ALLOC_SAMPLE : Addr} {a_SAMPLE : Addr} {a_WALL_SAMPLE : Addr} {a_METHOD : Addr} {a_VIRTUAL_THREAD : Addr} {a_WALL_INTERVAL : Addr} {cl_BY_CODE : Cell} (hE : own_E Z h0 a_BY_CODE a_BUFFERS a_HOLDABLE_CLASS a_UNPARK a_MONITOR_ENTER a_CPU_TIMER a_CLASS a_ALLOC_INTERVAL a_THREAD a_OPTIONS a_END a_STACK a_TIME a_UNDER_WAY a_PARK a_ALLOC_SAMPLE a_SAMPLE a_WALL_SAMPLE a_METHOD a_VIRTUAL_THREAD a_WALL_INTERVAL cl_BY_CODE) : Fld Z h0 a_PARK "com/example/tracewell/tracewell/RecordKind" "code" "I" (.int (7 : Int32)) := hE.2.2.2.2.2.2.2.2.2.2.2.2.2.2.2.2.2.2.2.2.2.2.2.2.2.2.2.2.2.2.2.2.2.2.2.2.2.2.2.2.2.2.2.2.2.2.2.2.2.2.2.2.2.2.2.2.2.2.2.2.2.2.2.2.2.2.2.2.2.2.2.2.2.2.2.2.2.1
theorem own_p_F_ALLOC_SAMPLE_code {Z : State} {h0 : Heap} {a_BY_CODE : Addr} {a_BUFFERS : Addr} {a_HOLDABLE_CLASS : Addr} {a_UNPARK : Addr} {a_MONITOR_ENTER : Addr} {a_CPU_TIMER : Addr} {a_CLASS : Addr} {a_ALLOC_INTERVAL : Addr} {a_THREAD : Addr} {a_OPTIONS : Addr} {a_END : Addr} {a_STACK : Addr} {a_TIME : Addr} {a_UNDER_WAY : Addr} {a_PARK : Addr} {a_ALLOC_SAMPLE : Addr} {a_SAMPLE : Addr} {a_WALL_SAMPLE : Addr} {a_METHOD : Addr} {a_VIRTUAL_THREAD : Addr} {a_WALL_INTERVAL : Addr} {cl_BY_CODE : Cell} (hE : own_E Z h0 a_BY_CODE a_BUFFERS a_HOLDABLE_CLASS a_UNPARK a_MONITOR_ENTER a_CPU_TIMER a_CLASS a_ALLOC_INTERVAL a_THREAD a_OPTIONS a_END a_STACK a_TIME a_UNDER_WAY a_PARK a_ALLOC_SAMPLE a_SAMPLE a_WALL_SAMPLE a_METHOD a_VIRTUAL_THREAD a_WALL_INTERVAL cl_BY_CODE) : Fld Z h0 a_ALLOC_SAMPLE "com/example/tracewell/tracewell/RecordKind" "code" "I" (.int (19 : Int32)) := hE.2.2.2.2.2.2.2.2.2.2.2.2.2.2.2.2.2.2.2.2.2.2.2.2.2.2.2.2.2.2.2.2.2.2.2.2.2.2.2.2.2.2.2.2.2.2.2.2.2.2.2.2.2.2.2.2.2.2.2.2.2.2.2.2.2.2.2.2.2.2.2.2.2.2.2.2.2.2.1
theorem own_p_F_SAMPLE_code {Z : State} {h0 : Heap} {a_BY_CODE : Addr} {a_BUFFERS : Addr} {a_HOLDABLE_CLASS : Addr} {a_UNPARK : Addr} {a_MONITOR_ENTER : Addr} {a_CPU_TIMER : Addr} {a_CLASS : Addr} {a_ALLOC_INTERVAL : Addr} {a_THREAD : Addr} {a_OPTIONS : Addr} {a_END : Addr} {a_STACK : Addr} {a_TIME : Addr} {a_UNDER_WAY : Addr} {a_PARK : Addr} {a_ALLOC_SAMPLE : Addr} {a_SAMPLE : Addr} {a_WALL_SAMPLE : Addr} {a_METHOD : Addr} {a_VIRTUAL_THREAD : Addr} {a_WALL_INTERVAL : Addr} {cl_BY_CODE : Cell} (hE : own_E Z h0 a_BY_CODE a_BUFFERS a_HOLDABLE_CLASS a_UNPARK a_MONITOR_ENTER a_CPU_TIMER a_CLASS a_ALLOC_INTERVAL a_THREAD a_OPTIONS a_END a_STACK a_TIME a_UNDER_WAY a_PARK a_ALLOC_SAMPLE a_SAMPLE a_WALL_SAMPLE a_METHOD a_VIRTUAL_THREAD a_WALL_INTERVAL cl_BY_CODE) : Fld Z h0 a_SAMPLE "com/example/tracewell/tracewell/RecordKind" "code" "I" (.int (9 : Int32)) := hE.2.2.2.2.2.2.2.2.2.2.2.2.2.2.2.2.2.2.2.2.2.2.2.2.2.2.2.2.2.2.2.2.2.2.2.2.2.2.2.2.2.2.2.2.2.2.2.2.2.2.2.2.2.2.2.2.2.2.2.2.2.2.2.2.2.2.2.2.2.2.2.2.2.2.2.2.2.2.2.1
theorem own_p_F_WALL_SAMPLE_code {Z : State} {h0 : Heap} {a_BY_CODE : Addr} {a_BUFFERS : Addr} {a_HOLDABLE_CLASS : Addr} {a_UNPARK : Addr} {a_MONITOR_ENTER : Addr} {a_CPU_TIMER : Addr} {a_CLASS : Addr} {a_ALLOC_INTERVAL : Addr} {a_THREAD : Addr} {a_OPTIONS : Addr} {a_END : Addr} {a_STACK : Addr} {a_TIME : Addr} {a_UNDER_WAY : Addr} {a_PARK : Addr} {a_ALLOC_SAMPLE : Addr} {a_SAMPLE : Addr} {a_WALL_SAMPLE : Addr} {a_METHOD : Addr} {a_VIRTUAL_THREAD : Addr} {a_WALL_INTERVAL : Addr} {cl_BY_CODE : Cell} (hE : own_E Z h0 a_BY_CODE a_BUFFERS a_HOLDABLE_CLASS a_UNPARK a_MONITOR_ENTER a_CPU_TIMER a_CLASS a_ALLOC_INTERVAL a_THREAD a_OPTIONS a_END a_STACK a_TIME a_UNDER_WAY a_PARK a_ALLOC_SAMPLE a_SAMPLE a_WALL_SAMPLE a_METHOD a_VIRTUAL_THREAD a_WALL_INTERVAL cl_BY_CODE) : Fld Z h0 a_WALL_SAMPLE "com/example/tracewell/tracewell/RecordKind" "code" "I" (.int (17 : Int32)) := hE.2.2.2.2.2.2.2.2.2.2.2.2.2.2.2.2.2.2.2.2.2.2.2.2.2.2.2.2.2.2.2.2.2.2.2.2.2.2.2.2.2.2.2.2.2.2.2.2.2.2.2.2.2.2.2.2.2.2.2.2.2.2.2.2.2.2.2.2.2.2.2.2.2.2.2.2.2.2.2.2.1
theorem own_p_F_METHOD_code {Z : State} {h0 : Heap} {a_BY_CODE : Addr} {a_BUFFERS : Addr} {a_HOLDABLE_CLASS : Addr} {a_UNPARK : Addr} {a_MONITOR_ENTER : Addr} {a_CPU_TIMER : Addr} {a_CLASS : Addr} {a_ALLOC_INTERVAL : Addr} {a_THREAD : Addr} {a_OPTIONS : Addr} {a_END : Addr} {a_STACK : Addr} {a_TIME : Addr} {a_UNDER_WAY : Addr} {a_PARK : Addr} {a_ALLOC_SAMPLE : Addr} {a_SAMPLE : Addr} {a_WALL_SAMPLE : Addr} {a_METHOD : Addr} {a_VIRTUAL_THREAD : Addr} {a_WALL_INTERVAL : Addr} {cl_BY_CODE : Cell} (hE : own_E Z h0 a_BY_CODE a_BUFFERS a_HOLDABLE_CLASS a_UNPARK a_MONITOR_ENTER a_CPU_TIMER a_CLASS a_ALLOC_INTERVAL a_THREAD a_OPTIONS a_END a_STACK a_TIME a_UNDER_WAY a_PARK a_ALLOC_SAMPLE a_SAMPLE a_WALL_SAMPLE a_METHOD a_VIRTUAL_THREAD a_WALL_INTERVAL cl_BY_CODE) : Fld Z h0 a_METHOD "com/example/tracewell/tracewell/RecordKind" "code" "I" (.int (4 : Int32)) := hE.2.2.2.2.2.2.2.2.2.2.2.2.2.2.2.2.2.2.2.2.2.2.2.2.2.2.2.2.2.2.2.2.2.2.2.2.2.2.2.2.2.2.2.2.2.2.2.2.2.2.2.2.2.2.2.2.2.2.2.2.2.2.2.2.2.2.2.2.2.2.2.2.2.2.2.2.2.2.2.2.2.1
theorem own_p_F_VIRTUAL_THREAD_code {Z : State} {h0 : Heap} {a_BY_CODE : Addr} {a_BUFFERS : Addr} {a_HOLDABLE_CLASS : Addr} {a_UNPARK : Addr} {a_MONITOR_ENTER : Addr} {a_CPU_TIMER : Addr} {a_CLASS : Addr} {a_ALLOC_INTERVAL : Addr} {a_THREAD : Addr} {a_OPTIONS : Addr} {a_END : Addr} {a_STACK : Addr} {a_TIME : Addr} {a_UNDER_WAY : Addr} {a_PARK : Addr} {a_ALLOC_SAMPLE : Addr} {a_SAMPLE : Addr} {a_WALL_SAMPLE : Addr} {a_METHOD : Addr} {a_VIRTUAL_THREAD : Addr} {a_WALL_INTERVAL : Addr} {cl_BY_CODE : Cell} (hE : own_E Z h0 a_BY_CODE a_BUFFERS a_HOLDABLE_CLASS a_UNPARK a_MONITOR_ENTER a_CPU_TIMER a_CLASS a_ALLOC_INTERVAL a_THREAD a_OPTIONS a_END a_STACK a_TIME a_UNDER_WAY a_PARK a_ALLOC_SAMPLE a_SAMPLE a_WALL_SAMPLE a_METHOD a_VIRTUAL_THREAD a_WALL_INTERVAL cl_BY_CODE) : Fld Z h0 a_VIRTUAL_THREAD "com/example/tracewell/tracewell/RecordKind" "code" "I" (.int (13 : Int32)) := hE.2.2.2.2.2.2.2.2.2.2.2.2.2.2.2.2.2.2.2.2.2.2.2.2.2.2.2.2.2.2.2.2.2.2.2.2.2.2.2.2.2.2.2.2.2.2.2.2.2.2.2.2.2.2.2.2.2.2.2.2.2.2.2.2.2.2.2.2.2.2.2.2.2.2.2.2.2.2.2.2.2.2.1
theorem own_p_F_WALL_INTERVAL_code {Z : State} {h0 : Heap} {a_BY_CODE : Addr} {a_BUFFERS : Addr} {a_HOLDABLE_CLASS : Addr} {a_UNPARK : Addr} {a_MONITOR_ENTER : Addr} {a_CPU_TIMER : Addr} {a_CLASS : Addr} {a_ALLOC_INTERVAL : Addr} {a_THREAD : Addr} {a_OPTIONS : Addr} {a_END : Addr} {a_STACK : Addr} {a_TIME : Addr} {a_UNDER_WAY : Addr} {a_PARK : Addr} {a_ALLOC_SAMPLE : Addr} {a_SAMPLE : Addr} {a_WALL_SAMPLE : Addr} {a_METHOD : Addr} {a_VIRTUAL_THREAD : Addr} {a_WALL_INTERVAL : Addr} {cl_BY_CODE : Cell} (hE : own_E Z h0 a_BY_CODE a_BUFFERS a_HOLDABLE_CLASS a_UNPARK a_MONITOR_ENTER a_CPU_TIMER a_CLASS a_ALLOC_INTERVAL a_THREAD a_OPTIONS a_END a_STACK a_TIME a_UNDER_WAY a_PARK a_ALLOC_SAMPLE a_SAMPLE a_WALL_SAMPLE a_METHOD a_VIRTUAL_THREAD a_WALL_INTERVAL cl_BY_CODE) : Fld Z h0 a_WALL_INTERVAL "com/example/tracewell/tracewell/RecordKind" "code" "I" (.int (16 : Int32)) := hE.2.2.2.2.2.2.2.2.2.2.2.2.2.2.2.2.2.2.2.2.2.2.2.2.2.2.2.2.2.2.2.2.2.2.2.2.2.2.2.2.2.2.2.2.2.2.2.2.2.2.2.2.2.2.2.2.2.2.2.2.2.2.2.2.2.2.2.2.2.2.2.2.2.2.2.2.2.2.2.2.2.2.2.1
theorem own_E_ext {Z : State} {h0 h' : Heap} {a_BY_CODE : Addr} {a_BUFFERS : Addr} {a_HOLDABLE_CLASS : Addr} {a_UNPARK : Addr} {a_MONITOR_ENTER : Addr} {a_CPU_TIMER : Addr} {a_CLASS : Addr} {a_ALLOC_INTERVAL : Addr} {a_THREAD : Addr} {a_OPTIONS : Addr} {a_END : Addr} {a_STACK : Addr} {a_TIME : Addr} {a_UNDER_WAY : Addr} {a_PARK : Addr} {a_ALLOC_SAMPLE : Addr} {a_SAMPLE : Addr} {a_WALL_SAMPLE : Addr} {a_METHOD : Addr} {a_VIRTUAL_THREAD : Addr} {a_WALL_INTERVAL : Addr} {cl_BY_CODE : Cell} (hE : own_E Z h0 a_BY_CODE a_BUFFERS a_HOLDABLE_CLASS a_UNPARK a_MONITOR_ENTER a_CPU_TIMER a_CLASS a_ALLOC_INTERVAL a_THREAD a_OPTIONS a_END a_STACK a_TIME a_UNDER_WAY a_PARK a_ALLOC_SAMPLE a_SAMPLE a_WALL_SAMPLE a_METHOD a_VIRTUAL_THREAD a_WALL_INTERVAL cl_BY_CODE) (E : Ext h0 h') : own_E Z h' a_BY_CODE a_BUFFERS a_HOLDABLE_CLASS a_UNPARK a_MONITOR_ENTER a_CPU_TIMER a_CLASS a_ALLOC_INTERVAL a_THREAD a_OPTIONS a_END a_STACK a_TIME a_UNDER_WAY a_PARK a_ALLOC_SAMPLE a_SAMPLE a_WALL_SAMPLE a_METHOD a_VIRTUAL_THREAD a_WALL_INTERVAL cl_BY_CODE := ⟨(own_p_S_BY_CODE hE).ext E, (own_p_S_BUFFERS hE).ext E, (own_p_S_HOLDABLE_CLASS hE).ext E, (own_p_S_UNPARK hE).ext E, (own_p_S_MONITOR_ENTER hE).ext E, (own_p_S_CPU_TIMER hE).ext E, (own_p_S_CLASS hE).ext E, (own_p_S_ALLOC_INTERVAL hE).ext E, (own_p_S_THREAD hE).ext E, (own_p_S_OPTIONS hE).ext E, (own_p_S_END hE).ext E, (own_p_S_STACK hE).ext E, (own_p_S_TIME hE).ext E, (own_p_S_UNDER_WAY hE).ext E, (own_p_S_PARK hE).ext E, (own_p_S_ALLOC_SAMPLE hE).ext E, (own_p_S_SAMPLE hE).ext E, (own_p_S_WALL_SAMPLE hE).ext E, (own_p_S_METHOD hE).ext E, (own_p_S_VIRTUAL_THREAD hE).ext E, (own_p_S_WALL_INTERVAL hE).ext E, (own_p_A_BY_CODE hE).ext E, own_p_Z_BY_CODE hE, own_p_Y_BY_CODE_0 hE, own_p_Y_BY_CODE_1 hE, own_p_Y_BY_CODE_2 hE, own_p_Y_BY_CODE_3 hE, own_p_Y_BY_CODE_4 hE, own_p_Y_BY_CODE_5 hE, own_p_Y_BY_CODE_6 hE, own_p_Y_BY_CODE_7 hE, own_p_Y_BY_CODE_8 hE, own_p_Y_BY_CODE_9 hE, own_p_Y_BY_CODE_10 hE, own_p_Y_BY_CODE_11 hE, own_p_Y_BY_CODE_12 hE, own_p_Y_BY_CODE_13 hE, own_p_Y_BY_CODE_14 hE, own_p_Y_BY_CODE_15 hE, own_p_Y_BY_CODE_16 hE, own_p_Y_BY_CODE_17 hE, own_p_Y_BY_CODE_18 hE, own_p_Y_BY_CODE_19 hE, own_p_Y_BY_CODE_20 hE, (own_p_E_BUFFERS hE).ext E, (own_p_E_HOLDABLE_CLASS hE).ext E, (own_p_E_UNPARK hE).ext E, (own_p_E_MONITOR_ENTER hE).ext E, (own_p_E_CPU_TIMER hE).ext E, (own_p_E_CLASS hE).ext E, (own_p_E_ALLOC_INTERVAL hE).ext E, (own_p_E_THREAD hE).ext E, (own_p_E_OPTIONS hE).ext E, (own_p_E_END hE).ext E, (own_p_E_STACK hE).ext E, (own_p_E_TIME hE).ext E, (own_p_E_UNDER_WAY hE).ext E, (own_p_E_PARK hE).ext E, (own_p_E_ALLOC_SAMPLE hE).ext E, (own_p_E_SAMPLE hE).ext E, (own_p_E_WALL_SAMPLE hE).ext E, (own_p_E_METHOD hE).ext E, (own_p_E_VIRTUAL_THREAD hE).ext E, (own_p_E_WALL_INTERVAL hE).ext E, (own_p_F_BUFFERS_code hE).ext E, (own_p_F_HOLDABLE_CLASS_code hE).ext E, (own_p_F_UNPARK_code hE).ext E, (own_p_F_MONITOR_ENTER_code hE).ext E, (own_p_F_CPU_TIMER_code hE).ext E, (own_p_F_CLASS_code hE).ext E, (own_p_F_ALLOC_INTERVAL_code hE).ext E, (own_p_F_THREAD_code hE).ext E, (own_p_F_OPTIONS_code hE).ext E, (own_p_F_END_code hE).ext E, (own_p_F_STACK_code hE).ext E, (own_p_F_TIME_code hE).ext E, (own_p_F_UNDER_WAY_code hE).ext E, (own_p_F_PARK_code hE).ext E, (own_p_F_ALLOC_SAMPLE_code hE).ext E, (own_p_F_SAMPLE_code hE).ext E, (own_p_F_WALL_SAMPLE_code hE).ext E, (own_p_F_METHOD_code hE).ext E, (own_p_F_VIRTUAL_THREAD_code hE).ext E, (own_p_F_WALL_INTERVAL_code hE).ext E, trivial⟩
set_option maxRecDepth 65536 in
set_option maxHeartbeats 40000000 in
theorem own_of_0 (l : Launch) (Z : State) (a0 : Array Value) (hw : ∀ d ∈ tables_1, d.before a0 Z = true) (h0 : Heap) (a_BY_CODE : Addr) (a_BUFFERS : Addr) (a_HOLDABLE_CLASS : Addr) (a_UNPARK : Addr) (a_MONITOR_ENTER : Addr) (a_CPU_TIMER : Addr) (a_CLASS : Addr) (a_ALLOC_INTERVAL : Addr) (a_THREAD : Addr) (a_OPTIONS : Addr) (a_END : Addr) (a_STACK : Addr) (a_TIME : Addr) (a_UNDER_WAY : Addr) (a_PARK : Addr) (a_ALLOC_SAMPLE : Addr) (a_SAMPLE : Addr) (a_WALL_SAMPLE : Addr) (a_METHOD : Addr) (a_VIRTUAL_THREAD : Addr) (a_WALL_INTERVAL : Addr) (cl_BY_CODE : Cell) (hE : own_E Z h0 a_BY_CODE a_BUFFERS a_HOLDABLE_CLASS a_UNPARK a_MONITOR_ENTER a_CPU_TIMER a_CLASS a_ALLOC_INTERVAL a_THREAD a_OPTIONS a_END a_STACK a_TIME a_UNDER_WAY a_PARK a_ALLOC_SAMPLE a_SAMPLE a_WALL_SAMPLE a_METHOD a_VIRTUAL_THREAD a_WALL_INTERVAL cl_BY_CODE) :
    own_Pure l Z h0 [] ({ frames := 0, cells := 0, slots := 0, locals := 0 } : Room) (⟨"com/example/tracewell/tracewell/RecordKind", "of", "(I)Lcom/example/tracewell/tracewell/RecordKind;"⟩ : MethodName) prog_60_method_4_code 1 (some (.object "com/example/tracewell/tracewell/RecordKind")) #[(.int (0 : Int32))] (some .null) := by
  refine own_body (plainFor_of_name own_pn_0) ?_
  intro p e s m below meth c T0 X0 hx hby hml hown hZ e0 hret hlk hnm hnamed
  replace hown : s.vm.findClass "com/example/tracewell/tracewell/RecordKind" = some m.cls := hown
  replace hml : c.maxLocals = 1 := hml
  have ef : entryFrame m #[(.int (0 : Int32))] 1 = mkF m 0 #[.val (.int (0 : Int32))] [] := by first | (simp [entryFrame, mkF, argsToLocals, Value.category]; done) | rfl
  rw [ef]
  have S_BY_CODE := own_p_S_BY_CODE hE
  have A_BY_CODE := own_p_A_BY_CODE hE
  have Z_BY_CODE := own_p_Z_BY_CODE hE
  have Y_BY_CODE_0 := own_p_Y_BY_CODE_0 hE
  refine own_st (T' := T0) (g' := (mkF m 1 #[.val (.int (0 : Int32))] [(.int (0 : Int32))])) (fun _ k => XS.iloadN X0.here hx rfl (hb hby own_d_prog_60_method_4_code_0) rfl k) ?_
  refine own_st (T' := T0) (g' := (mkF m 4 #[.val (.int (0 : Int32))] [])) (fun _ k => XS.ifNo X0.here hx rfl (hb hby own_d_prog_60_method_4_code_1) rfl (by decide) k) ?_
  refine own_st (T' := T0) (g' := (mkF m 5 #[.val (.int (0 : Int32))] [(.int (0 : Int32))])) (fun _ k => XS.iloadN X0.here hx rfl (hb hby own_d_prog_60_method_4_code_4) rfl k) ?_
  obtain ⟨T1, X1, e1, st1⟩ := getS2 X0 hx hZ hown (host := "") (Or.inl (hw _ (List.mem_of_getElem? (i := 8) rfl))) Via.refl e0 S_BY_CODE (g := (mkF m 5 #[.val (.int (0 : Int32))] [(.int (0 : Int32))])) rfl (hb hby own_d_prog_60_method_4_code_5)
  refine own_st (T' := T1) (g' := (mkF m 8 #[.val (.int (0 : Int32))] [(.ref a_BY_CODE), (.int (0 : Int32))])) st1 ?_
  refine own_st (T' := T1) (g' := (mkF m 9 #[.val (.int (0 : Int32))] [(.int cl_BY_CODE.slots.size.toInt32), (.int (0 : Int32))])) (fun _ k => X1.arraylength hx (by rw [e1]; exact A_BY_CODE.1) (State.isArrayOf_alike hZ.alike A_BY_CODE.2.1) (g := (mkF m 8 #[.val (.int (0 : Int32))] [(.ref a_BY_CODE), (.int (0 : Int32))])) rfl rfl (hb hby own_d_prog_60_method_4_code_8) _ k) ?_
  rw [len_of Z_BY_CODE (by decide)]
  refine own_st (T' := T1) (g' := (mkF m 12 #[.val (.int (0 : Int32))] [])) (fun _ k => XS.icmpNo X1.here hx rfl (hb hby own_d_prog_60_method_4_code_9) rfl (by decide) k) ?_
  obtain ⟨T2, X2, e2, st2⟩ := getS2 X1 hx hZ hown (host := "") (Or.inl (hw _ (List.mem_of_getElem? (i := 8) rfl))) Via.refl e1 S_BY_CODE (g := (mkF m 12 #[.val (.int (0 : Int32))] [])) rfl (hb hby own_d_prog_60_method_4_code_12)
  refine own_st (T' := T2) (g' := (mkF m 15 #[.val (.int (0 : Int32))] [(.ref a_BY_CODE)])) st2 ?_
  refine own_st (T' := T2) (g' := (mkF m 16 #[.val (.int (0 : Int32))] [(.int (0 : Int32)), (.ref a_BY_CODE)])) (fun _ k => XS.iloadN X2.here hx rfl (hb hby own_d_prog_60_method_4_code_15) rfl k) ?_
  refine own_st (T' := T2) (g' := (mkF m 17 #[.val (.int (0 : Int32))] [.null])) (fun _ k => X2.aaload hx (j := (0 : Int32)) (v := .null) (by rw [e2]; exact A_BY_CODE.1) (State.isArrayOf_alike hZ.alike A_BY_CODE.2.1) rfl A_BY_CODE.2.2 (inb_of Z_BY_CODE ⟨by decide, by decide⟩) Y_BY_CODE_0 (g := (mkF m 16 #[.val (.int (0 : Int32))] [(.int (0 : Int32)), (.ref a_BY_CODE)])) rfl rfl (hb hby own_d_prog_60_method_4_code_16) _ k) ?_
  refine own_st (T' := T2) (g' := (mkF m 21 #[.val (.int (0 : Int32))] [.null])) (fun _ k => XS.goto X2.here hx rfl (pc0 := 17) (pc' := 21) rfl (hb hby own_d_prog_60_method_4_code_17) (by decide) (by decide) k) ?_
  exact own_ret X2 hx hlk hret rfl (Or.inr (Or.inr (Or.inr (Or.inr ⟨rfl, rfl, rfl⟩)))) (hb hby own_d_prog_60_method_4_code_21) (by decide) (by decide) ⟨rfl, rfl, e2⟩
set_option maxRecDepth 65536 in
set_option maxHeartbeats 40000000 in
theorem own_check_0 (l : Launch) (Z : State) (a0 : Array Value) (hw : ∀ d ∈ tables_1, d.before a0 Z = true) (h0 : Heap) (a_BY_CODE : Addr) (a_BUFFERS : Addr) (a_HOLDABLE_CLASS : Addr) (a_UNPARK : Addr) (a_MONITOR_ENTER : Addr) (a_CPU_TIMER : Addr) (a_CLASS : Addr) (a_ALLOC_INTERVAL : Addr) (a_THREAD : Addr) (a_OPTIONS : Addr) (a_END : Addr) (a_STACK : Addr) (a_TIME : Addr) (a_UNDER_WAY : Addr) (a_PARK : Addr) (a_ALLOC_SAMPLE : Addr) (a_SAMPLE : Addr) (a_WALL_SAMPLE : Addr) (a_METHOD : Addr) (a_VIRTUAL_THREAD : Addr) (a_WALL_INTERVAL : Addr) (cl_BY_CODE : Cell) (hE : own_E Z h0 a_BY_CODE a_BUFFERS a_HOLDABLE_CLASS a_UNPARK a_MONITOR_ENTER a_CPU_TIMER a_CLASS a_ALLOC_INTERVAL a_THREAD a_OPTIONS a_END a_STACK a_TIME a_UNDER_WAY a_PARK a_ALLOC_SAMPLE a_SAMPLE a_WALL_SAMPLE a_METHOD a_VIRTUAL_THREAD a_WALL_INTERVAL cl_BY_CODE) :
    own_Pure l Z h0 [] ({ frames := 1, cells := 0, slots := 0, locals := 12 } : Room) (⟨"com/example/tracewell/tracewell/RecordKindOfPinLaw", "check", "(I)Z"⟩ : MethodName) method_3_code 3 (some .boolean) #[(.int (0 : Int32))] (some (.int (1 : Int32))) := by
  refine own_body (plainFor_of_name own_pn_1) ?_
  intro p e s m below meth c T0 X0 hx hby hml hown hZ e0 hret hlk hnm hnamed
  replace hown : s.vm.findClass "com/example/tracewell/tracewell/RecordKindOfPinLaw" = some m.cls := hown
  replace hml : c.maxLocals = 3 := hml
  have ef : entryFrame m #[(.int (0 : Int32))] 3 = mkF m 0 #[.val (.int (0 : Int32)), .unset, .unset] [] := by first | (simp [entryFrame, mkF, argsToLocals, Value.category]; done) | rfl
  rw [ef]
  refine own_st (T' := T0) (g' := (mkF m 1 #[.val (.int (0 : Int32)), .unset, .unset] [(.int (0 : Int32))])) (fun _ k => XS.iloadN X0.here hx rfl (hb hby own_d_method_3_code_0) rfl k) ?_
  obtain ⟨T1, X1, e1, st1⟩ := own_pure (w := .null) rfl rfl (own_gS X0 hx hZ hown (hw _ (List.mem_of_getElem? (i := 4) rfl)) (hw _ (List.mem_of_getElem? (i := 5) rfl)) (hw _ (List.mem_of_getElem? (i := 6) rfl)) (hw _ (List.mem_of_getElem? (i := 7) rfl)) (by decide) e0 (own_of_0 l Z a0 hw h0 a_BY_CODE a_BUFFERS a_HOLDABLE_CLASS a_UNPARK a_MONITOR_ENTER a_CPU_TIMER a_CLASS a_ALLOC_INTERVAL a_THREAD a_OPTIONS a_END a_STACK a_TIME a_UNDER_WAY a_PARK a_ALLOC_SAMPLE a_SAMPLE a_WALL_SAMPLE a_METHOD a_VIRTUAL_THREAD a_WALL_INTERVAL cl_BY_CODE hE) (by decide) (by decide) (by decide) (by decide) (Q := fun v h L => v = some .null ∧ L = [] ∧ h = h0) (W := 0) (g := (mkF m 1 #[.val (.int (0 : Int32)), .unset, .unset] [(.int (0 : Int32))])) (argsL := [(.int (0 : Int32))]) (rest := []) rfl (by rw [hml]; rfl) (lenOf own_pd_0 rfl) rfl (by show 2 * 0 + _ ≤ _; exact Nat.le_of_eq rfl) (hb hby own_d_method_3_code_1))
  refine own_st (T' := T1) (g' := (mkF m 4 #[.val (.int (0 : Int32)), .unset, .unset] [.null])) st1 ?_
  refine own_st (T' := T1) (g' := (mkF m 5 #[.val (.int (0 : Int32)), .val .null, .unset] [])) (fun _ k => XS.astoreN X1.here hx rfl (hb hby own_d_method_3_code_4) rfl rfl (l' := #[.val (.int (0 : Int32)), .val .null, .unset]) rfl k) ?_
  refine own_st (T' := T1) (g' := (mkF m 6 #[.val (.int (0 : Int32)), .val .null, .unset] [(.int (0 : Int32))])) (fun _ k => XS.iloadN X1.here hx rfl (hb hby own_d_method_3_code_5) rfl k) ?_
  refine own_st (T' := T1) (g' := (mkF m 7 #[.val (.int (0 : Int32)), .val .null, .unset] [(.int (1 : Int32)), (.int (0 : Int32))])) (fun _ k => XS.iconst X1.here hx rfl (hb hby own_d_method_3_code_6) k) ?_
  refine own_st (T' := T1) (g' := (mkF m 20 #[.val (.int (0 : Int32)), .val .null, .unset] [])) (fun _ k => XS.icmpYes X1.here hx rfl (pc0 := 7) (pc' := 20) rfl (hb hby own_d_method_3_code_7) rfl (by decide) (by decide) (by decide) k) ?_
  refine own_st (T' := T1) (g' := (mkF m 21 #[.val (.int (0 : Int32)), .val .null, .unset] [(.int (0 : Int32))])) (fun _ k => XS.iconst X1.here hx rfl (hb hby own_d_method_3_code_20) k) ?_
  refine own_st (T' := T1) (g' := (mkF m 22 #[.val (.int (0 : Int32)), .val .null, .val (.int (0 : Int32))] [])) (fun _ k => XS.istoreN X1.here hx rfl (hb hby own_d_method_3_code_21) rfl (l' := #[.val (.int (0 : Int32)), .val .null, .val (.int (0 : Int32))]) rfl k) ?_
  refine own_st (T' := T1) (g' := (mkF m 23 #[.val (.int (0 : Int32)), .val .null, .val (.int (0 : Int32))] [(.int (0 : Int32))])) (fun _ k => XS.iloadN X1.here hx rfl (hb hby own_d_method_3_code_22) rfl k) ?_
  refine own_st (T' := T1) (g' := (mkF m 26 #[.val (.int (0 : Int32)), .val .null, .val (.int (0 : Int32))] [])) (fun _ k => XS.ifNo X1.here hx rfl (hb hby own_d_method_3_code_23) rfl (by decide) k) ?_
  refine own_st (T' := T1) (g' := (mkF m 27 #[.val (.int (0 : Int32)), .val .null, .val (.int (0 : Int32))] [.null])) (fun _ k => XS.aloadN X1.here hx rfl (hb hby own_d_method_3_code_26) rfl rfl k) ?_
  refine own_st (T' := T1) (g' := (mkF m 30 #[.val (.int (0 : Int32)), .val .null, .val (.int (0 : Int32))] [])) (fun _ k => XS.ifnonnullNo X1.here hx rfl (hb hby own_d_method_3_code_27) rfl k) ?_
  refine own_st (T' := T1) (g' := (mkF m 31 #[.val (.int (0 : Int32)), .val .null, .val (.int (0 : Int32))] [(.int (1 : Int32))])) (fun _ k => XS.iconst X1.here hx rfl (hb hby own_d_method_3_code_30) k) ?_
  refine own_st (T' := T1) (g' := (mkF m 35 #[.val (.int (0 : Int32)), .val .null, .val (.int (0 : Int32))] [(.int (1 : Int32))])) (fun _ k => XS.goto X1.here hx rfl (pc0 := 31) (pc' := 35) rfl (hb hby own_d_method_3_code_31) (by decide) (by decide) k) ?_
  exact own_ret X1 hx hlk hret rfl (Or.inl ⟨rfl, Or.inr (Or.inl rfl), _, rfl⟩) (hb hby own_d_method_3_code_35) (by decide) (by decide) ⟨rfl, rfl, e1⟩
set_option maxRecDepth 65536 in
set_option maxHeartbeats 40000000 in
theorem own_of_1 (l : Launch) (Z : State) (a0 : Array Value) (hw : ∀ d ∈ tables_1, d.before a0 Z = true) (h0 : Heap) (a_BY_CODE : Addr) (a_BUFFERS : Addr) (a_HOLDABLE_CLASS : Addr) (a_UNPARK : Addr) (a_MONITOR_ENTER : Addr) (a_CPU_TIMER : Addr) (a_CLASS : Addr) (a_ALLOC_INTERVAL : Addr) (a_THREAD : Addr) (a_OPTIONS : Addr) (a_END : Addr) (a_STACK : Addr) (a_TIME : Addr) (a_UNDER_WAY : Addr) (a_PARK : Addr) (a_ALLOC_SAMPLE : Addr) (a_SAMPLE : Addr) (a_WALL_SAMPLE : Addr) (a_METHOD : Addr) (a_VIRTUAL_THREAD : Addr) (a_WALL_INTERVAL : Addr) (cl_BY_CODE : Cell) (hE : own_E Z h0 a_BY_CODE a_BUFFERS a_HOLDABLE_CLASS a_UNPARK a_MONITOR_ENTER a_CPU_TIMER a_CLASS a_ALLOC_INTERVAL a_THREAD a_OPTIONS a_END a_STACK a_TIME a_UNDER_WAY a_PARK a_ALLOC_SAMPLE a_SAMPLE a_WALL_SAMPLE a_METHOD a_VIRTUAL_THREAD a_WALL_INTERVAL cl_BY_CODE) :
    own_Pure l Z h0 [] ({ frames := 0, cells := 0, slots := 0, locals := 0 } : Room) (⟨"com/example/tracewell/tracewell/RecordKind", "of", "(I)Lcom/example/tracewell/tracewell/RecordKind;"⟩ : MethodName) prog_60_method_4_code 1 (some (.object "com/example/tracewell/tracewell/RecordKind")) #[(.int (1 : Int32))] (some (.ref a_THREAD)) := by
  refine own_body (plainFor_of_name own_pn_0) ?_
  intro p e s m below meth c T0 X0 hx hby hml hown hZ e0 hret hlk hnm hnamed
  replace hown : s.vm.findClass "com/example/tracewell/tracewell/RecordKind" = some m.cls := hown
  replace hml : c.maxLocals = 1 := hml
  have ef : entryFrame m #[(.int (1 : Int32))] 1 = mkF m 0 #[.val (.int (1 : Int32))] [] := by first | (simp [entryFrame, mkF, argsToLocals, Value.category]; done) | rfl
  rw [ef]
  have S_BY_CODE := own_p_S_BY_CODE hE
  have A_BY_CODE := own_p_A_BY_CODE hE
  have Z_BY_CODE := own_p_Z_BY_CODE hE
  have Y_BY_CODE_1 := own_p_Y_BY_CODE_1 hE
  refine own_st (T' := T0) (g' := (mkF m 1 #[.val (.int (1 : Int32))] [(.int (1 : Int32))])) (fun _ k => XS.iloadN X0.here hx rfl (hb hby own_d_prog_60_method_4_code_0) rfl k) ?_
  refine own_st (T' := T0) (g' := (mkF m 4 #[.val (.int (1 : Int32))] [])) (fun _ k => XS.ifNo X0.here hx rfl (hb hby own_d_prog_60_method_4_code_1) rfl (by decide) k) ?_
  refine own_st (T' := T0) (g' := (mkF m 5 #[.val (.int (1 : Int32))] [(.int (1 : Int32))])) (fun _ k => XS.iloadN X0.here hx rfl (hb hby own_d_prog_60_method_4_code_4) rfl k) ?_
  obtain ⟨T1, X1, e1, st1⟩ := getS2 X0 hx hZ hown (host := "") (Or.inl (hw _ (List.mem_of_getElem? (i := 8) rfl))) Via.refl e0 S_BY_CODE (g := (mkF m 5 #[.val (.int (1 : Int32))] [(.int (1 : Int32))])) rfl (hb hby own_d_prog_60_method_4_code_5)
  refine own_st (T' := T1) (g' := (mkF m 8 #[.val (.int (1 : Int32))] [(.ref a_BY_CODE), (.int (1 : Int32))])) st1 ?_
  refine own_st (T' := T1) (g' := (mkF m 9 #[.val (.int (1 : Int32))] [(.int cl_BY_CODE.slots.size.toInt32), (.int (1 : Int32))])) (fun _ k => X1.arraylength hx (by rw [e1]; exact A_BY_CODE.1) (State.isArrayOf_alike hZ.alike A_BY_CODE.2.1) (g := (mkF m 8 #[.val (.int (1 : Int32))] [(.ref a_BY_CODE), (.int (1 : Int32))])) rfl rfl (hb hby own_d_prog_60_method_4_code_8) _ k) ?_
  rw [len_of Z_BY_CODE (by decide)]
  refine own_st (T' := T1) (g' := (mkF m 12 #[.val (.int (1 : Int32))] [])) (fun _ k => XS.icmpNo X1.here hx rfl (hb hby own_d_prog_60_method_4_code_9) rfl (by decide) k) ?_
  obtain ⟨T2, X2, e2, st2⟩ := getS2 X1 hx hZ hown (host := "") (Or.inl (hw _ (List.mem_of_getElem? (i := 8) rfl))) Via.refl e1 S_BY_CODE (g := (mkF m 12 #[.val (.int (1 : Int32))] [])) rfl (hb hby own_d_prog_60_method_4_code_12)
  refine own_st (T' := T2) (g' := (mkF m 15 #[.val (.int (1 : Int32))] [(.ref a_BY_CODE)])) st2 ?_
  refine own_st (T' := T2) (g' := (mkF m 16 #[.val (.int (1 : Int32))] [(.int (1 : Int32)), (.ref a_BY_CODE)])) (fun _ k => XS.iloadN X2.here hx rfl (hb hby own_d_prog_60_method_4_code_15) rfl k) ?_
  refine own_st (T' := T2) (g' := (mkF m 17 #[.val (.int (1 : Int32))] [(.ref a_THREAD)])) (fun _ k => X2.aaload hx (j := (1 : Int32)) (v := (.ref a_THREAD)) (by rw [e2]; exact A_BY_CODE.1) (State.isArrayOf_alike hZ.alike A_BY_CODE.2.1) rfl A_BY_CODE.2.2 (inb_of Z_BY_CODE ⟨by decide, by decide⟩) Y_BY_CODE_1 (g := (mkF m 16 #[.val (.int (1 : Int32))] [(.int (1 : Int32)), (.ref a_BY_CODE)])) rfl rfl (hb hby own_d_prog_60_method_4_code_16) _ k) ?_
  refine own_st (T' := T2) (g' := (mkF m 21 #[.val (.int (1 : Int32))] [(.ref a_THREAD)])) (fun _ k => XS.goto X2.here hx rfl (pc0 := 17) (pc' := 21) rfl (hb hby own_d_prog_60_method_4_code_17) (by decide) (by decide) k) ?_
  exact own_ret X2 hx hlk hret rfl (Or.inr (Or.inr (Or.inr (Or.inr ⟨rfl, rfl, rfl⟩)))) (hb hby own_d_prog_60_method_4_code_21) (by decide) (by decide) ⟨rfl, rfl, e2⟩
set_option maxRecDepth 65536 in
set_option maxHeartbeats 40000000 in
theorem own_code_2 (l : Launch) (Z : State) (a0 : Array Value) (hw : ∀ d ∈ tables_1, d.before a0 Z = true) (h0 : Heap) (a_BY_CODE : Addr) (a_BUFFERS : Addr) (a_HOLDABLE_CLASS : Addr) (a_UNPARK : Addr) (a_MONITOR_ENTER : Addr) (a_CPU_TIMER : Addr) (a_CLASS : Addr) (a_ALLOC_INTERVAL : Addr) (a_THREAD : Addr) (a_OPTIONS : Addr) (a_END : Addr) (a_STACK : Addr) (a_TIME : Addr) (a_UNDER_WAY : Addr) (a_PARK : Addr) (a_ALLOC_SAMPLE : Addr) (a_SAMPLE : Addr) (a_WALL_SAMPLE : Addr) (a_METHOD : Addr) (a_VIRTUAL_THREAD : Addr) (a_WALL_INTERVAL : Addr) (cl_BY_CODE : Cell) (hE : own_E Z h0 a_BY_CODE a_BUFFERS a_HOLDABLE_CLASS a_UNPARK a_MONITOR_ENTER a_CPU_TIMER a_CLASS a_ALLOC_INTERVAL a_THREAD a_OPTIONS a_END a_STACK a_TIME a_UNDER_WAY a_PARK a_ALLOC_SAMPLE a_SAMPLE a_WALL_SAMPLE a_METHOD a_VIRTUAL_THREAD a_WALL_INTERVAL cl_BY_CODE) :
    own_Pure l Z h0 [] ({ frames := 0, cells := 0, slots := 0, locals := 0 } : Room) (⟨"com/example/tracewell/tracewell/RecordKind", "code", "()I"⟩ : MethodName) prog_60_method_6_code 1 (some .int) #[(.ref a_THREAD)] (some (.int (1 : Int32))) := by
  refine own_body (plainFor_of_name own_pn_0) ?_
  intro p e s m below meth c T0 X0 hx hby hml hown hZ e0 hret hlk hnm hnamed
  replace hown : s.vm.findClass "com/example/tracewell/tracewell/RecordKind" = some m.cls := hown
  replace hml : c.maxLocals = 1 := hml
  have ef : entryFrame m #[(.ref a_THREAD)] 1 = mkF m 0 #[.val (.ref a_THREAD)] [] := by first | (simp [entryFrame, mkF, argsToLocals, Value.category]; done) | rfl
  rw [ef]
  have F_THREAD_code := own_p_F_THREAD_code hE
  refine own_st (T' := T0) (g' := (mkF m 1 #[.val (.ref a_THREAD)] [(.ref a_THREAD)])) (fun _ k => XS.aloadN X0.here hx rfl (hb hby own_d_prog_60_method_6_code_0) rfl rfl k) ?_
  obtain ⟨T1, X1, e1, st1⟩ := getF X0 hx hZ hown (host := "") (Or.inl (hw _ (List.mem_of_getElem? (i := 16) rfl))) Via.refl e0 F_THREAD_code (g := (mkF m 1 #[.val (.ref a_THREAD)] [(.ref a_THREAD)])) rfl rfl (hb hby own_d_prog_60_method_6_code_1)
  refine own_st (T' := T1) (g' := (mkF m 4 #[.val (.ref a_THREAD)] [(.int (1 : Int32))])) st1 ?_
  exact own_ret X1 hx hlk hret rfl (Or.inl ⟨rfl, Or.inl rfl, _, rfl⟩) (hb hby own_d_prog_60_method_6_code_4) (by decide) (by decide) ⟨rfl, rfl, e1⟩
set_option maxRecDepth 65536 in
set_option maxHeartbeats 40000000 in
theorem own_check_1 (l : Launch) (Z : State) (a0 : Array Value) (hw : ∀ d ∈ tables_1, d.before a0 Z = true) (h0 : Heap) (a_BY_CODE : Addr) (a_BUFFERS : Addr) (a_HOLDABLE_CLASS : Addr) (a_UNPARK : Addr) (a_MONITOR_ENTER : Addr) (a_CPU_TIMER : Addr) (a_CLASS : Addr) (a_ALLOC_INTERVAL : Addr) (a_THREAD : Addr) (a_OPTIONS : Addr) (a_END : Addr) (a_STACK : Addr) (a_TIME : Addr) (a_UNDER_WAY : Addr) (a_PARK : Addr) (a_ALLOC_SAMPLE : Addr) (a_SAMPLE : Addr) (a_WALL_SAMPLE : Addr) (a_METHOD : Addr) (a_VIRTUAL_THREAD : Addr) (a_WALL_INTERVAL : Addr) (cl_BY_CODE : Cell) (hE : own_E Z h0 a_BY_CODE a_BUFFERS a_HOLDABLE_CLASS a_UNPARK a_MONITOR_ENTER a_CPU_TIMER a_CLASS a_ALLOC_INTERVAL a_THREAD a_OPTIONS a_END a_STACK a_TIME a_UNDER_WAY a_PARK a_ALLOC_SAMPLE a_SAMPLE a_WALL_SAMPLE a_METHOD a_VIRTUAL_THREAD a_WALL_INTERVAL cl_BY_CODE) :
    own_Pure l Z h0 [] ({ frames := 1, cells := 0, slots := 0, locals := 12 } : Room) (⟨"com/example/tracewell/tracewell/RecordKindOfPinLaw", "check", "(I)Z"⟩ : MethodName) method_3_code 3 (some .boolean) #[(.int (1 : Int32))] (some (.int (1 : Int32))) := by
  refine own_body (plainFor_of_name own_pn_1) ?_
  intro p e s m below meth c T0 X0 hx hby hml hown hZ e0 hret hlk hnm hnamed
  replace hown : s.vm.findClass "com/example/tracewell/tracewell/RecordKindOfPinLaw" = some m.cls := hown
  replace hml : c.maxLocals = 3 := hml
  have ef : entryFrame m #[(.int (1 : Int32))] 3 = mkF m 0 #[.val (.int (1 : Int32)), .unset, .unset] [] := by first | (simp [entryFrame, mkF, argsToLocals, Value.category]; done) | rfl
  rw [ef]
  have E_THREAD := own_p_E_THREAD hE
  refine own_st (T' := T0) (g' := (mkF m 1 #[.val (.int (1 : Int32)), .unset, .unset] [(.int (1 : Int32))])) (fun _ k => XS.iloadN X0.here hx rfl (hb hby own_d_method_3_code_0) rfl k) ?_
  obtain ⟨T1, X1, e1, st1⟩ := own_pure (w := (.ref a_THREAD)) rfl rfl (own_gS X0 hx hZ hown (hw _ (List.mem_of_getElem? (i := 4) rfl)) (hw _ (List.mem_of_getElem? (i := 5) rfl)) (hw _ (List.mem_of_getElem? (i := 6) rfl)) (hw _ (List.mem_of_getElem? (i := 7) rfl)) (by decide) e0 (own_of_1 l Z a0 hw h0 a_BY_CODE a_BUFFERS a_HOLDABLE_CLASS a_UNPARK a_MONITOR_ENTER a_CPU_TIMER a_CLASS a_ALLOC_INTERVAL a_THREAD a_OPTIONS a_END a_STACK a_TIME a_UNDER_WAY a_PARK a_ALLOC_SAMPLE a_SAMPLE a_WALL_SAMPLE a_METHOD a_VIRTUAL_THREAD a_WALL_INTERVAL cl_BY_CODE hE) (by decide) (by decide) (by decide) (by decide) (Q := fun v h L => v = some (.ref a_THREAD) ∧ L = [] ∧ h = h0) (W := 0) (g := (mkF m 1 #[.val (.int (1 : Int32)), .unset, .unset] [(.int (1 : Int32))])) (argsL := [(.int (1 : Int32))]) (rest := []) rfl (by rw [hml]; rfl) (lenOf own_pd_0 rfl) rfl (by show 2 * 0 + _ ≤ _; exact Nat.le_of_eq rfl) (hb hby own_d_method_3_code_1))
  refine own_st (T' := T1) (g' := (mkF m 4 #[.val (.int (1 : Int32)), .unset, .unset] [(.ref a_THREAD)])) st1 ?_
  refine own_st (T' := T1) (g' := (mkF m 5 #[.val (.int (1 : Int32)), .val (.ref a_THREAD), .unset] [])) (fun _ k => XS.astoreN X1.here hx rfl (hb hby own_d_method_3_code_4) rfl rfl (l' := #[.val (.int (1 : Int32)), .val (.ref a_THREAD), .unset]) rfl k) ?_
  refine own_st (T' := T1) (g' := (mkF m 6 #[.val (.int (1 : Int32)), .val (.ref a_THREAD), .unset] [(.int (1 : Int32))])) (fun _ k => XS.iloadN X1.here hx rfl (hb hby own_d_method_3_code_5) rfl k) ?_
  refine own_st (T' := T1) (g' := (mkF m 7 #[.val (.int (1 : Int32)), .val (.ref a_THREAD), .unset] [(.int (1 : Int32)), (.int (1 : Int32))])) (fun _ k => XS.iconst X1.here hx rfl (hb hby own_d_method_3_code_6) k) ?_
  refine own_st (T' := T1) (g' := (mkF m 10 #[.val (.int (1 : Int32)), .val (.ref a_THREAD), .unset] [])) (fun _ k => XS.icmpNo X1.here hx rfl (hb hby own_d_method_3_code_7) rfl (by decide) k) ?_
  refine own_st (T' := T1) (g' := (mkF m 11 #[.val (.int (1 : Int32)), .val (.ref a_THREAD), .unset] [(.int (1 : Int32))])) (fun _ k => XS.iloadN X1.here hx rfl (hb hby own_d_method_3_code_10) rfl k) ?_
  refine own_st (T' := T1) (g' := (mkF m 13 #[.val (.int (1 : Int32)), .val (.ref a_THREAD), .unset] [(.int (20 : Int32)), (.int (1 : Int32))])) (fun _ k => XS.bipush X1.here hx rfl (hb hby own_d_method_3_code_11) k) ?_
  refine own_st (T' := T1) (g' := (mkF m 16 #[.val (.int (1 : Int32)), .val (.ref a_THREAD), .unset] [])) (fun _ k => XS.icmpNo X1.here hx rfl (hb hby own_d_method_3_code_13) rfl (by decide) k) ?_
  refine own_st (T' := T1) (g' := (mkF m 17 #[.val (.int (1 : Int32)), .val (.ref a_THREAD), .unset] [(.int (1 : Int32))])) (fun _ k => XS.iconst X1.here hx rfl (hb hby own_d_method_3_code_16) k) ?_
  refine own_st (T' := T1) (g' := (mkF m 21 #[.val (.int (1 : Int32)), .val (.ref a_THREAD), .unset] [(.int (1 : Int32))])) (fun _ k => XS.goto X1.here hx rfl (pc0 := 17) (pc' := 21) rfl (hb hby own_d_method_3_code_17) (by decide) (by decide) k) ?_
  refine own_st (T' := T1) (g' := (mkF m 22 #[.val (.int (1 : Int32)), .val (.ref a_THREAD), .val (.int (1 : Int32))] [])) (fun _ k => XS.istoreN X1.here hx rfl (hb hby own_d_method_3_code_21) rfl (l' := #[.val (.int (1 : Int32)), .val (.ref a_THREAD), .val (.int (1 : Int32))]) rfl k) ?_
  refine own_st (T' := T1) (g' := (mkF m 23 #[.val (.int (1 : Int32)), .val (.ref a_THREAD), .val (.int (1 : Int32))] [(.int (1 : Int32))])) (fun _ k => XS.iloadN X1.here hx rfl (hb hby own_d_method_3_code_22) rfl k) ?_
  refine own_st (T' := T1) (g' := (mkF m 36 #[.val (.int (1 : Int32)), .val (.ref a_THREAD), .val (.int (1 : Int32))] [])) (fun _ k => XS.ifYes X1.here hx rfl (pc0 := 23) (pc' := 36) rfl (hb hby own_d_method_3_code_23) rfl (by decide) (by decide) (by decide) k) ?_
  refine own_st (T' := T1) (g' := (mkF m 37 #[.val (.int (1 : Int32)), .val (.ref a_THREAD), .val (.int (1 : Int32))] [(.ref a_THREAD)])) (fun _ k => XS.aloadN X1.here hx rfl (hb hby own_d_method_3_code_36) rfl rfl k) ?_
  refine own_st (T' := T1) (g' := (mkF m 40 #[.val (.int (1 : Int32)), .val (.ref a_THREAD), .val (.int (1 : Int32))] [])) (fun _ k => XS.ifnullNo X1.here hx rfl (hb hby own_d_method_3_code_37) rfl k) ?_
  refine own_st (T' := T1) (g' := (mkF m 41 #[.val (.int (1 : Int32)), .val (.ref a_THREAD), .val (.int (1 : Int32))] [(.ref a_THREAD)])) (fun _ k => XS.aloadN X1.here hx rfl (hb hby own_d_method_3_code_40) rfl rfl k) ?_
  obtain ⟨T2, X2, e2, st2⟩ := own_pure (w := (.int (1 : Int32))) rfl rfl (own_gV X1 hx hZ hown (hw _ (List.mem_of_getElem? (i := 11) rfl)) (hw _ (List.mem_of_getElem? (i := 12) rfl)) (notFace_of_selects (args := #[]) (mvT hZ (hw _ (List.mem_of_getElem? (i := 14) rfl)))) (hw _ (List.mem_of_getElem? (i := 14) rfl)) (hw _ (List.mem_of_getElem? (i := 13) rfl)) (hw _ (List.mem_of_getElem? (i := 6) rfl)) (hw _ (List.mem_of_getElem? (i := 15) rfl)) (by decide) e1 E_THREAD (own_code_2 l Z a0 hw h0 a_BY_CODE a_BUFFERS a_HOLDABLE_CLASS a_UNPARK a_MONITOR_ENTER a_CPU_TIMER a_CLASS a_ALLOC_INTERVAL a_THREAD a_OPTIONS a_END a_STACK a_TIME a_UNDER_WAY a_PARK a_ALLOC_SAMPLE a_SAMPLE a_WALL_SAMPLE a_METHOD a_VIRTUAL_THREAD a_WALL_INTERVAL cl_BY_CODE hE) (by decide) (by decide) (by decide) (by decide) (Q := fun v h L => v = some (.int (1 : Int32)) ∧ L = [] ∧ h = h0) (W := 0) (g := (mkF m 41 #[.val (.int (1 : Int32)), .val (.ref a_THREAD), .val (.int (1 : Int32))] [(.ref a_THREAD)])) (argsL := []) (rest := []) rfl (by rw [hml]; rfl) (lenOf own_pd_1 rfl) rfl (by show 2 * 0 + _ ≤ _; exact Nat.le_of_eq rfl) (hb hby own_d_method_3_code_41))
  refine own_st (T' := T2) (g' := (mkF m 44 #[.val (.int (1 : Int32)), .val (.ref a_THREAD), .val (.int (1 : Int32))] [(.int (1 : Int32))])) st2 ?_
  refine own_st (T' := T2) (g' := (mkF m 45 #[.val (.int (1 : Int32)), .val (.ref a_THREAD), .val (.int (1 : Int32))] [(.int (1 : Int32)), (.int (1 : Int32))])) (fun _ k => XS.iloadN X2.here hx rfl (hb hby own_d_method_3_code_44) rfl k) ?_
  refine own_st (T' := T2) (g' := (mkF m 48 #[.val (.int (1 : Int32)), .val (.ref a_THREAD), .val (.int (1 : Int32))] [])) (fun _ k => XS.icmpNo X2.here hx rfl (hb hby own_d_method_3_code_45) rfl (by decide) k) ?_
  refine own_st (T' := T2) (g' := (mkF m 49 #[.val (.int (1 : Int32)), .val (.ref a_THREAD), .val (.int (1 : Int32))] [(.int (1 : Int32))])) (fun _ k => XS.iconst X2.here hx rfl (hb hby own_d_method_3_code_48) k) ?_
  refine own_st (T' := T2) (g' := (mkF m 53 #[.val (.int (1 : Int32)), .val (.ref a_THREAD), .val (.int (1 : Int32))] [(.int (1 : Int32))])) (fun _ k => XS.goto X2.here hx rfl (pc0 := 49) (pc' := 53) rfl (hb hby own_d_method_3_code_49) (by decide) (by decide) k) ?_
  exact own_ret X2 hx hlk hret rfl (Or.inl ⟨rfl, Or.inr (Or.inl rfl), _, rfl⟩) (hb hby own_d_method_3_code_53) (by decide) (by decide) ⟨rfl, rfl, e2⟩
set_option maxRecDepth 65536 in
set_option maxHeartbeats 40000000 in
theorem own_of_3 (l : Launch) (Z : State) (a0 : Array Value) (hw : ∀ d ∈ tables_1, d.before a0 Z = true) (h0 : Heap) (a_BY_CODE : Addr) (a_BUFFERS : Addr) (a_HOLDABLE_CLASS : Addr) (a_UNPARK : Addr) (a_MONITOR_ENTER : Addr) (a_CPU_TIMER : Addr) (a_CLASS : Addr) (a_ALLOC_INTERVAL : Addr) (a_THREAD : Addr) (a_OPTIONS : Addr) (a_END : Addr) (a_STACK : Addr) (a_TIME : Addr) (a_UNDER_WAY : Addr) (a_PARK : Addr) (a_ALLOC_SAMPLE : Addr) (a_SAMPLE : Addr) (a_WALL_SAMPLE : Addr) (a_METHOD : Addr) (a_VIRTUAL_THREAD : Addr) (a_WALL_INTERVAL : Addr) (cl_BY_CODE : Cell) (hE : own_E Z h0 a_BY_CODE a_BUFFERS a_HOLDABLE_CLASS a_UNPARK a_MONITOR_ENTER a_CPU_TIMER a_CLASS a_ALLOC_INTERVAL a_THREAD a_OPTIONS a_END a_STACK a_TIME a_UNDER_WAY a_PARK a_ALLOC_SAMPLE a_SAMPLE a_WALL_SAMPLE a_METHOD a_VIRTUAL_THREAD a_WALL_INTERVAL cl_BY_CODE) :
    own_Pure l Z h0 [] ({ frames := 0, cells := 0, slots := 0, locals := 0 } : Room) (⟨"com/example/tracewell/tracewell/RecordKind", "of", "(I)Lcom/example/tracewell/tracewell/RecordKind;"⟩ : MethodName) prog_60_method_4_code 1 (some (.object "com/example/tracewell/tracewell/RecordKind")) #[(.int (2 : Int32))] (some (.ref a_END)) := by
  refine own_body (plainFor_of_name own_pn_0) ?_
  intro p e s m below meth c T0 X0 hx hby hml hown hZ e0 hret hlk hnm hnamed
  replace hown : s.vm.findClass "com/example/tracewell/tracewell/RecordKind" = some m.cls := hown
  replace hml : c.maxLocals = 1 := hml
  have ef : entryFrame m #[(.int (2 : Int32))] 1 = mkF m 0 #[.val (.int (2 : Int32))] [] := by first | (simp [entryFrame, mkF, argsToLocals, Value.category]; done) | rfl
  rw [ef]
  have S_BY_CODE := own_p_S_BY_CODE hE
  have A_BY_CODE := own_p_A_BY_CODE hE
  have Z_BY_CODE := own_p_Z_BY_CODE hE
  have Y_BY_CODE_2 := own_p_Y_BY_CODE_2 hE
  refine own_st (T' := T0) (g' := (mkF m 1 #[.val (.int (2 : Int32))] [(.int (2 : Int32))])) (fun _ k => XS.iloadN X0.here hx rfl (hb hby own_d_prog_60_method_4_code_0) rfl k) ?_
  refine own_st (T' := T0) (g' := (mkF m 4 #[.val (.int (2 : Int32))] [])) (fun _ k => XS.ifNo X0.here hx rfl (hb hby own_d_prog_60_method_4_code_1) rfl (by decide) k) ?_
  refine own_st (T' := T0) (g' := (mkF m 5 #[.val (.int (2 : Int32))] [(.int (2 : Int32))])) (fun _ k => XS.iloadN X0.here hx rfl (hb hby own_d_prog_60_method_4_code_4) rfl k) ?_
  obtain ⟨T1, X1, e1, st1⟩ := getS2 X0 hx hZ hown (host := "") (Or.inl (hw _ (List.mem_of_getElem? (i := 8) rfl))) Via.refl e0 S_BY_CODE (g := (mkF m 5 #[.val (.int (2 : Int32))] [(.int (2 : Int32))])) rfl (hb hby own_d_prog_60_method_4_code_5)
  refine own_st (T' := T1) (g' := (mkF m 8 #[.val (.int (2 : Int32))] [(.ref a_BY_CODE), (.int (2 : Int32))])) st1 ?_
  refine own_st (T' := T1) (g' := (mkF m 9 #[.val (.int (2 : Int32))] [(.int cl_BY_CODE.slots.size.toInt32), (.int (2 : Int32))])) (fun _ k => X1.arraylength hx (by rw [e1]; exact A_BY_CODE.1) (State.isArrayOf_alike hZ.alike A_BY_CODE.2.1) (g := (mkF m 8 #[.val (.int (2 : Int32))] [(.ref a_BY_CODE), (.int (2 : Int32))])) rfl rfl (hb hby own_d_prog_60_method_4_code_8) _ k) ?_
  rw [len_of Z_BY_CODE (by decide)]
  refine own_st (T' := T1) (g' := (mkF m 12 #[.val (.int (2 : Int32))] [])) (fun _ k => XS.icmpNo X1.here hx rfl (hb hby own_d_prog_60_method_4_code_9) rfl (by decide) k) ?_
  obtain ⟨T2, X2, e2, st2⟩ := getS2 X1 hx hZ hown (host := "") (Or.inl (hw _ (List.mem_of_getElem? (i := 8) rfl))) Via.refl e1 S_BY_CODE (g := (mkF m 12 #[.val (.int (2 : Int32))] [])) rfl (hb hby own_d_prog_60_method_4_code_12)
  refine own_st (T' := T2) (g' := (mkF m 15 #[.val (.int (2 : Int32))] [(.ref a_BY_CODE)])) st2 ?_
  refine own_st (T' := T2) (g' := (mkF m 16 #[.val (.int (2 : Int32))] [(.int (2 : Int32)), (.ref a_BY_CODE)])) (fun _ k => XS.iloadN X2.here hx rfl (hb hby own_d_prog_60_method_4_code_15) rfl k) ?_
  refine own_st (T' := T2) (g' := (mkF m 17 #[.val (.int (2 : Int32))] [(.ref a_END)])) (fun _ k => X2.aaload hx (j := (2 : Int32)) (v := (.ref a_END)) (by rw [e2]; exact A_BY_CODE.1) (State.isArrayOf_alike hZ.alike A_BY_CODE.2.1) rfl A_BY_CODE.2.2 (inb_of Z_BY_CODE ⟨by decide, by decide⟩) Y_BY_CODE_2 (g := (mkF m 16 #[.val (.int (2 : Int32))] [(.int (2 : Int32)), (.ref a_BY_CODE)])) rfl rfl (hb hby own_d_prog_60_method_4_code_16) _ k) ?_
  refine own_st (T' := T2) (g' := (mkF m 21 #[.val (.int (2 : Int32))] [(.ref a_END)])) (fun _ k => XS.goto X2.here hx rfl (pc0 := 17) (pc' := 21) rfl (hb hby own_d_prog_60_method_4_code_17) (by decide) (by decide) k) ?_
  exact own_ret X2 hx hlk hret rfl (Or.inr (Or.inr (Or.inr (Or.inr ⟨rfl, rfl, rfl⟩)))) (hb hby own_d_prog_60_method_4_code_21) (by decide) (by decide) ⟨rfl, rfl, e2⟩
set_option maxRecDepth 65536 in
set_option maxHeartbeats 40000000 in
theorem own_code_4 (l : Launch) (Z : State) (a0 : Array Value) (hw : ∀ d ∈ tables_1, d.before a0 Z = true) (h0 : Heap) (a_BY_CODE : Addr) (a_BUFFERS : Addr) (a_HOLDABLE_CLASS : Addr) (a_UNPARK : Addr) (a_MONITOR_ENTER : Addr) (a_CPU_TIMER : Addr) (a_CLASS : Addr) (a_ALLOC_INTERVAL : Addr) (a_THREAD : Addr) (a_OPTIONS : Addr) (a_END : Addr) (a_STACK : Addr) (a_TIME : Addr) (a_UNDER_WAY : Addr) (a_PARK : Addr) (a_ALLOC_SAMPLE : Addr) (a_SAMPLE : Addr) (a_WALL_SAMPLE : Addr) (a_METHOD : Addr) (a_VIRTUAL_THREAD : Addr) (a_WALL_INTERVAL : Addr) (cl_BY_CODE : Cell) (hE : own_E Z h0 a_BY_CODE a_BUFFERS a_HOLDABLE_CLASS a_UNPARK a_MONITOR_ENTER a_CPU_TIMER a_CLASS a_ALLOC_INTERVAL a_THREAD a_OPTIONS a_END a_STACK a_TIME a_UNDER_WAY a_PARK a_ALLOC_SAMPLE a_SAMPLE a_WALL_SAMPLE a_METHOD a_VIRTUAL_THREAD a_WALL_INTERVAL cl_BY_CODE) :
    own_Pure l Z h0 [] ({ frames := 0, cells := 0, slots := 0, locals := 0 } : Room) (⟨"com/example/tracewell/tracewell/RecordKind", "code", "()I"⟩ : MethodName) prog_60_method_6_code 1 (some .int) #[(.ref a_END)] (some (.int (2 : Int32))) := by
  refine own_body (plainFor_of_name own_pn_0) ?_
  intro p e s m below meth c T0 X0 hx hby hml hown hZ e0 hret hlk hnm hnamed
  replace hown : s.vm.findClass "com/example/tracewell/tracewell/RecordKind" = some m.cls := hown
  replace hml : c.maxLocals = 1 := hml
  have ef : entryFrame m #[(.ref a_END)] 1 = mkF m 0 #[.val (.ref a_END)] [] := by first | (simp [entryFrame, mkF, argsToLocals, Value.category]; done) | rfl
  rw [ef]
  have F_END_code := own_p_F_END_code hE
  refine own_st (T' := T0) (g' := (mkF m 1 #[.val (.ref a_END)] [(.ref a_END)])) (fun _ k => XS.aloadN X0.here hx rfl (hb hby own_d_prog_60_method_6_code_0) rfl rfl k) ?_
  obtain ⟨T1, X1, e1, st1⟩ := getF X0 hx hZ hown (host := "") (Or.inl (hw _ (List.mem_of_getElem? (i := 16) rfl))) Via.refl e0 F_END_code (g := (mkF m 1 #[.val (.ref a_END)] [(.ref a_END)])) rfl rfl (hb hby own_d_prog_60_method_6_code_1)
  refine own_st (T' := T1) (g' := (mkF m 4 #[.val (.ref a_END)] [(.int (2 : Int32))])) st1 ?_
  exact own_ret X1 hx hlk hret rfl (Or.inl ⟨rfl, Or.inl rfl, _, rfl⟩) (hb hby own_d_prog_60_method_6_code_4) (by decide) (by decide) ⟨rfl, rfl, e1⟩
set_option maxRecDepth 65536 in
set_option maxHeartbeats 40000000 in
theorem own_check_2 (l : Launch) (Z : State) (a0 : Array Value) (hw : ∀ d ∈ tables_1, d.before a0 Z = true) (h0 : Heap) (a_BY_CODE : Addr) (a_BUFFERS : Addr) (a_HOLDABLE_CLASS : Addr) (a_UNPARK : Addr) (a_MONITOR_ENTER : Addr) (a_CPU_TIMER : Addr) (a_CLASS : Addr) (a_ALLOC_INTERVAL : Addr) (a_THREAD : Addr) (a_OPTIONS : Addr) (a_END : Addr) (a_STACK : Addr) (a_TIME : Addr) (a_UNDER_WAY : Addr) (a_PARK : Addr) (a_ALLOC_SAMPLE : Addr) (a_SAMPLE : Addr) (a_WALL_SAMPLE : Addr) (a_METHOD : Addr) (a_VIRTUAL_THREAD : Addr) (a_WALL_INTERVAL : Addr) (cl_BY_CODE : Cell) (hE : own_E Z h0 a_BY_CODE a_BUFFERS a_HOLDABLE_CLASS a_UNPARK a_MONITOR_ENTER a_CPU_TIMER a_CLASS a_ALLOC_INTERVAL a_THREAD a_OPTIONS a_END a_STACK a_TIME a_UNDER_WAY a_PARK a_ALLOC_SAMPLE a_SAMPLE a_WALL_SAMPLE a_METHOD a_VIRTUAL_THREAD a_WALL_INTERVAL cl_BY_CODE) :
    own_Pure l Z h0 [] ({ frames := 1, cells := 0, slots := 0, locals := 12 } : Room) (⟨"com/example/tracewell/tracewell/RecordKindOfPinLaw", "check", "(I)Z"⟩ : MethodName) method_3_code 3 (some .boolean) #[(.int (2 : Int32))] (some (.int (1 : Int32))) := by
  refine own_body (plainFor_of_name own_pn_1) ?_
  intro p e s m below meth c T0 X0 hx hby hml hown hZ e0 hret hlk hnm hnamed
  replace hown : s.vm.findClass "com/example/tracewell/tracewell/RecordKindOfPinLaw" = some m.cls := hown
  replace hml : c.maxLocals = 3 := hml
  have ef : entryFrame m #[(.int (2 : Int32))] 3 = mkF m 0 #[.val (.int (2 : Int32)), .unset, .unset] [] := by first | (simp [entryFrame, mkF, argsToLocals, Value.category]; done) | rfl
  rw [ef]
  have E_END := own_p_E_END hE
  refine own_st (T' := T0) (g' := (mkF m 1 #[.val (.int (2 : Int32)), .unset, .unset] [(.int (2 : Int32))])) (fun _ k => XS.iloadN X0.here hx rfl (hb hby own_d_method_3_code_0) rfl k) ?_
  obtain ⟨T1, X1, e1, st1⟩ := own_pure (w := (.ref a_END)) rfl rfl (own_gS X0 hx hZ hown (hw _ (List.mem_of_getElem? (i := 4) rfl)) (hw _ (List.mem_of_getElem? (i := 5) rfl)) (hw _ (List.mem_of_getElem? (i := 6) rfl)) (hw _ (List.mem_of_getElem? (i := 7) rfl)) (by decide) e0 (own_of_3 l Z a0 hw h0 a_BY_CODE a_BUFFERS a_HOLDABLE_CLASS a_UNPARK a_MONITOR_ENTER a_CPU_TIMER a_CLASS a_ALLOC_INTERVAL a_THREAD a_OPTIONS a_END a_STACK a_TIME a_UNDER_WAY a_PARK a_ALLOC_SAMPLE a_SAMPLE a_WALL_SAMPLE a_METHOD a_VIRTUAL_THREAD a_WALL_INTERVAL cl_BY_CODE hE) (by decide) (by decide) (by decide) (by decide) (Q := fun v h L => v = some (.ref a_END) ∧ L = [] ∧ h = h0) (W := 0) (g := (mkF m 1 #[.val (.int (2 : Int32)), .unset, .unset] [(.int (2 : Int32))])) (argsL := [(.int (2 : Int32))]) (rest := []) rfl (by rw [hml]; rfl) (lenOf own_pd_0 rfl) rfl (by show 2 * 0 + _ ≤ _; exact Nat.le_of_eq rfl) (hb hby own_d_method_3_code_1))
  refine own_st (T' := T1) (g' := (mkF m 4 #[.val (.int (2 : Int32)), .unset, .unset] [(.ref a_END)])) st1 ?_
  refine own_st (T' := T1) (g' := (mkF m 5 #[.val (.int (2 : Int32)), .val (.ref a_END), .unset] [])) (fun _ k => XS.astoreN X1.here hx rfl (hb hby own_d_method_3_code_4) rfl rfl (l' := #[.val (.int (2 : Int32)), .val (.ref a_END), .unset]) rfl k) ?_
  refine own_st (T' := T1) (g' := (mkF m 6 #[.val (.int (2 : Int32)), .val (.ref a_END), .unset] [(.int (2 : Int32))])) (fun _ k => XS.iloadN X1.here hx rfl (hb hby own_d_method_3_code_5) rfl k) ?_
  refine own_st (T' := T1) (g' := (mkF m 7 #[.val (.int (2 : Int32)), .val (.ref a_END), .unset] [(.int (1 : Int32)), (.int (2 : Int32))])) (fun _ k => XS.iconst X1.here hx rfl (hb hby own_d_method_3_code_6) k) ?_
  refine own_st (T' := T1) (g' := (mkF m 10 #[.val (.int (2 : Int32)), .val (.ref a_END), .unset] [])) (fun _ k => XS.icmpNo X1.here hx rfl (hb hby own_d_method_3_code_7) rfl (by decide) k) ?_
  refine own_st (T' := T1) (g' := (mkF m 11 #[.val (.int (2 : Int32)), .val (.ref a_END), .unset] [(.int (2 : Int32))])) (fun _ k => XS.iloadN X1.here hx rfl (hb hby own_d_method_3_code_10) rfl k) ?_
  refine own_st (T' := T1) (g' := (mkF m 13 #[.val (.int (2 : Int32)), .val (.ref a_END), .unset] [(.int (20 : Int32)), (.int (2 : Int32))])) (fun _ k => XS.bipush X1.here hx rfl (hb hby own_d_method_3_code_11) k) ?_
  refine own_st (T' := T1) (g' := (mkF m 16 #[.val (.int (2 : Int32)), .val (.ref a_END), .unset] [])) (fun _ k => XS.icmpNo X1.here hx rfl (hb hby own_d_method_3_code_13) rfl (by decide) k) ?_
  refine own_st (T' := T1) (g' := (mkF m 17 #[.val (.int (2 : Int32)), .val (.ref a_END), .unset] [(.int (1 : Int32))])) (fun _ k => XS.iconst X1.here hx rfl (hb hby own_d_method_3_code_16) k) ?_
  refine own_st (T' := T1) (g' := (mkF m 21 #[.val (.int (2 : Int32)), .val (.ref a_END), .unset] [(.int (1 : Int32))])) (fun _ k => XS.goto X1.here hx rfl (pc0 := 17) (pc' := 21) rfl (hb hby own_d_method_3_code_17) (by decide) (by decide) k) ?_
  refine own_st (T' := T1) (g' := (mkF m 22 #[.val (.int (2 : Int32)), .val (.ref a_END), .val (.int (1 : Int32))] [])) (fun _ k => XS.istoreN X1.here hx rfl (hb hby own_d_method_3_code_21) rfl (l' := #[.val (.int (2 : Int32)), .val (.ref a_END), .val (.int (1 : Int32))]) rfl k) ?_
  refine own_st (T' := T1) (g' := (mkF m 23 #[.val (.int (2 : Int32)), .val (.ref a_END), .val (.int (1 : Int32))] [(.int (1 : Int32))])) (fun _ k => XS.iloadN X1.here hx rfl (hb hby own_d_method_3_code_22) rfl k) ?_
  refine own_st (T' := T1) (g' := (mkF m 36 #[.val (.int (2 : Int32)), .val (.ref a_END), .val (.int (1 : Int32))] [])) (fun _ k => XS.ifYes X1.here hx rfl (pc0 := 23) (pc' := 36) rfl (hb hby own_d_method_3_code_23) rfl (by decide) (by decide) (by decide) k) ?_
  refine own_st (T' := T1) (g' := (mkF m 37 #[.val (.int (2 : Int32)), .val (.ref a_END), .val (.int (1 : Int32))] [(.ref a_END)])) (fun _ k => XS.aloadN X1.here hx rfl (hb hby own_d_method_3_code_36) rfl rfl k) ?_
  refine own_st (T' := T1) (g' := (mkF m 40 #[.val (.int (2 : Int32)), .val (.ref a_END), .val (.int (1 : Int32))] [])) (fun _ k => XS.ifnullNo X1.here hx rfl (hb hby own_d_method_3_code_37) rfl k) ?_
  refine own_st (T' := T1) (g' := (mkF m 41 #[.val (.int (2 : Int32)), .val (.ref a_END), .val (.int (1 : Int32))] [(.ref a_END)])) (fun _ k => XS.aloadN X1.here hx rfl (hb hby own_d_method_3_code_40) rfl rfl k) ?_
  obtain ⟨T2, X2, e2, st2⟩ := own_pure (w := (.int (2 : Int32))) rfl rfl (own_gV X1 hx hZ hown (hw _ (List.mem_of_getElem? (i := 11) rfl)) (hw _ (List.mem_of_getElem? (i := 12) rfl)) (notFace_of_selects (args := #[]) (mvT hZ (hw _ (List.mem_of_getElem? (i := 14) rfl)))) (hw _ (List.mem_of_getElem? (i := 14) rfl)) (hw _ (List.mem_of_getElem? (i := 13) rfl)) (hw _ (List.mem_of_getElem? (i := 6) rfl)) (hw _ (List.mem_of_getElem? (i := 15) rfl)) (by decide) e1 E_END (own_code_4 l Z a0 hw h0 a_BY_CODE a_BUFFERS a_HOLDABLE_CLASS a_UNPARK a_MONITOR_ENTER a_CPU_TIMER a_CLASS a_ALLOC_INTERVAL a_THREAD a_OPTIONS a_END a_STACK a_TIME a_UNDER_WAY a_PARK a_ALLOC_SAMPLE a_SAMPLE a_WALL_SAMPLE a_METHOD a_VIRTUAL_THREAD a_WALL_INTERVAL cl_BY_CODE hE) (by decide) (by decide) (by decide) (by decide) (Q := fun v h L => v = some (.int (2 : Int32)) ∧ L = [] ∧ h = h0) (W := 0) (g := (mkF m 41 #[.val (.int (2 : Int32)), .val (.ref a_END), .val (.int (1 : Int32))] [(.ref a_END)])) (argsL := []) (rest := []) rfl (by rw [hml]; rfl) (lenOf own_pd_1 rfl) rfl (by show 2 * 0 + _ ≤ _; exact Nat.le_of_eq rfl) (hb hby own_d_method_3_code_41))
  refine own_st (T' := T2) (g' := (mkF m 44 #[.val (.int (2 : Int32)), .val (.ref a_END), .val (.int (1 : Int32))] [(.int (2 : Int32))])) st2 ?_
  refine own_st (T' := T2) (g' := (mkF m 45 #[.val (.int (2 : Int32)), .val (.ref a_END), .val (.int (1 : Int32))] [(.int (2 : Int32)), (.int (2 : Int32))])) (fun _ k => XS.iloadN X2.here hx rfl (hb hby own_d_method_3_code_44) rfl k) ?_
  refine own_st (T' := T2) (g' := (mkF m 48 #[.val (.int (2 : Int32)), .val (.ref a_END), .val (.int (1 : Int32))] [])) (fun _ k => XS.icmpNo X2.here hx rfl (hb hby own_d_method_3_code_45) rfl (by decide) k) ?_
  refine own_st (T' := T2) (g' := (mkF m 49 #[.val (.int (2 : Int32)), .val (.ref a_END), .val (.int (1 : Int32))] [(.int (1 : Int32))])) (fun _ k => XS.iconst X2.here hx rfl (hb hby own_d_method_3_code_48) k) ?_
  refine own_st (T' := T2) (g' := (mkF m 53 #[.val (.int (2 : Int32)), .val (.ref a_END), .val (.int (1 : Int32))] [(.int (1 : Int32))])) (fun _ k => XS.goto X2.here hx rfl (pc0 := 49) (pc' := 53) rfl (hb hby own_d_method_3_code_49) (by decide) (by decide) k) ?_
  exact own_ret X2 hx hlk hret rfl (Or.inl ⟨rfl, Or.inr (Or.inl rfl), _, rfl⟩) (hb hby own_d_method_3_code_53) (by decide) (by decide) ⟨rfl, rfl, e2⟩
set_option maxRecDepth 65536 in
set_option maxHeartbeats 40000000 in
theorem own_of_5 (l : Launch) (Z : State) (a0 : Array Value) (hw : ∀ d ∈ tables_1, d.before a0 Z = true) (h0 : Heap) (a_BY_CODE : Addr) (a_BUFFERS : Addr) (a_HOLDABLE_CLASS : Addr) (a_UNPARK : Addr) (a_MONITOR_ENTER : Addr) (a_CPU_TIMER : Addr) (a_CLASS : Addr) (a_ALLOC_INTERVAL : Addr) (a_THREAD : Addr) (a_OPTIONS : Addr) (a_END : Addr) (a_STACK : Addr) (a_TIME : Addr) (a_UNDER_WAY : Addr) (a_PARK : Addr) (a_ALLOC_SAMPLE : Addr) (a_SAMPLE : Addr) (a_WALL_SAMPLE : Addr) (a_METHOD : Addr) (a_VIRTUAL_THREAD : Addr) (a_WALL_INTERVAL : Addr) (cl_BY_CODE : Cell) (hE : own_E Z h0 a_BY_CODE a_BUFFERS a_HOLDABLE_CLASS a_UNPARK a_MONITOR_ENTER a_CPU_TIMER a_CLASS a_ALLOC_INTERVAL a_THREAD a_OPTIONS a_END a_STACK a_TIME a_UNDER_WAY a_PARK a_ALLOC_SAMPLE a_SAMPLE a_WALL_SAMPLE a_METHOD a_VIRTUAL_THREAD a_WALL_INTERVAL cl_BY_CODE) :
    own_Pure l Z h0 [] ({ frames := 0, cells := 0, slots := 0, locals := 0 } : Room) (⟨"com/example/tracewell/tracewell/RecordKind", "of", "(I)Lcom/example/tracewell/tracewell/RecordKind;"⟩ : MethodName) prog_60_method_4_code 1 (some (.object "com/example/tracewell/tracewell/RecordKind")) #[(.int (3 : Int32))] (some (.ref a_CLASS)) := by
  refine own_body (plainFor_of_name own_pn_0) ?_
  intro p e s m below meth c T0 X0 hx hby hml hown hZ e0 hret hlk hnm hnamed
  replace hown : s.vm.findClass "com/example/tracewell/tracewell/RecordKind" = some m.cls := hown
  replace hml : c.maxLocals = 1 := hml
  have ef : entryFrame m #[(.int (3 : Int32))] 1 = mkF m 0 #[.val (.int (3 : Int32))] [] := by first | (simp [entryFrame, mkF, argsToLocals, Value.category]; done) | rfl
  rw [ef]
  have S_BY_CODE := own_p_S_BY_CODE hE
  have A_BY_CODE := own_p_A_BY_CODE hE
  have Z_BY_CODE := own_p_Z_BY_CODE hE
  have Y_BY_CODE_3 := own_p_Y_BY_CODE_3 hE
  refine own_st (T' := T0) (g' := (mkF m 1 #[.val (.int (3 : Int32))] [(.int (3 : Int32))])) (fun _ k => XS.iloadN X0.here hx rfl (hb hby own_d_prog_60_method_4_code_0) rfl k) ?_
  refine own_st (T' := T0) (g' := (mkF m 4 #[.val (.int (3 : Int32))] [])) (fun _ k => XS.ifNo X0.here hx rfl (hb hby own_d_prog_60_method_4_code_1) rfl (by decide) k) ?_
  refine own_st (T' := T0) (g' := (mkF m 5 #[.val (.int (3 : Int32))] [(.int (3 : Int32))])) (fun _ k => XS.iloadN X0.here hx rfl (hb hby own_d_prog_60_method_4_code_4) rfl k) ?_
  obtain ⟨T1, X1, e1, st1⟩ := getS2 X0 hx hZ hown (host := "") (Or.inl (hw _ (List.mem_of_getElem? (i := 8) rfl))) Via.refl e0 S_BY_CODE (g := (mkF m 5 #[.val (.int (3 : Int32))] [(.int (3 : Int32))])) rfl (hb hby own_d_prog_60_method_4_code_5)
  refine own_st (T' := T1) (g' := (mkF m 8 #[.val (.int (3 : Int32))] [(.ref a_BY_CODE), (.int (3 : Int32))])) st1 ?_
  refine own_st (T' := T1) (g' := (mkF m 9 #[.val (.int (3 : Int32))] [(.int cl_BY_CODE.slots.size.toInt32), (.int (3 : Int32))])) (fun _ k => X1.arraylength hx (by rw [e1]; exact A_BY_CODE.1) (State.isArrayOf_alike hZ.alike A_BY_CODE.2.1) (g := (mkF m 8 #[.val (.int (3 : Int32))] [(.ref a_BY_CODE), (.int (3 : Int32))])) rfl rfl (hb hby own_d_prog_60_method_4_code_8) _ k) ?_
  rw [len_of Z_BY_CODE (by decide)]
  refine own_st (T' := T1) (g' := (mkF m 12 #[.val (.int (3 : Int32))] [])) (fun _ k => XS.icmpNo X1.here hx rfl (hb hby own_d_prog_60_method_4_code_9) rfl (by decide) k) ?_
  obtain ⟨T2, X2, e2, st2⟩ := getS2 X1 hx hZ hown (host := "") (Or.inl (hw _ (List.mem_of_getElem? (i := 8) rfl))) Via.refl e1 S_BY_CODE (g := (mkF m 12 #[.val (.int (3 : Int32))] [])) rfl (hb hby own_d_prog_60_method_4_code_12)
  refine own_st (T' := T2) (g' := (mkF m 15 #[.val (.int (3 : Int32))] [(.ref a_BY_CODE)])) st2 ?_
  refine own_st (T' := T2) (g' := (mkF m 16 #[.val (.int (3 : Int32))] [(.int (3 : Int32)), (.ref a_BY_CODE)])) (fun _ k => XS.iloadN X2.here hx rfl (hb hby own_d_prog_60_method_4_code_15) rfl k) ?_
  refine own_st (T' := T2) (g' := (mkF m 17 #[.val (.int (3 : Int32))] [(.ref a_CLASS)])) (fun _ k => X2.aaload hx (j := (3 : Int32)) (v := (.ref a_CLASS)) (by rw [e2]; exact A_BY_CODE.1) (State.isArrayOf_alike hZ.alike A_BY_CODE.2.1) rfl A_BY_CODE.2.2 (inb_of Z_BY_CODE ⟨by decide, by decide⟩) Y_BY_CODE_3 (g := (mkF m 16 #[.val (.int (3 : Int32))] [(.int (3 : Int32)), (.ref a_BY_CODE)])) rfl rfl (hb hby own_d_prog_60_method_4_code_16) _ k) ?_
  refine own_st (T' := T2) (g' := (mkF m 21 #[.val (.int (3 : Int32))] [(.ref a_CLASS)])) (fun _ k => XS.goto X2.here hx rfl (pc0 := 17) (pc' := 21) rfl (hb hby own_d_prog_60_method_4_code_17) (by decide) (by decide) k) ?_
  exact own_ret X2 hx hlk hret rfl (Or.inr (Or.inr (Or.inr (Or.inr ⟨rfl, rfl, rfl⟩)))) (hb hby own_d_prog_60_method_4_code_21) (by decide) (by decide) ⟨rfl, rfl, e2⟩
set_option maxRecDepth 65536 in
set_option maxHeartbeats 40000000 in
theorem own_code_6 (l : Launch) (Z : State) (a0 : Array Value) (hw : ∀ d ∈ tables_1, d.before a0 Z = true) (h0 : Heap) (a_BY_CODE : Addr) (a_BUFFERS : Addr) (a_HOLDABLE_CLASS : Addr) (a_UNPARK : Addr) (a_MONITOR_ENTER : Addr) (a_CPU_TIMER : Addr) (a_CLASS : Addr) (a_ALLOC_INTERVAL : Addr) (a_THREAD : Addr) (a_OPTIONS : Addr) (a_END : Addr) (a_STACK : Addr) (a_TIME : Addr) (a_UNDER_WAY : Addr) (a_PARK : Addr) (a_ALLOC_SAMPLE : Addr) (a_SAMPLE : Addr) (a_WALL_SAMPLE : Addr) (a_METHOD : Addr) (a_VIRTUAL_THREAD : Addr) (a_WALL_INTERVAL : Addr) (cl_BY_CODE : Cell) (hE : own_E Z h0 a_BY_CODE a_BUFFERS a_HOLDABLE_CLASS a_UNPARK a_MONITOR_ENTER a_CPU_TIMER a_CLASS a_ALLOC_INTERVAL a_THREAD a_OPTIONS a_END a_STACK a_TIME a_UNDER_WAY a_PARK a_ALLOC_SAMPLE a_SAMPLE a_WALL_SAMPLE a_METHOD a_VIRTUAL_THREAD a_WALL_INTERVAL cl_BY_CODE) :
    own_Pure l Z h0 [] ({ frames := 0, cells := 0, slots := 0, locals := 0 } : Room) (⟨"com/example/tracewell/tracewell/RecordKind", "code", "()I"⟩ : MethodName) prog_60_method_6_code 1 (some .int) #[(.ref a_CLASS)] (some (.int (3 : Int32))) := by
  refine own_body (plainFor_of_name own_pn_0) ?_
  intro p e s m below meth c T0 X0 hx hby hml hown hZ e0 hret hlk hnm hnamed
  replace hown : s.vm.findClass "com/example/tracewell/tracewell/RecordKind" = some m.cls := hown
  replace hml : c.maxLocals = 1 := hml
  have ef : entryFrame m #[(.ref a_CLASS)] 1 = mkF m 0 #[.val (.ref a_CLASS)] [] := by first | (simp [entryFrame, mkF, argsToLocals, Value.category]; done) | rfl
  rw [ef]
  have F_CLASS_code := own_p_F_CLASS_code hE
  refine own_st (T' := T0) (g' := (mkF m 1 #[.val (.ref a_CLASS)] [(.ref a_CLASS)])) (fun _ k => XS.aloadN X0.here hx rfl (hb hby own_d_prog_60_method_6_code_0) rfl rfl k) ?_
  obtain ⟨T1, X1, e1, st1⟩ := getF X0 hx hZ hown (host := "") (Or.inl (hw _ (List.mem_of_getElem? (i := 16) rfl))) Via.refl e0 F_CLASS_code (g := (mkF m 1 #[.val (.ref a_CLASS)] [(.ref a_CLASS)])) rfl rfl (hb hby own_d_prog_60_method_6_code_1)
  refine own_st (T' := T1) (g' := (mkF m 4 #[.val (.ref a_CLASS)] [(.int (3 : Int32))])) st1 ?_
  exact own_ret X1 hx hlk hret rfl (Or.inl ⟨rfl, Or.inl rfl, _, rfl⟩) (hb hby own_d_prog_60_method_6_code_4) (by decide) (by decide) ⟨rfl, rfl, e1⟩
set_option maxRecDepth 65536 in
set_option maxHeartbeats 40000000 in
theorem own_check_3 (l : Launch) (Z : State) (a0 : Array Value) (hw : ∀ d ∈ tables_1, d.before a0 Z = true) (h0 : Heap) (a_BY_CODE : Addr) (a_BUFFERS : Addr) (a_HOLDABLE_CLASS : Addr) (a_UNPARK : Addr) (a_MONITOR_ENTER : Addr) (a_CPU_TIMER : Addr) (a_CLASS : Addr) (a_ALLOC_INTERVAL : Addr) (a_THREAD : Addr) (a_OPTIONS : Addr) (a_END : Addr) (a_STACK : Addr) (a_TIME : Addr) (a_UNDER_WAY : Addr) (a_PARK : Addr) (a_ALLOC_SAMPLE : Addr) (a_SAMPLE : Addr) (a_WALL_SAMPLE : Addr) (a_METHOD : Addr) (a_VIRTUAL_THREAD : Addr) (a_WALL_INTERVAL : Addr) (cl_BY_CODE : Cell) (hE : own_E Z h0 a_BY_CODE a_BUFFERS a_HOLDABLE_CLASS a_UNPARK a_MONITOR_ENTER a_CPU_TIMER a_CLASS a_ALLOC_INTERVAL a_THREAD a_OPTIONS a_END a_STACK a_TIME a_UNDER_WAY a_PARK a_ALLOC_SAMPLE a_SAMPLE a_WALL_SAMPLE a_METHOD a_VIRTUAL_THREAD a_WALL_INTERVAL cl_BY_CODE) :
    own_Pure l Z h0 [] ({ frames := 1, cells := 0, slots := 0, locals := 12 } : Room) (⟨"com/example/tracewell/tracewell/RecordKindOfPinLaw", "check", "(I)Z"⟩ : MethodName) method_3_code 3 (some .boolean) #[(.int (3 : Int32))] (some (.int (1 : Int32))) := by
  refine own_body (plainFor_of_name own_pn_1) ?_
  intro p e s m below meth c T0 X0 hx hby hml hown hZ e0 hret hlk hnm hnamed
  replace hown : s.vm.findClass "com/example/tracewell/tracewell/RecordKindOfPinLaw" = some m.cls := hown
  replace hml : c.maxLocals = 3 := hml
  have ef : entryFrame m #[(.int (3 : Int32))] 3 = mkF m 0 #[.val (.int (3 : Int32)), .unset, .unset] [] := by first | (simp [entryFrame, mkF, argsToLocals, Value.category]; done) | rfl
  rw [ef]
  have E_CLASS := own_p_E_CLASS hE
  refine own_st (T' := T0) (g' := (mkF m 1 #[.val (.int (3 : Int32)), .unset, .unset] [(.int (3 : Int32))])) (fun _ k => XS.iloadN X0.here hx rfl (hb hby own_d_method_3_code_0) rfl k) ?_
  obtain ⟨T1, X1, e1, st1⟩ := own_pure (w := (.ref a_CLASS)) rfl rfl (own_gS X0 hx hZ hown (hw _ (List.mem_of_getElem? (i := 4) rfl)) (hw _ (List.mem_of_getElem? (i := 5) rfl)) (hw _ (List.mem_of_getElem? (i := 6) rfl)) (hw _ (List.mem_of_getElem? (i := 7) rfl)) (by decide) e0 (own_of_5 l Z a0 hw h0 a_BY_CODE a_BUFFERS a_HOLDABLE_CLASS a_UNPARK a_MONITOR_ENTER a_CPU_TIMER a_CLASS a_ALLOC_INTERVAL a_THREAD a_OPTIONS a_END a_STACK a_TIME a_UNDER_WAY a_PARK a_ALLOC_SAMPLE a_SAMPLE a_WALL_SAMPLE a_METHOD a_VIRTUAL_THREAD a_WALL_INTERVAL cl_BY_CODE hE) (by decide) (by decide) (by decide) (by decide) (Q := fun v h L => v = some (.ref a_CLASS) ∧ L = [] ∧ h = h0) (W := 0) (g := (mkF m 1 #[.val (.int (3 : Int32)), .unset, .unset] [(.int (3 : Int32))])) (argsL := [(.int (3 : Int32))]) (rest := []) rfl (by rw [hml]; rfl) (lenOf own_pd_0 rfl) rfl (by show 2 * 0 + _ ≤ _; exact Nat.le_of_eq rfl) (hb hby own_d_method_3_code_1))
  refine own_st (T' := T1) (g' := (mkF m 4 #[.val (.int (3 : Int32)), .unset, .unset] [(.ref a_CLASS)])) st1 ?_
  refine own_st (T' := T1) (g' := (mkF m 5 #[.val (.int (3 : Int32)), .val (.ref a_CLASS), .unset] [])) (fun _ k => XS.astoreN X1.here hx rfl (hb hby own_d_method_3_code_4) rfl rfl (l' := #[.val (.int (3 : Int32)), .val (.ref a_CLASS), .unset]) rfl k) ?_
  refine own_st (T' := T1) (g' := (mkF m 6 #[.val (.int (3 : Int32)), .val (.ref a_CLASS), .unset] [(.int (3 : Int32))])) (fun _ k => XS.iloadN X1.here hx rfl (hb hby own_d_method_3_code_5) rfl k) ?_
  refine own_st (T' := T1) (g' := (mkF m 7 #[.val (.int (3 : Int32)), .val (.ref a_CLASS), .unset] [(.int (1 : Int32)), (.int (3 : Int32))])) (fun _ k => XS.iconst X1.here hx rfl (hb hby own_d_method_3_code_6) k) ?_
  refine own_st (T' := T1) (g' := (mkF m 10 #[.val (.int (3 : Int32)), .val (.ref a_CLASS), .unset] [])) (fun _ k => XS.icmpNo X1.here hx rfl (hb hby own_d_method_3_code_7) rfl (by decide) k) ?_
  refine own_st (T' := T1) (g' := (mkF m 11 #[.val (.int (3 : Int32)), .val (.ref a_CLASS), .unset] [(.int (3 : Int32))])) (fun _ k => XS.iloadN X1.here hx rfl (hb hby own_d_method_3_code_10) rfl k) ?_
  refine own_st (T' := T1) (g' := (mkF m 13 #[.val (.int (3 : Int32)), .val (.ref a_CLASS), .unset] [(.int (20 : Int32)), (.int (3 : Int32))])) (fun _ k => XS.bipush X1.here hx rfl (hb hby own_d_method_3_code_11) k) ?_
  refine own_st (T' := T1) (g' := (mkF m 16 #[.val (.int (3 : Int32)), .val (.ref a_CLASS), .unset] [])) (fun _ k => XS.icmpNo X1.here hx rfl (hb hby own_d_method_3_code_13) rfl (by decide) k) ?_
  refine own_st (T' := T1) (g' := (mkF m 17 #[.val (.int (3 : Int32)), .val (.ref a_CLASS), .unset] [(.int (1 : Int32))])) (fun _ k => XS.iconst X1.here hx rfl (hb hby own_d_method_3_code_16) k) ?_
  refine own_st (T' := T1) (g' := (mkF m 21 #[.val (.int (3 : Int32)), .val (.ref a_CLASS), .unset] [(.int (1 : Int32))])) (fun _ k => XS.goto X1.here hx rfl (pc0 := 17) (pc' := 21) rfl (hb hby own_d_method_3_code_17) (by decide) (by decide) k) ?_
  refine own_st (T' := T1) (g' := (mkF m 22 #[.val (.int (3 : Int32)), .val (.ref a_CLASS), .val (.int (1 : Int32))] [])) (fun _ k => XS.istoreN X1.here hx rfl (hb hby own_d_method_3_code_21) rfl (l' := #[.val (.int (3 : Int32)), .val (.ref a_CLASS), .val (.int (1 : Int32))]) rfl k) ?_
  refine own_st (T' := T1) (g' := (mkF m 23 #[.val (.int (3 : Int32)), .val (.ref a_CLASS), .val (.int (1 : Int32))] [(.int (1 : Int32))])) (fun _ k => XS.iloadN X1.here hx rfl (hb hby own_d_method_3_code_22) rfl k) ?_
  refine own_st (T' := T1) (g' := (mkF m 36 #[.val (.int (3 : Int32)), .val (.ref a_CLASS), .val (.int (1 : Int32))] [])) (fun _ k => XS.ifYes X1.here hx rfl (pc0 := 23) (pc' := 36) rfl (hb hby own_d_method_3_code_23) rfl (by decide) (by decide) (by decide) k) ?_
  refine own_st (T' := T1) (g' := (mkF m 37 #[.val (.int (3 : Int32)), .val (.ref a_CLASS), .val (.int (1 : Int32))] [(.ref a_CLASS)])) (fun _ k => XS.aloadN X1.here hx rfl (hb hby own_d_method_3_code_36) rfl rfl k) ?_
  refine own_st (T' := T1) (g' := (mkF m 40 #[.val (.int (3 : Int32)), .val (.ref a_CLASS), .val (.int (1 : Int32))] [])) (fun _ k => XS.ifnullNo X1.here hx rfl (hb hby own_d_method_3_code_37) rfl k) ?_
  refine own_st (T' := T1) (g' := (mkF m 41 #[.val (.int (3 : Int32)), .val (.ref a_CLASS), .val (.int (1 : Int32))] [(.ref a_CLASS)])) (fun _ k => XS.aloadN X1.here hx rfl (hb hby own_d_method_3_code_40) rfl rfl k) ?_
  obtain ⟨T2, X2, e2, st2⟩ := own_pure (w := (.int (3 : Int32))) rfl rfl (own_gV X1 hx hZ hown (hw _ (List.mem_of_getElem? (i := 11) rfl)) (hw _ (List.mem_of_getElem? (i := 12) rfl)) (notFace_of_selects (args := #[]) (mvT hZ (hw _ (List.mem_of_getElem? (i := 14) rfl)))) (hw _ (List.mem_of_getElem? (i := 14) rfl)) (hw _ (List.mem_of_getElem? (i := 13) rfl)) (hw _ (List.mem_of_getElem? (i := 6) rfl)) (hw _ (List.mem_of_getElem? (i := 15) rfl)) (by decide) e1 E_CLASS (own_code_6 l Z a0 hw h0 a_BY_CODE a_BUFFERS a_HOLDABLE_CLASS a_UNPARK a_MONITOR_ENTER a_CPU_TIMER a_CLASS a_ALLOC_INTERVAL a_THREAD a_OPTIONS a_END a_STACK a_TIME a_UNDER_WAY a_PARK a_ALLOC_SAMPLE a_SAMPLE a_WALL_SAMPLE a_METHOD a_VIRTUAL_THREAD a_WALL_INTERVAL cl_BY_CODE hE) (by decide) (by decide) (by decide) (by decide) (Q := fun v h L => v = some (.int (3 : Int32)) ∧ L = [] ∧ h = h0) (W := 0) (g := (mkF m 41 #[.val (.int (3 : Int32)), .val (.ref a_CLASS), .val (.int (1 : Int32))] [(.ref a_CLASS)])) (argsL := []) (rest := []) rfl (by rw [hml]; rfl) (lenOf own_pd_1 rfl) rfl (by show 2 * 0 + _ ≤ _; exact Nat.le_of_eq rfl) (hb hby own_d_method_3_code_41))
  refine own_st (T' := T2) (g' := (mkF m 44 #[.val (.int (3 : Int32)), .val (.ref a_CLASS), .val (.int (1 : Int32))] [(.int (3 : Int32))])) st2 ?_
  refine own_st (T' := T2) (g' := (mkF m 45 #[.val (.int (3 : Int32)), .val (.ref a_CLASS), .val (.int (1 : Int32))] [(.int (3 : Int32)), (.int (3 : Int32))])) (fun _ k => XS.iloadN X2.here hx rfl (hb hby own_d_method_3_code_44) rfl k) ?_
  refine own_st (T' := T2) (g' := (mkF m 48 #[.val (.int (3 : Int32)), .val (.ref a_CLASS), .val (.int (1 : Int32))] [])) (fun _ k => XS.icmpNo X2.here hx rfl (hb hby own_d_method_3_code_45) rfl (by decide) k) ?_
  refine own_st (T' := T2) (g' := (mkF m 49 #[.val (.int (3 : Int32)), .val (.ref a_CLASS), .val (.int (1 : Int32))] [(.int (1 : Int32))])) (fun _ k => XS.iconst X2.here hx rfl (hb hby own_d_method_3_code_48) k) ?_
  refine own_st (T' := T2) (g' := (mkF m 53 #[.val (.int (3 : Int32)), .val (.ref a_CLASS), .val (.int (1 : Int32))] [(.int (1 : Int32))])) (fun _ k => XS.goto X2.here hx rfl (pc0 := 49) (pc' := 53) rfl (hb hby own_d_method_3_code_49) (by decide) (by decide) k) ?_
  exact own_ret X2 hx hlk hret rfl (Or.inl ⟨rfl, Or.inr (Or.inl rfl), _, rfl⟩) (hb hby own_d_method_3_code_53) (by decide) (by decide) ⟨rfl, rfl, e2⟩
set_option maxRecDepth 65536 in
set_option maxHeartbeats 40000000 in
theorem own_of_7 (l : Launch) (Z : State) (a0 : Array Value) (hw : ∀ d ∈ tables_1, d.before a0 Z = true) (h0 : Heap) (a_BY_CODE : Addr) (a_BUFFERS : Addr) (a_HOLDABLE_CLASS : Addr) (a_UNPARK : Addr) (a_MONITOR_ENTER : Addr) (a_CPU_TIMER : Addr) (a_CLASS : Addr) (a_ALLOC_INTERVAL : Addr) (a_THREAD : Addr) (a_OPTIONS : Addr) (a_END : Addr) (a_STACK : Addr) (a_TIME : Addr) (a_UNDER_WAY : Addr) (a_PARK : Addr) (a_ALLOC_SAMPLE : Addr) (a_SAMPLE : Addr) (a_WALL_SAMPLE : Addr) (a_METHOD : Addr) (a_VIRTUAL_THREAD : Addr) (a_WALL_INTERVAL : Addr) (cl_BY_CODE : Cell) (hE : own_E Z h0 a_BY_CODE a_BUFFERS a_HOLDABLE_CLASS a_UNPARK a_MONITOR_ENTER a_CPU_TIMER a_CLASS a_ALLOC_INTERVAL a_THREAD a_OPTIONS a_END a_STACK a_TIME a_UNDER_WAY a_PARK a_ALLOC_SAMPLE a_SAMPLE a_WALL_SAMPLE a_METHOD a_VIRTUAL_THREAD a_WALL_INTERVAL cl_BY_CODE) :
    own_Pure l Z h0 [] ({ frames := 0, cells := 0, slots := 0, locals := 0 } : Room) (⟨"com/example/tracewell/tracewell/RecordKind", "of", "(I)Lcom/example/tracewell/tracewell/RecordKind;"⟩ : MethodName) prog_60_method_4_code 1 (some (.object "com/example/tracewell/tracewell/RecordKind")) #[(.int (4 : Int32))] (some (.ref a_METHOD)) := by
  refine own_body (plainFor_of_name own_pn_0) ?_
  intro p e s m below meth c T0 X0 hx hby hml hown hZ e0 hret hlk hnm hnamed
  replace hown : s.vm.findClass "com/example/tracewell/tracewell/RecordKind" = some m.cls := hown
  replace hml : c.maxLocals = 1 := hml
  have ef : entryFrame m #[(.int (4 : Int32))] 1 = mkF m 0 #[.val (.int (4 : Int32))] [] := by first | (simp [entryFrame, mkF, argsToLocals, Value.category]; done) | rfl
  rw [ef]
  have S_BY_CODE := own_p_S_BY_CODE hE
  have A_BY_CODE := own_p_A_BY_CODE hE
  have Z_BY_CODE := own_p_Z_BY_CODE hE
  have Y_BY_CODE_4 := own_p_Y_BY_CODE_4 hE
  refine own_st (T' := T0) (g' := (mkF m 1 #[.val (.int (4 : Int32))] [(.int (4 : Int32))])) (fun _ k => XS.iloadN X0.here hx rfl (hb hby own_d_prog_60_method_4_code_0) rfl k) ?_
  refine own_st (T' := T0) (g' := (mkF m 4 #[.val (.int (4 : Int32))] [])) (fun _ k => XS.ifNo X0.here hx rfl (hb hby own_d_prog_60_method_4_code_1) rfl (by decide) k) ?_
  refine own_st (T' := T0) (g' := (mkF m 5 #[.val (.int (4 : Int32))] [(.int (4 : Int32))])) (fun _ k => XS.iloadN X0.here hx rfl (hb hby own_d_prog_60_method_4_code_4) rfl k) ?_
  obtain ⟨T1, X1, e1, st1⟩ := getS2 X0 hx hZ hown (host := "") (Or.inl (hw _ (List.mem_of_getElem? (i := 8) rfl))) Via.refl e0 S_BY_CODE (g := (mkF m 5 #[.val (.int (4 : Int32))] [(.int (4 : Int32))])) rfl (hb hby own_d_prog_60_method_4_code_5)
  refine own_st (T' := T1) (g' := (mkF m 8 #[.val (.int (4 : Int32))] [(.ref a_BY_CODE), (.int (4 : Int32))])) st1 ?_
  refine own_st (T' := T1) (g' := (mkF m 9 #[.val (.int (4 : Int32))] [(.int cl_BY_CODE.slots.size.toInt32), (.int (4 : Int32))])) (fun _ k => X1.arraylength hx (by rw [e1]; exact A_BY_CODE.1) (State.isArrayOf_alike hZ.alike A_BY_CODE.2.1) (g := (mkF m 8 #[.val (.int (4 : Int32))] [(.ref a_BY_CODE), (.int (4 : Int32))])) rfl rfl (hb hby own_d_prog_60_method_4_code_8) _ k) ?_
  rw [len_of Z_BY_CODE (by decide)]
  refine own_st (T' := T1) (g' := (mkF m 12 #[.val (.int (4 : Int32))] [])) (fun _ k => XS.icmpNo X1.here hx rfl (hb hby own_d_prog_60_method_4_code_9) rfl (by decide) k) ?_
  obtain ⟨T2, X2, e2, st2⟩ := getS2 X1 hx hZ hown (host := "") (Or.inl (hw _ (List.mem_of_getElem? (i := 8) rfl))) Via.refl e1 S_BY_CODE (g := (mkF m 12 #[.val (.int (4 : Int32))] [])) rfl (hb hby own_d_prog_60_method_4_code_12)
  refine own_st (T' := T2) (g' := (mkF m 15 #[.val (.int (4 : Int32))] [(.ref a_BY_CODE)])) st2 ?_
  refine own_st (T' := T2) (g' := (mkF m 16 #[.val (.int (4 : Int32))] [(.int (4 : Int32)), (.ref a_BY_CODE)])) (fun _ k => XS.iloadN X2.here hx rfl (hb hby own_d_prog_60_method_4_code_15) rfl k) ?_
  refine own_st (T' := T2) (g' := (mkF m 17 #[.val (.int (4 : Int32))] [(.ref a_METHOD)])) (fun _ k => X2.aaload hx (j := (4 : Int32)) (v := (.ref a_METHOD)) (by rw [e2]; exact A_BY_CODE.1) (State.isArrayOf_alike hZ.alike A_BY_CODE.2.1) rfl A_BY_CODE.2.2 (inb_of Z_BY_CODE ⟨by decide, by decide⟩) Y_BY_CODE_4 (g := (mkF m 16 #[.val (.int (4 : Int32))] [(.int (4 : Int32)), (.ref a_BY_CODE)])) rfl rfl (hb hby own_d_prog_60_method_4_code_16) _ k) ?_
  refine own_st (T' := T2) (g' := (mkF m 21 #[.val (.int (4 : Int32))] [(.ref a_METHOD)])) (fun _ k => XS.goto X2.here hx rfl (pc0 := 17) (pc' := 21) rfl (hb hby own_d_prog_60_method_4_code_17) (by decide) (by decide) k) ?_
  exact own_ret X2 hx hlk hret rfl (Or.inr (Or.inr (Or.inr (Or.inr ⟨rfl, rfl, rfl⟩)))) (hb hby own_d_prog_60_method_4_code_21) (by decide) (by decide) ⟨rfl, rfl, e2⟩
set_option maxRecDepth 65536 in
set_option maxHeartbeats 40000000 in
theorem own_code_8 (l : Launch) (Z : State) (a0 : Array Value) (hw : ∀ d ∈ tables_1, d.before a0 Z = true) (h0 : Heap) (a_BY_CODE : Addr) (a_BUFFERS : Addr) (a_HOLDABLE_CLASS : Addr) (a_UNPARK : Addr) (a_MONITOR_ENTER : Addr) (a_CPU_TIMER : Addr) (a_CLASS : Addr) (a_ALLOC_INTERVAL : Addr) (a_THREAD : Addr) (a_OPTIONS : Addr) (a_END : Addr) (a_STACK : Addr) (a_TIME : Addr) (a_UNDER_WAY : Addr) (a_PARK : Addr) (a_ALLOC_SAMPLE : Addr) (a_SAMPLE : Addr) (a_WALL_SAMPLE : Addr) (a_METHOD : Addr) (a_VIRTUAL_THREAD : Addr) (a_WALL_INTERVAL : Addr) (cl_BY_CODE : Cell) (hE : own_E Z h0 a_BY_CODE a_BUFFERS a_HOLDABLE_CLASS a_UNPARK a_MONITOR_ENTER a_CPU_TIMER a_CLASS a_ALLOC_INTERVAL a_THREAD a_OPTIONS a_END a_STACK a_TIME a_UNDER_WAY a_PARK a_ALLOC_SAMPLE a_SAMPLE a_WALL_SAMPLE a_METHOD a_VIRTUAL_THREAD a_WALL_INTERVAL cl_BY_CODE) :
    own_Pure l Z h0 [] ({ frames := 0, cells := 0, slots := 0, locals := 0 } : Room) (⟨"com/example/tracewell/tracewell/RecordKind", "code", "()I"⟩ : MethodName) prog_60_method_6_code 1 (some .int) #[(.ref a_METHOD)] (some (.int (4 : Int32))) := by
  refine own_body (plainFor_of_name own_pn_0) ?_
  intro p e s m below meth c T0 X0 hx hby hml hown hZ e0 hret hlk hnm hnamed
  replace hown : s.vm.findClass "com/example/tracewell/tracewell/RecordKind" = some m.cls := hown
  replace hml : c.maxLocals = 1 := hml
  have ef : entryFrame m #[(.ref a_METHOD)] 1 = mkF m 0 #[.val (.ref a_METHOD)] [] := by first | (simp [entryFrame, mkF, argsToLocals, Value.category]; done) | rfl
  rw [ef]
  have F_METHOD_code := own_p_F_METHOD_code hE
  refine own_st (T' := T0) (g' := (mkF m 1 #[.val (.ref a_METHOD)] [(.ref a_METHOD)])) (fun _ k => XS.aloadN X0.here hx rfl (hb hby own_d_prog_60_method_6_code_0) rfl rfl k) ?_
  obtain ⟨T1, X1, e1, st1⟩ := getF X0 hx hZ hown (host := "") (Or.inl (hw _ (List.mem_of_getElem? (i := 16) rfl))) Via.refl e0 F_METHOD_code (g := (mkF m 1 #[.val (.ref a_METHOD)] [(.ref a_METHOD)])) rfl rfl (hb hby own_d_prog_60_method_6_code_1)
  refine own_st (T' := T1) (g' := (mkF m 4 #[.val (.ref a_METHOD)] [(.int (4 : Int32))])) st1 ?_
  exact own_ret X1 hx hlk hret rfl (Or.inl ⟨rfl, Or.inl rfl, _, rfl⟩) (hb hby own_d_prog_60_method_6_code_4) (by decide) (by decide) ⟨rfl, rfl, e1⟩
set_option maxRecDepth 65536 in
set_option maxHeartbeats 40000000 in
theorem own_check_4 (l : Launch) (Z : State) (a0 : Array Value) (hw : ∀ d ∈ tables_1, d.before a0 Z = true) (h0 : Heap) (a_BY_CODE : Addr) (a_BUFFERS : Addr) (a_HOLDABLE_CLASS : Addr) (a_UNPARK : Addr) (a_MONITOR_ENTER : Addr) (a_CPU_TIMER : Addr) (a_CLASS : Addr) (a_ALLOC_INTERVAL : Addr) (a_THREAD : Addr) (a_OPTIONS : Addr) (a_END : Addr) (a_STACK : Addr) (a_TIME : Addr) (a_UNDER_WAY : Addr) (a_PARK : Addr) (a_ALLOC_SAMPLE : Addr) (a_SAMPLE : Addr) (a_WALL_SAMPLE : Addr) (a_METHOD : Addr) (a_VIRTUAL_THREAD : Addr) (a_WALL_INTERVAL : Addr) (cl_BY_CODE : Cell) (hE : own_E Z h0 a_BY_CODE a_BUFFERS a_HOLDABLE_CLASS a_UNPARK a_MONITOR_ENTER a_CPU_TIMER a_CLASS a_ALLOC_INTERVAL a_THREAD a_OPTIONS a_END a_STACK a_TIME a_UNDER_WAY a_PARK a_ALLOC_SAMPLE a_SAMPLE a_WALL_SAMPLE a_METHOD a_VIRTUAL_THREAD a_WALL_INTERVAL cl_BY_CODE) :
    own_Pure l Z h0 [] ({ frames := 1, cells := 0, slots := 0, locals := 12 } : Room) (⟨"com/example/tracewell/tracewell/RecordKindOfPinLaw", "check", "(I)Z"⟩ : MethodName) method_3_code 3 (some .boolean) #[(.int (4 : Int32))] (some (.int (1 : Int32))) := by
  refine own_body (plainFor_of_name own_pn_1) ?_
  intro p e s m below meth c T0 X0 hx hby hml hown hZ e0 hret hlk hnm hnamed
  replace hown : s.vm.findClass "com/example/tracewell/tracewell/RecordKindOfPinLaw" = some m.cls := hown
  replace hml : c.maxLocals = 3 := hml
  have ef : entryFrame m #[(.int (4 : Int32))] 3 = mkF m 0 #[.val (.int (4 : Int32)), .unset, .unset] [] := by first | (simp [entryFrame, mkF, argsToLocals, Value.category]; done) | rfl
  rw [ef]
  have E_METHOD := own_p_E_METHOD hE
  refine own_st (T' := T0) (g' := (mkF m 1 #[.val (.int (4 : Int32)), .unset, .unset] [(.int (4 : Int32))])) (fun _ k => XS.iloadN X0.here hx rfl (hb hby own_d_method_3_code_0) rfl k) ?_
  obtain ⟨T1, X1, e1, st1⟩ := own_pure (w := (.ref a_METHOD)) rfl rfl (own_gS X0 hx hZ hown (hw _ (List.mem_of_getElem? (i := 4) rfl)) (hw _ (List.mem_of_getElem? (i := 5) rfl)) (hw _ (List.mem_of_getElem? (i := 6) rfl)) (hw _ (List.mem_of_getElem? (i := 7) rfl)) (by decide) e0 (own_of_7 l Z a0 hw h0 a_BY_CODE a_BUFFERS a_HOLDABLE_CLASS a_UNPARK a_MONITOR_ENTER a_CPU_TIMER a_CLASS a_ALLOC_INTERVAL a_THREAD a_OPTIONS a_END a_STACK a_TIME a_UNDER_WAY a_PARK a_ALLOC_SAMPLE a_SAMPLE a_WALL_SAMPLE a_METHOD a_VIRTUAL_THREAD a_WALL_INTERVAL cl_BY_CODE hE) (by decide) (by decide) (by decide) (by decide) (Q := fun v h L => v = some (.ref a_METHOD) ∧ L = [] ∧ h = h0) (W := 0) (g := (mkF m 1 #[.val (.int (4 : Int32)), .unset, .unset] [(.int (4 : Int32))])) (argsL := [(.int (4 : Int32))]) (rest := []) rfl (by rw [hml]; rfl) (lenOf own_pd_0 rfl) rfl (by show 2 * 0 + _ ≤ _; exact Nat.le_of_eq rfl) (hb hby own_d_method_3_code_1))
  refine own_st (T' := T1) (g' := (mkF m 4 #[.val (.int (4 : Int32)), .unset, .unset] [(.ref a_METHOD)])) st1 ?_
  refine own_st (T' := T1) (g' := (mkF m 5 #[.val (.int (4 : Int32)), .val (.ref a_METHOD), .unset] [])) (fun _ k => XS.astoreN X1.here hx rfl (hb hby own_d_method_3_code_4) rfl rfl (l' := #[.val (.int (4 : Int32)), .val (.ref a_METHOD), .unset]) rfl k) ?_
  refine own_st (T' := T1) (g' := (mkF m 6 #[.val (.int (4 : Int32)), .val (.ref a_METHOD), .unset] [(.int (4 : Int32))])) (fun _ k => XS.iloadN X1.here hx rfl (hb hby own_d_method_3_code_5) rfl k) ?_
  refine own_st (T' := T1) (g' := (mkF m 7 #[.val (.int (4 : Int32)), .val (.ref a_METHOD), .unset] [(.int (1 : Int32)), (.int (4 : Int32))])) (fun _ k => XS.iconst X1.here hx rfl (hb hby own_d_method_3_code_6) k) ?_
  refine own_st (T' := T1) (g' := (mkF m 10 #[.val (.int (4 : Int32)), .val (.ref a_METHOD), .unset] [])) (fun _ k => XS.icmpNo X1.here hx rfl (hb hby own_d_method_3_code_7) rfl (by decide) k) ?_
  refine own_st (T' := T1) (g' := (mkF m 11 #[.val (.int (4 : Int32)), .val (.ref a_METHOD), .unset] [(.int (4 : Int32))])) (fun _ k => XS.iloadN X1.here hx rfl (hb hby own_d_method_3_code_10) rfl k) ?_
  refine own_st (T' := T1) (g' := (mkF m 13 #[.val (.int (4 : Int32)), .val (.ref a_METHOD), .unset] [(.int (20 : Int32)), (.int (4 : Int32))])) (fun _ k => XS.bipush X1.here hx rfl (hb hby own_d_method_3_code_11) k) ?_
  refine own_st (T' := T1) (g' := (mkF m 16 #[.val (.int (4 : Int32)), .val (.ref a_METHOD), .unset] [])) (fun _ k => XS.icmpNo X1.here hx rfl (hb hby own_d_method_3_code_13) rfl (by decide) k) ?_
  refine own_st (T' := T1) (g' := (mkF m 17 #[.val (.int (4 : Int32)), .val (.ref a_METHOD), .unset] [(.int (1 : Int32))])) (fun _ k => XS.iconst X1.here hx rfl (hb hby own_d_method_3_code_16) k) ?_
  refine own_st (T' := T1) (g' := (mkF m 21 #[.val (.int (4 : Int32)), .val (.ref a_METHOD), .unset] [(.int (1 : Int32))])) (fun _ k => XS.goto X1.here hx rfl (pc0 := 17) (pc' := 21) rfl (hb hby own_d_method_3_code_17) (by decide) (by decide) k) ?_
  refine own_st (T' := T1) (g' := (mkF m 22 #[.val (.int (4 : Int32)), .val (.ref a_METHOD), .val (.int (1 : Int32))] [])) (fun _ k => XS.istoreN X1.here hx rfl (hb hby own_d_method_3_code_21) rfl (l' := #[.val (.int (4 : Int32)), .val (.ref a_METHOD), .val (.int (1 : Int32))]) rfl k) ?_
  refine own_st (T' := T1) (g' := (mkF m 23 #[.val (.int (4 : Int32)), .val (.ref a_METHOD), .val (.int (1 : Int32))] [(.int (1 : Int32))])) (fun _ k => XS.iloadN X1.here hx rfl (hb hby own_d_method_3_code_22) rfl k) ?_
  refine own_st (T' := T1) (g' := (mkF m 36 #[.val (.int (4 : Int32)), .val (.ref a_METHOD), .val (.int (1 : Int32))] [])) (fun _ k => XS.ifYes X1.here hx rfl (pc0 := 23) (pc' := 36) rfl (hb hby own_d_method_3_code_23) rfl (by decide) (by decide) (by decide) k) ?_
  refine own_st (T' := T1) (g' := (mkF m 37 #[.val (.int (4 : Int32)), .val (.ref a_METHOD), .val (.int (1 : Int32))] [(.ref a_METHOD)])) (fun _ k => XS.aloadN X1.here hx rfl (hb hby own_d_method_3_code_36) rfl rfl k) ?_
  refine own_st (T' := T1) (g' := (mkF m 40 #[.val (.int (4 : Int32)), .val (.ref a_METHOD), .val (.int (1 : Int32))] [])) (fun _ k => XS.ifnullNo X1.here hx rfl (hb hby own_d_method_3_code_37) rfl k) ?_
  refine own_st (T' := T1) (g' := (mkF m 41 #[.val (.int (4 : Int32)), .val (.ref a_METHOD), .val (.int (1 : Int32))] [(.ref a_METHOD)])) (fun _ k => XS.aloadN X1.here hx rfl (hb hby own_d_method_3_code_40) rfl rfl k) ?_
  obtain ⟨T2, X2, e2, st2⟩ := own_pure (w := (.int (4 : Int32))) rfl rfl (own_gV X1 hx hZ hown (hw _ (List.mem_of_getElem? (i := 11) rfl)) (hw _ (List.mem_of_getElem? (i := 12) rfl)) (notFace_of_selects (args := #[]) (mvT hZ (hw _ (List.mem_of_getElem? (i := 14) rfl)))) (hw _ (List.mem_of_getElem? (i := 14) rfl)) (hw _ (List.mem_of_getElem? (i := 13) rfl)) (hw _ (List.mem_of_getElem? (i := 6) rfl)) (hw _ (List.mem_of_getElem? (i := 15) rfl)) (by decide) e1 E_METHOD (own_code_8 l Z a0 hw h0 a_BY_CODE a_BUFFERS a_HOLDABLE_CLASS a_UNPARK a_MONITOR_ENTER a_CPU_TIMER a_CLASS a_ALLOC_INTERVAL a_THREAD a_OPTIONS a_END a_STACK a_TIME a_UNDER_WAY a_PARK a_ALLOC_SAMPLE a_SAMPLE a_WALL_SAMPLE a_METHOD a_VIRTUAL_THREAD a_WALL_INTERVAL cl_BY_CODE hE) (by decide) (by decide) (by decide) (by decide) (Q := fun v h L => v = some (.int (4 : Int32)) ∧ L = [] ∧ h = h0) (W := 0) (g := (mkF m 41 #[.val (.int (4 : Int32)), .val (.ref a_METHOD), .val (.int (1 : Int32))] [(.ref a_METHOD)])) (argsL := []) (rest := []) rfl (by rw [hml]; rfl) (lenOf own_pd_1 rfl) rfl (by show 2 * 0 + _ ≤ _; exact Nat.le_of_eq rfl) (hb hby own_d_method_3_code_41))
  refine own_st (T' := T2) (g' := (mkF m 44 #[.val (.int (4 : Int32)), .val (.ref a_METHOD), .val (.int (1 : Int32))] [(.int (4 : Int32))])) st2 ?_
  refine own_st (T' := T2) (g' := (mkF m 45 #[.val (.int (4 : Int32)), .val (.ref a_METHOD), .val (.int (1 : Int32))] [(.int (4 : Int32)), (.int (4 : Int32))])) (fun _ k => XS.iloadN X2.here hx rfl (hb hby own_d_method_3_code_44) rfl k) ?_
  refine own_st (T' := T2) (g' := (mkF m 48 #[.val (.int (4 : Int32)), .val (.ref a_METHOD), .val (.int (1 : Int32))] [])) (fun _ k => XS.icmpNo X2.here hx rfl (hb hby own_d_method_3_code_45) rfl (by decide) k) ?_
  refine own_st (T' := T2) (g' := (mkF m 49 #[.val (.int (4 : Int32)), .val (.ref a_METHOD), .val (.int (1 : Int32))] [(.int (1 : Int32))])) (fun _ k => XS.iconst X2.here hx rfl (hb hby own_d_method_3_code_48) k) ?_
  refine own_st (T' := T2) (g' := (mkF m 53 #[.val (.int (4 : Int32)), .val (.ref a_METHOD), .val (.int (1 : Int32))] [(.int (1 : Int32))])) (fun _ k => XS.goto X2.here hx rfl (pc0 := 49) (pc' := 53) rfl (hb hby own_d_method_3_code_49) (by decide) (by decide) k) ?_
  exact own_ret X2 hx hlk hret rfl (Or.inl ⟨rfl, Or.inr (Or.inl rfl), _, rfl⟩) (hb hby own_d_method_3_code_53) (by decide) (by decide) ⟨rfl, rfl, e2⟩
set_option maxRecDepth 65536 in
set_option maxHeartbeats 40000000 in
theorem own_of_9 (l : Launch) (Z : State) (a0 : Array Value) (hw : ∀ d ∈ tables_1, d.before a0 Z = true) (h0 : Heap) (a_BY_CODE : Addr) (a_BUFFERS : Addr) (a_HOLDABLE_CLASS : Addr) (a_UNPARK : Addr) (a_MONITOR_ENTER : Addr) (a_CPU_TIMER : Addr) (a_CLASS : Addr) (a_ALLOC_INTERVAL : Addr) (a_THREAD : Addr) (a_OPTIONS : Addr) (a_END : Addr) (a_STACK : Addr) (a_TIME : Addr) (a_UNDER_WAY : Addr) (a_PARK : Addr) (a_ALLOC_SAMPLE : Addr) (a_SAMPLE : Addr) (a_WALL_SAMPLE : Addr) (a_METHOD : Addr) (a_VIRTUAL_THREAD : Addr) (a_WALL_INTERVAL : Addr) (cl_BY_CODE : Cell) (hE : own_E Z h0 a_BY_CODE a_BUFFERS a_HOLDABLE_CLASS a_UNPARK a_MONITOR_ENTER a_CPU_TIMER a_CLASS a_ALLOC_INTERVAL a_THREAD a_OPTIONS a_END a_STACK a_TIME a_UNDER_WAY a_PARK a_ALLOC_SAMPLE a_SAMPLE a_WALL_SAMPLE a_METHOD a_VIRTUAL_THREAD a_WALL_INTERVAL cl_BY_CODE) :
    own_Pure l Z h0 [] ({ frames := 0, cells := 0, slots := 0, locals := 0 } : Room) (⟨"com/example/tracewell/tracewell/RecordKind", "of", "(I)Lcom/example/tracewell/tracewell/RecordKind;"⟩ : MethodName) prog_60_method_4_code 1 (some (.object "com/example/tracewell/tracewell/RecordKind")) #[(.int (5 : Int32))] (some (.ref a_STACK)) := by
  refine own_body (plainFor_of_name own_pn_0) ?_
  intro p e s m below meth c T0 X0 hx hby hml hown hZ e0 hret hlk hnm hnamed
  replace hown : s.vm.findClass "com/example/tracewell/tracewell/RecordKind" = some m.cls := hown
  replace hml : c.maxLocals = 1 := hml
  have ef : entryFrame m #[(.int (5 : Int32))] 1 = mkF m 0 #[.val (.int (5 : Int32))] [] := by first | (simp [entryFrame, mkF, argsToLocals, Value.category]; done) | rfl
  rw [ef]
  have S_BY_CODE := own_p_S_BY_CODE hE
  have A_BY_CODE := own_p_A_BY_CODE hE
  have Z_BY_CODE := own_p_Z_BY_CODE hE
  have Y_BY_CODE_5 := own_p_Y_BY_CODE_5 hE
  refine own_st (T' := T0) (g' := (mkF m 1 #[.val (.int (5 : Int32))] [(.int (5 : Int32))])) (fun _ k => XS.iloadN X0.here hx rfl (hb hby own_d_prog_60_method_4_code_0) rfl k) ?_
  refine own_st (T' := T0) (g' := (mkF m 4 #[.val (.int (5 : Int32))] [])) (fun _ k => XS.ifNo X0.here hx rfl (hb hby own_d_prog_60_method_4_code_1) rfl (by decide) k) ?_
  refine own_st (T' := T0) (g' := (mkF m 5 #[.val (.int (5 : Int32))] [(.int (5 : Int32))])) (fun _ k => XS.iloadN X0.here hx rfl (hb hby own_d_prog_60_method_4_code_4) rfl k) ?_
  obtain ⟨T1, X1, e1, st1⟩ := getS2 X0 hx hZ hown (host := "") (Or.inl (hw _ (List.mem_of_getElem? (i := 8) rfl))) Via.refl e0 S_BY_CODE (g := (mkF m 5 #[.val (.int (5 : Int32))] [(.int (5 : Int32))])) rfl (hb hby own_d_prog_60_method_4_code_5)
  refine own_st (T' := T1) (g' := (mkF m 8 #[.val (.int (5 : Int32))] [(.ref a_BY_CODE), (.int (5 : Int32))])) st1 ?_
  refine own_st (T' := T1) (g' := (mkF m 9 #[.val (.int (5 : Int32))] [(.int cl_BY_CODE.slots.size.toInt32), (.int (5 : Int32))])) (fun _ k => X1.arraylength hx (by rw [e1]; exact A_BY_CODE.1) (State.isArrayOf_alike hZ.alike A_BY_CODE.2.1) (g := (mkF m 8 #[.val (.int (5 : Int32))] [(.ref a_BY_CODE), (.int (5 : Int32))])) rfl rfl (hb hby own_d_prog_60_method_4_code_8) _ k) ?_
  rw [len_of Z_BY_CODE (by decide)]
  refine own_st (T' := T1) (g' := (mkF m 12 #[.val (.int (5 : Int32))] [])) (fun _ k => XS.icmpNo X1.here hx rfl (hb hby own_d_prog_60_method_4_code_9) rfl (by decide) k) ?_
  obtain ⟨T2, X2, e2, st2⟩ := getS2 X1 hx hZ hown (host := "") (Or.inl (hw _ (List.mem_of_getElem? (i := 8) rfl))) Via.refl e1 S_BY_CODE (g := (mkF m 12 #[.val (.int (5 : Int32))] [])) rfl (hb hby own_d_prog_60_method_4_code_12)
  refine own_st (T' := T2) (g' := (mkF m 15 #[.val (.int (5 : Int32))] [(.ref a_BY_CODE)])) st2 ?_
  refine own_st (T' := T2) (g' := (mkF m 16 #[.val (.int (5 : Int32))] [(.int (5 : Int32)), (.ref a_BY_CODE)])) (fun _ k => XS.iloadN X2.here hx rfl (hb hby own_d_prog_60_method_4_code_15) rfl k) ?_
  refine own_st (T' := T2) (g' := (mkF m 17 #[.val (.int (5 : Int32))] [(.ref a_STACK)])) (fun _ k => X2.aaload hx (j := (5 : Int32)) (v := (.ref a_STACK)) (by rw [e2]; exact A_BY_CODE.1) (State.isArrayOf_alike hZ.alike A_BY_CODE.2.1) rfl A_BY_CODE.2.2 (inb_of Z_BY_CODE ⟨by decide, by decide⟩) Y_BY_CODE_5 (g := (mkF m 16 #[.val (.int (5 : Int32))] [(.int (5 : Int32)), (.ref a_BY_CODE)])) rfl rfl (hb hby own_d_prog_60_method_4_code_16) _ k) ?_
  refine own_st (T' := T2) (g' := (mkF m 21 #[.val (.int (5 : Int32))] [(.ref a_STACK)])) (fun _ k => XS.goto X2.here hx rfl (pc0 := 17) (pc' := 21) rfl (hb hby own_d_prog_60_method_4_code_17) (by decide) (by decide) k) ?_
  exact own_ret X2 hx hlk hret rfl (Or.inr (Or.inr (Or.inr (Or.inr ⟨rfl, rfl, rfl⟩)))) (hb hby own_d_prog_60_method_4_code_21) (by decide) (by decide) ⟨rfl, rfl, e2⟩
set_option maxRecDepth 65536 in
set_option maxHeartbeats 40000000 in
theorem own_code_10 (l : Launch) (Z : State) (a0 : Array Value) (hw : ∀ d ∈ tables_1, d.before a0 Z = true) (h0 : Heap) (a_BY_CODE : Addr) (a_BUFFERS : Addr) (a_HOLDABLE_CLASS : Addr) (a_UNPARK : Addr) (a_MONITOR_ENTER : Addr) (a_CPU_TIMER : Addr) (a_CLASS : Addr) (a_ALLOC_INTERVAL : Addr) (a_THREAD : Addr) (a_OPTIONS : Addr) (a_END : Addr) (a_STACK : Addr) (a_TIME : Addr) (a_UNDER_WAY : Addr) (a_PARK : Addr) (a_ALLOC_SAMPLE : Addr) (a_SAMPLE : Addr) (a_WALL_SAMPLE : Addr) (a_METHOD : Addr) (a_VIRTUAL_THREAD : Addr) (a_WALL_INTERVAL : Addr) (cl_BY_CODE : Cell) (hE : own_E Z h0 a_BY_CODE a_BUFFERS a_HOLDABLE_CLASS a_UNPARK a_MONITOR_ENTER a_CPU_TIMER a_CLASS a_ALLOC_INTERVAL a_THREAD a_OPTIONS a_END a_STACK a_TIME a_UNDER_WAY a_PARK a_ALLOC_SAMPLE a_SAMPLE a_WALL_SAMPLE a_METHOD a_VIRTUAL_THREAD a_WALL_INTERVAL cl_BY_CODE) :
    own_Pure l Z h0 [] ({ frames := 0, cells := 0, slots := 0, locals := 0 } : Room) (⟨"com/example/tracewell/tracewell/RecordKind", "code", "()I"⟩ : MethodName) prog_60_method_6_code 1 (some .int) #[(.ref a_STACK)] (some (.int (5 : Int32))) := by
  refine own_body (plainFor_of_name own_pn_0) ?_
  intro p e s m below meth c T0 X0 hx hby hml hown hZ e0 hret hlk hnm hnamed
  replace hown : s.vm.findClass "com/example/tracewell/tracewell/RecordKind" = some m.cls := hown
  replace hml : c.maxLocals = 1 := hml
  have ef : entryFrame m #[(.ref a_STACK)] 1 = mkF m 0 #[.val (.ref a_STACK)] [] := by first | (simp [entryFrame, mkF, argsToLocals, Value.category]; done) | rfl
  rw [ef]
  have F_STACK_code := own_p_F_STACK_code hE
  refine own_st (T' := T0) (g' := (mkF m 1 #[.val (.ref a_STACK)] [(.ref a_STACK)])) (fun _ k => XS.aloadN X0.here hx rfl (hb hby own_d_prog_60_method_6_code_0) rfl rfl k) ?_
  obtain ⟨T1, X1, e1, st1⟩ := getF X0 hx hZ hown (host := "") (Or.inl (hw _ (List.mem_of_getElem? (i := 16) rfl))) Via.refl e0 F_STACK_code (g := (mkF m 1 #[.val (.ref a_STACK)] [(.ref a_STACK)])) rfl rfl (hb hby own_d_prog_60_method_6_code_1)
  refine own_st (T' := T1) (g' := (mkF m 4 #[.val (.ref a_STACK)] [(.int (5 : Int32))])) st1 ?_
  exact own_ret X1 hx hlk hret rfl (Or.inl ⟨rfl, Or.inl rfl, _, rfl⟩) (hb hby own_d_prog_60_method_6_code_4) (by decide) (by decide) ⟨rfl, rfl, e1⟩
set_option maxRecDepth 65536 in
set_option maxHeartbeats 40000000 in
theorem own_check_5 (l : Launch) (Z : State) (a0 : Array Value) (hw : ∀ d ∈ tables_1, d.before a0 Z = true) (h0 : Heap) (a_BY_CODE : Addr) (a_BUFFERS : Addr) (a_HOLDABLE_CLASS : Addr) (a_UNPARK : Addr) (a_MONITOR_ENTER : Addr) (a_CPU_TIMER : Addr) (a_CLASS : Addr) (a_ALLOC_INTERVAL : Addr) (a_THREAD : Addr) (a_OPTIONS : Addr) (a_END : Addr) (a_STACK : Addr) (a_TIME : Addr) (a_UNDER_WAY : Addr) (a_PARK : Addr) (a_ALLOC_SAMPLE : Addr) (a_SAMPLE : Addr) (a_WALL_SAMPLE : Addr) (a_METHOD : Addr) (a_VIRTUAL_THREAD : Addr) (a_WALL_INTERVAL : Addr) (cl_BY_CODE : Cell) (hE : own_E Z h0 a_BY_CODE a_BUFFERS a_HOLDABLE_CLASS a_UNPARK a_MONITOR_ENTER a_CPU_TIMER a_CLASS a_ALLOC_INTERVAL a_THREAD a_OPTIONS a_END a_STACK a_TIME a_UNDER_WAY a_PARK a_ALLOC_SAMPLE a_SAMPLE a_WALL_SAMPLE a_METHOD a_VIRTUAL_THREAD a_WALL_INTERVAL cl_BY_CODE) :
    own_Pure l Z h0 [] ({ frames := 1, cells := 0, slots := 0, locals := 12 } : Room) (⟨"com/example/tracewell/tracewell/RecordKindOfPinLaw", "check", "(I)Z"⟩ : MethodName) method_3_code 3 (some .boolean) #[(.int (5 : Int32))] (some (.int (1 : Int32))) := by
  refine own_body (plainFor_of_name own_pn_1) ?_
  intro p e s m below meth c T0 X0 hx hby hml hown hZ e0 hret hlk hnm hnamed
  replace hown : s.vm.findClass "com/example/tracewell/tracewell/RecordKindOfPinLaw" = some m.cls := hown
  replace hml : c.maxLocals = 3 := hml
  have ef : entryFrame m #[(.int (5 : Int32))] 3 = mkF m 0 #[.val (.int (5 : Int32)), .unset, .unset] [] := by first | (simp [entryFrame, mkF, argsToLocals, Value.category]; done) | rfl
  rw [ef]
  have E_STACK := own_p_E_STACK hE
  refine own_st (T' := T0) (g' := (mkF m 1 #[.val (.int (5 : Int32)), .unset, .unset] [(.int (5 : Int32))])) (fun _ k => XS.iloadN X0.here hx rfl (hb hby own_d_method_3_code_0) rfl k) ?_
  obtain ⟨T1, X1, e1, st1⟩ := own_pure (w := (.ref a_STACK)) rfl rfl (own_gS X0 hx hZ hown (hw _ (List.mem_of_getElem? (i := 4) rfl)) (hw _ (List.mem_of_getElem? (i := 5) rfl)) (hw _ (List.mem_of_getElem? (i := 6) rfl)) (hw _ (List.mem_of_getElem? (i := 7) rfl)) (by decide) e0 (own_of_9 l Z a0 hw h0 a_BY_CODE a_BUFFERS a_HOLDABLE_CLASS a_UNPARK a_MONITOR_ENTER a_CPU_TIMER a_CLASS a_ALLOC_INTERVAL a_THREAD a_OPTIONS a_END a_STACK a_TIME a_UNDER_WAY a_PARK a_ALLOC_SAMPLE a_SAMPLE a_WALL_SAMPLE a_METHOD a_VIRTUAL_THREAD a_WALL_INTERVAL cl_BY_CODE hE) (by decide) (by decide) (by decide) (by decide) (Q := fun v h L => v = some (.ref a_STACK) ∧ L = [] ∧ h = h0) (W := 0) (g := (mkF m 1 #[.val (.int (5 : Int32)), .unset, .unset] [(.int (5 : Int32))])) (argsL := [(.int (5 : Int32))]) (rest := []) rfl (by rw [hml]; rfl) (lenOf own_pd_0 rfl) rfl (by show 2 * 0 + _ ≤ _; exact Nat.le_of_eq rfl) (hb hby own_d_method_3_code_1))
  refine own_st (T' := T1) (g' := (mkF m 4 #[.val (.int (5 : Int32)), .unset, .unset] [(.ref a_STACK)])) st1 ?_
  refine own_st (T' := T1) (g' := (mkF m 5 #[.val (.int (5 : Int32)), .val (.ref a_STACK), .unset] [])) (fun _ k => XS.astoreN X1.here hx rfl (hb hby own_d_method_3_code_4) rfl rfl (l' := #[.val (.int (5 : Int32)), .val (.ref a_STACK), .unset]) rfl k) ?_
  refine own_st (T' := T1) (g' := (mkF m 6 #[.val (.int (5 : Int32)), .val (.ref a_STACK), .unset] [(.int (5 : Int32))])) (fun _ k => XS.iloadN X1.here hx rfl (hb hby own_d_method_3_code_5) rfl k) ?_
  refine own_st (T' := T1) (g' := (mkF m 7 #[.val (.int (5 : Int32)), .val (.ref a_STACK), .unset] [(.int (1 : Int32)), (.int (5 : Int32))])) (fun _ k => XS.iconst X1.here hx rfl (hb hby own_d_method_3_code_6) k) ?_
  refine own_st (T' := T1) (g' := (mkF m 10 #[.val (.int (5 : Int32)), .val (.ref a_STACK), .unset] [])) (fun _ k => XS.icmpNo X1.here hx rfl (hb hby own_d_method_3_code_7) rfl (by decide) k) ?_
  refine own_st (T' := T1) (g' := (mkF m 11 #[.val (.int (5 : Int32)), .val (.ref a_STACK), .unset] [(.int (5 : Int32))])) (fun _ k => XS.iloadN X1.here hx rfl (hb hby own_d_method_3_code_10) rfl k) ?_
  refine own_st (T' := T1) (g' := (mkF m 13 #[.val (.int (5 : Int32)), .val (.ref a_STACK), .unset] [(.int (20 : Int32)), (.int (5 : Int32))])) (fun _ k => XS.bipush X1.here hx rfl (hb hby own_d_method_3_code_11) k) ?_
  refine own_st (T' := T1) (g' := (mkF m 16 #[.val (.int (5 : Int32)), .val (.ref a_STACK), .unset] [])) (fun _ k => XS.icmpNo X1.here hx rfl (hb hby own_d_method_3_code_13) rfl (by decide) k) ?_
  refine own_st (T' := T1) (g' := (mkF m 17 #[.val (.int (5 : Int32)), .val (.ref a_STACK), .unset] [(.int (1 : Int32))])) (fun _ k => XS.iconst X1.here hx rfl (hb hby own_d_method_3_code_16) k) ?_
  refine own_st (T' := T1) (g' := (mkF m 21 #[.val (.int (5 : Int32)), .val (.ref a_STACK), .unset] [(.int (1 : Int32))])) (fun _ k => XS.goto X1.here hx rfl (pc0 := 17) (pc' := 21) rfl (hb hby own_d_method_3_code_17) (by decide) (by decide) k) ?_
  refine own_st (T' := T1) (g' := (mkF m 22 #[.val (.int (5 : Int32)), .val (.ref a_STACK), .val (.int (1 : Int32))] [])) (fun _ k => XS.istoreN X1.here hx rfl (hb hby own_d_method_3_code_21) rfl (l' := #[.val (.int (5 : Int32)), .val (.ref a_STACK), .val (.int (1 : Int32))]) rfl k) ?_
  refine own_st (T' := T1) (g' := (mkF m 23 #[.val (.int (5 : Int32)), .val (.ref a_STACK), .val (.int (1 : Int32))] [(.int (1 : Int32))])) (fun _ k => XS.iloadN X1.here hx rfl (hb hby own_d_method_3_code_22) rfl k) ?_
  refine own_st (T' := T1) (g' := (mkF m 36 #[.val (.int (5 : Int32)), .val (.ref a_STACK), .val (.int (1 : Int32))] [])) (fun _ k => XS.ifYes X1.here hx rfl (pc0 := 23) (pc' := 36) rfl (hb hby own_d_method_3_code_23) rfl (by decide) (by decide) (by decide) k) ?_
  refine own_st (T' := T1) (g' := (mkF m 37 #[.val (.int (5 : Int32)), .val (.ref a_STACK), .val (.int (1 : Int32))] [(.ref a_STACK)])) (fun _ k => XS.aloadN X1.here hx rfl (hb hby own_d_method_3_code_36) rfl rfl k) ?_
  refine own_st (T' := T1) (g' := (mkF m 40 #[.val (.int (5 : Int32)), .val (.ref a_STACK), .val (.int (1 : Int32))] [])) (fun _ k => XS.ifnullNo X1.here hx rfl (hb hby own_d_method_3_code_37) rfl k) ?_
  refine own_st (T' := T1) (g' := (mkF m 41 #[.val (.int (5 : Int32)), .val (.ref a_STACK), .val (.int (1 : Int32))] [(.ref a_STACK)])) (fun _ k => XS.aloadN X1.here hx rfl (hb hby own_d_method_3_code_40) rfl rfl k) ?_
  obtain ⟨T2, X2, e2, st2⟩ := own_pure (w := (.int (5 : Int32))) rfl rfl (own_gV X1 hx hZ hown (hw _ (List.mem_of_getElem? (i := 11) rfl)) (hw _ (List.mem_of_getElem? (i := 12) rfl)) (notFace_of_selects (args := #[]) (mvT hZ (hw _ (List.mem_of_getElem? (i := 14) rfl)))) (hw _ (List.mem_of_getElem? (i := 14) rfl)) (hw _ (List.mem_of_getElem? (i := 13) rfl)) (hw _ (List.mem_of_getElem? (i := 6) rfl)) (hw _ (List.mem_of_getElem? (i := 15) rfl)) (by decide) e1 E_STACK (own_code_10 l Z a0 hw h0 a_BY_CODE a_BUFFERS a_HOLDABLE_CLASS a_UNPARK a_MONITOR_ENTER a_CPU_TIMER a_CLASS a_ALLOC_INTERVAL a_THREAD a_OPTIONS a_END a_STACK a_TIME a_UNDER_WAY a_PARK a_ALLOC_SAMPLE a_SAMPLE a_WALL_SAMPLE a_METHOD a_VIRTUAL_THREAD a_WALL_INTERVAL cl_BY_CODE hE) (by decide) (by decide) (by decide) (by decide) (Q := fun v h L => v = some (.int (5 : Int32)) ∧ L = [] ∧ h = h0) (W := 0) (g := (mkF m 41 #[.val (.int (5 : Int32)), .val (.ref a_STACK), .val (.int (1 : Int32))] [(.ref a_STACK)])) (argsL := []) (rest := []) rfl (by rw [hml]; rfl) (lenOf own_pd_1 rfl) rfl (by show 2 * 0 + _ ≤ _; exact Nat.le_of_eq rfl) (hb hby own_d_method_3_code_41))
  refine own_st (T' := T2) (g' := (mkF m 44 #[.val (.int (5 : Int32)), .val (.ref a_STACK), .val (.int (1 : Int32))] [(.int (5 : Int32))])) st2 ?_
  refine own_st (T' := T2) (g' := (mkF m 45 #[.val (.int (5 : Int32)), .val (.ref a_STACK), .val (.int (1 : Int32))] [(.int (5 : Int32)), (.int (5 : Int32))])) (fun _ k => XS.iloadN X2.here hx rfl (hb hby own_d_method_3_code_44) rfl k) ?_
  refine own_st (T' := T2) (g' := (mkF m 48 #[.val (.int (5 : Int32)), .val (.ref a_STACK), .val (.int (1 : Int32))] [])) (fun _ k => XS.icmpNo X2.here hx rfl (hb hby own_d_method_3_code_45) rfl (by decide) k) ?_
  refine own_st (T' := T2) (g' := (mkF m 49 #[.val (.int (5 : Int32)), .val (.ref a_STACK), .val (.int (1 : Int32))] [(.int (1 : Int32))])) (fun _ k => XS.iconst X2.here hx rfl (hb hby own_d_method_3_code_48) k) ?_
  refine own_st (T' := T2) (g' := (mkF m 53 #[.val (.int (5 : Int32)), .val (.ref a_STACK), .val (.int (1 : Int32))] [(.int (1 : Int32))])) (fun _ k => XS.goto X2.here hx rfl (pc0 := 49) (pc' := 53) rfl (hb hby own_d_method_3_code_49) (by decide) (by decide) k) ?_
  exact own_ret X2 hx hlk hret rfl (Or.inl ⟨rfl, Or.inr (Or.inl rfl), _, rfl⟩) (hb hby own_d_method_3_code_53) (by decide) (by decide) ⟨rfl, rfl, e2⟩
set_option maxRecDepth 65536 in
set_option maxHeartbeats 40000000 in
theorem own_of_11 (l : Launch) (Z : State) (a0 : Array Value) (hw : ∀ d ∈ tables_1, d.before a0 Z = true) (h0 : Heap) (a_BY_CODE : Addr) (a_BUFFERS : Addr) (a_HOLDABLE_CLASS : Addr) (a_UNPARK : Addr) (a_MONITOR_ENTER : Addr) (a_CPU_TIMER : Addr) (a_CLASS : Addr) (a_ALLOC_INTERVAL : Addr) (a_THREAD : Addr) (a_OPTIONS : Addr) (a_END : Addr) (a_STACK : Addr) (a_TIME : Addr) (a_UNDER_WAY : Addr) (a_PARK : Addr) (a_ALLOC_SAMPLE : Addr) (a_SAMPLE : Addr) (a_WALL_SAMPLE : Addr) (a_METHOD : Addr) (a_VIRTUAL_THREAD : Addr) (a_WALL_INTERVAL : Addr) (cl_BY_CODE : Cell) (hE : own_E Z h0 a_BY_CODE a_BUFFERS a_HOLDABLE_CLASS a_UNPARK a_MONITOR_ENTER a_CPU_TIMER a_CLASS a_ALLOC_INTERVAL a_THREAD a_OPTIONS a_END a_STACK a_TIME a_UNDER_WAY a_PARK a_ALLOC_SAMPLE a_SAMPLE a_WALL_SAMPLE a_METHOD a_VIRTUAL_THREAD a_WALL_INTERVAL cl_BY_CODE) :
    own_Pure l Z h0 [] ({ frames := 0, cells := 0, slots := 0, locals := 0 } : Room) (⟨"com/example/tracewell/tracewell/RecordKind", "of", "(I)Lcom/example/tracewell/tracewell/RecordKind;"⟩ : MethodName) prog_60_method_4_code 1 (some (.object "com/example/tracewell/tracewell/RecordKind")) #[(.int (6 : Int32))] (some (.ref a_MONITOR_ENTER)) := by
  refine own_body (plainFor_of_name own_pn_0) ?_
  intro p e s m below meth c T0 X0 hx hby hml hown hZ e0 hret hlk hnm hnamed
  replace hown : s.vm.findClass "com/example/tracewell/tracewell/RecordKind" = some m.cls := hown
  replace hml : c.maxLocals = 1 := hml
  have ef : entryFrame m #[(.int (6 : Int32))] 1 = mkF m 0 #[.val (.int (6 : Int32))] [] := by first | (simp [entryFrame, mkF, argsToLocals, Value.category]; done) | rfl
  rw [ef]
  have S_BY_CODE := own_p_S_BY_CODE hE
  have A_BY_CODE := own_p_A_BY_CODE hE
  have Z_BY_CODE := own_p_Z_BY_CODE hE
  have Y_BY_CODE_6 := own_p_Y_BY_CODE_6 hE
  refine own_st (T' := T0) (g' := (mkF m 1 #[.val (.int (6 : Int32))] [(.int (6 : Int32))])) (fun _ k => XS.iloadN X0.here hx rfl (hb hby own_d_prog_60_method_4_code_0) rfl k) ?_
  refine own_st (T' := T0) (g' := (mkF m 4 #[.val (.int (6 : Int32))] [])) (fun _ k => XS.ifNo X0.here hx rfl (hb hby own_d_prog_60_method_4_code_1) rfl (by decide) k) ?_
  refine own_st (T' := T0) (g' := (mkF m 5 #[.val (.int (6 : Int32))] [(.int (6 : Int32))])) (fun _ k => XS.iloadN X0.here hx rfl (hb hby own_d_prog_60_method_4_code_4) rfl k) ?_
  obtain ⟨T1, X1, e1, st1⟩ := getS2 X0 hx hZ hown (host := "") (Or.inl (hw _ (List.mem_of_getElem? (i := 8) rfl))) Via.refl e0 S_BY_CODE (g := (mkF m 5 #[.val (.int (6 : Int32))] [(.int (6 : Int32))])) rfl (hb hby own_d_prog_60_method_4_code_5)
  refine own_st (T' := T1) (g' := (mkF m 8 #[.val (.int (6 : Int32))] [(.ref a_BY_CODE), (.int (6 : Int32))])) st1 ?_
  refine own_st (T' := T1) (g' := (mkF m 9 #[.val (.int (6 : Int32))] [(.int cl_BY_CODE.slots.size.toInt32), (.int (6 : Int32))])) (fun _ k => X1.arraylength hx (by rw [e1]; exact A_BY_CODE.1) (State.isArrayOf_alike hZ.alike A_BY_CODE.2.1) (g := (mkF m 8 #[.val (.int (6 : Int32))] [(.ref a_BY_CODE), (.int (6 : Int32))])) rfl rfl (hb hby own_d_prog_60_method_4_code_8) _ k) ?_
  rw [len_of Z_BY_CODE (by decide)]
  refine own_st (T' := T1) (g' := (mkF m 12 #[.val (.int (6 : Int32))] [])) (fun _ k => XS.icmpNo X1.here hx rfl (hb hby own_d_prog_60_method_4_code_9) rfl (by decide) k) ?_
  obtain ⟨T2, X2, e2, st2⟩ := getS2 X1 hx hZ hown (host := "") (Or.inl (hw _ (List.mem_of_getElem? (i := 8) rfl))) Via.refl e1 S_BY_CODE (g := (mkF m 12 #[.val (.int (6 : Int32))] [])) rfl (hb hby own_d_prog_60_method_4_code_12)
  refine own_st (T' := T2) (g' := (mkF m 15 #[.val (.int (6 : Int32))] [(.ref a_BY_CODE)])) st2 ?_
  refine own_st (T' := T2) (g' := (mkF m 16 #[.val (.int (6 : Int32))] [(.int (6 : Int32)), (.ref a_BY_CODE)])) (fun _ k => XS.iloadN X2.here hx rfl (hb hby own_d_prog_60_method_4_code_15) rfl k) ?_
  refine own_st (T' := T2) (g' := (mkF m 17 #[.val (.int (6 : Int32))] [(.ref a_MONITOR_ENTER)])) (fun _ k => X2.aaload hx (j := (6 : Int32)) (v := (.ref a_MONITOR_ENTER)) (by rw [e2]; exact A_BY_CODE.1) (State.isArrayOf_alike hZ.alike A_BY_CODE.2.1) rfl A_BY_CODE.2.2 (inb_of Z_BY_CODE ⟨by decide, by decide⟩) Y_BY_CODE_6 (g := (mkF m 16 #[.val (.int (6 : Int32))] [(.int (6 : Int32)), (.ref a_BY_CODE)])) rfl rfl (hb hby own_d_prog_60_method_4_code_16) _ k) ?_
  refine own_st (T' := T2) (g' := (mkF m 21 #[.val (.int (6 : Int32))] [(.ref a_MONITOR_ENTER)])) (fun _ k => XS.goto X2.here hx rfl (pc0 := 17) (pc' := 21) rfl (hb hby own_d_prog_60_method_4_code_17) (by decide) (by decide) k) ?_
  exact own_ret X2 hx hlk hret rfl (Or.inr (Or.inr (Or.inr (Or.inr ⟨rfl, rfl, rfl⟩)))) (hb hby own_d_prog_60_method_4_code_21) (by decide) (by decide) ⟨rfl, rfl, e2⟩
set_option maxRecDepth 65536 in
set_option maxHeartbeats 40000000 in
theorem own_code_12 (l : Launch) (Z : State) (a0 : Array Value) (hw : ∀ d ∈ tables_1, d.before a0 Z = true) (h0 : Heap) (a_BY_CODE : Addr) (a_BUFFERS : Addr) (a_HOLDABLE_CLASS : Addr) (a_UNPARK : Addr) (a_MONITOR_ENTER : Addr) (a_CPU_TIMER : Addr) (a_CLASS : Addr) (a_ALLOC_INTERVAL : Addr) (a_THREAD : Addr) (a_OPTIONS : Addr) (a_END : Addr) (a_STACK : Addr) (a_TIME : Addr) (a_UNDER_WAY : Addr) (a_PARK : Addr) (a_ALLOC_SAMPLE : Addr) (a_SAMPLE : Addr) (a_WALL_SAMPLE : Addr) (a_METHOD : Addr) (a_VIRTUAL_THREAD : Addr) (a_WALL_INTERVAL : Addr) (cl_BY_CODE : Cell) (hE : own_E Z h0 a_BY_CODE a_BUFFERS a_HOLDABLE_CLASS a_UNPARK a_MONITOR_ENTER a_CPU_TIMER a_CLASS a_ALLOC_INTERVAL a_THREAD a_OPTIONS a_END a_STACK a_TIME a_UNDER_WAY a_PARK a_ALLOC_SAMPLE a_SAMPLE a_WALL_SAMPLE a_METHOD a_VIRTUAL_THREAD a_WALL_INTERVAL cl_BY_CODE) :
    own_Pure l Z h0 [] ({ frames := 0, cells := 0, slots := 0, locals := 0 } : Room) (⟨"com/example/tracewell/tracewell/RecordKind", "code", "()I"⟩ : MethodName) prog_60_method_6_code 1 (some .int) #[(.ref a_MONITOR_ENTER)] (some (.int (6 : Int32))) := by
  refine own_body (plainFor_of_name own_pn_0) ?_
  intro p e s m below meth c T0 X0 hx hby hml hown hZ e0 hret hlk hnm hnamed
  replace hown : s.vm.findClass "com/example/tracewell/tracewell/RecordKind" = some m.cls := hown
  replace hml : c.maxLocals = 1 := hml
  have ef : entryFrame m #[(.ref a_MONITOR_ENTER)] 1 = mkF m 0 #[.val (.ref a_MONITOR_ENTER)] [] := by first | (simp [entryFrame, mkF, argsToLocals, Value.category]; done) | rfl
  rw [ef]
  have F_MONITOR_ENTER_code := own_p_F_MONITOR_ENTER_code hE
  refine own_st (T' := T0) (g' := (mkF m 1 #[.val (.ref a_MONITOR_ENTER)] [(.ref a_MONITOR_ENTER)])) (fun _ k => XS.aloadN X0.here hx rfl (hb hby own_d_prog_60_method_6_code_0) rfl rfl k) ?_
  obtain ⟨T1, X1, e1, st1⟩ := getF X0 hx hZ hown (host := "") (Or.inl (hw _ (List.mem_of_getElem? (i := 16) rfl))) Via.refl e0 F_MONITOR_ENTER_code (g := (mkF m 1 #[.val (.ref a_MONITOR_ENTER)] [(.ref a_MONITOR_ENTER)])) rfl rfl (hb hby own_d_prog_60_method_6_code_1)
  refine own_st (T' := T1) (g' := (mkF m 4 #[.val (.ref a_MONITOR_ENTER)] [(.int (6 : Int32))])) st1 ?_
  exact own_ret X1 hx hlk hret rfl (Or.inl ⟨rfl, Or.inl rfl, _, rfl⟩) (hb hby own_d_prog_60_method_6_code_4) (by decide) (by decide) ⟨rfl, rfl, e1⟩
set_option maxRecDepth 65536 in
set_option maxHeartbeats 40000000 in
theorem own_check_6 (l : Launch) (Z : State) (a0 : Array Value) (hw : ∀ d ∈ tables_1, d.before a0 Z = true) (h0 : Heap) (a_BY_CODE : Addr) (a_BUFFERS : Addr) (a_HOLDABLE_CLASS : Addr) (a_UNPARK : Addr) (a_MONITOR_ENTER : Addr) (a_CPU_TIMER : Addr) (a_CLASS : Addr) (a_ALLOC_INTERVAL : Addr) (a_THREAD : Addr) (a_OPTIONS : Addr) (a_END : Addr) (a_STACK : Addr) (a_TIME : Addr) (a_UNDER_WAY : Addr) (a_PARK : Addr) (a_ALLOC_SAMPLE : Addr) (a_SAMPLE : Addr) (a_WALL_SAMPLE : Addr) (a_METHOD : Addr) (a_VIRTUAL_THREAD : Addr) (a_WALL_INTERVAL : Addr) (cl_BY_CODE : Cell) (hE : own_E Z h0 a_BY_CODE a_BUFFERS a_HOLDABLE_CLASS a_UNPARK a_MONITOR_ENTER a_CPU_TIMER a_CLASS a_ALLOC_INTERVAL a_THREAD a_OPTIONS a_END a_STACK a_TIME a_UNDER_WAY a_PARK a_ALLOC_SAMPLE a_SAMPLE a_WALL_SAMPLE a_METHOD a_VIRTUAL_THREAD a_WALL_INTERVAL cl_BY_CODE) :
    own_Pure l Z h0 [] ({ frames := 1, cells := 0, slots := 0, locals := 12 } : Room) (⟨"com/example/tracewell/tracewell/RecordKindOfPinLaw", "check", "(I)Z"⟩ : MethodName) method_3_code 3 (some .boolean) #[(.int (6 : Int32))] (some (.int (1 : Int32))) := by
  refine own_body (plainFor_of_name own_pn_1) ?_
  intro p e s m below meth c T0 X0 hx hby hml hown hZ e0 hret hlk hnm hnamed
  replace hown : s.vm.findClass "com/example/tracewell/tracewell/RecordKindOfPinLaw" = some m.cls := hown
  replace hml : c.maxLocals = 3 := hml
  have ef : entryFrame m #[(.int (6 : Int32))] 3 = mkF m 0 #[.val (.int (6 : Int32)), .unset, .unset] [] := by first | (simp [entryFrame, mkF, argsToLocals, Value.category]; done) | rfl
  rw [ef]
  have E_MONITOR_ENTER := own_p_E_MONITOR_ENTER hE
  refine own_st (T' := T0) (g' := (mkF m 1 #[.val (.int (6 : Int32)), .unset, .unset] [(.int (6 : Int32))])) (fun _ k => XS.iloadN X0.here hx rfl (hb hby own_d_method_3_code_0) rfl k) ?_
  obtain ⟨T1, X1, e1, st1⟩ := own_pure (w := (.ref a_MONITOR_ENTER)) rfl rfl (own_gS X0 hx hZ hown (hw _ (List.mem_of_getElem? (i := 4) rfl)) (hw _ (List.mem_of_getElem? (i := 5) rfl)) (hw _ (List.mem_of_getElem? (i := 6) rfl)) (hw _ (List.mem_of_getElem? (i := 7) rfl)) (by decide) e0 (own_of_11 l Z a0 hw h0 a_BY_CODE a_BUFFERS a_HOLDABLE_CLASS a_UNPARK a_MONITOR_ENTER a_CPU_TIMER a_CLASS a_ALLOC_INTERVAL a_THREAD a_OPTIONS a_END a_STACK a_TIME a_UNDER_WAY a_PARK a_ALLOC_SAMPLE a_SAMPLE a_WALL_SAMPLE a_METHOD a_VIRTUAL_THREAD a_WALL_INTERVAL cl_BY_CODE hE) (by decide) (by decide) (by decide) (by decide) (Q := fun v h L => v = some (.ref a_MONITOR_ENTER) ∧ L = [] ∧ h = h0) (W := 0) (g := (mkF m 1 #[.val (.int (6 : Int32)), .unset, .unset] [(.int (6 : Int32))])) (argsL := [(.int (6 : Int32))]) (rest := []) rfl (by rw [hml]; rfl) (lenOf own_pd_0 rfl) rfl (by show 2 * 0 + _ ≤ _; exact Nat.le_of_eq rfl) (hb hby own_d_method_3_code_1))
  refine own_st (T' := T1) (g' := (mkF m 4 #[.val (.int (6 : Int32)), .unset, .unset] [(.ref a_MONITOR_ENTER)])) st1 ?_
  refine own_st (T' := T1) (g' := (mkF m 5 #[.val (.int (6 : Int32)), .val (.ref a_MONITOR_ENTER), .unset] [])) (fun _ k => XS.astoreN X1.here hx rfl (hb hby own_d_method_3_code_4) rfl rfl (l' := #[.val (.int (6 : Int32)), .val (.ref a_MONITOR_ENTER), .unset]) rfl k) ?_
  refine own_st (T' := T1) (g' := (mkF m 6 #[.val (.int (6 : Int32)), .val (.ref a_MONITOR_ENTER), .unset] [(.int (6 : Int32))])) (fun _ k => XS.iloadN X1.here hx rfl (hb hby own_d_method_3_code_5) rfl k) ?_
  refine own_st (T' := T1) (g' := (mkF m 7 #[.val (.int (6 : Int32)), .val (.ref a_MONITOR_ENTER), .unset] [(.int (1 : Int32)), (.int (6 : Int32))])) (fun _ k => XS.iconst X1.here hx rfl (hb hby own_d_method_3_code_6) k) ?_
  refine own_st (T' := T1) (g' := (mkF m 10 #[.val (.int (6 : Int32)), .val (.ref a_MONITOR_ENTER), .unset] [])) (fun _ k => XS.icmpNo X1.here hx rfl (hb hby own_d_method_3_code_7) rfl (by decide) k) ?_
  refine own_st (T' := T1) (g' := (mkF m 11 #[.val (.int (6 : Int32)), .val (.ref a_MONITOR_ENTER), .unset] [(.int (6 : Int32))])) (fun _ k => XS.iloadN X1.here hx rfl (hb hby own_d_method_3_code_10) rfl k) ?_
  refine own_st (T' := T1) (g' := (mkF m 13 #[.val (.int (6 : Int32)), .val (.ref a_MONITOR_ENTER), .unset] [(.int (20 : Int32)), (.int (6 : Int32))])) (fun _ k => XS.bipush X1.here hx rfl (hb hby own_d_method_3_code_11) k) ?_
  refine own_st (T' := T1) (g' := (mkF m 16 #[.val (.int (6 : Int32)), .val (.ref a_MONITOR_ENTER), .unset] [])) (fun _ k => XS.icmpNo X1.here hx rfl (hb hby own_d_method_3_code_13) rfl (by decide) k) ?_
  refine own_st (T' := T1) (g' := (mkF m 17 #[.val (.int (6 : Int32)), .val (.ref a_MONITOR_ENTER), .unset] [(.int (1 : Int32))])) (fun _ k => XS.iconst X1.here hx rfl (hb hby own_d_method_3_code_16) k) ?_
  refine own_st (T' := T1) (g' := (mkF m 21 #[.val (.int (6 : Int32)), .val (.ref a_MONITOR_ENTER), .unset] [(.int (1 : Int32))])) (fun _ k => XS.goto X1.here hx rfl (pc0 := 17) (pc' := 21) rfl (hb hby own_d_method_3_code_17) (by decide) (by decide) k) ?_
  refine own_st (T' := T1) (g' := (mkF m 22 #[.val (.int (6 : Int32)), .val (.ref a_MONITOR_ENTER), .val (.int (1 : Int32))] [])) (fun _ k => XS.istoreN X1.here hx rfl (hb hby own_d_method_3_code_21) rfl (l' := #[.val (.int (6 : Int32)), .val (.ref a_MONITOR_ENTER), .val (.int (1 : Int32))]) rfl k) ?_
  refine own_st (T' := T1) (g' := (mkF m 23 #[.val (.int (6 : Int32)), .val (.ref a_MONITOR_ENTER), .val (.int (1 : Int32))] [(.int (1 : Int32))])) (fun _ k => XS.iloadN X1.here hx rfl (hb hby own_d_method_3_code_22) rfl k) ?_
  refine own_st (T' := T1) (g' := (mkF m 36 #[.val (.int (6 : Int32)), .val (.ref a_MONITOR_ENTER), .val (.int (1 : Int32))] [])) (fun _ k => XS.ifYes X1.here hx rfl (pc0 := 23) (pc' := 36) rfl (hb hby own_d_method_3_code_23) rfl (by decide) (by decide) (by decide) k) ?_
  refine own_st (T' := T1) (g' := (mkF m 37 #[.val (.int (6 : Int32)), .val (.ref a_MONITOR_ENTER), .val (.int (1 : Int32))] [(.ref a_MONITOR_ENTER)])) (fun _ k => XS.aloadN X1.here hx rfl (hb hby own_d_method_3_code_36) rfl rfl k) ?_
  refine own_st (T' := T1) (g' := (mkF m 40 #[.val (.int (6 : Int32)), .val (.ref a_MONITOR_ENTER), .val (.int (1 : Int32))] [])) (fun _ k => XS.ifnullNo X1.here hx rfl (hb hby own_d_method_3_code_37) rfl k) ?_
  refine own_st (T' := T1) (g' := (mkF m 41 #[.val (.int (6 : Int32)), .val (.ref a_MONITOR_ENTER), .val (.int (1 : Int32))] [(.ref a_MONITOR_ENTER)])) (fun _ k => XS.aloadN X1.here hx rfl (hb hby own_d_method_3_code_40) rfl rfl k) ?_
  obtain ⟨T2, X2, e2, st2⟩ := own_pure (w := (.int (6 : Int32))) rfl rfl (own_gV X1 hx hZ hown (hw _ (List.mem_of_getElem? (i := 11) rfl)) (hw _ (List.mem_of_getElem? (i := 12) rfl)) (notFace_of_selects (args := #[]) (mvT hZ (hw _ (List.mem_of_getElem? (i := 14) rfl)))) (hw _ (List.mem_of_getElem? (i := 14) rfl)) (hw _ (List.mem_of_getElem? (i := 13) rfl)) (hw _ (List.mem_of_getElem? (i := 6) rfl)) (hw _ (List.mem_of_getElem? (i := 15) rfl)) (by decide) e1 E_MONITOR_ENTER (own_code_12 l Z a0 hw h0 a_BY_CODE a_BUFFERS a_HOLDABLE_CLASS a_UNPARK a_MONITOR_ENTER a_CPU_TIMER a_CLASS a_ALLOC_INTERVAL a_THREAD a_OPTIONS a_END a_STACK a_TIME a_UNDER_WAY a_PARK a_ALLOC_SAMPLE a_SAMPLE a_WALL_SAMPLE a_METHOD a_VIRTUAL_THREAD a_WALL_INTERVAL cl_BY_CODE hE) (by decide) (by decide) (by decide) (by decide) (Q := fun v h L => v = some (.int (6 : Int32)) ∧ L = [] ∧ h = h0) (W := 0) (g := (mkF m 41 #[.val (.int (6 : Int32)), .val (.ref a_MONITOR_ENTER), .val (.int (1 : Int32))] [(.ref a_MONITOR_ENTER)])) (argsL := []) (rest := []) rfl (by rw [hml]; rfl) (lenOf own_pd_1 rfl) rfl (by show 2 * 0 + _ ≤ _; exact Nat.le_of_eq rfl) (hb hby own_d_method_3_code_41))
  refine own_st (T' := T2) (g' := (mkF m 44 #[.val (.int (6 : Int32)), .val (.ref a_MONITOR_ENTER), .val (.int (1 : Int32))] [(.int (6 : Int32))])) st2 ?_
  refine own_st (T' := T2) (g' := (mkF m 45 #[.val (.int (6 : Int32)), .val (.ref a_MONITOR_ENTER), .val (.int (1 : Int32))] [(.int (6 : Int32)), (.int (6 : Int32))])) (fun _ k => XS.iloadN X2.here hx rfl (hb hby own_d_method_3_code_44) rfl k) ?_
  refine own_st (T' := T2) (g' := (mkF m 48 #[.val (.int (6 : Int32)), .val (.ref a_MONITOR_ENTER), .val (.int (1 : Int32))] [])) (fun _ k => XS.icmpNo X2.here hx rfl (hb hby own_d_method_3_code_45) rfl (by decide) k) ?_
  refine own_st (T' := T2) (g' := (mkF m 49 #[.val (.int (6 : Int32)), .val (.ref a_MONITOR_ENTER), .val (.int (1 : Int32))] [(.int (1 : Int32))])) (fun _ k => XS.iconst X2.here hx rfl (hb hby own_d_method_3_code_48) k) ?_
  refine own_st (T' := T2) (g' := (mkF m 53 #[.val (.int (6 : Int32)), .val (.ref a_MONITOR_ENTER), .val (.int (1 : Int32))] [(.int (1 : Int32))])) (fun _ k => XS.goto X2.here hx rfl (pc0 := 49) (pc' := 53) rfl (hb hby own_d_method_3_code_49) (by decide) (by decide) k) ?_
  exact own_ret X2 hx hlk hret rfl (Or.inl ⟨rfl, Or.inr (Or.inl rfl), _, rfl⟩) (hb hby own_d_method_3_code_53) (by decide) (by decide) ⟨rfl, rfl, e2⟩
set_option maxRecDepth 65536 in
set_option maxHeartbeats 40000000 in
theorem own_of_13 (l : Launch) (Z : State) (a0 : Array Value) (hw : ∀ d ∈ tables_1, d.before a0 Z = true) (h0 : Heap) (a_BY_CODE : Addr) (a_BUFFERS : Addr) (a_HOLDABLE_CLASS : Addr) (a_UNPARK : Addr) (a_MONITOR_ENTER : Addr) (a_CPU_TIMER : Addr) (a_CLASS : Addr) (a_ALLOC_INTERVAL : Addr) (a_THREAD : Addr) (a_OPTIONS : Addr) (a_END : Addr) (a_STACK : Addr) (a_TIME : Addr) (a_UNDER_WAY : Addr) (a_PARK : Addr) (a_ALLOC_SAMPLE : Addr) (a_SAMPLE : Addr) (a_WALL_SAMPLE : Addr) (a_METHOD : Addr) (a_VIRTUAL_THREAD : Addr) (a_WALL_INTERVAL : Addr) (cl_BY_CODE : Cell) (hE : own_E Z h0 a_BY_CODE a_BUFFERS a_HOLDABLE_CLASS a_UNPARK a_MONITOR_ENTER a_CPU_TIMER a_CLASS a_ALLOC_INTERVAL a_THREAD a_OPTIONS a_END a_STACK a_TIME a_UNDER_WAY a_PARK a_ALLOC_SAMPLE a_SAMPLE a_WALL_SAMPLE a_METHOD a_VIRTUAL_THREAD a_WALL_INTERVAL cl_BY_CODE) :
    own_Pure l Z h0 [] ({ frames := 0, cells := 0, slots := 0, locals := 0 } : Room) (⟨"com/example/tracewell/tracewell/RecordKind", "of", "(I)Lcom/example/tracewell/tracewell/RecordKind;"⟩ : MethodName) prog_60_method_4_code 1 (some (.object "com/example/tracewell/tracewell/RecordKind")) #[(.int (7 : Int32))] (some (.ref a_PARK)) := by
  refine own_body (plainFor_of_name own_pn_0) ?_
  intro p e s m below meth c T0 X0 hx hby hml hown hZ e0 hret hlk hnm hnamed
  replace hown : s.vm.findClass "com/example/tracewell/tracewell/RecordKind" = some m.cls := hown
  replace hml : c.maxLocals = 1 := hml
  have ef : entryFrame m #[(.int (7 : Int32))] 1 = mkF m 0 #[.val (.int (7 : Int32))] [] := by first | (simp [entryFrame, mkF, argsToLocals, Value.category]; done) | rfl
  rw [ef]
  have S_BY_CODE := own_p_S_BY_CODE hE
  have A_BY_CODE := own_p_A_BY_CODE hE
  have Z_BY_CODE := own_p_Z_BY_CODE hE
  have Y_BY_CODE_7 := own_p_Y_BY_CODE_7 hE
  refine own_st (T' := T0) (g' := (mkF m 1 #[.val (.int (7 : Int32))] [(.int (7 : Int32))])) (fun _ k => XS.iloadN X0.here hx rfl (hb hby own_d_prog_60_method_4_code_0) rfl k) ?_
  refine own_st (T' := T0) (g' := (mkF m 4 #[.val (.int (7 : Int32))] [])) (fun _ k => XS.ifNo X0.here hx rfl (hb hby own_d_prog_60_method_4_code_1) rfl (by decide) k) ?_
  refine own_st (T' := T0) (g' := (mkF m 5 #[.val (.int (7 : Int32))] [(.int (7 : Int32))])) (fun _ k => XS.iloadN X0.here hx rfl (hb hby own_d_prog_60_method_4_code_4) rfl k) ?_
  obtain ⟨T1, X1, e1, st1⟩ := getS2 X0 hx hZ hown (host := "") (Or.inl (hw _ (List.mem_of_getElem? (i := 8) rfl))) Via.refl e0 S_BY_CODE (g := (mkF m 5 #[.val (.int (7 : Int32))] [(.int (7 : Int32))])) rfl (hb hby own_d_prog_60_method_4_code_5)
  refine own_st (T' := T1) (g' := (mkF m 8 #[.val (.int (7 : Int32))] [(.ref a_BY_CODE), (.int (7 : Int32))])) st1 ?_
  refine own_st (T' := T1) (g' := (mkF m 9 #[.val (.int (7 : Int32))] [(.int cl_BY_CODE.slots.size.toInt32), (.int (7 : Int32))])) (fun _ k => X1.arraylength hx (by rw [e1]; exact A_BY_CODE.1) (State.isArrayOf_alike hZ.alike A_BY_CODE.2.1) (g := (mkF m 8 #[.val (.int (7 : Int32))] [(.ref a_BY_CODE), (.int (7 : Int32))])) rfl rfl (hb hby own_d_prog_60_method_4_code_8) _ k) ?_
  rw [len_of Z_BY_CODE (by decide)]
  refine own_st (T' := T1) (g' := (mkF m 12 #[.val (.int (7 : Int32))] [])) (fun _ k => XS.icmpNo X1.here hx rfl (hb hby own_d_prog_60_method_4_code_9) rfl (by decide) k) ?_
  obtain ⟨T2, X2, e2, st2⟩ := getS2 X1 hx hZ hown (host := "") (Or.inl (hw _ (List.mem_of_getElem? (i := 8) rfl))) Via.refl e1 S_BY_CODE (g := (mkF m 12 #[.val (.int (7 : Int32))] [])) rfl (hb hby own_d_prog_60_method_4_code_12)
  refine own_st (T' := T2) (g' := (mkF m 15 #[.val (.int (7 : Int32))] [(.ref a_BY_CODE)])) st2 ?_
  refine own_st (T' := T2) (g' := (mkF m 16 #[.val (.int (7 : Int32))] [(.int (7 : Int32)), (.ref a_BY_CODE)])) (fun _ k => XS.iloadN X2.here hx rfl (hb hby own_d_prog_60_method_4_code_15) rfl k) ?_
  refine own_st (T' := T2) (g' := (mkF m 17 #[.val (.int (7 : Int32))] [(.ref a_PARK)])) (fun _ k => X2.aaload hx (j := (7 : Int32)) (v := (.ref a_PARK)) (by rw [e2]; exact A_BY_CODE.1) (State.isArrayOf_alike hZ.alike A_BY_CODE.2.1) rfl A_BY_CODE.2.2 (inb_of Z_BY_CODE ⟨by decide, by decide⟩) Y_BY_CODE_7 (g := (mkF m 16 #[.val (.int (7 : Int32))] [(.int (7 : Int32)), (.ref a_BY_CODE)])) rfl rfl (hb hby own_d_prog_60_method_4_code_16) _ k) ?_
  refine own_st (T' := T2) (g' := (mkF m 21 #[.val (.int (7 : Int32))] [(.ref a_PARK)])) (fun _ k => XS.goto X2.here hx rfl (pc0 := 17) (pc' := 21) rfl (hb hby own_d_prog_60_method_4_code_17) (by decide) (by decide) k) ?_
  exact own_ret X2 hx hlk hret rfl (Or.inr (Or.inr (Or.inr (Or.inr ⟨rfl, rfl, rfl⟩)))) (hb hby own_d_prog_60_method_4_code_21) (by decide) (by decide) ⟨rfl, rfl, e2⟩
set_option maxRecDepth 65536 in
set_option maxHeartbeats 40000000 in
theorem own_code_14 (l : Launch) (Z : State) (a0 : Array Value) (hw : ∀ d ∈ tables_1, d.before a0 Z = true) (h0 : Heap) (a_BY_CODE : Addr) (a_BUFFERS : Addr) (a_HOLDABLE_CLASS : Addr) (a_UNPARK : Addr) (a_MONITOR_ENTER : Addr) (a_CPU_TIMER : Addr) (a_CLASS : Addr) (a_ALLOC_INTERVAL : Addr) (a_THREAD : Addr) (a_OPTIONS : Addr) (a_END : Addr) (a_STACK : Addr) (a_TIME : Addr) (a_UNDER_WAY : Addr) (a_PARK : Addr) (a_ALLOC_SAMPLE : Addr) (a_SAMPLE : Addr) (a_WALL_SAMPLE : Addr) (a_METHOD : Addr) (a_VIRTUAL_THREAD : Addr) (a_WALL_INTERVAL : Addr) (cl_BY_CODE : Cell) (hE : own_E Z h0 a_BY_CODE a_BUFFERS a_HOLDABLE_CLASS a_UNPARK a_MONITOR_ENTER a_CPU_TIMER a_CLASS a_ALLOC_INTERVAL a_THREAD a_OPTIONS a_END a_STACK a_TIME a_UNDER_WAY a_PARK a_ALLOC_SAMPLE a_SAMPLE a_WALL_SAMPLE a_METHOD a_VIRTUAL_THREAD a_WALL_INTERVAL cl_BY_CODE) :
    own_Pure l Z h0 [] ({ frames := 0, cells := 0, slots := 0, locals := 0 } : Room) (⟨"com/example/tracewell/tracewell/RecordKind", "code", "()I"⟩ : MethodName) prog_60_method_6_code 1 (some .int) #[(.ref a_PARK)] (some (.int (7 : Int32))) := by
  refine own_body (plainFor_of_name own_pn_0) ?_
  intro p e s m below meth c T0 X0 hx hby hml hown hZ e0 hret hlk hnm hnamed
  replace hown : s.vm.findClass "com/example/tracewell/tracewell/RecordKind" = some m.cls := hown
  replace hml : c.maxLocals = 1 := hml
  have ef : entryFrame m #[(.ref a_PARK)] 1 = mkF m 0 #[.val (.ref a_PARK)] [] := by first | (simp [entryFrame, mkF, argsToLocals, Value.category]; done) | rfl
  rw [ef]
  have F_PARK_code := own_p_F_PARK_code hE
  refine own_st (T' := T0) (g' := (mkF m 1 #[.val (.ref a_PARK)] [(.ref a_PARK)])) (fun _ k => XS.aloadN X0.here hx rfl (hb hby own_d_prog_60_method_6_code_0) rfl rfl k) ?_
  obtain ⟨T1, X1, e1, st1⟩ := getF X0 hx hZ hown (host := "") (Or.inl (hw _ (List.mem_of_getElem? (i := 16) rfl))) Via.refl e0 F_PARK_code (g := (mkF m 1 #[.val (.ref a_PARK)] [(.ref a_PARK)])) rfl rfl (hb hby own_d_prog_60_method_6_code_1)
  refine own_st (T' := T1) (g' := (mkF m 4 #[.val (.ref a_PARK)] [(.int (7 : Int32))])) st1 ?_
  exact own_ret X1 hx hlk hret rfl (Or.inl ⟨rfl, Or.inl rfl, _, rfl⟩) (hb hby own_d_prog_60_method_6_code_4) (by decide) (by decide) ⟨rfl, rfl, e1⟩
set_option maxRecDepth 65536 in
set_option maxHeartbeats 40000000 in
theorem own_check_7 (l : Launch) (Z : State) (a0 : Array Value) (hw : ∀ d ∈ tables_1, d.before a0 Z = true) (h0 : Heap) (a_BY_CODE : Addr) (a_BUFFERS : Addr) (a_HOLDABLE_CLASS : Addr) (a_UNPARK : Addr) (a_MONITOR_ENTER : Addr) (a_CPU_TIMER : Addr) (a_CLASS : Addr) (a_ALLOC_INTERVAL : Addr) (a_THREAD : Addr) (a_OPTIONS : Addr) (a_END : Addr) (a_STACK : Addr) (a_TIME : Addr) (a_UNDER_WAY : Addr) (a_PARK : Addr) (a_ALLOC_SAMPLE : Addr) (a_SAMPLE : Addr) (a_WALL_SAMPLE : Addr) (a_METHOD : Addr) (a_VIRTUAL_THREAD : Addr) (a_WALL_INTERVAL : Addr) (cl_BY_CODE : Cell) (hE : own_E Z h0 a_BY_CODE a_BUFFERS a_HOLDABLE_CLASS a_UNPARK a_MONITOR_ENTER a_CPU_TIMER a_CLASS a_ALLOC_INTERVAL a_THREAD a_OPTIONS a_END a_STACK a_TIME a_UNDER_WAY a_PARK a_ALLOC_SAMPLE a_SAMPLE a_WALL_SAMPLE a_METHOD a_VIRTUAL_THREAD a_WALL_INTERVAL cl_BY_CODE) :
    own_Pure l Z h0 [] ({ frames := 1, cells := 0, slots := 0, locals := 12 } : Room) (⟨"com/example/tracewell/tracewell/RecordKindOfPinLaw", "check", "(I)Z"⟩ : MethodName) method_3_code 3 (some .boolean) #[(.int (7 : Int32))] (some (.int (1 : Int32))) := by
  refine own_body (plainFor_of_name own_pn_1) ?_
  intro p e s m below meth c T0 X0 hx hby hml hown hZ e0 hret hlk hnm hnamed
  replace hown : s.vm.findClass "com/example/tracewell/tracewell/RecordKindOfPinLaw" = some m.cls := hown
  replace hml : c.maxLocals = 3 := hml
  have ef : entryFrame m #[(.int (7 : Int32))] 3 = mkF m 0 #[.val (.int (7 : Int32)), .unset, .unset] [] := by first | (simp [entryFrame, mkF, argsToLocals, Value.category]; done) | rfl
  rw [ef]
  have E_PARK := own_p_E_PARK hE
  refine own_st (T' := T0) (g' := (mkF m 1 #[.val (.int (7 : Int32)), .unset, .unset] [(.int (7 : Int32))])) (fun _ k => XS.iloadN X0.here hx rfl (hb hby own_d_method_3_code_0) rfl k) ?_
  obtain ⟨T1, X1, e1, st1⟩ := own_pure (w := (.ref a_PARK)) rfl rfl (own_gS X0 hx hZ hown (hw _ (List.mem_of_getElem? (i := 4) rfl)) (hw _ (List.mem_of_getElem? (i := 5) rfl)) (hw _ (List.mem_of_getElem? (i := 6) rfl)) (hw _ (List.mem_of_getElem? (i := 7) rfl)) (by decide) e0 (own_of_13 l Z a0 hw h0 a_BY_CODE a_BUFFERS a_HOLDABLE_CLASS a_UNPARK a_MONITOR_ENTER a_CPU_TIMER a_CLASS a_ALLOC_INTERVAL a_THREAD a_OPTIONS a_END a_STACK a_TIME a_UNDER_WAY a_PARK a_ALLOC_SAMPLE a_SAMPLE a_WALL_SAMPLE a_METHOD a_VIRTUAL_THREAD a_WALL_INTERVAL cl_BY_CODE hE) (by decide) (by decide) (by decide) (by decide) (Q := fun v h L => v = some (.ref a_PARK) ∧ L = [] ∧ h = h0) (W := 0) (g := (mkF m 1 #[.val (.int (7 : Int32)), .unset, .unset] [(.int (7 : Int32))])) (argsL := [(.int (7 : Int32))]) (rest := []) rfl (by rw [hml]; rfl) (lenOf own_pd_0 rfl) rfl (by show 2 * 0 + _ ≤ _; exact Nat.le_of_eq rfl) (hb hby own_d_method_3_code_1))
  refine own_st (T' := T1) (g' := (mkF m 4 #[.val (.int (7 : Int32)), .unset, .unset] [(.ref a_PARK)])) st1 ?_
  refine own_st (T' := T1) (g' := (mkF m 5 #[.val (.int (7 : Int32)), .val (.ref a_PARK), .unset] [])) (fun _ k => XS.astoreN X1.here hx rfl (hb hby own_d_method_3_code_4) rfl rfl (l' := #[.val (.int (7 : Int32)), .val (.ref a_PARK), .unset]) rfl k) ?_
  refine own_st (T' := T1) (g' := (mkF m 6 #[.val (.int (7 : Int32)), .val (.ref a_PARK), .unset] [(.int (7 : Int32))])) (fun _ k => XS.iloadN X1.here hx rfl (hb hby own_d_method_3_code_5) rfl k) ?_
  refine own_st (T' := T1) (g' := (mkF m 7 #[.val (.int (7 : Int32)), .val (.ref a_PARK), .unset] [(.int (1 : Int32)), (.int (7 : Int32))])) (fun _ k => XS.iconst X1.here hx rfl (hb hby own_d_method_3_code_6) k) ?_
  refine own_st (T' := T1) (g' := (mkF m 10 #[.val (.int (7 : Int32)), .val (.ref a_PARK), .unset] [])) (fun _ k => XS.icmpNo X1.here hx rfl (hb hby own_d_method_3_code_7) rfl (by decide) k) ?_
  refine own_st (T' := T1) (g' := (mkF m 11 #[.val (.int (7 : Int32)), .val (.ref a_PARK), .unset] [(.int (7 : Int32))])) (fun _ k => XS.iloadN X1.here hx rfl (hb hby own_d_method_3_code_10) rfl k) ?_
  refine own_st (T' := T1) (g' := (mkF m 13 #[.val (.int (7 : Int32)), .val (.ref a_PARK), .unset] [(.int (20 : Int32)), (.int (7 : Int32))])) (fun _ k => XS.bipush X1.here hx rfl (hb hby own_d_method_3_code_11) k) ?_
  refine own_st (T' := T1) (g' := (mkF m 16 #[.val (.int (7 : Int32)), .val (.ref a_PARK), .unset] [])) (fun _ k => XS.icmpNo X1.here hx rfl (hb hby own_d_method_3_code_13) rfl (by decide) k) ?_
  refine own_st (T' := T1) (g' := (mkF m 17 #[.val (.int (7 : Int32)), .val (.ref a_PARK), .unset] [(.int (1 : Int32))])) (fun _ k => XS.iconst X1.here hx rfl (hb hby own_d_method_3_code_16) k) ?_
  refine own_st (T' := T1) (g' := (mkF m 21 #[.val (.int (7 : Int32)), .val (.ref a_PARK), .unset] [(.int (1 : Int32))])) (fun _ k => XS.goto X1.here hx rfl (pc0 := 17) (pc' := 21) rfl (hb hby own_d_method_3_code_17) (by decide) (by decide) k) ?_
  refine own_st (T' := T1) (g' := (mkF m 22 #[.val (.int (7 : Int32)), .val (.ref a_PARK), .val (.int (1 : Int32))] [])) (fun _ k => XS.istoreN X1.here hx rfl (hb hby own_d_method_3_code_21) rfl (l' := #[.val (.int (7 : Int32)), .val (.ref a_PARK), .val (.int (1 : Int32))]) rfl k) ?_
  refine own_st (T' := T1) (g' := (mkF m 23 #[.val (.int (7 : Int32)), .val (.ref a_PARK), .val (.int (1 : Int32))] [(.int (1 : Int32))])) (fun _ k => XS.iloadN X1.here hx rfl (hb hby own_d_method_3_code_22) rfl k) ?_
  refine own_st (T' := T1) (g' := (mkF m 36 #[.val (.int (7 : Int32)), .val (.ref a_PARK), .val (.int (1 : Int32))] [])) (fun _ k => XS.ifYes X1.here hx rfl (pc0 := 23) (pc' := 36) rfl (hb hby own_d_method_3_code_23) rfl (by decide) (by decide) (by decide) k) ?_
  refine own_st (T' := T1) (g' := (mkF m 37 #[.val (.int (7 : Int32)), .val (.ref a_PARK), .val (.int (1 : Int32))] [(.ref a_PARK)])) (fun _ k => XS.aloadN X1.here hx rfl (hb hby own_d_method_3_code_36) rfl rfl k) ?_
  refine own_st (T' := T1) (g' := (mkF m 40 #[.val (.int (7 : Int32)), .val (.ref a_PARK), .val (.int (1 : Int32))] [])) (fun _ k => XS.ifnullNo X1.here hx rfl (hb hby own_d_method_3_code_37) rfl k) ?_
  refine own_st (T' := T1) (g' := (mkF m 41 #[.val (.int (7 : Int32)), .val (.ref a_PARK), .val (.int (1 : Int32))] [(.ref a_PARK)])) (fun _ k => XS.aloadN X1.here hx rfl (hb hby own_d_method_3_code_40) rfl rfl k) ?_
  obtain ⟨T2, X2, e2, st2⟩ := own_pure (w := (.int (7 : Int32))) rfl rfl (own_gV X1 hx hZ hown (hw _ (List.mem_of_getElem? (i := 11) rfl)) (hw _ (List.mem_of_getElem? (i := 12) rfl)) (notFace_of_selects (args := #[]) (mvT hZ (hw _ (List.mem_of_getElem? (i := 14) rfl)))) (hw _ (List.mem_of_getElem? (i := 14) rfl)) (hw _ (List.mem_of_getElem? (i := 13) rfl)) (hw _ (List.mem_of_getElem? (i := 6) rfl)) (hw _ (List.mem_of_getElem? (i := 15) rfl)) (by decide) e1 E_PARK (own_code_14 l Z a0 hw h0 a_BY_CODE a_BUFFERS a_HOLDABLE_CLASS a_UNPARK a_MONITOR_ENTER a_CPU_TIMER a_CLASS a_ALLOC_INTERVAL a_THREAD a_OPTIONS a_END a_STACK a_TIME a_UNDER_WAY a_PARK a_ALLOC_SAMPLE a_SAMPLE a_WALL_SAMPLE a_METHOD a_VIRTUAL_THREAD a_WALL_INTERVAL cl_BY_CODE hE) (by decide) (by decide) (by decide) (by decide) (Q := fun v h L => v = some (.int (7 : Int32)) ∧ L = [] ∧ h = h0) (W := 0) (g := (mkF m 41 #[.val (.int (7 : Int32)), .val (.ref a_PARK), .val (.int (1 : Int32))] [(.ref a_PARK)])) (argsL := []) (rest := []) rfl (by rw [hml]; rfl) (lenOf own_pd_1 rfl) rfl (by show 2 * 0 + _ ≤ _; exact Nat.le_of_eq rfl) (hb hby own_d_method_3_code_41))
  refine own_st (T' := T2) (g' := (mkF m 44 #[.val (.int (7 : Int32)), .val (.ref a_PARK), .val (.int (1 : Int32))] [(.int (7 : Int32))])) st2 ?_
  refine own_st (T' := T2) (g' := (mkF m 45 #[.val (.int (7 : Int32)), .val (.ref a_PARK), .val (.int (1 : Int32))] [(.int (7 : Int32)), (.int (7 : Int32))])) (fun _ k => XS.iloadN X2.here hx rfl (hb hby own_d_method_3_code_44) rfl k) ?_
  refine own_st (T' := T2) (g' := (mkF m 48 #[.val (.int (7 : Int32)), .val (.ref a_PARK), .val (.int (1 : Int32))] [])) (fun _ k => XS.icmpNo X2.here hx rfl (hb hby own_d_method_3_code_45) rfl (by decide) k) ?_
  refine own_st (T' := T2) (g' := (mkF m 49 #[.val (.int (7 : Int32)), .val (.ref a_PARK), .val (.int (1 : Int32))] [(.int (1 : Int32))])) (fun _ k => XS.iconst X2.here hx rfl (hb hby own_d_method_3_code_48) k) ?_
  refine own_st (T' := T2) (g' := (mkF m 53 #[.val (.int (7 : Int32)), .val (.ref a_PARK), .val (.int (1 : Int32))] [(.int (1 : Int32))])) (fun _ k => XS.goto X2.here hx rfl (pc0 := 49) (pc' := 53) rfl (hb hby own_d_method_3_code_49) (by decide) (by decide) k) ?_
  exact own_ret X2 hx hlk hret rfl (Or.inl ⟨rfl, Or.inr (Or.inl rfl), _, rfl⟩) (hb hby own_d_method_3_code_53) (by decide) (by decide) ⟨rfl, rfl, e2⟩
set_option maxRecDepth 65536 in
set_option maxHeartbeats 40000000 in
theorem own_of_15 (l : Launch) (Z : State) (a0 : Array Value) (hw : ∀ d ∈ tables_1, d.before a0 Z = true) (h0 : Heap) (a_BY_CODE : Addr) (a_BUFFERS : Addr) (a_HOLDABLE_CLASS : Addr) (a_UNPARK : Addr) (a_MONITOR_ENTER : Addr) (a_CPU_TIMER : Addr) (a_CLASS : Addr) (a_ALLOC_INTERVAL : Addr) (a_THREAD : Addr) (a_OPTIONS : Addr) (a_END : Addr) (a_STACK : Addr) (a_TIME : Addr) (a_UNDER_WAY : Addr) (a_PARK : Addr) (a_ALLOC_SAMPLE : Addr) (a_SAMPLE : Addr) (a_WALL_SAMPLE : Addr) (a_METHOD : Addr) (a_VIRTUAL_THREAD : Addr) (a_WALL_INTERVAL : Addr) (cl_BY_CODE : Cell) (hE : own_E Z h0 a_BY_CODE a_BUFFERS a_HOLDABLE_CLASS a_UNPARK a_MONITOR_ENTER a_CPU_TIMER a_CLASS a_ALLOC_INTERVAL a_THREAD a_OPTIONS a_END a_STACK a_TIME a_UNDER_WAY a_PARK a_ALLOC_SAMPLE a_SAMPLE a_WALL_SAMPLE a_METHOD a_VIRTUAL_THREAD a_WALL_INTERVAL cl_BY_CODE) :
    own_Pure l Z h0 [] ({ frames := 0, cells := 0, slots := 0, locals := 0 } : Room) (⟨"com/example/tracewell/tracewell/RecordKind", "of", "(I)Lcom/example/tracewell/tracewell/RecordKind;"⟩ : MethodName) prog_60_method_4_code 1 (some (.object "com/example/tracewell/tracewell/RecordKind")) #[(.int (8 : Int32))] (some (.ref a_UNPARK)) := by
  refine own_body (plainFor_of_name own_pn_0) ?_
  intro p e s m below meth c T0 X0 hx hby hml hown hZ e0 hret hlk hnm hnamed
  replace hown : s.vm.findClass "com/example/tracewell/tracewell/RecordKind" = some m.cls := hown
  replace hml : c.maxLocals = 1 := hml
  have ef : entryFrame m #[(.int (8 : Int32))] 1 = mkF m 0 #[.val (.int (8 : Int32))] [] := by first | (simp [entryFrame, mkF, argsToLocals, Value.category]; done) | rfl
  rw [ef]
  have S_BY_CODE := own_p_S_BY_CODE hE
  have A_BY_CODE := own_p_A_BY_CODE hE
  have Z_BY_CODE := own_p_Z_BY_CODE hE
  have Y_BY_CODE_8 := own_p_Y_BY_CODE_8 hE
  refine own_st (T' := T0) (g' := (mkF m 1 #[.val (.int (8 : Int32))] [(.int (8 : Int32))])) (fun _ k => XS.iloadN X0.here hx rfl (hb hby own_d_prog_60_method_4_code_0) rfl k) ?_
  refine own_st (T' := T0) (g' := (mkF m 4 #[.val (.int (8 : Int32))] [])) (fun _ k => XS.ifNo X0.here hx rfl (hb hby own_d_prog_60_method_4_code_1) rfl (by decide) k) ?_
  refine own_st (T' := T0) (g' := (mkF m 5 #[.val (.int (8 : Int32))] [(.int (8 : Int32))])) (fun _ k => XS.iloadN X0.here hx rfl (hb hby own_d_prog_60_method_4_code_4) rfl k) ?_
  obtain ⟨T1, X1, e1, st1⟩ := getS2 X0 hx hZ hown (host := "") (Or.inl (hw _ (List.mem_of_getElem? (i := 8) rfl))) Via.refl e0 S_BY_CODE (g := (mkF m 5 #[.val (.int (8 : Int32))] [(.int (8 : Int32))])) rfl (hb hby own_d_prog_60_method_4_code_5)
  refine own_st (T' := T1) (g' := (mkF m 8 #[.val (.int (8 : Int32))] [(.ref a_BY_CODE), (.int (8 : Int32))])) st1 ?_
  refine own_st (T' := T1) (g' := (mkF m 9 #[.val (.int (8 : Int32))] [(.int cl_BY_CODE.slots.size.toInt32), (.int (8 : Int32))])) (fun _ k => X1.arraylength hx (by rw [e1]; exact A_BY_CODE.1) (State.isArrayOf_alike hZ.alike A_BY_CODE.2.1) (g := (mkF m 8 #[.val (.int (8 : Int32))] [(.ref a_BY_CODE), (.int (8 : Int32))])) rfl rfl (hb hby own_d_prog_60_method_4_code_8) _ k) ?_
  rw [len_of Z_BY_CODE (by decide)]
  refine own_st (T' := T1) (g' := (mkF m 12 #[.val (.int (8 : Int32))] [])) (fun _ k => XS.icmpNo X1.here hx rfl (hb hby own_d_prog_60_method_4_code_9) rfl (by decide) k) ?_
  obtain ⟨T2, X2, e2, st2⟩ := getS2 X1 hx hZ hown (host := "") (Or.inl (hw _ (List.mem_of_getElem? (i := 8) rfl))) Via.refl e1 S_BY_CODE (g := (mkF m 12 #[.val (.int (8 : Int32))] [])) rfl (hb hby own_d_prog_60_method_4_code_12)
  refine own_st (T' := T2) (g' := (mkF m 15 #[.val (.int (8 : Int32))] [(.ref a_BY_CODE)])) st2 ?_
  refine own_st (T' := T2) (g' := (mkF m 16 #[.val (.int (8 : Int32))] [(.int (8 : Int32)), (.ref a_BY_CODE)])) (fun _ k => XS.iloadN X2.here hx rfl (hb hby own_d_prog_60_method_4_code_15) rfl k) ?_
  refine own_st (T' := T2) (g' := (mkF m 17 #[.val (.int (8 : Int32))] [(.ref a_UNPARK)])) (fun _ k => X2.aaload hx (j := (8 : Int32)) (v := (.ref a_UNPARK)) (by rw [e2]; exact A_BY_CODE.1) (State.isArrayOf_alike hZ.alike A_BY_CODE.2.1) rfl A_BY_CODE.2.2 (inb_of Z_BY_CODE ⟨by decide, by decide⟩) Y_BY_CODE_8 (g := (mkF m 16 #[.val (.int (8 : Int32))] [(.int (8 : Int32)), (.ref a_BY_CODE)])) rfl rfl (hb hby own_d_prog_60_method_4_code_16) _ k) ?_
  refine own_st (T' := T2) (g' := (mkF m 21 #[.val (.int (8 : Int32))] [(.ref a_UNPARK)])) (fun _ k => XS.goto X2.here hx rfl (pc0 := 17) (pc' := 21) rfl (hb hby own_d_prog_60_method_4_code_17) (by decide) (by decide) k) ?_
  exact own_ret X2 hx hlk hret rfl (Or.inr (Or.inr (Or.inr (Or.inr ⟨rfl, rfl, rfl⟩)))) (hb hby own_d_prog_60_method_4_code_21) (by decide) (by decide) ⟨rfl, rfl, e2⟩
set_option maxRecDepth 65536 in
set_option maxHeartbeats 40000000 in
theorem own_code_16 (l : Launch) (Z : State) (a0 : Array Value) (hw : ∀ d ∈ tables_1, d.before a0 Z = true) (h0 : Heap) (a_BY_CODE : Addr) (a_BUFFERS : Addr) (a_HOLDABLE_CLASS : Addr) (a_UNPARK : Addr) (a_MONITOR_ENTER : Addr) (a_CPU_TIMER : Addr) (a_CLASS : Addr) (a_ALLOC_INTERVAL : Addr) (a_THREAD : Addr) (a_OPTIONS : Addr) (a_END : Addr) (a_STACK : Addr) (a_TIME : Addr) (a_UNDER_WAY : Addr) (a_PARK : Addr) (a_ALLOC_SAMPLE : Addr) (a_SAMPLE : Addr) (a_WALL_SAMPLE : Addr) (a_METHOD : Addr) (a_VIRTUAL_THREAD : Addr) (a_WALL_INTERVAL : Addr) (cl_BY_CODE : Cell) (hE : own_E Z h0 a_BY_CODE a_BUFFERS a_HOLDABLE_CLASS a_UNPARK a_MONITOR_ENTER a_CPU_TIMER a_CLASS a_ALLOC_INTERVAL a_THREAD a_OPTIONS a_END a_STACK a_TIME a_UNDER_WAY a_PARK a_ALLOC_SAMPLE a_SAMPLE a_WALL_SAMPLE a_METHOD a_VIRTUAL_THREAD a_WALL_INTERVAL cl_BY_CODE) :
    own_Pure l Z h0 [] ({ frames := 0, cells := 0, slots := 0, locals := 0 } : Room) (⟨"com/example/tracewell/tracewell/RecordKind", "code", "()I"⟩ : MethodName) prog_60_method_6_code 1 (some .int) #[(.ref a_UNPARK)] (some (.int (8 : Int32))) := by
  refine own_body (plainFor_of_name own_pn_0) ?_
  intro p e s m below meth c T0 X0 hx hby hml hown hZ e0 hret hlk hnm hnamed
  replace hown : s.vm.findClass "com/example/tracewell/tracewell/RecordKind" = some m.cls := hown
  replace hml : c.maxLocals = 1 := hml
  have ef : entryFrame m #[(.ref a_UNPARK)] 1 = mkF m 0 #[.val (.ref a_UNPARK)] [] := by first | (simp [entryFrame, mkF, argsToLocals, Value.category]; done) | rfl
  rw [ef]
  have F_UNPARK_code := own_p_F_UNPARK_code hE
  refine own_st (T' := T0) (g' := (mkF m 1 #[.val (.ref a_UNPARK)] [(.ref a_UNPARK)])) (fun _ k => XS.aloadN X0.here hx rfl (hb hby own_d_prog_60_method_6_code_0) rfl rfl k) ?_
  obtain ⟨T1, X1, e1, st1⟩ := getF X0 hx hZ hown (host := "") (Or.inl (hw _ (List.mem_of_getElem? (i := 16) rfl))) Via.refl e0 F_UNPARK_code (g := (mkF m 1 #[.val (.ref a_UNPARK)] [(.ref a_UNPARK)])) rfl rfl (hb hby own_d_prog_60_method_6_code_1)
  refine own_st (T' := T1) (g' := (mkF m 4 #[.val (.ref a_UNPARK)] [(.int (8 : Int32))])) st1 ?_
  exact own_ret X1 hx hlk hret rfl (Or.inl ⟨rfl, Or.inl rfl, _, rfl⟩) (hb hby own_d_prog_60_method_6_code_4) (by decide) (by decide) ⟨rfl, rfl, e1⟩
set_option maxRecDepth 65536 in
set_option maxHeartbeats 40000000 in
theorem own_check_8 (l : Launch) (Z : State) (a0 : Array Value) (hw : ∀ d ∈ tables_1, d.before a0 Z = true) (h0 : Heap) (a_BY_CODE : Addr) (a_BUFFERS : Addr) (a_HOLDABLE_CLASS : Addr) (a_UNPARK : Addr) (a_MONITOR_ENTER : Addr) (a_CPU_TIMER : Addr) (a_CLASS : Addr) (a_ALLOC_INTERVAL : Addr) (a_THREAD : Addr) (a_OPTIONS : Addr) (a_END : Addr) (a_STACK : Addr) (a_TIME : Addr) (a_UNDER_WAY : Addr) (a_PARK : Addr) (a_ALLOC_SAMPLE : Addr) (a_SAMPLE : Addr) (a_WALL_SAMPLE : Addr) (a_METHOD : Addr) (a_VIRTUAL_THREAD : Addr) (a_WALL_INTERVAL : Addr) (cl_BY_CODE : Cell) (hE : own_E Z h0 a_BY_CODE a_BUFFERS a_HOLDABLE_CLASS a_UNPARK a_MONITOR_ENTER a_CPU_TIMER a_CLASS a_ALLOC_INTERVAL a_THREAD a_OPTIONS a_END a_STACK a_TIME a_UNDER_WAY a_PARK a_ALLOC_SAMPLE a_SAMPLE a_WALL_SAMPLE a_METHOD a_VIRTUAL_THREAD a_WALL_INTERVAL cl_BY_CODE) :
    own_Pure l Z h0 [] ({ frames := 1, cells := 0, slots := 0, locals := 12 } : Room) (⟨"com/example/tracewell/tracewell/RecordKindOfPinLaw", "check", "(I)Z"⟩ : MethodName) method_3_code 3 (some .boolean) #[(.int (8 : Int32))] (some (.int (1 : Int32))) := by
  refine own_body (plainFor_of_name own_pn_1) ?_
  intro p e s m below meth c T0 X0 hx hby hml hown hZ e0 hret hlk hnm hnamed
  replace hown : s.vm.findClass "com/example/tracewell/tracewell/RecordKindOfPinLaw" = some m.cls := hown
  replace hml : c.maxLocals = 3 := hml
  have ef : entryFrame m #[(.int (8 : Int32))] 3 = mkF m 0 #[.val (.int (8 : Int32)), .unset, .unset] [] := by first | (simp [entryFrame, mkF, argsToLocals, Value.category]; done) | rfl
  rw [ef]
  have E_UNPARK := own_p_E_UNPARK hE
  refine own_st (T' := T0) (g' := (mkF m 1 #[.val (.int (8 : Int32)), .unset, .unset] [(.int (8 : Int32))])) (fun _ k => XS.iloadN X0.here hx rfl (hb hby own_d_method_3_code_0) rfl k) ?_
  obtain ⟨T1, X1, e1, st1⟩ := own_pure (w := (.ref a_UNPARK)) rfl rfl (own_gS X0 hx hZ hown (hw _ (List.mem_of_getElem? (i := 4) rfl)) (hw _ (List.mem_of_getElem? (i := 5) rfl)) (hw _ (List.mem_of_getElem? (i := 6) rfl)) (hw _ (List.mem_of_getElem? (i := 7) rfl)) (by decide) e0 (own_of_15 l Z a0 hw h0 a_BY_CODE a_BUFFERS a_HOLDABLE_CLASS a_UNPARK a_MONITOR_ENTER a_CPU_TIMER a_CLASS a_ALLOC_INTERVAL a_THREAD a_OPTIONS a_END a_STACK a_TIME a_UNDER_WAY a_PARK a_ALLOC_SAMPLE a_SAMPLE a_WALL_SAMPLE a_METHOD a_VIRTUAL_THREAD a_WALL_INTERVAL cl_BY_CODE hE) (by decide) (by decide) (by decide) (by decide) (Q := fun v h L => v = some (.ref a_UNPARK) ∧ L = [] ∧ h = h0) (W := 0) (g := (mkF m 1 #[.val (.int (8 : Int32)), .unset, .unset] [(.int (8 : Int32))])) (argsL := [(.int (8 : Int32))]) (rest := []) rfl (by rw [hml]; rfl) (lenOf own_pd_0 rfl) rfl (by show 2 * 0 + _ ≤ _; exact Nat.le_of_eq rfl) (hb hby own_d_method_3_code_1))
  refine own_st (T' := T1) (g' := (mkF m 4 #[.val (.int (8 : Int32)), .unset, .unset] [(.ref a_UNPARK)])) st1 ?_
  refine own_st (T' := T1) (g' := (mkF m 5 #[.val (.int (8 : Int32)), .val (.ref a_UNPARK), .unset] [])) (fun _ k => XS.astoreN X1.here hx rfl (hb hby own_d_method_3_code_4) rfl rfl (l' := #[.val (.int (8 : Int32)), .val (.ref a_UNPARK), .unset]) rfl k) ?_
  refine own_st (T' := T1) (g' := (mkF m 6 #[.val (.int (8 : Int32)), .val (.ref a_UNPARK), .unset] [(.int (8 : Int32))])) (fun _ k => XS.iloadN X1.here hx rfl (hb hby own_d_method_3_code_5) rfl k) ?_
  refine own_st (T' := T1) (g' := (mkF m 7 #[.val (.int (8 : Int32)), .val (.ref a_UNPARK), .unset] [(.int (1 : Int32)), (.int (8 : Int32))])) (fun _ k => XS.iconst X1.here hx rfl (hb hby own_d_method_3_code_6) k) ?_
  refine own_st (T' := T1) (g' := (mkF m 10 #[.val (.int (8 : Int32)), .val (.ref a_UNPARK), .unset] [])) (fun _ k => XS.icmpNo X1.here hx rfl (hb hby own_d_method_3_code_7) rfl (by decide) k) ?_
  refine own_st (T' := T1) (g' := (mkF m 11 #[.val (.int (8 : Int32)), .val (.ref a_UNPARK), .unset] [(.int (8 : Int32))])) (fun _ k => XS.iloadN X1.here hx rfl (hb hby own_d_method_3_code_10) rfl k) ?_
  refine own_st (T' := T1) (g' := (mkF m 13 #[.val (.int (8 : Int32)), .val (.ref a_UNPARK), .unset] [(.int (20 : Int32)), (.int (8 : Int32))])) (fun _ k => XS.bipush X1.here hx rfl (hb hby own_d_method_3_code_11) k) ?_
  refine own_st (T' := T1) (g' := (mkF m 16 #[.val (.int (8 : Int32)), .val (.ref a_UNPARK), .unset] [])) (fun _ k => XS.icmpNo X1.here hx rfl (hb hby own_d_method_3_code_13) rfl (by decide) k) ?_
  refine own_st (T' := T1) (g' := (mkF m 17 #[.val (.int (8 : Int32)), .val (.ref a_UNPARK), .unset] [(.int (1 : Int32))])) (fun _ k => XS.iconst X1.here hx rfl (hb hby own_d_method_3_code_16) k) ?_
  refine own_st (T' := T1) (g' := (mkF m 21 #[.val (.int (8 : Int32)), .val (.ref a_UNPARK), .unset] [(.int (1 : Int32))])) (fun _ k => XS.goto X1.here hx rfl (pc0 := 17) (pc' := 21) rfl (hb hby own_d_method_3_code_17) (by decide) (by decide) k) ?_
  refine own_st (T' := T1) (g' := (mkF m 22 #[.val (.int (8 : Int32)), .val (.ref a_UNPARK), .val (.int (1 : Int32))] [])) (fun _ k => XS.istoreN X1.here hx rfl (hb hby own_d_method_3_code_21) rfl (l' := #[.val (.int (8 : Int32)), .val (.ref a_UNPARK), .val (.int (1 : Int32))]) rfl k) ?_
  refine own_st (T' := T1) (g' := (mkF m 23 #[.val (.int (8 : Int32)), .val (.ref a_UNPARK), .val (.int (1 : Int32))] [(.int (1 : Int32))])) (fun _ k => XS.iloadN X1.here hx rfl (hb hby own_d_method_3_code_22) rfl k) ?_
  refine own_st (T' := T1) (g' := (mkF m 36 #[.val (.int (8 : Int32)), .val (.ref a_UNPARK), .val (.int (1 : Int32))] [])) (fun _ k => XS.ifYes X1.here hx rfl (pc0 := 23) (pc' := 36) rfl (hb hby own_d_method_3_code_23) rfl (by decide) (by decide) (by decide) k) ?_
  refine own_st (T' := T1) (g' := (mkF m 37 #[.val (.int (8 : Int32)), .val (.ref a_UNPARK), .val (.int (1 : Int32))] [(.ref a_UNPARK)])) (fun _ k => XS.aloadN X1.here hx rfl (hb hby own_d_method_3_code_36) rfl rfl k) ?_
  refine own_st (T' := T1) (g' := (mkF m 40 #[.val (.int (8 : Int32)), .val (.ref a_UNPARK), .val (.int (1 : Int32))] [])) (fun _ k => XS.ifnullNo X1.here hx rfl (hb hby own_d_method_3_code_37) rfl k) ?_
  refine own_st (T' := T1) (g' := (mkF m 41 #[.val (.int (8 : Int32)), .val (.ref a_UNPARK), .val (.int (1 : Int32))] [(.ref a_UNPARK)])) (fun _ k => XS.aloadN X1.here hx rfl (hb hby own_d_method_3_code_40) rfl rfl k) ?_
  obtain ⟨T2, X2, e2, st2⟩ := own_pure (w := (.int (8 : Int32))) rfl rfl (own_gV X1 hx hZ hown (hw _ (List.mem_of_getElem? (i := 11) rfl)) (hw _ (List.mem_of_getElem? (i := 12) rfl)) (notFace_of_selects (args := #[]) (mvT hZ (hw _ (List.mem_of_getElem? (i := 14) rfl)))) (hw _ (List.mem_of_getElem? (i := 14) rfl)) (hw _ (List.mem_of_getElem? (i := 13) rfl)) (hw _ (List.mem_of_getElem? (i := 6) rfl)) (hw _ (List.mem_of_getElem? (i := 15) rfl)) (by decide) e1 E_UNPARK (own_code_16 l Z a0 hw h0 a_BY_CODE a_BUFFERS a_HOLDABLE_CLASS a_UNPARK a_MONITOR_ENTER a_CPU_TIMER a_CLASS a_ALLOC_INTERVAL a_THREAD a_OPTIONS a_END a_STACK a_TIME a_UNDER_WAY a_PARK a_ALLOC_SAMPLE a_SAMPLE a_WALL_SAMPLE a_METHOD a_VIRTUAL_THREAD a_WALL_INTERVAL cl_BY_CODE hE) (by decide) (by decide) (by decide) (by decide) (Q := fun v h L => v = some (.int (8 : Int32)) ∧ L = [] ∧ h = h0) (W := 0) (g := (mkF m 41 #[.val (.int (8 : Int32)), .val (.ref a_UNPARK), .val (.int (1 : Int32))] [(.ref a_UNPARK)])) (argsL := []) (rest := []) rfl (by rw [hml]; rfl) (lenOf own_pd_1 rfl) rfl (by show 2 * 0 + _ ≤ _; exact Nat.le_of_eq rfl) (hb hby own_d_method_3_code_41))
  refine own_st (T' := T2) (g' := (mkF m 44 #[.val (.int (8 : Int32)), .val (.ref a_UNPARK), .val (.int (1 : Int32))] [(.int (8 : Int32))])) st2 ?_
  refine own_st (T' := T2) (g' := (mkF m 45 #[.val (.int (8 : Int32)), .val (.ref a_UNPARK), .val (.int (1 : Int32))] [(.int (8 : Int32)), (.int (8 : Int32))])) (fun _ k => XS.iloadN X2.here hx rfl (hb hby own_d_method_3_code_44) rfl k) ?_
  refine own_st (T' := T2) (g' := (mkF m 48 #[.val (.int (8 : Int32)), .val (.ref a_UNPARK), .val (.int (1 : Int32))] [])) (fun _ k => XS.icmpNo X2.here hx rfl (hb hby own_d_method_3_code_45) rfl (by decide) k) ?_
  refine own_st (T' := T2) (g' := (mkF m 49 #[.val (.int (8 : Int32)), .val (.ref a_UNPARK), .val (.int (1 : Int32))] [(.int (1 : Int32))])) (fun _ k => XS.iconst X2.here hx rfl (hb hby own_d_method_3_code_48) k) ?_
  refine own_st (T' := T2) (g' := (mkF m 53 #[.val (.int (8 : Int32)), .val (.ref a_UNPARK), .val (.int (1 : Int32))] [(.int (1 : Int32))])) (fun _ k => XS.goto X2.here hx rfl (pc0 := 49) (pc' := 53) rfl (hb hby own_d_method_3_code_49) (by decide) (by decide) k) ?_
  exact own_ret X2 hx hlk hret rfl (Or.inl ⟨rfl, Or.inr (Or.inl rfl), _, rfl⟩) (hb hby own_d_method_3_code_53) (by decide) (by decide) ⟨rfl, rfl, e2⟩
set_option maxRecDepth 65536 in
set_option maxHeartbeats 40000000 in
theorem own_of_17 (l : Launch) (Z : State) (a0 : Array Value) (hw : ∀ d ∈ tables_1, d.before a0 Z = true) (h0 : Heap) (a_BY_CODE : Addr) (a_BUFFERS : Addr) (a_HOLDABLE_CLASS : Addr) (a_UNPARK : Addr) (a_MONITOR_ENTER : Addr) (a_CPU_TIMER : Addr) (a_CLASS : Addr) (a_ALLOC_INTERVAL : Addr) (a_THREAD : Addr) (a_OPTIONS : Addr) (a_END : Addr) (a_STACK : Addr) (a_TIME : Addr) (a_UNDER_WAY : Addr) (a_PARK : Addr) (a_ALLOC_SAMPLE : Addr) (a_SAMPLE : Addr) (a_WALL_SAMPLE : Addr) (a_METHOD : Addr) (a_VIRTUAL_THREAD : Addr) (a_WALL_INTERVAL : Addr) (cl_BY_CODE : Cell) (hE : own_E Z h0 a_BY_CODE a_BUFFERS a_HOLDABLE_CLASS a_UNPARK a_MONITOR_ENTER a_CPU_TIMER a_CLASS a_ALLOC_INTERVAL a_THREAD a_OPTIONS a_END a_STACK a_TIME a_UNDER_WAY a_PARK a_ALLOC_SAMPLE a_SAMPLE a_WALL_SAMPLE a_METHOD a_VIRTUAL_THREAD a_WALL_INTERVAL cl_BY_CODE) :
    own_Pure l Z h0 [] ({ frames := 0, cells := 0, slots := 0, locals := 0 } : Room) (⟨"com/example/tracewell/tracewell/RecordKind", "of", "(I)Lcom/example/tracewell/tracewell/RecordKind;"⟩ : MethodName) prog_60_method_4_code 1 (some (.object "com/example/tracewell/tracewell/RecordKind")) #[(.int (9 : Int32))] (some (.ref a_SAMPLE)) := by
  refine own_body (plainFor_of_name own_pn_0) ?_
  intro p e s m below meth c T0 X0 hx hby hml hown hZ e0 hret hlk hnm hnamed
  replace hown : s.vm.findClass "com/example/tracewell/tracewell/RecordKind" = some m.cls := hown
  replace hml : c.maxLocals = 1 := hml
  have ef : entryFrame m #[(.int (9 : Int32))] 1 = mkF m 0 #[.val (.int (9 : Int32))] [] := by first | (simp [entryFrame, mkF, argsToLocals, Value.category]; done) | rfl
  rw [ef]
  have S_BY_CODE := own_p_S_BY_CODE hE
  have A_BY_CODE := own_p_A_BY_CODE hE
  have Z_BY_CODE := own_p_Z_BY_CODE hE
  have Y_BY_CODE_9 := own_p_Y_BY_CODE_9 hE
  refine own_st (T' := T0) (g' := (mkF m 1 #[.val (.int (9 : Int32))] [(.int (9 : Int32))])) (fun _ k => XS.iloadN X0.here hx rfl (hb hby own_d_prog_60_method_4_code_0) rfl k) ?_
  refine own_st (T' := T0) (g' := (mkF m 4 #[.val (.int (9 : Int32))] [])) (fun _ k => XS.ifNo X0.here hx rfl (hb hby own_d_prog_60_method_4_code_1) rfl (by decide) k) ?_
  refine own_st (T' := T0) (g' := (mkF m 5 #[.val (.int (9 : Int32))] [(.int (9 : Int32))])) (fun _ k => XS.iloadN X0.here hx rfl (hb hby own_d_prog_60_method_4_code_4) rfl k) ?_
  obtain ⟨T1, X1, e1, st1⟩ := getS2 X0 hx hZ hown (host := "") (Or.inl (hw _ (List.mem_of_getElem? (i := 8) rfl))) Via.refl e0 S_BY_CODE (g := (mkF m 5 #[.val (.int (9 : Int32))] [(.int (9 : Int32))])) rfl (hb hby own_d_prog_60_method_4_code_5)
  refine own_st (T' := T1) (g' := (mkF m 8 #[.val (.int (9 : Int32))] [(.ref a_BY_CODE), (.int (9 : Int32))])) st1 ?_
  refine own_st (T' := T1) (g' := (mkF m 9 #[.val (.int (9 : Int32))] [(.int cl_BY_CODE.slots.size.toInt32), (.int (9 : Int32))])) (fun _ k => X1.arraylength hx (by rw [e1]; exact A_BY_CODE.1) (State.isArrayOf_alike hZ.alike A_BY_CODE.2.1) (g := (mkF m 8 #[.val (.int (9 : Int32))] [(.ref a_BY_CODE), (.int (9 : Int32))])) rfl rfl (hb hby own_d_prog_60_method_4_code_8) _ k) ?_
  rw [len_of Z_BY_CODE (by decide)]
  refine own_st (T' := T1) (g' := (mkF m 12 #[.val (.int (9 : Int32))] [])) (fun _ k => XS.icmpNo X1.here hx rfl (hb hby own_d_prog_60_method_4_code_9) rfl (by decide) k) ?_
  obtain ⟨T2, X2, e2, st2⟩ := getS2 X1 hx hZ hown (host := "") (Or.inl (hw _ (List.mem_of_getElem? (i := 8) rfl))) Via.refl e1 S_BY_CODE (g := (mkF m 12 #[.val (.int (9 : Int32))] [])) rfl (hb hby own_d_prog_60_method_4_code_12)
  refine own_st (T' := T2) (g' := (mkF m 15 #[.val (.int (9 : Int32))] [(.ref a_BY_CODE)])) st2 ?_
  refine own_st (T' := T2) (g' := (mkF m 16 #[.val (.int (9 : Int32))] [(.int (9 : Int32)), (.ref a_BY_CODE)])) (fun _ k => XS.iloadN X2.here hx rfl (hb hby own_d_prog_60_method_4_code_15) rfl k) ?_
  refine own_st (T' := T2) (g' := (mkF m 17 #[.val (.int (9 : Int32))] [(.ref a_SAMPLE)])) (fun _ k => X2.aaload hx (j := (9 : Int32)) (v := (.ref a_SAMPLE)) (by rw [e2]; exact A_BY_CODE.1) (State.isArrayOf_alike hZ.alike A_BY_CODE.2.1) rfl A_BY_CODE.2.2 (inb_of Z_BY_CODE ⟨by decide, by decide⟩) Y_BY_CODE_9 (g := (mkF m 16 #[.val (.int (9 : Int32))] [(.int (9 : Int32)), (.ref a_BY_CODE)])) rfl rfl (hb hby own_d_prog_60_method_4_code_16) _ k) ?_
  refine own_st (T' := T2) (g' := (mkF m 21 #[.val (.int (9 : Int32))] [(.ref a_SAMPLE)])) (fun _ k => XS.goto X2.here hx rfl (pc0 := 17) (pc' := 21) rfl (hb hby own_d_prog_60_method_4_code_17) (by decide) (by decide) k) ?_
  exact own_ret X2 hx hlk hret rfl (Or.inr (Or.inr (Or.inr (Or.inr ⟨rfl, rfl, rfl⟩)))) (hb hby own_d_prog_60_method_4_code_21) (by decide) (by decide) ⟨rfl, rfl, e2⟩
set_option maxRecDepth 65536 in
set_option maxHeartbeats 40000000 in
theorem own_code_18 (l : Launch) (Z : State) (a0 : Array Value) (hw : ∀ d ∈ tables_1, d.before a0 Z = true) (h0 : Heap) (a_BY_CODE : Addr) (a_BUFFERS : Addr) (a_HOLDABLE_CLASS : Addr) (a_UNPARK : Addr) (a_MONITOR_ENTER : Addr) (a_CPU_TIMER : Addr) (a_CLASS : Addr) (a_ALLOC_INTERVAL : Addr) (a_THREAD : Addr) (a_OPTIONS : Addr) (a_END : Addr) (a_STACK : Addr) (a_TIME : Addr) (a_UNDER_WAY : Addr) (a_PARK : Addr) (a_ALLOC_SAMPLE : Addr) (a_SAMPLE : Addr) (a_WALL_SAMPLE : Addr) (a_METHOD : Addr) (a_VIRTUAL_THREAD : Addr) (a_WALL_INTERVAL : Addr) (cl_BY_CODE : Cell) (hE : own_E Z h0 a_BY_CODE a_BUFFERS a_HOLDABLE_CLASS a_UNPARK a_MONITOR_ENTER a_CPU_TIMER a_CLASS a_ALLOC_INTERVAL a_THREAD a_OPTIONS a_END a_STACK a_TIME a_UNDER_WAY a_PARK a_ALLOC_SAMPLE a_SAMPLE a_WALL_SAMPLE a_METHOD a_VIRTUAL_THREAD a_WALL_INTERVAL cl_BY_CODE) :
    own_Pure l Z h0 [] ({ frames := 0, cells := 0, slots := 0, locals := 0 } : Room) (⟨"com/example/tracewell/tracewell/RecordKind", "code", "()I"⟩ : MethodName) prog_60_method_6_code 1 (some .int) #[(.ref a_SAMPLE)] (some (.int (9 : Int32))) := by
  refine own_body (plainFor_of_name own_pn_0) ?_
  intro p e s m below meth c T0 X0 hx hby hml hown hZ e0 hret hlk hnm hnamed
  replace hown : s.vm.findClass "com/example/tracewell/tracewell/RecordKind" = some m.cls := hown
  replace hml : c.maxLocals = 1 := hml
  have ef : entryFrame m #[(.ref a_SAMPLE)] 1 = mkF m 0 #[.val (.ref a_SAMPLE)] [] := by first | (simp [entryFrame, mkF, argsToLocals, Value.category]; done) | rfl
  rw [ef]
  have F_SAMPLE_code := own_p_F_SAMPLE_code hE
  refine own_st (T' := T0) (g' := (mkF m 1 #[.val (.ref a_SAMPLE)] [(.ref a_SAMPLE)])) (fun _ k => XS.aloadN X0.here hx rfl (hb hby own_d_prog_60_method_6_code_0) rfl rfl k) ?_
  obtain ⟨T1, X1, e1, st1⟩ := getF X0 hx hZ hown (host := "") (Or.inl (hw _ (List.mem_of_getElem? (i := 16) rfl))) Via.refl e0 F_SAMPLE_code (g := (mkF m 1 #[.val (.ref a_SAMPLE)] [(.ref a_SAMPLE)])) rfl rfl (hb hby own_d_prog_60_method_6_code_1)
  refine own_st (T' := T1) (g' := (mkF m 4 #[.val (.ref a_SAMPLE)] [(.int (9 : Int32))])) st1 ?_
  exact own_ret X1 hx hlk hret rfl (Or.inl ⟨rfl, Or.inl rfl, _, rfl⟩) (hb hby own_d_prog_60_method_6_code_4) (by decide) (by decide) ⟨rfl, rfl, e1⟩
set_option maxRecDepth 65536 in
set_option maxHeartbeats 40000000 in
theorem own_check_9 (l : Launch) (Z : State) (a0 : Array Value) (hw : ∀ d ∈ tables_1, d.before a0 Z = true) (h0 : Heap) (a_BY_CODE : Addr) (a_BUFFERS : Addr) (a_HOLDABLE_CLASS : Addr) (a_UNPARK : Addr) (a_MONITOR_ENTER : Addr) (a_CPU_TIMER : Addr) (a_CLASS : Addr) (a_ALLOC_INTERVAL : Addr) (a_THREAD : Addr) (a_OPTIONS : Addr) (a_END : Addr) (a_STACK : Addr) (a_TIME : Addr) (a_UNDER_WAY : Addr) (a_PARK : Addr) (a_ALLOC_SAMPLE : Addr) (a_SAMPLE : Addr) (a_WALL_SAMPLE : Addr) (a_METHOD : Addr) (a_VIRTUAL_THREAD : Addr) (a_WALL_INTERVAL : Addr) (cl_BY_CODE : Cell) (hE : own_E Z h0 a_BY_CODE a_BUFFERS a_HOLDABLE_CLASS a_UNPARK a_MONITOR_ENTER a_CPU_TIMER a_CLASS a_ALLOC_INTERVAL a_THREAD a_OPTIONS a_END a_STACK a_TIME a_UNDER_WAY a_PARK a_ALLOC_SAMPLE a_SAMPLE a_WALL_SAMPLE a_METHOD a_VIRTUAL_THREAD a_WALL_INTERVAL cl_BY_CODE) :
    own_Pure l Z h0 [] ({ frames := 1, cells := 0, slots := 0, locals := 12 } : Room) (⟨"com/example/tracewell/tracewell/RecordKindOfPinLaw", "check", "(I)Z"⟩ : MethodName) method_3_code 3 (some .boolean) #[(.int (9 : Int32))] (some (.int (1 : Int32))) := by
  refine own_body (plainFor_of_name own_pn_1) ?_
  intro p e s m below meth c T0 X0 hx hby hml hown hZ e0 hret hlk hnm hnamed
  replace hown : s.vm.findClass "com/example/tracewell/tracewell/RecordKindOfPinLaw" = some m.cls := hown
  replace hml : c.maxLocals = 3 := hml
  have ef : entryFrame m #[(.int (9 : Int32))] 3 = mkF m 0 #[.val (.int (9 : Int32)), .unset, .unset] [] := by first | (simp [entryFrame, mkF, argsToLocals, Value.category]; done) | rfl
  rw [ef]
  have E_SAMPLE := own_p_E_SAMPLE hE
  refine own_st (T' := T0) (g' := (mkF m 1 #[.val (.int (9 : Int32)), .unset, .unset] [(.int (9 : Int32))])) (fun _ k => XS.iloadN X0.here hx rfl (hb hby own_d_method_3_code_0) rfl k) ?_
  obtain ⟨T1, X1, e1, st1⟩ := own_pure (w := (.ref a_SAMPLE)) rfl rfl (own_gS X0 hx hZ hown (hw _ (List.mem_of_getElem? (i := 4) rfl)) (hw _ (List.mem_of_getElem? (i := 5) rfl)) (hw _ (List.mem_of_getElem? (i := 6) rfl)) (hw _ (List.mem_of_getElem? (i := 7) rfl)) (by decide) e0 (own_of_17 l Z a0 hw h0 a_BY_CODE a_BUFFERS a_HOLDABLE_CLASS a_UNPARK a_MONITOR_ENTER a_CPU_TIMER a_CLASS a_ALLOC_INTERVAL a_THREAD a_OPTIONS a_END a_STACK a_TIME a_UNDER_WAY a_PARK a_ALLOC_SAMPLE a_SAMPLE a_WALL_SAMPLE a_METHOD a_VIRTUAL_THREAD a_WALL_INTERVAL cl_BY_CODE hE) (by decide) (by decide) (by decide) (by decide) (Q := fun v h L => v = some (.ref a_SAMPLE) ∧ L = [] ∧ h = h0) (W := 0) (g := (mkF m 1 #[.val (.int (9 : Int32)), .unset, .unset] [(.int (9 : Int32))])) (argsL := [(.int (9 : Int32))]) (rest := []) rfl (by rw [hml]; rfl) (lenOf own_pd_0 rfl) rfl (by show 2 * 0 + _ ≤ _; exact Nat.le_of_eq rfl) (hb hby own_d_method_3_code_1))
  refine own_st (T' := T1) (g' := (mkF m 4 #[.val (.int (9 : Int32)), .unset, .unset] [(.ref a_SAMPLE)])) st1 ?_
  refine own_st (T' := T1) (g' := (mkF m 5 #[.val (.int (9 : Int32)), .val (.ref a_SAMPLE), .unset] [])) (fun _ k => XS.astoreN X1.here hx rfl (hb hby own_d_method_3_code_4) rfl rfl (l' := #[.val (.int (9 : Int32)), .val (.ref a_SAMPLE), .unset]) rfl k) ?_
  refine own_st (T' := T1) (g' := (mkF m 6 #[.val (.int (9 : Int32)), .val (.ref a_SAMPLE), .unset] [(.int (9 : Int32))])) (fun _ k => XS.iloadN X1.here hx rfl (hb hby own_d_method_3_code_5) rfl k) ?_
  refine own_st (T' := T1) (g' := (mkF m 7 #[.val (.int (9 : Int32)), .val (.ref a_SAMPLE), .unset] [(.int (1 : Int32)), (.int (9 : Int32))])) (fun _ k => XS.iconst X1.here hx rfl (hb hby own_d_method_3_code_6) k) ?_
  refine own_st (T' := T1) (g' := (mkF m 10 #[.val (.int (9 : Int32)), .val (.ref a_SAMPLE), .unset] [])) (fun _ k => XS.icmpNo X1.here hx rfl (hb hby own_d_method_3_code_7) rfl (by decide) k) ?_
  refine own_st (T' := T1) (g' := (mkF m 11 #[.val (.int (9 : Int32)), .val (.ref a_SAMPLE), .unset] [(.int (9 : Int32))])) (fun _ k => XS.iloadN X1.here hx rfl (hb hby own_d_method_3_code_10) rfl k) ?_
  refine own_st (T' := T1) (g' := (mkF m 13 #[.val (.int (9 : Int32)), .val (.ref a_SAMPLE), .unset] [(.int (20 : Int32)), (.int (9 : Int32))])) (fun _ k => XS.bipush X1.here hx rfl (hb hby own_d_method_3_code_11) k) ?_
  refine own_st (T' := T1) (g' := (mkF m 16 #[.val (.int (9 : Int32)), .val (.ref a_SAMPLE), .unset] [])) (fun _ k => XS.icmpNo X1.here hx rfl (hb hby own_d_method_3_code_13) rfl (by decide) k) ?_
  refine own_st (T' := T1) (g' := (mkF m 17 #[.val (.int (9 : Int32)), .val (.ref a_SAMPLE), .unset] [(.int (1 : Int32))])) (fun _ k => XS.iconst X1.here hx rfl (hb hby own_d_method_3_code_16) k) ?_
  refine own_st (T' := T1) (g' := (mkF m 21 #[.val (.int (9 : Int32)), .val (.ref a_SAMPLE), .unset] [(.int (1 : Int32))])) (fun _ k => XS.goto X1.here hx rfl (pc0 := 17) (pc' := 21) rfl (hb hby own_d_method_3_code_17) (by decide) (by decide) k) ?_
  refine own_st (T' := T1) (g' := (mkF m 22 #[.val (.int (9 : Int32)), .val (.ref a_SAMPLE), .val (.int (1 : Int32))] [])) (fun _ k => XS.istoreN X1.here hx rfl (hb hby own_d_method_3_code_21) rfl (l' := #[.val (.int (9 : Int32)), .val (.ref a_SAMPLE), .val (.int (1 : Int32))]) rfl k) ?_
  refine own_st (T' := T1) (g' := (mkF m 23 #[.val (.int (9 : Int32)), .val (.ref a_SAMPLE), .val (.int (1 : Int32))] [(.int (1 : Int32))])) (fun _ k => XS.iloadN X1.here hx rfl (hb hby own_d_method_3_code_22) rfl k) ?_
  refine own_st (T' := T1) (g' := (mkF m 36 #[.val (.int (9 : Int32)), .val (.ref a_SAMPLE), .val (.int (1 : Int32))] [])) (fun _ k => XS.ifYes X1.here hx rfl (pc0 := 23) (pc' := 36) rfl (hb hby own_d_method_3_code_23) rfl (by decide) (by decide) (by decide) k) ?_
  refine own_st (T' := T1) (g' := (mkF m 37 #[.val (.int (9 : Int32)), .val (.ref a_SAMPLE), .val (.int (1 : Int32))] [(.ref a_SAMPLE)])) (fun _ k => XS.aloadN X1.here hx rfl (hb hby own_d_method_3_code_36) rfl rfl k) ?_
  refine own_st (T' := T1) (g' := (mkF m 40 #[.val (.int (9 : Int32)), .val (.ref a_SAMPLE), .val (.int (1 : Int32))] [])) (fun _ k => XS.ifnullNo X1.here hx rfl (hb hby own_d_method_3_code_37) rfl k) ?_
  refine own_st (T' := T1) (g' := (mkF m 41 #[.val (.int (9 : Int32)), .val (.ref a_SAMPLE), .val (.int (1 : Int32))] [(.ref a_SAMPLE)])) (fun _ k => XS.aloadN X1.here hx rfl (hb hby own_d_method_3_code_40) rfl rfl k) ?_
  obtain ⟨T2, X2, e2, st2⟩ := own_pure (w := (.int (9 : Int32))) rfl rfl (own_gV X1 hx hZ hown (hw _ (List.mem_of_getElem? (i := 11) rfl)) (hw _ (List.mem_of_getElem? (i := 12) rfl)) (notFace_of_selects (args := #[]) (mvT hZ (hw _ (List.mem_of_getElem? (i := 14) rfl)))) (hw _ (List.mem_of_getElem? (i := 14) rfl)) (hw _ (List.mem_of_getElem? (i := 13) rfl)) (hw _ (List.mem_of_getElem? (i := 6) rfl)) (hw _ (List.mem_of_getElem? (i := 15) rfl)) (by decide) e1 E_SAMPLE (own_code_18 l Z a0 hw h0 a_BY_CODE a_BUFFERS a_HOLDABLE_CLASS a_UNPARK a_MONITOR_ENTER a_CPU_TIMER a_CLASS a_ALLOC_INTERVAL a_THREAD a_OPTIONS a_END a_STACK a_TIME a_UNDER_WAY a_PARK a_ALLOC_SAMPLE a_SAMPLE a_WALL_SAMPLE a_METHOD a_VIRTUAL_THREAD a_WALL_INTERVAL cl_BY_CODE hE) (by decide) (by decide) (by decide) (by decide) (Q := fun v h L => v = some (.int (9 : Int32)) ∧ L = [] ∧ h = h0) (W := 0) (g := (mkF m 41 #[.val (.int (9 : Int32)), .val (.ref a_SAMPLE), .val (.int (1 : Int32))] [(.ref a_SAMPLE)])) (argsL := []) (rest := []) rfl (by rw [hml]; rfl) (lenOf own_pd_1 rfl) rfl (by show 2 * 0 + _ ≤ _; exact Nat.le_of_eq rfl) (hb hby own_d_method_3_code_41))
  refine own_st (T' := T2) (g' := (mkF m 44 #[.val (.int (9 : Int32)), .val (.ref a_SAMPLE), .val (.int (1 : Int32))] [(.int (9 : Int32))])) st2 ?_
  refine own_st (T' := T2) (g' := (mkF m 45 #[.val (.int (9 : Int32)), .val (.ref a_SAMPLE), .val (.int (1 : Int32))] [(.int (9 : Int32)), (.int (9 : Int32))])) (fun _ k => XS.iloadN X2.here hx rfl (hb hby own_d_method_3_code_44) rfl k) ?_
  refine own_st (T' := T2) (g' := (mkF m 48 #[.val (.int (9 : Int32)), .val (.ref a_SAMPLE), .val (.int (1 : Int32))] [])) (fun _ k => XS.icmpNo X2.here hx rfl (hb hby own_d_method_3_code_45) rfl (by decide) k) ?_
  refine own_st (T' := T2) (g' := (mkF m 49 #[.val (.int (9 : Int32)), .val (.ref a_SAMPLE), .val (.int (1 : Int32))] [(.int (1 : Int32))])) (fun _ k => XS.iconst X2.here hx rfl (hb hby own_d_method_3_code_48) k) ?_
  refine own_st (T' := T2) (g' := (mkF m 53 #[.val (.int (9 : Int32)), .val (.ref a_SAMPLE), .val (.int (1 : Int32))] [(.int (1 : Int32))])) (fun _ k => XS.goto X2.here hx rfl (pc0 := 49) (pc' := 53) rfl (hb hby own_d_method_3_code_49) (by decide) (by decide) k) ?_
  exact own_ret X2 hx hlk hret rfl (Or.inl ⟨rfl, Or.inr (Or.inl rfl), _, rfl⟩) (hb hby own_d_method_3_code_53) (by decide) (by decide) ⟨rfl, rfl, e2⟩
set_option maxRecDepth 65536 in
set_option maxHeartbeats 40000000 in
theorem own_of_19 (l : Launch) (Z : State) (a0 : Array Value) (hw : ∀ d ∈ tables_1, d.before a0 Z = true) (h0 : Heap) (a_BY_CODE : Addr) (a_BUFFERS : Addr) (a_HOLDABLE_CLASS : Addr) (a_UNPARK : Addr) (a_MONITOR_ENTER : Addr) (a_CPU_TIMER : Addr) (a_CLASS : Addr) (a_ALLOC_INTERVAL : Addr) (a_THREAD : Addr) (a_OPTIONS : Addr) (a_END : Addr) (a_STACK : Addr) (a_TIME : Addr) (a_UNDER_WAY : Addr) (a_PARK : Addr) (a_ALLOC_SAMPLE : Addr) (a_SAMPLE : Addr) (a_WALL_SAMPLE : Addr) (a_METHOD : Addr) (a_VIRTUAL_THREAD : Addr) (a_WALL_INTERVAL : Addr) (cl_BY_CODE : Cell) (hE : own_E Z h0 a_BY_CODE a_BUFFERS a_HOLDABLE_CLASS a_UNPARK a_MONITOR_ENTER a_CPU_TIMER a_CLASS a_ALLOC_INTERVAL a_THREAD a_OPTIONS a_END a_STACK a_TIME a_UNDER_WAY a_PARK a_ALLOC_SAMPLE a_SAMPLE a_WALL_SAMPLE a_METHOD a_VIRTUAL_THREAD a_WALL_INTERVAL cl_BY_CODE) :
    own_Pure l Z h0 [] ({ frames := 0, cells := 0, slots := 0, locals := 0 } : Room) (⟨"com/example/tracewell/tracewell/RecordKind", "of", "(I)Lcom/example/tracewell/tracewell/RecordKind;"⟩ : MethodName) prog_60_method_4_code 1 (some (.object "com/example/tracewell/tracewell/RecordKind")) #[(.int (10 : Int32))] (some (.ref a_UNDER_WAY)) := by
  refine own_body (plainFor_of_name own_pn_0) ?_
  intro p e s m below meth c T0 X0 hx hby hml hown hZ e0 hret hlk hnm hnamed
  replace hown : s.vm.findClass "com/example/tracewell/tracewell/RecordKind" = some m.cls := hown
  replace hml : c.maxLocals = 1 := hml
  have ef : entryFrame m #[(.int (10 : Int32))] 1 = mkF m 0 #[.val (.int (10 : Int32))] [] := by first | (simp [entryFrame, mkF, argsToLocals, Value.category]; done) | rfl
  rw [ef]
  have S_BY_CODE := own_p_S_BY_CODE hE
  have A_BY_CODE := own_p_A_BY_CODE hE
  have Z_BY_CODE := own_p_Z_BY_CODE hE
  have Y_BY_CODE_10 := own_p_Y_BY_CODE_10 hE
  refine own_st (T' := T0) (g' := (mkF m 1 #[.val (.int (10 : Int32))] [(.int (10 : Int32))])) (fun _ k => XS.iloadN X0.here hx rfl (hb hby own_d_prog_60_method_4_code_0) rfl k) ?_
  refine own_st (T' := T0) (g' := (mkF m 4 #[.val (.int (10 : Int32))] [])) (fun _ k => XS.ifNo X0.here hx rfl (hb hby own_d_prog_60_method_4_code_1) rfl (by decide) k) ?_
  refine own_st (T' := T0) (g' := (mkF m 5 #[.val (.int (10 : Int32))] [(.int (10 : Int32))])) (fun _ k => XS.iloadN X0.here hx rfl (hb hby own_d_prog_60_method_4_code_4) rfl k) ?_
  obtain ⟨T1, X1, e1, st1⟩ := getS2 X0 hx hZ hown (host := "") (Or.inl (hw _ (List.mem_of_getElem? (i := 8) rfl))) Via.refl e0 S_BY_CODE (g := (mkF m 5 #[.val (.int (10 : Int32))] [(.int (10 : Int32))])) rfl (hb hby own_d_prog_60_method_4_code_5)
  refine own_st (T' := T1) (g' := (mkF m 8 #[.val (.int (10 : Int32))] [(.ref a_BY_CODE), (.int (10 : Int32))])) st1 ?_
  refine own_st (T' := T1) (g' := (mkF m 9 #[.val (.int (10 : Int32))] [(.int cl_BY_CODE.slots.size.toInt32), (.int (10 : Int32))])) (fun _ k => X1.arraylength hx (by rw [e1]; exact A_BY_CODE.1) (State.isArrayOf_alike hZ.alike A_BY_CODE.2.1) (g := (mkF m 8 #[.val (.int (10 : Int32))] [(.ref a_BY_CODE), (.int (10 : Int32))])) rfl rfl (hb hby own_d_prog_60_method_4_code_8) _ k) ?_
  rw [len_of Z_BY_CODE (by decide)]
  refine own_st (T' := T1) (g' := (mkF m 12 #[.val (.int (10 : Int32))] [])) (fun _ k => XS.icmpNo X1.here hx rfl (hb hby own_d_prog_60_method_4_code_9) rfl (by decide) k) ?_
  obtain ⟨T2, X2, e2, st2⟩ := getS2 X1 hx hZ hown (host := "") (Or.inl (hw _ (List.mem_of_getElem? (i := 8) rfl))) Via.refl e1 S_BY_CODE (g := (mkF m 12 #[.val (.int (10 : Int32))] [])) rfl (hb hby own_d_prog_60_method_4_code_12)
  refine own_st (T' := T2) (g' := (mkF m 15 #[.val (.int (10 : Int32))] [(.ref a_BY_CODE)])) st2 ?_
  refine own_st (T' := T2) (g' := (mkF m 16 #[.val (.int (10 : Int32))] [(.int (10 : Int32)), (.ref a_BY_CODE)])) (fun _ k => XS.iloadN X2.here hx rfl (hb hby own_d_prog_60_method_4_code_15) rfl k) ?_
  refine own_st (T' := T2) (g' := (mkF m 17 #[.val (.int (10 : Int32))] [(.ref a_UNDER_WAY)])) (fun _ k => X2.aaload hx (j := (10 : Int32)) (v := (.ref a_UNDER_WAY)) (by rw [e2]; exact A_BY_CODE.1) (State.isArrayOf_alike hZ.alike A_BY_CODE.2.1) rfl A_BY_CODE.2.2 (inb_of Z_BY_CODE ⟨by decide, by decide⟩) Y_BY_CODE_10 (g := (mkF m 16 #[.val (.int (10 : Int32))] [(.int (10 : Int32)), (.ref a_BY_CODE)])) rfl rfl (hb hby own_d_prog_60_method_4_code_16) _ k) ?_
  refine own_st (T' := T2) (g' := (mkF m 21 #[.val (.int (10 : Int32))] [(.ref a_UNDER_WAY)])) (fun _ k => XS.goto X2.here hx rfl (pc0 := 17) (pc' := 21) rfl (hb hby own_d_prog_60_method_4_code_17) (by decide) (by decide) k) ?_
  exact own_ret X2 hx hlk hret rfl (Or.inr (Or.inr (Or.inr (Or.inr ⟨rfl, rfl, rfl⟩)))) (hb hby own_d_prog_60_method_4_code_21) (by decide) (by decide) ⟨rfl, rfl, e2⟩
set_option maxRecDepth 65536 in
set_option maxHeartbeats 40000000 in
theorem own_code_20 (l : Launch) (Z : State) (a0 : Array Value) (hw : ∀ d ∈ tables_1, d.before a0 Z = true) (h0 : Heap) (a_BY_CODE : Addr) (a_BUFFERS : Addr) (a_HOLDABLE_CLASS : Addr) (a_UNPARK : Addr) (a_MONITOR_ENTER : Addr) (a_CPU_TIMER : Addr) (a_CLASS : Addr) (a_ALLOC_INTERVAL : Addr) (a_THREAD : Addr) (a_OPTIONS : Addr) (a_END : Addr) (a_STACK : Addr) (a_TIME : Addr) (a_UNDER_WAY : Addr) (a_PARK : Addr) (a_ALLOC_SAMPLE : Addr) (a_SAMPLE : Addr) (a_WALL_SAMPLE : Addr) (a_METHOD : Addr) (a_VIRTUAL_THREAD : Addr) (a_WALL_INTERVAL : Addr) (cl_BY_CODE : Cell) (hE : own_E Z h0 a_BY_CODE a_BUFFERS a_HOLDABLE_CLASS a_UNPARK a_MONITOR_ENTER a_CPU_TIMER a_CLASS a_ALLOC_INTERVAL a_THREAD a_OPTIONS a_END a_STACK a_TIME a_UNDER_WAY a_PARK a_ALLOC_SAMPLE a_SAMPLE a_WALL_SAMPLE a_METHOD a_VIRTUAL_THREAD a_WALL_INTERVAL cl_BY_CODE) :
    own_Pure l Z h0 [] ({ frames := 0, cells := 0, slots := 0, locals := 0 } : Room) (⟨"com/example/tracewell/tracewell/RecordKind", "code", "()I"⟩ : MethodName) prog_60_method_6_code 1 (some .int) #[(.ref a_UNDER_WAY)] (some (.int (10 : Int32))) := by
  refine own_body (plainFor_of_name own_pn_0) ?_
  intro p e s m below meth c T0 X0 hx hby hml hown hZ e0 hret hlk hnm hnamed
  replace hown : s.vm.findClass "com/example/tracewell/tracewell/RecordKind" = some m.cls := hown
  replace hml : c.maxLocals = 1 := hml
  have ef : entryFrame m #[(.ref a_UNDER_WAY)] 1 = mkF m 0 #[.val (.ref a_UNDER_WAY)] [] := by first | (simp [entryFrame, mkF, argsToLocals, Value.category]; done) | rfl
  rw [ef]
  have F_UNDER_WAY_code := own_p_F_UNDER_WAY_code hE
  refine own_st (T' := T0) (g' := (mkF m 1 #[.val (.ref a_UNDER_WAY)] [(.ref a_UNDER_WAY)])) (fun _ k => XS.aloadN X0.here hx rfl (hb hby own_d_prog_60_method_6_code_0) rfl rfl k) ?_
  obtain ⟨T1, X1, e1, st1⟩ := getF X0 hx hZ hown (host := "") (Or.inl (hw _ (List.mem_of_getElem? (i := 16) rfl))) Via.refl e0 F_UNDER_WAY_code (g := (mkF m 1 #[.val (.ref a_UNDER_WAY)] [(.ref a_UNDER_WAY)])) rfl rfl (hb hby own_d_prog_60_method_6_code_1)
  refine own_st (T' := T1) (g' := (mkF m 4 #[.val (.ref a_UNDER_WAY)] [(.int (10 : Int32))])) st1 ?_
  exact own_ret X1 hx hlk hret rfl (Or.inl ⟨rfl, Or.inl rfl, _, rfl⟩) (hb hby own_d_prog_60_method_6_code_4) (by decide) (by decide) ⟨rfl, rfl, e1⟩
set_option maxRecDepth 65536 in
set_option maxHeartbeats 40000000 in
theorem own_check_10 (l : Launch) (Z : State) (a0 : Array Value) (hw : ∀ d ∈ tables_1, d.before a0 Z = true) (h0 : Heap) (a_BY_CODE : Addr) (a_BUFFERS : Addr) (a_HOLDABLE_CLASS : Addr) (a_UNPARK : Addr) (a_MONITOR_ENTER : Addr) (a_CPU_TIMER : Addr) (a_CLASS : Addr) (a_ALLOC_INTERVAL : Addr) (a_THREAD : Addr) (a_OPTIONS : Addr) (a_END : Addr) (a_STACK : Addr) (a_TIME : Addr) (a_UNDER_WAY : Addr) (a_PARK : Addr) (a_ALLOC_SAMPLE : Addr) (a_SAMPLE : Addr) (a_WALL_SAMPLE : Addr) (a_METHOD : Addr) (a_VIRTUAL_THREAD : Addr) (a_WALL_INTERVAL : Addr) (cl_BY_CODE : Cell) (hE : own_E Z h0 a_BY_CODE a_BUFFERS a_HOLDABLE_CLASS a_UNPARK a_MONITOR_ENTER a_CPU_TIMER a_CLASS a_ALLOC_INTERVAL a_THREAD a_OPTIONS a_END a_STACK a_TIME a_UNDER_WAY a_PARK a_ALLOC_SAMPLE a_SAMPLE a_WALL_SAMPLE a_METHOD a_VIRTUAL_THREAD a_WALL_INTERVAL cl_BY_CODE) :
    own_Pure l Z h0 [] ({ frames := 1, cells := 0, slots := 0, locals := 12 } : Room) (⟨"com/example/tracewell/tracewell/RecordKindOfPinLaw", "check", "(I)Z"⟩ : MethodName) method_3_code 3 (some .boolean) #[(.int (10 : Int32))] (some (.int (1 : Int32))) := by
  refine own_body (plainFor_of_name own_pn_1) ?_
  intro p e s m below meth c T0 X0 hx hby hml hown hZ e0 hret hlk hnm hnamed
  replace hown : s.vm.findClass "com/example/tracewell/tracewell/RecordKindOfPinLaw" = some m.cls := hown
  replace hml : c.maxLocals = 3 := hml
  have ef : entryFrame m #[(.int (10 : Int32))] 3 = mkF m 0 #[.val (.int (10 : Int32)), .unset, .unset] [] := by first | (simp [entryFrame, mkF, argsToLocals, Value.category]; done) | rfl
  rw [ef]
  have E_UNDER_WAY := own_p_E_UNDER_WAY hE
  refine own_st (T' := T0) (g' := (mkF m 1 #[.val (.int (10 : Int32)), .unset, .unset] [(.int (10 : Int32))])) (fun _ k => XS.iloadN X0.here hx rfl (hb hby own_d_method_3_code_0) rfl k) ?_
  obtain ⟨T1, X1, e1, st1⟩ := own_pure (w := (.ref a_UNDER_WAY)) rfl rfl (own_gS X0 hx hZ hown (hw _ (List.mem_of_getElem? (i := 4) rfl)) (hw _ (List.mem_of_getElem? (i := 5) rfl)) (hw _ (List.mem_of_getElem? (i := 6) rfl)) (hw _ (List.mem_of_getElem? (i := 7) rfl)) (by decide) e0 (own_of_19 l Z a0 hw h0 a_BY_CODE a_BUFFERS a_HOLDABLE_CLASS a_UNPARK a_MONITOR_ENTER a_CPU_TIMER a_CLASS a_ALLOC_INTERVAL a_THREAD a_OPTIONS a_END a_STACK a_TIME a_UNDER_WAY a_PARK a_ALLOC_SAMPLE a_SAMPLE a_WALL_SAMPLE a_METHOD a_VIRTUAL_THREAD a_WALL_INTERVAL cl_BY_CODE hE) (by decide) (by decide) (by decide) (by decide) (Q := fun v h L => v = some (.ref a_UNDER_WAY) ∧ L = [] ∧ h = h0) (W := 0) (g := (mkF m 1 #[.val (.int (10 : Int32)), .unset, .unset] [(.int (10 : Int32))])) (argsL := [(.int (10 : Int32))]) (rest := []) rfl (by rw [hml]; rfl) (lenOf own_pd_0 rfl) rfl (by show 2 * 0 + _ ≤ _; exact Nat.le_of_eq rfl) (hb hby own_d_method_3_code_1))
  refine own_st (T' := T1) (g' := (mkF m 4 #[.val (.int (10 : Int32)), .unset, .unset] [(.ref a_UNDER_WAY)])) st1 ?_
  refine own_st (T' := T1) (g' := (mkF m 5 #[.val (.int (10 : Int32)), .val (.ref a_UNDER_WAY), .unset] [])) (fun _ k => XS.astoreN X1.here hx rfl (hb hby own_d_method_3_code_4) rfl rfl (l' := #[.val (.int (10 : Int32)), .val (.ref a_UNDER_WAY), .unset]) rfl k) ?_
  refine own_st (T' := T1) (g' := (mkF m 6 #[.val (.int (10 : Int32)), .val (.ref a_UNDER_WAY), .unset] [(.int (10 : Int32))])) (fun _ k => XS.iloadN X1.here hx rfl (hb hby own_d_method_3_code_5) rfl k) ?_
  refine own_st (T' := T1) (g' := (mkF m 7 #[.val (.int (10 : Int32)), .val (.ref a_UNDER_WAY), .unset] [(.int (1 : Int32)), (.int (10 : Int32))])) (fun _ k => XS.iconst X1.here hx rfl (hb hby own_d_method_3_code_6) k) ?_
  refine own_st (T' := T1) (g' := (mkF m 10 #[.val (.int (10 : Int32)), .val (.ref a_UNDER_WAY), .unset] [])) (fun _ k => XS.icmpNo X1.here hx rfl (hb hby own_d_method_3_code_7) rfl (by decide) k) ?_
  refine own_st (T' := T1) (g' := (mkF m 11 #[.val (.int (10 : Int32)), .val (.ref a_UNDER_WAY), .unset] [(.int (10 : Int32))])) (fun _ k => XS.iloadN X1.here hx rfl (hb hby own_d_method_3_code_10) rfl k) ?_
  refine own_st (T' := T1) (g' := (mkF m 13 #[.val (.int (10 : Int32)), .val (.ref a_UNDER_WAY), .unset] [(.int (20 : Int32)), (.int (10 : Int32))])) (fun _ k => XS.bipush X1.here hx rfl (hb hby own_d_method_3_code_11) k) ?_
  refine own_st (T' := T1) (g' := (mkF m 16 #[.val (.int (10 : Int32)), .val (.ref a_UNDER_WAY), .unset] [])) (fun _ k => XS.icmpNo X1.here hx rfl (hb hby own_d_method_3_code_13) rfl (by decide) k) ?_
  refine own_st (T' := T1) (g' := (mkF m 17 #[.val (.int (10 : Int32)), .val (.ref a_UNDER_WAY), .unset] [(.int (1 : Int32))])) (fun _ k => XS.iconst X1.here hx rfl (hb hby own_d_method_3_code_16) k) ?_
  refine own_st (T' := T1) (g' := (mkF m 21 #[.val (.int (10 : Int32)), .val (.ref a_UNDER_WAY), .unset] [(.int (1 : Int32))])) (fun _ k => XS.goto X1.here hx rfl (pc0 := 17) (pc' := 21) rfl (hb hby own_d_method_3_code_17) (by decide) (by decide) k) ?_
  refine own_st (T' := T1) (g' := (mkF m 22 #[.val (.int (10 : Int32)), .val (.ref a_UNDER_WAY), .val (.int (1 : Int32))] [])) (fun _ k => XS.istoreN X1.here hx rfl (hb hby own_d_method_3_code_21) rfl (l' := #[.val (.int (10 : Int32)), .val (.ref a_UNDER_WAY), .val (.int (1 : Int32))]) rfl k) ?_
  refine own_st (T' := T1) (g' := (mkF m 23 #[.val (.int (10 : Int32)), .val (.ref a_UNDER_WAY), .val (.int (1 : Int32))] [(.int (1 : Int32))])) (fun _ k => XS.iloadN X1.here hx rfl (hb hby own_d_method_3_code_22) rfl k) ?_
  refine own_st (T' := T1) (g' := (mkF m 36 #[.val (.int (10 : Int32)), .val (.ref a_UNDER_WAY), .val (.int (1 : Int32))] [])) (fun _ k => XS.ifYes X1.here hx rfl (pc0 := 23) (pc' := 36) rfl (hb hby own_d_method_3_code_23) rfl (by decide) (by decide) (by decide) k) ?_
  refine own_st (T' := T1) (g' := (mkF m 37 #[.val (.int (10 : Int32)), .val (.ref a_UNDER_WAY), .val (.int (1 : Int32))] [(.ref a_UNDER_WAY)])) (fun _ k => XS.aloadN X1.here hx rfl (hb hby own_d_method_3_code_36) rfl rfl k) ?_
  refine own_st (T' := T1) (g' := (mkF m 40 #[.val (.int (10 : Int32)), .val (.ref a_UNDER_WAY), .val (.int (1 : Int32))] [])) (fun _ k => XS.ifnullNo X1.here hx rfl (hb hby own_d_method_3_code_37) rfl k) ?_
  refine own_st (T' := T1) (g' := (mkF m 41 #[.val (.int (10 : Int32)), .val (.ref a_UNDER_WAY), .val (.int (1 : Int32))] [(.ref a_UNDER_WAY)])) (fun _ k => XS.aloadN X1.here hx rfl (hb hby own_d_method_3_code_40) rfl rfl k) ?_
  obtain ⟨T2, X2, e2, st2⟩ := own_pure (w := (.int (10 : Int32))) rfl rfl (own_gV X1 hx hZ hown (hw _ (List.mem_of_getElem? (i := 11) rfl)) (hw _ (List.mem_of_getElem? (i := 12) rfl)) (notFace_of_selects (args := #[]) (mvT hZ (hw _ (List.mem_of_getElem? (i := 14) rfl)))) (hw _ (List.mem_of_getElem? (i := 14) rfl)) (hw _ (List.mem_of_getElem? (i := 13) rfl)) (hw _ (List.mem_of_getElem? (i := 6) rfl)) (hw _ (List.mem_of_getElem? (i := 15) rfl)) (by decide) e1 E_UNDER_WAY (own_code_20 l Z a0 hw h0 a_BY_CODE a_BUFFERS a_HOLDABLE_CLASS a_UNPARK a_MONITOR_ENTER a_CPU_TIMER a_CLASS a_ALLOC_INTERVAL a_THREAD a_OPTIONS a_END a_STACK a_TIME a_UNDER_WAY a_PARK a_ALLOC_SAMPLE a_SAMPLE a_WALL_SAMPLE a_METHOD a_VIRTUAL_THREAD a_WALL_INTERVAL cl_BY_CODE hE) (by decide) (by decide) (by decide) (by decide) (Q := fun v h L => v = some (.int (10 : Int32)) ∧ L = [] ∧ h = h0) (W := 0) (g := (mkF m 41 #[.val (.int (10 : Int32)), .val (.ref a_UNDER_WAY), .val (.int (1 : Int32))] [(.ref a_UNDER_WAY)])) (argsL := []) (rest := []) rfl (by rw [hml]; rfl) (lenOf own_pd_1 rfl) rfl (by show 2 * 0 + _ ≤ _; exact Nat.le_of_eq rfl) (hb hby own_d_method_3_code_41))
  refine own_st (T' := T2) (g' := (mkF m 44 #[.val (.int (10 : Int32)), .val (.ref a_UNDER_WAY), .val (.int (1 : Int32))] [(.int (10 : Int32))])) st2 ?_
  refine own_st (T' := T2) (g' := (mkF m 45 #[.val (.int (10 : Int32)), .val (.ref a_UNDER_WAY), .val (.int (1 : Int32))] [(.int (10 : Int32)), (.int (10 : Int32))])) (fun _ k => XS.iloadN X2.here hx rfl (hb hby own_d_method_3_code_44) rfl k) ?_
  refine own_st (T' := T2) (g' := (mkF m 48 #[.val (.int (10 : Int32)), .val (.ref a_UNDER_WAY), .val (.int (1 : Int32))] [])) (fun _ k => XS.icmpNo X2.here hx rfl (hb hby own_d_method_3_code_45) rfl (by decide) k) ?_
  refine own_st (T' := T2) (g' := (mkF m 49 #[.val (.int (10 : Int32)), .val (.ref a_UNDER_WAY), .val (.int (1 : Int32))] [(.int (1 : Int32))])) (fun _ k => XS.iconst X2.here hx rfl (hb hby own_d_method_3_code_48) k) ?_
  refine own_st (T' := T2) (g' := (mkF m 53 #[.val (.int (10 : Int32)), .val (.ref a_UNDER_WAY), .val (.int (1 : Int32))] [(.int (1 : Int32))])) (fun _ k => XS.goto X2.here hx rfl (pc0 := 49) (pc' := 53) rfl (hb hby own_d_method_3_code_49) (by decide) (by decide) k) ?_
  exact own_ret X2 hx hlk hret rfl (Or.inl ⟨rfl, Or.inr (Or.inl rfl), _, rfl⟩) (hb hby own_d_method_3_code_53) (by decide) (by decide) ⟨rfl, rfl, e2⟩
set_option maxRecDepth 65536 in
set_option maxHeartbeats 40000000 in
theorem own_of_21 (l : Launch) (Z : State) (a0 : Array Value) (hw : ∀ d ∈ tables_1, d.before a0 Z = true) (h0 : Heap) (a_BY_CODE : Addr) (a_BUFFERS : Addr) (a_HOLDABLE_CLASS : Addr) (a_UNPARK : Addr) (a_MONITOR_ENTER : Addr) (a_CPU_TIMER : Addr) (a_CLASS : Addr) (a_ALLOC_INTERVAL : Addr) (a_THREAD : Addr) (a_OPTIONS : Addr) (a_END : Addr) (a_STACK : Addr) (a_TIME : Addr) (a_UNDER_WAY : Addr) (a_PARK : Addr) (a_ALLOC_SAMPLE : Addr) (a_SAMPLE : Addr) (a_WALL_SAMPLE : Addr) (a_METHOD : Addr) (a_VIRTUAL_THREAD : Addr) (a_WALL_INTERVAL : Addr) (cl_BY_CODE : Cell) (hE : own_E Z h0 a_BY_CODE a_BUFFERS a_HOLDABLE_CLASS a_UNPARK a_MONITOR_ENTER a_CPU_TIMER a_CLASS a_ALLOC_INTERVAL a_THREAD a_OPTIONS a_END a_STACK a_TIME a_UNDER_WAY a_PARK a_ALLOC_SAMPLE a_SAMPLE a_WALL_SAMPLE a_METHOD a_VIRTUAL_THREAD a_WALL_INTERVAL cl_BY_CODE) :
    own_Pure l Z h0 [] ({ frames := 0, cells := 0, slots := 0, locals := 0 } : Room) (⟨"com/example/tracewell/tracewell/RecordKind", "of", "(I)Lcom/example/tracewell/tracewell/RecordKind;"⟩ : MethodName) prog_60_method_4_code 1 (some (.object "com/example/tracewell/tracewell/RecordKind")) #[(.int (11 : Int32))] (some (.ref a_TIME)) := by
  refine own_body (plainFor_of_name own_pn_0) ?_
  intro p e s m below meth c T0 X0 hx hby hml hown hZ e0 hret hlk hnm hnamed
  replace hown : s.vm.findClass "com/example/tracewell/tracewell/RecordKind" = some m.cls := hown
  replace hml : c.maxLocals = 1 := hml
  have ef : entryFrame m #[(.int (11 : Int32))] 1 = mkF m 0 #[.val (.int (11 : Int32))] [] := by first | (simp [entryFrame, mkF, argsToLocals, Value.category]; done) | rfl
  rw [ef]
  have S_BY_CODE := own_p_S_BY_CODE hE
  have A_BY_CODE := own_p_A_BY_CODE hE
  have Z_BY_CODE := own_p_Z_BY_CODE hE
  have Y_BY_CODE_11 := own_p_Y_BY_CODE_11 hE
  refine own_st (T' := T0) (g' := (mkF m 1 #[.val (.int (11 : Int32))] [(.int (11 : Int32))])) (fun _ k => XS.iloadN X0.here hx rfl (hb hby own_d_prog_60_method_4_code_0) rfl k) ?_
  refine own_st (T' := T0) (g' := (mkF m 4 #[.val (.int (11 : Int32))] [])) (fun _ k => XS.ifNo X0.here hx rfl (hb hby own_d_prog_60_method_4_code_1) rfl (by decide) k) ?_
  refine own_st (T' := T0) (g' := (mkF m 5 #[.val (.int (11 : Int32))] [(.int (11 : Int32))])) (fun _ k => XS.iloadN X0.here hx rfl (hb hby own_d_prog_60_method_4_code_4) rfl k) ?_
  obtain ⟨T1, X1, e1, st1⟩ := getS2 X0 hx hZ hown (host := "") (Or.inl (hw _ (List.mem_of_getElem? (i := 8) rfl))) Via.refl e0 S_BY_CODE (g := (mkF m 5 #[.val (.int (11 : Int32))] [(.int (11 : Int32))])) rfl (hb hby own_d_prog_60_method_4_code_5)
  refine own_st (T' := T1) (g' := (mkF m 8 #[.val (.int (11 : Int32))] [(.ref a_BY_CODE), (.int (11 : Int32))])) st1 ?_
  refine own_st (T' := T1) (g' := (mkF m 9 #[.val (.int (11 : Int32))] [(.int cl_BY_CODE.slots.size.toInt32), (.int (11 : Int32))])) (fun _ k => X1.arraylength hx (by rw [e1]; exact A_BY_CODE.1) (State.isArrayOf_alike hZ.alike A_BY_CODE.2.1) (g := (mkF m 8 #[.val (.int (11 : Int32))] [(.ref a_BY_CODE), (.int (11 : Int32))])) rfl rfl (hb hby own_d_prog_60_method_4_code_8) _ k) ?_
  rw [len_of Z_BY_CODE (by decide)]
  refine own_st (T' := T1) (g' := (mkF m 12 #[.val (.int (11 : Int32))] [])) (fun _ k => XS.icmpNo X1.here hx rfl (hb hby own_d_prog_60_method_4_code_9) rfl (by decide) k) ?_
  obtain ⟨T2, X2, e2, st2⟩ := getS2 X1 hx hZ hown (host := "") (Or.inl (hw _ (List.mem_of_getElem? (i := 8) rfl))) Via.refl e1 S_BY_CODE (g := (mkF m 12 #[.val (.int (11 : Int32))] [])) rfl (hb hby own_d_prog_60_method_4_code_12)
  refine own_st (T' := T2) (g' := (mkF m 15 #[.val (.int (11 : Int32))] [(.ref a_BY_CODE)])) st2 ?_
  refine own_st (T' := T2) (g' := (mkF m 16 #[.val (.int (11 : Int32))] [(.int (11 : Int32)), (.ref a_BY_CODE)])) (fun _ k => XS.iloadN X2.here hx rfl (hb hby own_d_prog_60_method_4_code_15) rfl k) ?_
  refine own_st (T' := T2) (g' := (mkF m 17 #[.val (.int (11 : Int32))] [(.ref a_TIME)])) (fun _ k => X2.aaload hx (j := (11 : Int32)) (v := (.ref a_TIME)) (by rw [e2]; exact A_BY_CODE.1) (State.isArrayOf_alike hZ.alike A_BY_CODE.2.1) rfl A_BY_CODE.2.2 (inb_of Z_BY_CODE ⟨by decide, by decide⟩) Y_BY_CODE_11 (g := (mkF m 16 #[.val (.int (11 : Int32))] [(.int (11 : Int32)), (.ref a_BY_CODE)])) rfl rfl (hb hby own_d_prog_60_method_4_code_16) _ k) ?_
  refine own_st (T' := T2) (g' := (mkF m 21 #[.val (.int (11 : Int32))] [(.ref a_TIME)])) (fun _ k => XS.goto X2.here hx rfl (pc0 := 17) (pc' := 21) rfl (hb hby own_d_prog_60_method_4_code_17) (by decide) (by decide) k) ?_
  exact own_ret X2 hx hlk hret rfl (Or.inr (Or.inr (Or.inr (Or.inr ⟨rfl, rfl, rfl⟩)))) (hb hby own_d_prog_60_method_4_code_21) (by decide) (by decide) ⟨rfl, rfl, e2⟩
set_option maxRecDepth 65536 in
set_option maxHeartbeats 40000000 in
theorem own_code_22 (l : Launch) (Z : State) (a0 : Array Value) (hw : ∀ d ∈ tables_1, d.before a0 Z = true) (h0 : Heap) (a_BY_CODE : Addr) (a_BUFFERS : Addr) (a_HOLDABLE_CLASS : Addr) (a_UNPARK : Addr) (a_MONITOR_ENTER : Addr) (a_CPU_TIMER : Addr) (a_CLASS : Addr) (a_ALLOC_INTERVAL : Addr) (a_THREAD : Addr) (a_OPTIONS : Addr) (a_END : Addr) (a_STACK : Addr) (a_TIME : Addr) (a_UNDER_WAY : Addr) (a_PARK : Addr) (a_ALLOC_SAMPLE : Addr) (a_SAMPLE : Addr) (a_WALL_SAMPLE : Addr) (a_METHOD : Addr) (a_VIRTUAL_THREAD : Addr) (a_WALL_INTERVAL : Addr) (cl_BY_CODE : Cell) (hE : own_E Z h0 a_BY_CODE a_BUFFERS a_HOLDABLE_CLASS a_UNPARK a_MONITOR_ENTER a_CPU_TIMER a_CLASS a_ALLOC_INTERVAL a_THREAD a_OPTIONS a_END a_STACK a_TIME a_UNDER_WAY a_PARK a_ALLOC_SAMPLE a_SAMPLE a_WALL_SAMPLE a_METHOD a_VIRTUAL_THREAD a_WALL_INTERVAL cl_BY_CODE) :
    own_Pure l Z h0 [] ({ frames := 0, cells := 0, slots := 0, locals := 0 } : Room) (⟨"com/example/tracewell/tracewell/RecordKind", "code", "()I"⟩ : MethodName) prog_60_method_6_code 1 (some .int) #[(.ref a_TIME)] (some (.int (11 : Int32))) := by
  refine own_body (plainFor_of_name own_pn_0) ?_
  intro p e s m below meth c T0 X0 hx hby hml hown hZ e0 hret hlk hnm hnamed
  replace hown : s.vm.findClass "com/example/tracewell/tracewell/RecordKind" = some m.cls := hown
  replace hml : c.maxLocals = 1 := hml
  have ef : entryFrame m #[(.ref a_TIME)] 1 = mkF m 0 #[.val (.ref a_TIME)] [] := by first | (simp [entryFrame, mkF, argsToLocals, Value.category]; done) | rfl
  rw [ef]
  have F_TIME_code := own_p_F_TIME_code hE
  refine own_st (T' := T0) (g' := (mkF m 1 #[.val (.ref a_TIME)] [(.ref a_TIME)])) (fun _ k => XS.aloadN X0.here hx rfl (hb hby own_d_prog_60_method_6_code_0) rfl rfl k) ?_
  obtain ⟨T1, X1, e1, st1⟩ := getF X0 hx hZ hown (host := "") (Or.inl (hw _ (List.mem_of_getElem? (i := 16) rfl))) Via.refl e0 F_TIME_code (g := (mkF m 1 #[.val (.ref a_TIME)] [(.ref a_TIME)])) rfl rfl (hb hby own_d_prog_60_method_6_code_1)
  refine own_st (T' := T1) (g' := (mkF m 4 #[.val (.ref a_TIME)] [(.int (11 : Int32))])) st1 ?_
  exact own_ret X1 hx hlk hret rfl (Or.inl ⟨rfl, Or.inl rfl, _, rfl⟩) (hb hby own_d_prog_60_method_6_code_4) (by decide) (by decide) ⟨rfl, rfl, e1⟩
set_option maxRecDepth 65536 in
set_option maxHeartbeats 40000000 in
theorem own_check_11 (l : Launch) (Z : State) (a0 : Array Value) (hw : ∀ d ∈ tables_1, d.before a0 Z = true) (h0 : Heap) (a_BY_CODE : Addr) (a_BUFFERS : Addr) (a_HOLDABLE_CLASS : Addr) (a_UNPARK : Addr) (a_MONITOR_ENTER : Addr) (a_CPU_TIMER : Addr) (a_CLASS : Addr) (a_ALLOC_INTERVAL : Addr) (a_THREAD : Addr) (a_OPTIONS : Addr) (a_END : Addr) (a_STACK : Addr) (a_TIME : Addr) (a_UNDER_WAY : Addr) (a_PARK : Addr) (a_ALLOC_SAMPLE : Addr) (a_SAMPLE : Addr) (a_WALL_SAMPLE : Addr) (a_METHOD : Addr) (a_VIRTUAL_THREAD : Addr) (a_WALL_INTERVAL : Addr) (cl_BY_CODE : Cell) (hE : own_E Z h0 a_BY_CODE a_BUFFERS a_HOLDABLE_CLASS a_UNPARK a_MONITOR_ENTER a_CPU_TIMER a_CLASS a_ALLOC_INTERVAL a_THREAD a_OPTIONS a_END a_STACK a_TIME a_UNDER_WAY a_PARK a_ALLOC_SAMPLE a_SAMPLE a_WALL_SAMPLE a_METHOD a_VIRTUAL_THREAD a_WALL_INTERVAL cl_BY_CODE) :
    own_Pure l Z h0 [] ({ frames := 1, cells := 0, slots := 0, locals := 12 } : Room) (⟨"com/example/tracewell/tracewell/RecordKindOfPinLaw", "check", "(I)Z"⟩ : MethodName) method_3_code 3 (some .boolean) #[(.int (11 : Int32))] (some (.int (1 : Int32))) := by
  refine own_body (plainFor_of_name own_pn_1) ?_
  intro p e s m below meth c T0 X0 hx hby hml hown hZ e0 hret hlk hnm hnamed
  replace hown : s.vm.findClass "com/example/tracewell/tracewell/RecordKindOfPinLaw" = some m.cls := hown
  replace hml : c.maxLocals = 3 := hml
  have ef : entryFrame m #[(.int (11 : Int32))] 3 = mkF m 0 #[.val (.int (11 : Int32)), .unset, .unset] [] := by first | (simp [entryFrame, mkF, argsToLocals, Value.category]; done) | rfl
  rw [ef]
  have E_TIME := own_p_E_TIME hE
  refine own_st (T' := T0) (g' := (mkF m 1 #[.val (.int (11 : Int32)), .unset, .unset] [(.int (11 : Int32))])) (fun _ k => XS.iloadN X0.here hx rfl (hb hby own_d_method_3_code_0) rfl k) ?_
  obtain ⟨T1, X1, e1, st1⟩ := own_pure (w := (.ref a_TIME)) rfl rfl (own_gS X0 hx hZ hown (hw _ (List.mem_of_getElem? (i := 4) rfl)) (hw _ (List.mem_of_getElem? (i := 5) rfl)) (hw _ (List.mem_of_getElem? (i := 6) rfl)) (hw _ (List.mem_of_getElem? (i := 7) rfl)) (by decide) e0 (own_of_21 l Z a0 hw h0 a_BY_CODE a_BUFFERS a_HOLDABLE_CLASS a_UNPARK a_MONITOR_ENTER a_CPU_TIMER a_CLASS a_ALLOC_INTERVAL a_THREAD a_OPTIONS a_END a_STACK a_TIME a_UNDER_WAY a_PARK a_ALLOC_SAMPLE a_SAMPLE a_WALL_SAMPLE a_METHOD a_VIRTUAL_THREAD a_WALL_INTERVAL cl_BY_CODE hE) (by decide) (by decide) (by decide) (by decide) (Q := fun v h L => v = some (.ref a_TIME) ∧ L = [] ∧ h = h0) (W := 0) (g := (mkF m 1 #[.val (.int (11 : Int32)), .unset, .unset] [(.int (11 : Int32))])) (argsL := [(.int (11 : Int32))]) (rest := []) rfl (by rw [hml]; rfl) (lenOf own_pd_0 rfl) rfl (by show 2 * 0 + _ ≤ _; exact Nat.le_of_eq rfl) (hb hby own_d_method_3_code_1))
  refine own_st (T' := T1) (g' := (mkF m 4 #[.val (.int (11 : Int32)), .unset, .unset] [(.ref a_TIME)])) st1 ?_
  refine own_st (T' := T1) (g' := (mkF m 5 #[.val (.int (11 : Int32)), .val (.ref a_TIME), .unset] [])) (fun _ k => XS.astoreN X1.here hx rfl (hb hby own_d_method_3_code_4) rfl rfl (l' := #[.val (.int (11 : Int32)), .val (.ref a_TIME), .unset]) rfl k) ?_
  refine own_st (T' := T1) (g' := (mkF m 6 #[.val (.int (11 : Int32)), .val (.ref a_TIME), .unset] [(.int (11 : Int32))])) (fun _ k => XS.iloadN X1.here hx rfl (hb hby own_d_method_3_code_5) rfl k) ?_
  refine own_st (T' := T1) (g' := (mkF m 7 #[.val (.int (11 : Int32)), .val (.ref a_TIME), .unset] [(.int (1 : Int32)), (.int (11 : Int32))])) (fun _ k => XS.iconst X1.here hx rfl (hb hby own_d_method_3_code_6) k) ?_
  refine own_st (T' := T1) (g' := (mkF m 10 #[.val (.int (11 : Int32)), .val (.ref a_TIME), .unset] [])) (fun _ k => XS.icmpNo X1.here hx rfl (hb hby own_d_method_3_code_7) rfl (by decide) k) ?_
  refine own_st (T' := T1) (g' := (mkF m 11 #[.val (.int (11 : Int32)), .val (.ref a_TIME), .unset] [(.int (11 : Int32))])) (fun _ k => XS.iloadN X1.here hx rfl (hb hby own_d_method_3_code_10) rfl k) ?_
  refine own_st (T' := T1) (g' := (mkF m 13 #[.val (.int (11 : Int32)), .val (.ref a_TIME), .unset] [(.int (20 : Int32)), (.int (11 : Int32))])) (fun _ k => XS.bipush X1.here hx rfl (hb hby own_d_method_3_code_11) k) ?_
  refine own_st (T' := T1) (g' := (mkF m 16 #[.val (.int (11 : Int32)), .val (.ref a_TIME), .unset] [])) (fun _ k => XS.icmpNo X1.here hx rfl (hb hby own_d_method_3_code_13) rfl (by decide) k) ?_
  refine own_st (T' := T1) (g' := (mkF m 17 #[.val (.int (11 : Int32)), .val (.ref a_TIME), .unset] [(.int (1 : Int32))])) (fun _ k => XS.iconst X1.here hx rfl (hb hby own_d_method_3_code_16) k) ?_
  refine own_st (T' := T1) (g' := (mkF m 21 #[.val (.int (11 : Int32)), .val (.ref a_TIME), .unset] [(.int (1 : Int32))])) (fun _ k => XS.goto X1.here hx rfl (pc0 := 17) (pc' := 21) rfl (hb hby own_d_method_3_code_17) (by decide) (by decide) k) ?_
  refine own_st (T' := T1) (g' := (mkF m 22 #[.val (.int (11 : Int32)), .val (.ref a_TIME), .val (.int (1 : Int32))] [])) (fun _ k => XS.istoreN X1.here hx rfl (hb hby own_d_method_3_code_21) rfl (l' := #[.val (.int (11 : Int32)), .val (.ref a_TIME), .val (.int (1 : Int32))]) rfl k) ?_
  refine own_st (T' := T1) (g' := (mkF m 23 #[.val (.int (11 : Int32)), .val (.ref a_TIME), .val (.int (1 : Int32))] [(.int (1 : Int32))])) (fun _ k => XS.iloadN X1.here hx rfl (hb hby own_d_method_3_code_22) rfl k) ?_
  refine own_st (T' := T1) (g' := (mkF m 36 #[.val (.int (11 : Int32)), .val (.ref a_TIME), .val (.int (1 : Int32))] [])) (fun _ k => XS.ifYes X1.here hx rfl (pc0 := 23) (pc' := 36) rfl (hb hby own_d_method_3_code_23) rfl (by decide) (by decide) (by decide) k) ?_
  refine own_st (T' := T1) (g' := (mkF m 37 #[.val (.int (11 : Int32)), .val (.ref a_TIME), .val (.int (1 : Int32))] [(.ref a_TIME)])) (fun _ k => XS.aloadN X1.here hx rfl (hb hby own_d_method_3_code_36) rfl rfl k) ?_
  refine own_st (T' := T1) (g' := (mkF m 40 #[.val (.int (11 : Int32)), .val (.ref a_TIME), .val (.int (1 : Int32))] [])) (fun _ k => XS.ifnullNo X1.here hx rfl (hb hby own_d_method_3_code_37) rfl k) ?_
  refine own_st (T' := T1) (g' := (mkF m 41 #[.val (.int (11 : Int32)), .val (.ref a_TIME), .val (.int (1 : Int32))] [(.ref a_TIME)])) (fun _ k => XS.aloadN X1.here hx rfl (hb hby own_d_method_3_code_40) rfl rfl k) ?_
  obtain ⟨T2, X2, e2, st2⟩ := own_pure (w := (.int (11 : Int32))) rfl rfl (own_gV X1 hx hZ hown (hw _ (List.mem_of_getElem? (i := 11) rfl)) (hw _ (List.mem_of_getElem? (i := 12) rfl)) (notFace_of_selects (args := #[]) (mvT hZ (hw _ (List.mem_of_getElem? (i := 14) rfl)))) (hw _ (List.mem_of_getElem? (i := 14) rfl)) (hw _ (List.mem_of_getElem? (i := 13) rfl)) (hw _ (List.mem_of_getElem? (i := 6) rfl)) (hw _ (List.mem_of_getElem? (i := 15) rfl)) (by decide) e1 E_TIME (own_code_22 l Z a0 hw h0 a_BY_CODE a_BUFFERS a_HOLDABLE_CLASS a_UNPARK a_MONITOR_ENTER a_CPU_TIMER a_CLASS a_ALLOC_INTERVAL a_THREAD a_OPTIONS a_END a_STACK a_TIME a_UNDER_WAY a_PARK a_ALLOC_SAMPLE a_SAMPLE a_WALL_SAMPLE a_METHOD a_VIRTUAL_THREAD a_WALL_INTERVAL cl_BY_CODE hE) (by decide) (by decide) (by decide) (by decide) (Q := fun v h L => v = some (.int (11 : Int32)) ∧ L = [] ∧ h = h0) (W := 0) (g := (mkF m 41 #[.val (.int (11 : Int32)), .val (.ref a_TIME), .val (.int (1 : Int32))] [(.ref a_TIME)])) (argsL := []) (rest := []) rfl (by rw [hml]; rfl) (lenOf own_pd_1 rfl) rfl (by show 2 * 0 + _ ≤ _; exact Nat.le_of_eq rfl) (hb hby own_d_method_3_code_41))
  refine own_st (T' := T2) (g' := (mkF m 44 #[.val (.int (11 : Int32)), .val (.ref a_TIME), .val (.int (1 : Int32))] [(.int (11 : Int32))])) st2 ?_
  refine own_st (T' := T2) (g' := (mkF m 45 #[.val (.int (11 : Int32)), .val (.ref a_TIME), .val (.int (1 : Int32))] [(.int (11 : Int32)), (.int (11 : Int32))])) (fun _ k => XS.iloadN X2.here hx rfl (hb hby own_d_method_3_code_44) rfl k) ?_
  refine own_st (T' := T2) (g' := (mkF m 48 #[.val (.int (11 : Int32)), .val (.ref a_TIME), .val (.int (1 : Int32))] [])) (fun _ k => XS.icmpNo X2.here hx rfl (hb hby own_d_method_3_code_45) rfl (by decide) k) ?_
  refine own_st (T' := T2) (g' := (mkF m 49 #[.val (.int (11 : Int32)), .val (.ref a_TIME), .val (.int (1 : Int32))] [(.int (1 : Int32))])) (fun _ k => XS.iconst X2.here hx rfl (hb hby own_d_method_3_code_48) k) ?_
  refine own_st (T' := T2) (g' := (mkF m 53 #[.val (.int (11 : Int32)), .val (.ref a_TIME), .val (.int (1 : Int32))] [(.int (1 : Int32))])) (fun _ k => XS.goto X2.here hx rfl (pc0 := 49) (pc' := 53) rfl (hb hby own_d_method_3_code_49) (by decide) (by decide) k) ?_
  exact own_ret X2 hx hlk hret rfl (Or.inl ⟨rfl, Or.inr (Or.inl rfl), _, rfl⟩) (hb hby own_d_method_3_code_53) (by decide) (by decide) ⟨rfl, rfl, e2⟩
set_option maxRecDepth 65536 in
set_option maxHeartbeats 40000000 in
theorem own_of_23 (l : Launch) (Z : State) (a0 : Array Value) (hw : ∀ d ∈ tables_1, d.before a0 Z = true) (h0 : Heap) (a_BY_CODE : Addr) (a_BUFFERS : Addr) (a_HOLDABLE_CLASS : Addr) (a_UNPARK : Addr) (a_MONITOR_ENTER : Addr) (a_CPU_TIMER : Addr) (a_CLASS : Addr) (a_ALLOC_INTERVAL : Addr) (a_THREAD : Addr) (a_OPTIONS : Addr) (a_END : Addr) (a_STACK : Addr) (a_TIME : Addr) (a_UNDER_WAY : Addr) (a_PARK : Addr) (a_ALLOC_SAMPLE : Addr) (a_SAMPLE : Addr) (a_WALL_SAMPLE : Addr) (a_METHOD : Addr) (a_VIRTUAL_THREAD : Addr) (a_WALL_INTERVAL : Addr) (cl_BY_CODE : Cell) (hE : own_E Z h0 a_BY_CODE a_BUFFERS a_HOLDABLE_CLASS a_UNPARK a_MONITOR_ENTER a_CPU_TIMER a_CLASS a_ALLOC_INTERVAL a_THREAD a_OPTIONS a_END a_STACK a_TIME a_UNDER_WAY a_PARK a_ALLOC_SAMPLE a_SAMPLE a_WALL_SAMPLE a_METHOD a_VIRTUAL_THREAD a_WALL_INTERVAL cl_BY_CODE) :
    own_Pure l Z h0 [] ({ frames := 0, cells := 0, slots := 0, locals := 0 } : Room) (⟨"com/example/tracewell/tracewell/RecordKind", "of", "(I)Lcom/example/tracewell/tracewell/RecordKind;"⟩ : MethodName) prog_60_method_4_code 1 (some (.object "com/example/tracewell/tracewell/RecordKind")) #[(.int (12 : Int32))] (some (.ref a_CPU_TIMER)) := by
  refine own_body (plainFor_of_name own_pn_0) ?_
  intro p e s m below meth c T0 X0 hx hby hml hown hZ e0 hret hlk hnm hnamed
  replace hown : s.vm.findClass "com/example/tracewell/tracewell/RecordKind" = some m.cls := hown
  replace hml : c.maxLocals = 1 := hml
  have ef : entryFrame m #[(.int (12 : Int32))] 1 = mkF m 0 #[.val (.int (12 : Int32))] [] := by first | (simp [entryFrame, mkF, argsToLocals, Value.category]; done) | rfl
  rw [ef]
  have S_BY_CODE := own_p_S_BY_CODE hE
  have A_BY_CODE := own_p_A_BY_CODE hE
  have Z_BY_CODE := own_p_Z_BY_CODE hE
  have Y_BY_CODE_12 := own_p_Y_BY_CODE_12 hE
  refine own_st (T' := T0) (g' := (mkF m 1 #[.val (.int (12 : Int32))] [(.int (12 : Int32))])) (fun _ k => XS.iloadN X0.here hx rfl (hb hby own_d_prog_60_method_4_code_0) rfl k) ?_
  refine own_st (T' := T0) (g' := (mkF m 4 #[.val (.int (12 : Int32))] [])) (fun _ k => XS.ifNo X0.here hx rfl (hb hby own_d_prog_60_method_4_code_1) rfl (by decide) k) ?_
  refine own_st (T' := T0) (g' := (mkF m 5 #[.val (.int (12 : Int32))] [(.int (12 : Int32))])) (fun _ k => XS.iloadN X0.here hx rfl (hb hby own_d_prog_60_method_4_code_4) rfl k) ?_
  obtain ⟨T1, X1, e1, st1⟩ := getS2 X0 hx hZ hown (host := "") (Or.inl (hw _ (List.mem_of_getElem? (i := 8) rfl))) Via.refl e0 S_BY_CODE (g := (mkF m 5 #[.val (.int (12 : Int32))] [(.int (12 : Int32))])) rfl (hb hby own_d_prog_60_method_4_code_5)
  refine own_st (T' := T1) (g' := (mkF m 8 #[.val (.int (12 : Int32))] [(.ref a_BY_CODE), (.int (12 : Int32))])) st1 ?_
  refine own_st (T' := T1) (g' := (mkF m 9 #[.val (.int (12 : Int32))] [(.int cl_BY_CODE.slots.size.toInt32), (.int (12 : Int32))])) (fun _ k => X1.arraylength hx (by rw [e1]; exact A_BY_CODE.1) (State.isArrayOf_alike hZ.alike A_BY_CODE.2.1) (g := (mkF m 8 #[.val (.int (12 : Int32))] [(.ref a_BY_CODE), (.int (12 : Int32))])) rfl rfl (hb hby own_d_prog_60_method_4_code_8) _ k) ?_
  rw [len_of Z_BY_CODE (by decide)]
  refine own_st (T' := T1) (g' := (mkF m 12 #[.val (.int (12 : Int32))] [])) (fun _ k => XS.icmpNo X1.here hx rfl (hb hby own_d_prog_60_method_4_code_9) rfl (by decide) k) ?_
  obtain ⟨T2, X2, e2, st2⟩ := getS2 X1 hx hZ hown (host := "") (Or.inl (hw _ (List.mem_of_getElem? (i := 8) rfl))) Via.refl e1 S_BY_CODE (g := (mkF m 12 #[.val (.int (12 : Int32))] [])) rfl (hb hby own_d_prog_60_method_4_code_12)
  refine own_st (T' := T2) (g' := (mkF m 15 #[.val (.int (12 : Int32))] [(.ref a_BY_CODE)])) st2 ?_
  refine own_st (T' := T2) (g' := (mkF m 16 #[.val (.int (12 : Int32))] [(.int (12 : Int32)), (.ref a_BY_CODE)])) (fun _ k => XS.iloadN X2.here hx rfl (hb hby own_d_prog_60_method_4_code_15) rfl k) ?_
  refine own_st (T' := T2) (g' := (mkF m 17 #[.val (.int (12 : Int32))] [(.ref a_CPU_TIMER)])) (fun _ k => X2.aaload hx (j := (12 : Int32)) (v := (.ref a_CPU_TIMER)) (by rw [e2]; exact A_BY_CODE.1) (State.isArrayOf_alike hZ.alike A_BY_CODE.2.1) rfl A_BY_CODE.2.2 (inb_of Z_BY_CODE ⟨by decide, by decide⟩) Y_BY_CODE_12 (g := (mkF m 16 #[.val (.int (12 : Int32))] [(.int (12 : Int32)), (.ref a_BY_CODE)])) rfl rfl (hb hby own_d_prog_60_method_4_code_16) _ k) ?_
  refine own_st (T' := T2) (g' := (mkF m 21 #[.val (.int (12 : Int32))] [(.ref a_CPU_TIMER)])) (fun _ k => XS.goto X2.here hx rfl (pc0 := 17) (pc' := 21) rfl (hb hby own_d_prog_60_method_4_code_17) (by decide) (by decide) k) ?_
  exact own_ret X2 hx hlk hret rfl (Or.inr (Or.inr (Or.inr (Or.inr ⟨rfl, rfl, rfl⟩)))) (hb hby own_d_prog_60_method_4_code_21) (by decide) (by decide) ⟨rfl, rfl, e2⟩
set_option maxRecDepth 65536 in
set_option maxHeartbeats 40000000 in
theorem own_code_24 (l : Launch) (Z : State) (a0 : Array Value) (hw : ∀ d ∈ tables_1, d.before a0 Z = true) (h0 : Heap) (a_BY_CODE : Addr) (a_BUFFERS : Addr) (a_HOLDABLE_CLASS : Addr) (a_UNPARK : Addr) (a_MONITOR_ENTER : Addr) (a_CPU_TIMER : Addr) (a_CLASS : Addr) (a_ALLOC_INTERVAL : Addr) (a_THREAD : Addr) (a_OPTIONS : Addr) (a_END : Addr) (a_STACK : Addr) (a_TIME : Addr) (a_UNDER_WAY : Addr) (a_PARK : Addr) (a_ALLOC_SAMPLE : Addr) (a_SAMPLE : Addr) (a_WALL_SAMPLE : Addr) (a_METHOD : Addr) (a_VIRTUAL_THREAD : Addr) (a_WALL_INTERVAL : Addr) (cl_BY_CODE : Cell) (hE : own_E Z h0 a_BY_CODE a_BUFFERS a_HOLDABLE_CLASS a_UNPARK a_MONITOR_ENTER a_CPU_TIMER a_CLASS a_ALLOC_INTERVAL a_THREAD a_OPTIONS a_END a_STACK a_TIME a_UNDER_WAY a_PARK a_ALLOC_SAMPLE a_SAMPLE a_WALL_SAMPLE a_METHOD a_VIRTUAL_THREAD a_WALL_INTERVAL cl_BY_CODE) :
    own_Pure l Z h0 [] ({ frames := 0, cells := 0, slots := 0, locals := 0 } : Room) (⟨"com/example/tracewell/tracewell/RecordKind", "code", "()I"⟩ : MethodName) prog_60_method_6_code 1 (some .int) #[(.ref a_CPU_TIMER)] (some (.int (12 : Int32))) := by
  refine own_body (plainFor_of_name own_pn_0) ?_
  intro p e s m below meth c T0 X0 hx hby hml hown hZ e0 hret hlk hnm hnamed
  replace hown : s.vm.findClass "com/example/tracewell/tracewell/RecordKind" = some m.cls := hown
  replace hml : c.maxLocals = 1 := hml
  have ef : entryFrame m #[(.ref a_CPU_TIMER)] 1 = mkF m 0 #[.val (.ref a_CPU_TIMER)] [] := by first | (simp [entryFrame, mkF, argsToLocals, Value.category]; done) | rfl
  rw [ef]
  have F_CPU_TIMER_code := own_p_F_CPU_TIMER_code hE
  refine own_st (T' := T0) (g' := (mkF m 1 #[.val (.ref a_CPU_TIMER)] [(.ref a_CPU_TIMER)])) (fun _ k => XS.aloadN X0.here hx rfl (hb hby own_d_prog_60_method_6_code_0) rfl rfl k) ?_
  obtain ⟨T1, X1, e1, st1⟩ := getF X0 hx hZ hown (host := "") (Or.inl (hw _ (List.mem_of_getElem? (i := 16) rfl))) Via.refl e0 F_CPU_TIMER_code (g := (mkF m 1 #[.val (.ref a_CPU_TIMER)] [(.ref a_CPU_TIMER)])) rfl rfl (hb hby own_d_prog_60_method_6_code_1)
  refine own_st (T' := T1) (g' := (mkF m 4 #[.val (.ref a_CPU_TIMER)] [(.int (12 : Int32))])) st1 ?_
  exact own_ret X1 hx hlk hret rfl (Or.inl ⟨rfl, Or.inl rfl, _, rfl⟩) (hb hby own_d_prog_60_method_6_code_4) (by decide) (by decide) ⟨rfl, rfl, e1⟩
set_option maxRecDepth 65536 in
set_option maxHeartbeats 40000000 in
theorem own_check_12 (l : Launch) (Z : State) (a0 : Array Value) (hw : ∀ d ∈ tables_1, d.before a0 Z = true) (h0 : Heap) (a_BY_CODE : Addr) (a_BUFFERS : Addr) (a_HOLDABLE_CLASS : Addr) (a_UNPARK : Addr) (a_MONITOR_ENTER : Addr) (a_CPU_TIMER : Addr) (a_CLASS : Addr) (a_ALLOC_INTERVAL : Addr) (a_THREAD : Addr) (a_OPTIONS : Addr) (a_END : Addr) (a_STACK : Addr) (a_TIME : Addr) (a_UNDER_WAY : Addr) (a_PARK : Addr) (a_ALLOC_SAMPLE : Addr) (a_SAMPLE : Addr) (a_WALL_SAMPLE : Addr) (a_METHOD : Addr) (a_VIRTUAL_THREAD : Addr) (a_WALL_INTERVAL : Addr) (cl_BY_CODE : Cell) (hE : own_E Z h0 a_BY_CODE a_BUFFERS a_HOLDABLE_CLASS a_UNPARK a_MONITOR_ENTER a_CPU_TIMER a_CLASS a_ALLOC_INTERVAL a_THREAD a_OPTIONS a_END a_STACK a_TIME a_UNDER_WAY a_PARK a_ALLOC_SAMPLE a_SAMPLE a_WALL_SAMPLE a_METHOD a_VIRTUAL_THREAD a_WALL_INTERVAL cl_BY_CODE) :
    own_Pure l Z h0 [] ({ frames := 1, cells := 0, slots := 0, locals := 12 } : Room) (⟨"com/example/tracewell/tracewell/RecordKindOfPinLaw", "check", "(I)Z"⟩ : MethodName) method_3_code 3 (some .boolean) #[(.int (12 : Int32))] (some (.int (1 : Int32))) := by
  refine own_body (plainFor_of_name own_pn_1) ?_
  intro p e s m below meth c T0 X0 hx hby hml hown hZ e0 hret hlk hnm hnamed
  replace hown : s.vm.findClass "com/example/tracewell/tracewell/RecordKindOfPinLaw" = some m.cls := hown
  replace hml : c.maxLocals = 3 := hml
  have ef : entryFrame m #[(.int (12 : Int32))] 3 = mkF m 0 #[.val (.int (12 : Int32)), .unset, .unset] [] := by first | (simp [entryFrame, mkF, argsToLocals, Value.category]; done) | rfl
  rw [ef]
  have E_CPU_TIMER := own_p_E_CPU_TIMER hE
  refine own_st (T' := T0) (g' := (mkF m 1 #[.val (.int (12 : Int32)), .unset, .unset] [(.int (12 : Int32))])) (fun _ k => XS.iloadN X0.here hx rfl (hb hby own_d_method_3_code_0) rfl k) ?_
  obtain ⟨T1, X1, e1, st1⟩ := own_pure (w := (.ref a_CPU_TIMER)) rfl rfl (own_gS X0 hx hZ hown (hw _ (List.mem_of_getElem? (i := 4) rfl)) (hw _ (List.mem_of_getElem? (i := 5) rfl)) (hw _ (List.mem_of_getElem? (i := 6) rfl)) (hw _ (List.mem_of_getElem? (i := 7) rfl)) (by decide) e0 (own_of_23 l Z a0 hw h0 a_BY_CODE a_BUFFERS a_HOLDABLE_CLASS a_UNPARK a_MONITOR_ENTER a_CPU_TIMER a_CLASS a_ALLOC_INTERVAL a_THREAD a_OPTIONS a_END a_STACK a_TIME a_UNDER_WAY a_PARK a_ALLOC_SAMPLE a_SAMPLE a_WALL_SAMPLE a_METHOD a_VIRTUAL_THREAD a_WALL_INTERVAL cl_BY_CODE hE) (by decide) (by decide) (by decide) (by decide) (Q := fun v h L => v = some (.ref a_CPU_TIMER) ∧ L = [] ∧ h = h0) (W := 0) (g := (mkF m 1 #[.val (.int (12 : Int32)), .unset, .unset] [(.int (12 : Int32))])) (argsL := [(.int (12 : Int32))]) (rest := []) rfl (by rw [hml]; rfl) (lenOf own_pd_0 rfl) rfl (by show 2 * 0 + _ ≤ _; exact Nat.le_of_eq rfl) (hb hby own_d_method_3_code_1))
  refine own_st (T' := T1) (g' := (mkF m 4 #[.val (.int (12 : Int32)), .unset, .unset] [(.ref a_CPU_TIMER)])) st1 ?_
  refine own_st (T' := T1) (g' := (mkF m 5 #[.val (.int (12 : Int32)), .val (.ref a_CPU_TIMER), .unset] [])) (fun _ k => XS.astoreN X1.here hx rfl (hb hby own_d_method_3_code_4) rfl rfl (l' := #[.val (.int (12 : Int32)), .val (.ref a_CPU_TIMER), .unset]) rfl k) ?_
  refine own_st (T' := T1) (g' := (mkF m 6 #[.val (.int (12 : Int32)), .val (.ref a_CPU_TIMER), .unset] [(.int (12 : Int32))])) (fun _ k => XS.iloadN X1.here hx rfl (hb hby own_d_method_3_code_5) rfl k) ?_
  refine own_st (T' := T1) (g' := (mkF m 7 #[.val (.int (12 : Int32)), .val (.ref a_CPU_TIMER), .unset] [(.int (1 : Int32)), (.int (12 : Int32))])) (fun _ k => XS.iconst X1.here hx rfl (hb hby own_d_method_3_code_6) k) ?_
  refine own_st (T' := T1) (g' := (mkF m 10 #[.val (.int (12 : Int32)), .val (.ref a_CPU_TIMER), .unset] [])) (fun _ k => XS.icmpNo X1.here hx rfl (hb hby own_d_method_3_code_7) rfl (by decide) k) ?_
  refine own_st (T' := T1) (g' := (mkF m 11 #[.val (.int (12 : Int32)), .val (.ref a_CPU_TIMER), .unset] [(.int (12 : Int32))])) (fun _ k => XS.iloadN X1.here hx rfl (hb hby own_d_method_3_code_10) rfl k) ?_
  refine own_st (T' := T1) (g' := (mkF m 13 #[.val (.int (12 : Int32)), .val (.ref a_CPU_TIMER), .unset] [(.int (20 : Int32)), (.int (12 : Int32))])) (fun _ k => XS.bipush X1.here hx rfl (hb hby own_d_method_3_code_11) k) ?_
  refine own_st (T' := T1) (g' := (mkF m 16 #[.val (.int (12 : Int32)), .val (.ref a_CPU_TIMER), .unset] [])) (fun _ k => XS.icmpNo X1.here hx rfl (hb hby own_d_method_3_code_13) rfl (by decide) k) ?_
  refine own_st (T' := T1) (g' := (mkF m 17 #[.val (.int (12 : Int32)), .val (.ref a_CPU_TIMER), .unset] [(.int (1 : Int32))])) (fun _ k => XS.iconst X1.here hx rfl (hb hby own_d_method_3_code_16) k) ?_
  refine own_st (T' := T1) (g' := (mkF m 21 #[.val (.int (12 : Int32)), .val (.ref a_CPU_TIMER), .unset] [(.int (1 : Int32))])) (fun _ k => XS.goto X1.here hx rfl (pc0 := 17) (pc' := 21) rfl (hb hby own_d_method_3_code_17) (by decide) (by decide) k) ?_
  refine own_st (T' := T1) (g' := (mkF m 22 #[.val (.int (12 : Int32)), .val (.ref a_CPU_TIMER), .val (.int (1 : Int32))] [])) (fun _ k => XS.istoreN X1.here hx rfl (hb hby own_d_method_3_code_21) rfl (l' := #[.val (.int (12 : Int32)), .val (.ref a_CPU_TIMER), .val (.int (1 : Int32))]) rfl k) ?_
  refine own_st (T' := T1) (g' := (mkF m 23 #[.val (.int (12 : Int32)), .val (.ref a_CPU_TIMER), .val (.int (1 : Int32))] [(.int (1 : Int32))])) (fun _ k => XS.iloadN X1.here hx rfl (hb hby own_d_method_3_code_22) rfl k) ?_
  refine own_st (T' := T1) (g' := (mkF m 36 #[.val (.int (12 : Int32)), .val (.ref a_CPU_TIMER), .val (.int (1 : Int32))] [])) (fun _ k => XS.ifYes X1.here hx rfl (pc0 := 23) (pc' := 36) rfl (hb hby own_d_method_3_code_23) rfl (by decide) (by decide) (by decide) k) ?_
  refine own_st (T' := T1) (g' := (mkF m 37 #[.val (.int (12 : Int32)), .val (.ref a_CPU_TIMER), .val (.int (1 : Int32))] [(.ref a_CPU_TIMER)])) (fun _ k => XS.aloadN X1.here hx rfl (hb hby own_d_method_3_code_36) rfl rfl k) ?_
  refine own_st (T' := T1) (g' := (mkF m 40 #[.val (.int (12 : Int32)), .val (.ref a_CPU_TIMER), .val (.int (1 : Int32))] [])) (fun _ k => XS.ifnullNo X1.here hx rfl (hb hby own_d_method_3_code_37) rfl k) ?_
  refine own_st (T' := T1) (g' := (mkF m 41 #[.val (.int (12 : Int32)), .val (.ref a_CPU_TIMER), .val (.int (1 : Int32))] [(.ref a_CPU_TIMER)])) (fun _ k => XS.aloadN X1.here hx rfl (hb hby own_d_method_3_code_40) rfl rfl k) ?_
  obtain ⟨T2, X2, e2, st2⟩ := own_pure (w := (.int (12 : Int32))) rfl rfl (own_gV X1 hx hZ hown (hw _ (List.mem_of_getElem? (i := 11) rfl)) (hw _ (List.mem_of_getElem? (i := 12) rfl)) (notFace_of_selects (args := #[]) (mvT hZ (hw _ (List.mem_of_getElem? (i := 14) rfl)))) (hw _ (List.mem_of_getElem? (i := 14) rfl)) (hw _ (List.mem_of_getElem? (i := 13) rfl)) (hw _ (List.mem_of_getElem? (i := 6) rfl)) (hw _ (List.mem_of_getElem? (i := 15) rfl)) (by decide) e1 E_CPU_TIMER (own_code_24 l Z a0 hw h0 a_BY_CODE a_BUFFERS a_HOLDABLE_CLASS a_UNPARK a_MONITOR_ENTER a_CPU_TIMER a_CLASS a_ALLOC_INTERVAL a_THREAD a_OPTIONS a_END a_STACK a_TIME a_UNDER_WAY a_PARK a_ALLOC_SAMPLE a_SAMPLE a_WALL_SAMPLE a_METHOD a_VIRTUAL_THREAD a_WALL_INTERVAL cl_BY_CODE hE) (by decide) (by decide) (by decide) (by decide) (Q := fun v h L => v = some (.int (12 : Int32)) ∧ L = [] ∧ h = h0) (W := 0) (g := (mkF m 41 #[.val (.int (12 : Int32)), .val (.ref a_CPU_TIMER), .val (.int (1 : Int32))] [(.ref a_CPU_TIMER)])) (argsL := []) (rest := []) rfl (by rw [hml]; rfl) (lenOf own_pd_1 rfl) rfl (by show 2 * 0 + _ ≤ _; exact Nat.le_of_eq rfl) (hb hby own_d_method_3_code_41))
  refine own_st (T' := T2) (g' := (mkF m 44 #[.val (.int (12 : Int32)), .val (.ref a_CPU_TIMER), .val (.int (1 : Int32))] [(.int (12 : Int32))])) st2 ?_
  refine own_st (T' := T2) (g' := (mkF m 45 #[.val (.int (12 : Int32)), .val (.ref a_CPU_TIMER), .val (.int (1 : Int32))] [(.int (12 : Int32)), (.int (12 : Int32))])) (fun _ k => XS.iloadN X2.here hx rfl (hb hby own_d_method_3_code_44) rfl k) ?_
  refine own_st (T' := T2) (g' := (mkF m 48 #[.val (.int (12 : Int32)), .val (.ref a_CPU_TIMER), .val (.int (1 : Int32))] [])) (fun _ k => XS.icmpNo X2.here hx rfl (hb hby own_d_method_3_code_45) rfl (by decide) k) ?_
  refine own_st (T' := T2) (g' := (mkF m 49 #[.val (.int (12 : Int32)), .val (.ref a_CPU_TIMER), .val (.int (1 : Int32))] [(.int (1 : Int32))])) (fun _ k => XS.iconst X2.here hx rfl (hb hby own_d_method_3_code_48) k) ?_
  refine own_st (T' := T2) (g' := (mkF m 53 #[.val (.int (12 : Int32)), .val (.ref a_CPU_TIMER), .val (.int (1 : Int32))] [(.int (1 : Int32))])) (fun _ k => XS.goto X2.here hx rfl (pc0 := 49) (pc' := 53) rfl (hb hby own_d_method_3_code_49) (by decide) (by decide) k) ?_
  exact own_ret X2 hx hlk hret rfl (Or.inl ⟨rfl, Or.inr (Or.inl rfl), _, rfl⟩) (hb hby own_d_method_3_code_53) (by decide) (by decide) ⟨rfl, rfl, e2⟩
set_option maxRecDepth 65536 in
set_option maxHeartbeats 40000000 in
theorem own_of_25 (l : Launch) (Z : State) (a0 : Array Value) (hw : ∀ d ∈ tables_1, d.before a0 Z = true) (h0 : Heap) (a_BY_CODE : Addr) (a_BUFFERS : Addr) (a_HOLDABLE_CLASS : Addr) (a_UNPARK : Addr) (a_MONITOR_ENTER : Addr) (a_CPU_TIMER : Addr) (a_CLASS : Addr) (a_ALLOC_INTERVAL : Addr) (a_THREAD : Addr) (a_OPTIONS : Addr) (a_END : Addr) (a_STACK : Addr) (a_TIME : Addr) (a_UNDER_WAY : Addr) (a_PARK : Addr) (a_ALLOC_SAMPLE : Addr) (a_SAMPLE : Addr) (a_WALL_SAMPLE : Addr) (a_METHOD : Addr) (a_VIRTUAL_THREAD : Addr) (a_WALL_INTERVAL : Addr) (cl_BY_CODE : Cell) (hE : own_E Z h0 a_BY_CODE a_BUFFERS a_HOLDABLE_CLASS a_UNPARK a_MONITOR_ENTER a_CPU_TIMER a_CLASS a_ALLOC_INTERVAL a_THREAD a_OPTIONS a_END a_STACK a_TIME a_UNDER_WAY a_PARK a_ALLOC_SAMPLE a_SAMPLE a_WALL_SAMPLE a_METHOD a_VIRTUAL_THREAD a_WALL_INTERVAL cl_BY_CODE) :
    own_Pure l Z h0 [] ({ frames := 0, cells := 0, slots := 0, locals := 0 } : Room) (⟨"com/example/tracewell/tracewell/RecordKind", "of", "(I)Lcom/example/tracewell/tracewell/RecordKind;"⟩ : MethodName) prog_60_method_4_code 1 (some (.object "com/example/tracewell/tracewell/RecordKind")) #[(.int (13 : Int32))] (some (.ref a_VIRTUAL_THREAD)) := by
  refine own_body (plainFor_of_name own_pn_0) ?_
  intro p e s m below meth c T0 X0 hx hby hml hown hZ e0 hret hlk hnm hnamed
  replace hown : s.vm.findClass "com/example/tracewell/tracewell/RecordKind" = some m.cls := hown
  replace hml : c.maxLocals = 1 := hml
  have ef : entryFrame m #[(.int (13 : Int32))] 1 = mkF m 0 #[.val (.int (13 : Int32))] [] := by first | (simp [entryFrame, mkF, argsToLocals, Value.category]; done) | rfl
  rw [ef]
  have S_BY_CODE := own_p_S_BY_CODE hE
  have A_BY_CODE := own_p_A_BY_CODE hE
  have Z_BY_CODE := own_p_Z_BY_CODE hE
  have Y_BY_CODE_13 := own_p_Y_BY_CODE_13 hE
  refine own_st (T' := T0) (g' := (mkF m 1 #[.val (.int (13 : Int32))] [(.int (13 : Int32))])) (fun _ k => XS.iloadN X0.here hx rfl (hb hby own_d_prog_60_method_4_code_0) rfl k) ?_
  refine own_st (T' := T0) (g' := (mkF m 4 #[.val (.int (13 : Int32))] [])) (fun _ k => XS.ifNo X0.here hx rfl (hb hby own_d_prog_60_method_4_code_1) rfl (by decide) k) ?_
  refine own_st (T' := T0) (g' := (mkF m 5 #[.val (.int (13 : Int32))] [(.int (13 : Int32))])) (fun _ k => XS.iloadN X0.here hx rfl (hb hby own_d_prog_60_method_4_code_4) rfl k) ?_
  obtain ⟨T1, X1, e1, st1⟩ := getS2 X0 hx hZ hown (host := "") (Or.inl (hw _ (List.mem_of_getElem? (i := 8) rfl))) Via.refl e0 S_BY_CODE (g := (mkF m 5 #[.val (.int (13 : Int32))] [(.int (13 : Int32))])) rfl (hb hby own_d_prog_60_method_4_code_5)
  refine own_st (T' := T1) (g' := (mkF m 8 #[.val (.int (13 : Int32))] [(.ref a_BY_CODE), (.int (13 : Int32))])) st1 ?_
  refine own_st (T' := T1) (g' := (mkF m 9 #[.val (.int (13 : Int32))] [(.int cl_BY_CODE.slots.size.toInt32), (.int (13 : Int32))])) (fun _ k => X1.arraylength hx (by rw [e1]; exact A_BY_CODE.1) (State.isArrayOf_alike hZ.alike A_BY_CODE.2.1) (g := (mkF m 8 #[.val (.int (13 : Int32))] [(.ref a_BY_CODE), (.int (13 : Int32))])) rfl rfl (hb hby own_d_prog_60_method_4_code_8) _ k) ?_
  rw [len_of Z_BY_CODE (by decide)]
  refine own_st (T' := T1) (g' := (mkF m 12 #[.val (.int (13 : Int32))] [])) (fun _ k => XS.icmpNo X1.here hx rfl (hb hby own_d_prog_60_method_4_code_9) rfl (by decide) k) ?_
  obtain ⟨T2, X2, e2, st2⟩ := getS2 X1 hx hZ hown (host := "") (Or.inl (hw _ (List.mem_of_getElem? (i := 8) rfl))) Via.refl e1 S_BY_CODE (g := (mkF m 12 #[.val (.int (13 : Int32))] [])) rfl (hb hby own_d_prog_60_method_4_code_12)
  refine own_st (T' := T2) (g' := (mkF m 15 #[.val (.int (13 : Int32))] [(.ref a_BY_CODE)])) st2 ?_
  refine own_st (T' := T2) (g' := (mkF m 16 #[.val (.int (13 : Int32))] [(.int (13 : Int32)), (.ref a_BY_CODE)])) (fun _ k => XS.iloadN X2.here hx rfl (hb hby own_d_prog_60_method_4_code_15) rfl k) ?_
  refine own_st (T' := T2) (g' := (mkF m 17 #[.val (.int (13 : Int32))] [(.ref a_VIRTUAL_THREAD)])) (fun _ k => X2.aaload hx (j := (13 : Int32)) (v := (.ref a_VIRTUAL_THREAD)) (by rw [e2]; exact A_BY_CODE.1) (State.isArrayOf_alike hZ.alike A_BY_CODE.2.1) rfl A_BY_CODE.2.2 (inb_of Z_BY_CODE ⟨by decide, by decide⟩) Y_BY_CODE_13 (g := (mkF m 16 #[.val (.int (13 : Int32))] [(.int (13 : Int32)), (.ref a_BY_CODE)])) rfl rfl (hb hby own_d_prog_60_method_4_code_16) _ k) ?_
  refine own_st (T' := T2) (g' := (mkF m 21 #[.val (.int (13 : Int32))] [(.ref a_VIRTUAL_THREAD)])) (fun _ k => XS.goto X2.here hx rfl (pc0 := 17) (pc' := 21) rfl (hb hby own_d_prog_60_method_4_code_17) (by decide) (by decide) k) ?_
  exact own_ret X2 hx hlk hret rfl (Or.inr (Or.inr (Or.inr (Or.inr ⟨rfl, rfl, rfl⟩)))) (hb hby own_d_prog_60_method_4_code_21) (by decide) (by decide) ⟨rfl, rfl, e2⟩
set_option maxRecDepth 65536 in
set_option maxHeartbeats 40000000 in
theorem own_code_26 (l : Launch) (Z : State) (a0 : Array Value) (hw : ∀ d ∈ tables_1, d.before a0 Z = true) (h0 : Heap) (a_BY_CODE : Addr) (a_BUFFERS : Addr) (a_HOLDABLE_CLASS : Addr) (a_UNPARK : Addr) (a_MONITOR_ENTER : Addr) (a_CPU_TIMER : Addr) (a_CLASS : Addr) (a_ALLOC_INTERVAL : Addr) (a_THREAD : Addr) (a_OPTIONS : Addr) (a_END : Addr) (a_STACK : Addr) (a_TIME : Addr) (a_UNDER_WAY : Addr) (a_PARK : Addr) (a_ALLOC_SAMPLE : Addr) (a_SAMPLE : Addr) (a_WALL_SAMPLE : Addr) (a_METHOD : Addr) (a_VIRTUAL_THREAD : Addr) (a_WALL_INTERVAL : Addr) (cl_BY_CODE : Cell) (hE : own_E Z h0 a_BY_CODE a_BUFFERS a_HOLDABLE_CLASS a_UNPARK a_MONITOR_ENTER a_CPU_TIMER a_CLASS a_ALLOC_INTERVAL a_THREAD a_OPTIONS a_END a_STACK a_TIME a_UNDER_WAY a_PARK a_ALLOC_SAMPLE a_SAMPLE a_WALL_SAMPLE a_METHOD a_VIRTUAL_THREAD a_WALL_INTERVAL cl_BY_CODE) :
    own_Pure l Z h0 [] ({ frames := 0, cells := 0, slots := 0, locals := 0 } : Room) (⟨"com/example/tracewell/tracewell/RecordKind", "code", "()I"⟩ : MethodName) prog_60_method_6_code 1 (some .int) #[(.ref a_VIRTUAL_THREAD)] (some (.int (13 : Int32))) := by
  refine own_body (plainFor_of_name own_pn_0) ?_
  intro p e s m below meth c T0 X0 hx hby hml hown hZ e0 hret hlk hnm hnamed
  replace hown : s.vm.findClass "com/example/tracewell/tracewell/RecordKind" = some m.cls := hown
  replace hml : c.maxLocals = 1 := hml
  have ef : entryFrame m #[(.ref a_VIRTUAL_THREAD)] 1 = mkF m 0 #[.val (.ref a_VIRTUAL_THREAD)] [] := by first | (simp [entryFrame, mkF, argsToLocals, Value.category]; done) | rfl
  rw [ef]
  have F_VIRTUAL_THREAD_code := own_p_F_VIRTUAL_THREAD_code hE
  refine own_st (T' := T0) (g' := (mkF m 1 #[.val (.ref a_VIRTUAL_THREAD)] [(.ref a_VIRTUAL_THREAD)])) (fun _ k => XS.aloadN X0.here hx rfl (hb hby own_d_prog_60_method_6_code_0) rfl rfl k) ?_
  obtain ⟨T1, X1, e1, st1⟩ := getF X0 hx hZ hown (host := "") (Or.inl (hw _ (List.mem_of_getElem? (i := 16) rfl))) Via.refl e0 F_VIRTUAL_THREAD_code (g := (mkF m 1 #[.val (.ref a_VIRTUAL_THREAD)] [(.ref a_VIRTUAL_THREAD)])) rfl rfl (hb hby own_d_prog_60_method_6_code_1)
  refine own_st (T' := T1) (g' := (mkF m 4 #[.val (.ref a_VIRTUAL_THREAD)] [(.int (13 : Int32))])) st1 ?_
  exact own_ret X1 hx hlk hret rfl (Or.inl ⟨rfl, Or.inl rfl, _, rfl⟩) (hb hby own_d_prog_60_method_6_code_4) (by decide) (by decide) ⟨rfl, rfl, e1⟩
set_option maxRecDepth 65536 in
set_option maxHeartbeats 40000000 in
theorem own_check_13 (l : Launch) (Z : State) (a0 : Array Value) (hw : ∀ d ∈ tables_1, d.before a0 Z = true) (h0 : Heap) (a_BY_CODE : Addr) (a_BUFFERS : Addr) (a_HOLDABLE_CLASS : Addr) (a_UNPARK : Addr) (a_MONITOR_ENTER : Addr) (a_CPU_TIMER : Addr) (a_CLASS : Addr) (a_ALLOC_INTERVAL : Addr) (a_THREAD : Addr) (a_OPTIONS : Addr) (a_END : Addr) (a_STACK : Addr) (a_TIME : Addr) (a_UNDER_WAY : Addr) (a_PARK : Addr) (a_ALLOC_SAMPLE : Addr) (a_SAMPLE : Addr) (a_WALL_SAMPLE : Addr) (a_METHOD : Addr) (a_VIRTUAL_THREAD : Addr) (a_WALL_INTERVAL : Addr) (cl_BY_CODE : Cell) (hE : own_E Z h0 a_BY_CODE a_BUFFERS a_HOLDABLE_CLASS a_UNPARK a_MONITOR_ENTER a_CPU_TIMER a_CLASS a_ALLOC_INTERVAL a_THREAD a_OPTIONS a_END a_STACK a_TIME a_UNDER_WAY a_PARK a_ALLOC_SAMPLE a_SAMPLE a_WALL_SAMPLE a_METHOD a_VIRTUAL_THREAD a_WALL_INTERVAL cl_BY_CODE) :
    own_Pure l Z h0 [] ({ frames := 1, cells := 0, slots := 0, locals := 12 } : Room) (⟨"com/example/tracewell/tracewell/RecordKindOfPinLaw", "check", "(I)Z"⟩ : MethodName) method_3_code 3 (some .boolean) #[(.int (13 : Int32))] (some (.int (1 : Int32))) := by
  refine own_body (plainFor_of_name own_pn_1) ?_
  intro p e s m below meth c T0 X0 hx hby hml hown hZ e0 hret hlk hnm hnamed
  replace hown : s.vm.findClass "com/example/tracewell/tracewell/RecordKindOfPinLaw" = some m.cls := hown
  replace hml : c.maxLocals = 3 := hml
  have ef : entryFrame m #[(.int (13 : Int32))] 3 = mkF m 0 #[.val (.int (13 : Int32)), .unset, .unset] [] := by first | (simp [entryFrame, mkF, argsToLocals, Value.category]; done) | rfl
  rw [ef]
  have E_VIRTUAL_THREAD := own_p_E_VIRTUAL_THREAD hE
  refine own_st (T' := T0) (g' := (mkF m 1 #[.val (.int (13 : Int32)), .unset, .unset] [(.int (13 : Int32))])) (fun _ k => XS.iloadN X0.here hx rfl (hb hby own_d_method_3_code_0) rfl k) ?_
  obtain ⟨T1, X1, e1, st1⟩ := own_pure (w := (.ref a_VIRTUAL_THREAD)) rfl rfl (own_gS X0 hx hZ hown (hw _ (List.mem_of_getElem? (i := 4) rfl)) (hw _ (List.mem_of_getElem? (i := 5) rfl)) (hw _ (List.mem_of_getElem? (i := 6) rfl)) (hw _ (List.mem_of_getElem? (i := 7) rfl)) (by decide) e0 (own_of_25 l Z a0 hw h0 a_BY_CODE a_BUFFERS a_HOLDABLE_CLASS a_UNPARK a_MONITOR_ENTER a_CPU_TIMER a_CLASS a_ALLOC_INTERVAL a_THREAD a_OPTIONS a_END a_STACK a_TIME a_UNDER_WAY a_PARK a_ALLOC_SAMPLE a_SAMPLE a_WALL_SAMPLE a_METHOD a_VIRTUAL_THREAD a_WALL_INTERVAL cl_BY_CODE hE) (by decide) (by decide) (by decide) (by decide) (Q := fun v h L => v = some (.ref a_VIRTUAL_THREAD) ∧ L = [] ∧ h = h0) (W := 0) (g := (mkF m 1 #[.val (.int (13 : Int32)), .unset, .unset] [(.int (13 : Int32))])) (argsL := [(.int (13 : Int32))]) (rest := []) rfl (by rw [hml]; rfl) (lenOf own_pd_0 rfl) rfl (by show 2 * 0 + _ ≤ _; exact Nat.le_of_eq rfl) (hb hby own_d_method_3_code_1))
  refine own_st (T' := T1) (g' := (mkF m 4 #[.val (.int (13 : Int32)), .unset, .unset] [(.ref a_VIRTUAL_THREAD)])) st1 ?_
  refine own_st (T' := T1) (g' := (mkF m 5 #[.val (.int (13 : Int32)), .val (.ref a_VIRTUAL_THREAD), .unset] [])) (fun _ k => XS.astoreN X1.here hx rfl (hb hby own_d_method_3_code_4) rfl rfl (l' := #[.val (.int (13 : Int32)), .val (.ref a_VIRTUAL_THREAD), .unset]) rfl k) ?_
  refine own_st (T' := T1) (g' := (mkF m 6 #[.val (.int (13 : Int32)), .val (.ref a_VIRTUAL_THREAD), .unset] [(.int (13 : Int32))])) (fun _ k => XS.iloadN X1.here hx rfl (hb hby own_d_method_3_code_5) rfl k) ?_
  refine own_st (T' := T1) (g' := (mkF m 7 #[.val (.int (13 : Int32)), .val (.ref a_VIRTUAL_THREAD), .unset] [(.int (1 : Int32)), (.int (13 : Int32))])) (fun _ k => XS.iconst X1.here hx rfl (hb hby own_d_method_3_code_6) k) ?_
  refine own_st (T' := T1) (g' := (mkF m 10 #[.val (.int (13 : Int32)), .val (.ref a_VIRTUAL_THREAD), .unset] [])) (fun _ k => XS.icmpNo X1.here hx rfl (hb hby own_d_method_3_code_7) rfl (by decide) k) ?_
  refine own_st (T' := T1) (g' := (mkF m 11 #[.val (.int (13 : Int32)), .val (.ref a_VIRTUAL_THREAD), .unset] [(.int (13 : Int32))])) (fun _ k => XS.iloadN X1.here hx rfl (hb hby own_d_method_3_code_10) rfl k) ?_
  refine own_st (T' := T1) (g' := (mkF m 13 #[.val (.int (13 : Int32)), .val (.ref a_VIRTUAL_THREAD), .unset] [(.int (20 : Int32)), (.int (13 : Int32))])) (fun _ k => XS.bipush X1.here hx rfl (hb hby own_d_method_3_code_11) k) ?_
  refine own_st (T' := T1) (g' := (mkF m 16 #[.val (.int (13 : Int32)), .val (.ref a_VIRTUAL_THREAD), .unset] [])) (fun _ k => XS.icmpNo X1.here hx rfl (hb hby own_d_method_3_code_13) rfl (by decide) k) ?_
  refine own_st (T' := T1) (g' := (mkF m 17 #[.val (.int (13 : Int32)), .val (.ref a_VIRTUAL_THREAD), .unset] [(.int (1 : Int32))])) (fun _ k => XS.iconst X1.here hx rfl (hb hby own_d_method_3_code_16) k) ?_
  refine own_st (T' := T1) (g' := (mkF m 21 #[.val (.int (13 : Int32)), .val (.ref a_VIRTUAL_THREAD), .unset] [(.int (1 : Int32))])) (fun _ k => XS.goto X1.here hx rfl (pc0 := 17) (pc' := 21) rfl (hb hby own_d_method_3_code_17) (by decide) (by decide) k) ?_
  refine own_st (T' := T1) (g' := (mkF m 22 #[.val (.int (13 : Int32)), .val (.ref a_VIRTUAL_THREAD), .val (.int (1 : Int32))] [])) (fun _ k => XS.istoreN X1.here hx rfl (hb hby own_d_method_3_code_21) rfl (l' := #[.val (.int (13 : Int32)), .val (.ref a_VIRTUAL_THREAD), .val (.int (1 : Int32))]) rfl k) ?_
  refine own_st (T' := T1) (g' := (mkF m 23 #[.val (.int (13 : Int32)), .val (.ref a_VIRTUAL_THREAD), .val (.int (1 : Int32))] [(.int (1 : Int32))])) (fun _ k => XS.iloadN X1.here hx rfl (hb hby own_d_method_3_code_22) rfl k) ?_
  refine own_st (T' := T1) (g' := (mkF m 36 #[.val (.int (13 : Int32)), .val (.ref a_VIRTUAL_THREAD), .val (.int (1 : Int32))] [])) (fun _ k => XS.ifYes X1.here hx rfl (pc0 := 23) (pc' := 36) rfl (hb hby own_d_method_3_code_23) rfl (by decide) (by decide) (by decide) k) ?_
  refine own_st (T' := T1) (g' := (mkF m 37 #[.val (.int (13 : Int32)), .val (.ref a_VIRTUAL_THREAD), .val (.int (1 : Int32))] [(.ref a_VIRTUAL_THREAD)])) (fun _ k => XS.aloadN X1.here hx rfl (hb hby own_d_method_3_code_36) rfl rfl k) ?_
  refine own_st (T' := T1) (g' := (mkF m 40 #[.val (.int (13 : Int32)), .val (.ref a_VIRTUAL_THREAD), .val (.int (1 : Int32))] [])) (fun _ k => XS.ifnullNo X1.here hx rfl (hb hby own_d_method_3_code_37) rfl k) ?_
  refine own_st (T' := T1) (g' := (mkF m 41 #[.val (.int (13 : Int32)), .val (.ref a_VIRTUAL_THREAD), .val (.int (1 : Int32))] [(.ref a_VIRTUAL_THREAD)])) (fun _ k => XS.aloadN X1.here hx rfl (hb hby own_d_method_3_code_40) rfl rfl k) ?_
  obtain ⟨T2, X2, e2, st2⟩ := own_pure (w := (.int (13 : Int32))) rfl rfl (own_gV X1 hx hZ hown (hw _ (List.mem_of_getElem? (i := 11) rfl)) (hw _ (List.mem_of_getElem? (i := 12) rfl)) (notFace_of_selects (args := #[]) (mvT hZ (hw _ (List.mem_of_getElem? (i := 14) rfl)))) (hw _ (List.mem_of_getElem? (i := 14) rfl)) (hw _ (List.mem_of_getElem? (i := 13) rfl)) (hw _ (List.mem_of_getElem? (i := 6) rfl)) (hw _ (List.mem_of_getElem? (i := 15) rfl)) (by decide) e1 E_VIRTUAL_THREAD (own_code_26 l Z a0 hw h0 a_BY_CODE a_BUFFERS a_HOLDABLE_CLASS a_UNPARK a_MONITOR_ENTER a_CPU_TIMER a_CLASS a_ALLOC_INTERVAL a_THREAD a_OPTIONS a_END a_STACK a_TIME a_UNDER_WAY a_PARK a_ALLOC_SAMPLE a_SAMPLE a_WALL_SAMPLE a_METHOD a_VIRTUAL_THREAD a_WALL_INTERVAL cl_BY_CODE hE) (by decide) (by decide) (by decide) (by decide) (Q := fun v h L => v = some (.int (13 : Int32)) ∧ L = [] ∧ h = h0) (W := 0) (g := (mkF m 41 #[.val (.int (13 : Int32)), .val (.ref a_VIRTUAL_THREAD), .val (.int (1 : Int32))] [(.ref a_VIRTUAL_THREAD)])) (argsL := []) (rest := []) rfl (by rw [hml]; rfl) (lenOf own_pd_1 rfl) rfl (by show 2 * 0 + _ ≤ _; exact Nat.le_of_eq rfl) (hb hby own_d_method_3_code_41))
  refine own_st (T' := T2) (g' := (mkF m 44 #[.val (.int (13 : Int32)), .val (.ref a_VIRTUAL_THREAD), .val (.int (1 : Int32))] [(.int (13 : Int32))])) st2 ?_
  refine own_st (T' := T2) (g' := (mkF m 45 #[.val (.int (13 : Int32)), .val (.ref a_VIRTUAL_THREAD), .val (.int (1 : Int32))] [(.int (13 : Int32)), (.int (13 : Int32))])) (fun _ k => XS.iloadN X2.here hx rfl (hb hby own_d_method_3_code_44) rfl k) ?_
  refine own_st (T' := T2) (g' := (mkF m 48 #[.val (.int (13 : Int32)), .val (.ref a_VIRTUAL_THREAD), .val (.int (1 : Int32))] [])) (fun _ k => XS.icmpNo X2.here hx rfl (hb hby own_d_method_3_code_45) rfl (by decide) k) ?_
  refine own_st (T' := T2) (g' := (mkF m 49 #[.val (.int (13 : Int32)), .val (.ref a_VIRTUAL_THREAD), .val (.int (1 : Int32))] [(.int (1 : Int32))])) (fun _ k => XS.iconst X2.here hx rfl (hb hby own_d_method_3_code_48) k) ?_
  refine own_st (T' := T2) (g' := (mkF m 53 #[.val (.int (13 : Int32)), .val (.ref a_VIRTUAL_THREAD), .val (.int (1 : Int32))] [(.int (1 : Int32))])) (fun _ k => XS.goto X2.here hx rfl (pc0 := 49) (pc' := 53) rfl (hb hby own_d_method_3_code_49) (by decide) (by decide) k) ?_
  exact own_ret X2 hx hlk hret rfl (Or.inl ⟨rfl, Or.inr (Or.inl rfl), _, rfl⟩) (hb hby own_d_method_3_code_53) (by decide) (by decide) ⟨rfl, rfl, e2⟩
set_option maxRecDepth 65536 in
set_option maxHeartbeats 40000000 in
theorem own_of_27 (l : Launch) (Z : State) (a0 : Array Value) (hw : ∀ d ∈ tables_1, d.before a0 Z = true) (h0 : Heap) (a_BY_CODE : Addr) (a_BUFFERS : Addr) (a_HOLDABLE_CLASS : Addr) (a_UNPARK : Addr) (a_MONITOR_ENTER : Addr) (a_CPU_TIMER : Addr) (a_CLASS : Addr) (a_ALLOC_INTERVAL : Addr) (a_THREAD : Addr) (a_OPTIONS : Addr) (a_END : Addr) (a_STACK : Addr) (a_TIME : Addr) (a_UNDER_WAY : Addr) (a_PARK : Addr) (a_ALLOC_SAMPLE : Addr) (a_SAMPLE : Addr) (a_WALL_SAMPLE : Addr) (a_METHOD : Addr) (a_VIRTUAL_THREAD : Addr) (a_WALL_INTERVAL : Addr) (cl_BY_CODE : Cell) (hE : own_E Z h0 a_BY_CODE a_BUFFERS a_HOLDABLE_CLASS a_UNPARK a_MONITOR_ENTER a_CPU_TIMER a_CLASS a_ALLOC_INTERVAL a_THREAD a_OPTIONS a_END a_STACK a_TIME a_UNDER_WAY a_PARK a_ALLOC_SAMPLE a_SAMPLE a_WALL_SAMPLE a_METHOD a_VIRTUAL_THREAD a_WALL_INTERVAL cl_BY_CODE) :
    own_Pure l Z h0 [] ({ frames := 0, cells := 0, slots := 0, locals := 0 } : Room) (⟨"com/example/tracewell/tracewell/RecordKind", "of", "(I)Lcom/example/tracewell/tracewell/RecordKind;"⟩ : MethodName) prog_60_method_4_code 1 (some (.object "com/example/tracewell/tracewell/RecordKind")) #[(.int (14 : Int32))] (some (.ref a_BUFFERS)) := by
  refine own_body (plainFor_of_name own_pn_0) ?_
  intro p e s m below meth c T0 X0 hx hby hml hown hZ e0 hret hlk hnm hnamed
  replace hown : s.vm.findClass "com/example/tracewell/tracewell/RecordKind" = some m.cls := hown
  replace hml : c.maxLocals = 1 := hml
  have ef : entryFrame m #[(.int (14 : Int32))] 1 = mkF m 0 #[.val (.int (14 : Int32))] [] := by first | (simp [entryFrame, mkF, argsToLocals, Value.category]; done) | rfl
  rw [ef]
  have S_BY_CODE := own_p_S_BY_CODE hE
  have A_BY_CODE := own_p_A_BY_CODE hE
  have Z_BY_CODE := own_p_Z_BY_CODE hE
  have Y_BY_CODE_14 := own_p_Y_BY_CODE_14 hE
  refine own_st (T' := T0) (g' := (mkF m 1 #[.val (.int (14 : Int32))] [(.int (14 : Int32))])) (fun _ k => XS.iloadN X0.here hx rfl (hb hby own_d_prog_60_method_4_code_0) rfl k) ?_
  refine own_st (T' := T0) (g' := (mkF m 4 #[.val (.int (14 : Int32))] [])) (fun _ k => XS.ifNo X0.here hx rfl (hb hby own_d_prog_60_method_4_code_1) rfl (by decide) k) ?_
  refine own_st (T' := T0) (g' := (mkF m 5 #[.val (.int (14 : Int32))] [(.int (14 : Int32))])) (fun _ k => XS.iloadN X0.here hx rfl (hb hby own_d_prog_60_method_4_code_4) rfl k) ?_
  obtain ⟨T1, X1, e1, st1⟩ := getS2 X0 hx hZ hown (host := "") (Or.inl (hw _ (List.mem_of_getElem? (i := 8) rfl))) Via.refl e0 S_BY_CODE (g := (mkF m 5 #[.val (.int (14 : Int32))] [(.int (14 : Int32))])) rfl (hb hby own_d_prog_60_method_4_code_5)
  refine own_st (T' := T1) (g' := (mkF m 8 #[.val (.int (14 : Int32))] [(.ref a_BY_CODE), (.int (14 : Int32))])) st1 ?_
  refine own_st (T' := T1) (g' := (mkF m 9 #[.val (.int (14 : Int32))] [(.int cl_BY_CODE.slots.size.toInt32), (.int (14 : Int32))])) (fun _ k => X1.arraylength hx (by rw [e1]; exact A_BY_CODE.1) (State.isArrayOf_alike hZ.alike A_BY_CODE.2.1) (g := (mkF m 8 #[.val (.int (14 : Int32))] [(.ref a_BY_CODE), (.int (14 : Int32))])) rfl rfl (hb hby own_d_prog_60_method_4_code_8) _ k) ?_
  rw [len_of Z_BY_CODE (by decide)]
  refine own_st (T' := T1) (g' := (mkF m 12 #[.val (.int (14 : Int32))] [])) (fun _ k => XS.icmpNo X1.here hx rfl (hb hby own_d_prog_60_method_4_code_9) rfl (by decide) k) ?_
  obtain ⟨T2, X2, e2, st2⟩ := getS2 X1 hx hZ hown (host := "") (Or.inl (hw _ (List.mem_of_getElem? (i := 8) rfl))) Via.refl e1 S_BY_CODE (g := (mkF m 12 #[.val (.int (14 : Int32))] [])) rfl (hb hby own_d_prog_60_method_4_code_12)
  refine own_st (T' := T2) (g' := (mkF m 15 #[.val (.int (14 : Int32))] [(.ref a_BY_CODE)])) st2 ?_
  refine own_st (T' := T2) (g' := (mkF m 16 #[.val (.int (14 : Int32))] [(.int (14 : Int32)), (.ref a_BY_CODE)])) (fun _ k => XS.iloadN X2.here hx rfl (hb hby own_d_prog_60_method_4_code_15) rfl k) ?_
  refine own_st (T' := T2) (g' := (mkF m 17 #[.val (.int (14 : Int32))] [(.ref a_BUFFERS)])) (fun _ k => X2.aaload hx (j := (14 : Int32)) (v := (.ref a_BUFFERS)) (by rw [e2]; exact A_BY_CODE.1) (State.isArrayOf_alike hZ.alike A_BY_CODE.2.1) rfl A_BY_CODE.2.2 (inb_of Z_BY_CODE ⟨by decide, by decide⟩) Y_BY_CODE_14 (g := (mkF m 16 #[.val (.int (14 : Int32))] [(.int (14 : Int32)), (.ref a_BY_CODE)])) rfl rfl (hb hby own_d_prog_60_method_4_code_16) _ k) ?_
  refine own_st (T' := T2) (g' := (mkF m 21 #[.val (.int (14 : Int32))] [(.ref a_BUFFERS)])) (fun _ k => XS.goto X2.here hx rfl (pc0 := 17) (pc' := 21) rfl (hb hby own_d_prog_60_method_4_code_17) (by decide) (by decide) k) ?_
  exact own_ret X2 hx hlk hret rfl (Or.inr (Or.inr (Or.inr (Or.inr ⟨rfl, rfl, rfl⟩)))) (hb hby own_d_prog_60_method_4_code_21) (by decide) (by decide) ⟨rfl, rfl, e2⟩
set_option maxRecDepth 65536 in
set_option maxHeartbeats 40000000 in
theorem own_code_28 (l : Launch) (Z : State) (a0 : Array Value) (hw : ∀ d ∈ tables_1, d.before a0 Z = true) (h0 : Heap) (a_BY_CODE : Addr) (a_BUFFERS : Addr) (a_HOLDABLE_CLASS : Addr) (a_UNPARK : Addr) (a_MONITOR_ENTER : Addr) (a_CPU_TIMER : Addr) (a_CLASS : Addr) (a_ALLOC_INTERVAL : Addr) (a_THREAD : Addr) (a_OPTIONS : Addr) (a_END : Addr) (a_STACK : Addr) (a_TIME : Addr) (a_UNDER_WAY : Addr) (a_PARK : Addr) (a_ALLOC_SAMPLE : Addr) (a_SAMPLE : Addr) (a_WALL_SAMPLE : Addr) (a_METHOD : Addr) (a_VIRTUAL_THREAD : Addr) (a_WALL_INTERVAL : Addr) (cl_BY_CODE : Cell) (hE : own_E Z h0 a_BY_CODE a_BUFFERS a_HOLDABLE_CLASS a_UNPARK a_MONITOR_ENTER a_CPU_TIMER a_CLASS a_ALLOC_INTERVAL a_THREAD a_OPTIONS a_END a_STACK a_TIME a_UNDER_WAY a_PARK a_ALLOC_SAMPLE a_SAMPLE a_WALL_SAMPLE a_METHOD a_VIRTUAL_THREAD a_WALL_INTERVAL cl_BY_CODE) :
    own_Pure l Z h0 [] ({ frames := 0, cells := 0, slots := 0, locals := 0 } : Room) (⟨"com/example/tracewell/tracewell/RecordKind", "code", "()I"⟩ : MethodName) prog_60_method_6_code 1 (some .int) #[(.ref a_BUFFERS)] (some (.int (14 : Int32))) := by
  refine own_body (plainFor_of_name own_pn_0) ?_
  intro p e s m below meth c T0 X0 hx hby hml hown hZ e0 hret hlk hnm hnamed
  replace hown : s.vm.findClass "com/example/tracewell/tracewell/RecordKind" = some m.cls := hown
  replace hml : c.maxLocals = 1 := hml
  have ef : entryFrame m #[(.ref a_BUFFERS)] 1 = mkF m 0 #[.val (.ref a_BUFFERS)] [] := by first | (simp [entryFrame, mkF, argsToLocals, Value.category]; done) | rfl
  rw [ef]
  have F_BUFFERS_code := own_p_F_BUFFERS_code hE
  refine own_st (T' := T0) (g' := (mkF m 1 #[.val (.ref a_BUFFERS)] [(.ref a_BUFFERS)])) (fun _ k => XS.aloadN X0.here hx rfl (hb hby own_d_prog_60_method_6_code_0) rfl rfl k) ?_
  obtain ⟨T1, X1, e1, st1⟩ := getF X0 hx hZ hown (host := "") (Or.inl (hw _ (List.mem_of_getElem? (i := 16) rfl))) Via.refl e0 F_BUFFERS_code (g := (mkF m 1 #[.val (.ref a_BUFFERS)] [(.ref a_BUFFERS)])) rfl rfl (hb hby own_d_prog_60_method_6_code_1)
  refine own_st (T' := T1) (g' := (mkF m 4 #[.val (.ref a_BUFFERS)] [(.int (14 : Int32))])) st1 ?_
  exact own_ret X1 hx hlk hret rfl (Or.inl ⟨rfl, Or.inl rfl, _, rfl⟩) (hb hby own_d_prog_60_method_6_code_4) (by decide) (by decide) ⟨rfl, rfl, e1⟩
set_option maxRecDepth 65536 in
set_option maxHeartbeats 40000000 in
theorem own_check_14 (l : Launch) (Z : State) (a0 : Array Value) (hw : ∀ d ∈ tables_1, d.before a0 Z = true) (h0 : Heap) (a_BY_CODE : Addr) (a_BUFFERS : Addr) (a_HOLDABLE_CLASS : Addr) (a_UNPARK : Addr) (a_MONITOR_ENTER : Addr) (a_CPU_TIMER : Addr) (a_CLASS : Addr) (a_ALLOC_INTERVAL : Addr) (a_THREAD : Addr) (a_OPTIONS : Addr) (a_END : Addr) (a_STACK : Addr) (a_TIME : Addr) (a_UNDER_WAY : Addr) (a_PARK : Addr) (a_ALLOC_SAMPLE : Addr) (a_SAMPLE : Addr) (a_WALL_SAMPLE : Addr) (a_METHOD : Addr) (a_VIRTUAL_THREAD : Addr) (a_WALL_INTERVAL : Addr) (cl_BY_CODE : Cell) (hE : own_E Z h0 a_BY_CODE a_BUFFERS a_HOLDABLE_CLASS a_UNPARK a_MONITOR_ENTER a_CPU_TIMER a_CLASS a_ALLOC_INTERVAL a_THREAD a_OPTIONS a_END a_STACK a_TIME a_UNDER_WAY a_PARK a_ALLOC_SAMPLE a_SAMPLE a_WALL_SAMPLE a_METHOD a_VIRTUAL_THREAD a_WALL_INTERVAL cl_BY_CODE) :
    own_Pure l Z h0 [] ({ frames := 1, cells := 0, slots := 0, locals := 12 } : Room) (⟨"com/example/tracewell/tracewell/RecordKindOfPinLaw", "check", "(I)Z"⟩ : MethodName) method_3_code 3 (some .boolean) #[(.int (14 : Int32))] (some (.int (1 : Int32))) := by
  refine own_body (plainFor_of_name own_pn_1) ?_
  intro p e s m below meth c T0 X0 hx hby hml hown hZ e0 hret hlk hnm hnamed
  replace hown : s.vm.findClass "com/example/tracewell/tracewell/RecordKindOfPinLaw" = some m.cls := hown
  replace hml : c.maxLocals = 3 := hml
  have ef : entryFrame m #[(.int (14 : Int32))] 3 = mkF m 0 #[.val (.int (14 : Int32)), .unset, .unset] [] := by first | (simp [entryFrame, mkF, argsToLocals, Value.category]; done) | rfl
  rw [ef]
  have E_BUFFERS := own_p_E_BUFFERS hE
  refine own_st (T' := T0) (g' := (mkF m 1 #[.val (.int (14 : Int32)), .unset, .unset] [(.int (14 : Int32))])) (fun _ k => XS.iloadN X0.here hx rfl (hb hby own_d_method_3_code_0) rfl k) ?_
  obtain ⟨T1, X1, e1, st1⟩ := own_pure (w := (.ref a_BUFFERS)) rfl rfl (own_gS X0 hx hZ hown (hw _ (List.mem_of_getElem? (i := 4) rfl)) (hw _ (List.mem_of_getElem? (i := 5) rfl)) (hw _ (List.mem_of_getElem? (i := 6) rfl)) (hw _ (List.mem_of_getElem? (i := 7) rfl)) (by decide) e0 (own_of_27 l Z a0 hw h0 a_BY_CODE a_BUFFERS a_HOLDABLE_CLASS a_UNPARK a_MONITOR_ENTER a_CPU_TIMER a_CLASS a_ALLOC_INTERVAL a_THREAD a_OPTIONS a_END a_STACK a_TIME a_UNDER_WAY a_PARK a_ALLOC_SAMPLE a_SAMPLE a_WALL_SAMPLE a_METHOD a_VIRTUAL_THREAD a_WALL_INTERVAL cl_BY_CODE hE) (by decide) (by decide) (by decide) (by decide) (Q := fun v h L => v = some (.ref a_BUFFERS) ∧ L = [] ∧ h = h0) (W := 0) (g := (mkF m 1 #[.val (.int (14 : Int32)), .unset, .unset] [(.int (14 : Int32))])) (argsL := [(.int (14 : Int32))]) (rest := []) rfl (by rw [hml]; rfl) (lenOf own_pd_0 rfl) rfl (by show 2 * 0 + _ ≤ _; exact Nat.le_of_eq rfl) (hb hby own_d_method_3_code_1))
  refine own_st (T' := T1) (g' := (mkF m 4 #[.val (.int (14 : Int32)), .unset, .unset] [(.ref a_BUFFERS)])) st1 ?_
  refine own_st (T' := T1) (g' := (mkF m 5 #[.val (.int (14 : Int32)), .val (.ref a_BUFFERS), .unset] [])) (fun _ k => XS.astoreN X1.here hx rfl (hb hby own_d_method_3_code_4) rfl rfl (l' := #[.val (.int (14 : Int32)), .val (.ref a_BUFFERS), .unset]) rfl k) ?_
  refine own_st (T' := T1) (g' := (mkF m 6 #[.val (.int (14 : Int32)), .val (.ref a_BUFFERS), .unset] [(.int (14 : Int32))])) (fun _ k => XS.iloadN X1.here hx rfl (hb hby own_d_method_3_code_5) rfl k) ?_
  refine own_st (T' := T1) (g' := (mkF m 7 #[.val (.int (14 : Int32)), .val (.ref a_BUFFERS), .unset] [(.int (1 : Int32)), (.int (14 : Int32))])) (fun _ k => XS.iconst X1.here hx rfl (hb hby own_d_method_3_code_6) k) ?_
  refine own_st (T' := T1) (g' := (mkF m 10 #[.val (.int (14 : Int32)), .val (.ref a_BUFFERS), .unset] [])) (fun _ k => XS.icmpNo X1.here hx rfl (hb hby own_d_method_3_code_7) rfl (by decide) k) ?_
  refine own_st (T' := T1) (g' := (mkF m 11 #[.val (.int (14 : Int32)), .val (.ref a_BUFFERS), .unset] [(.int (14 : Int32))])) (fun _ k => XS.iloadN X1.here hx rfl (hb hby own_d_method_3_code_10) rfl k) ?_
  refine own_st (T' := T1) (g' := (mkF m 13 #[.val (.int (14 : Int32)), .val (.ref a_BUFFERS), .unset] [(.int (20 : Int32)), (.int (14 : Int32))])) (fun _ k => XS.bipush X1.here hx rfl (hb hby own_d_method_3_code_11) k) ?_
  refine own_st (T' := T1) (g' := (mkF m 16 #[.val (.int (14 : Int32)), .val (.ref a_BUFFERS), .unset] [])) (fun _ k => XS.icmpNo X1.here hx rfl (hb hby own_d_method_3_code_13) rfl (by decide) k) ?_
  refine own_st (T' := T1) (g' := (mkF m 17 #[.val (.int (14 : Int32)), .val (.ref a_BUFFERS), .unset] [(.int (1 : Int32))])) (fun _ k => XS.iconst X1.here hx rfl (hb hby own_d_method_3_code_16) k) ?_
  refine own_st (T' := T1) (g' := (mkF m 21 #[.val (.int (14 : Int32)), .val (.ref a_BUFFERS), .unset] [(.int (1 : Int32))])) (fun _ k => XS.goto X1.here hx rfl (pc0 := 17) (pc' := 21) rfl (hb hby own_d_method_3_code_17) (by decide) (by decide) k) ?_
  refine own_st (T' := T1) (g' := (mkF m 22 #[.val (.int (14 : Int32)), .val (.ref a_BUFFERS), .val (.int (1 : Int32))] [])) (fun _ k => XS.istoreN X1.here hx rfl (hb hby own_d_method_3_code_21) rfl (l' := #[.val (.int (14 : Int32)), .val (.ref a_BUFFERS), .val (.int (1 : Int32))]) rfl k) ?_
  refine own_st (T' := T1) (g' := (mkF m 23 #[.val (.int (14 : Int32)), .val (.ref a_BUFFERS), .val (.int (1 : Int32))] [(.int (1 : Int32))])) (fun _ k => XS.iloadN X1.here hx rfl (hb hby own_d_method_3_code_22) rfl k) ?_
  refine own_st (T' := T1) (g' := (mkF m 36 #[.val (.int (14 : Int32)), .val (.ref a_BUFFERS), .val (.int (1 : Int32))] [])) (fun _ k => XS.ifYes X1.here hx rfl (pc0 := 23) (pc' := 36) rfl (hb hby own_d_method_3_code_23) rfl (by decide) (by decide) (by decide) k) ?_
  refine own_st (T' := T1) (g' := (mkF m 37 #[.val (.int (14 : Int32)), .val (.ref a_BUFFERS), .val (.int (1 : Int32))] [(.ref a_BUFFERS)])) (fun _ k => XS.aloadN X1.here hx rfl (hb hby own_d_method_3_code_36) rfl rfl k) ?_
  refine own_st (T' := T1) (g' := (mkF m 40 #[.val (.int (14 : Int32)), .val (.ref a_BUFFERS), .val (.int (1 : Int32))] [])) (fun _ k => XS.ifnullNo X1.here hx rfl (hb hby own_d_method_3_code_37) rfl k) ?_
  refine own_st (T' := T1) (g' := (mkF m 41 #[.val (.int (14 : Int32)), .val (.ref a_BUFFERS), .val (.int (1 : Int32))] [(.ref a_BUFFERS)])) (fun _ k => XS.aloadN X1.here hx rfl (hb hby own_d_method_3_code_40) rfl rfl k) ?_
  obtain ⟨T2, X2, e2, st2⟩ := own_pure (w := (.int (14 : Int32))) rfl rfl (own_gV X1 hx hZ hown (hw _ (List.mem_of_getElem? (i := 11) rfl)) (hw _ (List.mem_of_getElem? (i := 12) rfl)) (notFace_of_selects (args := #[]) (mvT hZ (hw _ (List.mem_of_getElem? (i := 14) rfl)))) (hw _ (List.mem_of_getElem? (i := 14) rfl)) (hw _ (List.mem_of_getElem? (i := 13) rfl)) (hw _ (List.mem_of_getElem? (i := 6) rfl)) (hw _ (List.mem_of_getElem? (i := 15) rfl)) (by decide) e1 E_BUFFERS (own_code_28 l Z a0 hw h0 a_BY_CODE a_BUFFERS a_HOLDABLE_CLASS a_UNPARK a_MONITOR_ENTER a_CPU_TIMER a_CLASS a_ALLOC_INTERVAL a_THREAD a_OPTIONS a_END a_STACK a_TIME a_UNDER_WAY a_PARK a_ALLOC_SAMPLE a_SAMPLE a_WALL_SAMPLE a_METHOD a_VIRTUAL_THREAD a_WALL_INTERVAL cl_BY_CODE hE) (by decide) (by decide) (by decide) (by decide) (Q := fun v h L => v = some (.int (14 : Int32)) ∧ L = [] ∧ h = h0) (W := 0) (g := (mkF m 41 #[.val (.int (14 : Int32)), .val (.ref a_BUFFERS), .val (.int (1 : Int32))] [(.ref a_BUFFERS)])) (argsL := []) (rest := []) rfl (by rw [hml]; rfl) (lenOf own_pd_1 rfl) rfl (by show 2 * 0 + _ ≤ _; exact Nat.le_of_eq rfl) (hb hby own_d_method_3_code_41))
  refine own_st (T' := T2) (g' := (mkF m 44 #[.val (.int (14 : Int32)), .val (.ref a_BUFFERS), .val (.int (1 : Int32))] [(.int (14 : Int32))])) st2 ?_
  refine own_st (T' := T2) (g' := (mkF m 45 #[.val (.int (14 : Int32)), .val (.ref a_BUFFERS), .val (.int (1 : Int32))] [(.int (14 : Int32)), (.int (14 : Int32))])) (fun _ k => XS.iloadN X2.here hx rfl (hb hby own_d_method_3_code_44) rfl k) ?_
  refine own_st (T' := T2) (g' := (mkF m 48 #[.val (.int (14 : Int32)), .val (.ref a_BUFFERS), .val (.int (1 : Int32))] [])) (fun _ k => XS.icmpNo X2.here hx rfl (hb hby own_d_method_3_code_45) rfl (by decide) k) ?_
  refine own_st (T' := T2) (g' := (mkF m 49 #[.val (.int (14 : Int32)), .val (.ref a_BUFFERS), .val (.int (1 : Int32))] [(.int (1 : Int32))])) (fun _ k => XS.iconst X2.here hx rfl (hb hby own_d_method_3_code_48) k) ?_
  refine own_st (T' := T2) (g' := (mkF m 53 #[.val (.int (14 : Int32)), .val (.ref a_BUFFERS), .val (.int (1 : Int32))] [(.int (1 : Int32))])) (fun _ k => XS.goto X2.here hx rfl (pc0 := 49) (pc' := 53) rfl (hb hby own_d_method_3_code_49) (by decide) (by decide) k) ?_
  exact own_ret X2 hx hlk hret rfl (Or.inl ⟨rfl, Or.inr (Or.inl rfl), _, rfl⟩) (hb hby own_d_method_3_code_53) (by decide) (by decide) ⟨rfl, rfl, e2⟩
set_option maxRecDepth 65536 in
set_option maxHeartbeats 40000000 in
theorem own_of_29 (l : Launch) (Z : State) (a0 : Array Value) (hw : ∀ d ∈ tables_1, d.before a0 Z = true) (h0 : Heap) (a_BY_CODE : Addr) (a_BUFFERS : Addr) (a_HOLDABLE_CLASS : Addr) (a_UNPARK : Addr) (a_MONITOR_ENTER : Addr) (a_CPU_TIMER : Addr) (a_CLASS : Addr) (a_ALLOC_INTERVAL : Addr) (a_THREAD : Addr) (a_OPTIONS : Addr) (a_END : Addr) (a_STACK : Addr) (a_TIME : Addr) (a_UNDER_WAY : Addr) (a_PARK : Addr) (a_ALLOC_SAMPLE : Addr) (a_SAMPLE : Addr) (a_WALL_SAMPLE : Addr) (a_METHOD : Addr) (a_VIRTUAL_THREAD : Addr) (a_WALL_INTERVAL : Addr) (cl_BY_CODE : Cell) (hE : own_E Z h0 a_BY_CODE a_BUFFERS a_HOLDABLE_CLASS a_UNPARK a_MONITOR_ENTER a_CPU_TIMER a_CLASS a_ALLOC_INTERVAL a_THREAD a_OPTIONS a_END a_STACK a_TIME a_UNDER_WAY a_PARK a_ALLOC_SAMPLE a_SAMPLE a_WALL_SAMPLE a_METHOD a_VIRTUAL_THREAD a_WALL_INTERVAL cl_BY_CODE) :
    own_Pure l Z h0 [] ({ frames := 0, cells := 0, slots := 0, locals := 0 } : Room) (⟨"com/example/tracewell/tracewell/RecordKind", "of", "(I)Lcom/example/tracewell/tracewell/RecordKind;"⟩ : MethodName) prog_60_method_4_code 1 (some (.object "com/example/tracewell/tracewell/RecordKind")) #[(.int (15 : Int32))] (some (.ref a_HOLDABLE_CLASS)) := by
  refine own_body (plainFor_of_name own_pn_0) ?_
  intro p e s m below meth c T0 X0 hx hby hml hown hZ e0 hret hlk hnm hnamed
  replace hown : s.vm.findClass "com/example/tracewell/tracewell/RecordKind" = some m.cls := hown
  replace hml : c.maxLocals = 1 := hml
  have ef : entryFrame m #[(.int (15 : Int32))] 1 = mkF m 0 #[.val (.int (15 : Int32))] [] := by first | (simp [entryFrame, mkF, argsToLocals, Value.category]; done) | rfl
  rw [ef]
  have S_BY_CODE := own_p_S_BY_CODE hE
  have A_BY_CODE := own_p_A_BY_CODE hE
  have Z_BY_CODE := own_p_Z_BY_CODE hE
  have Y_BY_CODE_15 := own_p_Y_BY_CODE_15 hE
  refine own_st (T' := T0) (g' := (mkF m 1 #[.val (.int (15 : Int32))] [(.int (15 : Int32))])) (fun _ k => XS.iloadN X0.here hx rfl (hb hby own_d_prog_60_method_4_code_0) rfl k) ?_
  refine own_st (T' := T0) (g' := (mkF m 4 #[.val (.int (15 : Int32))] [])) (fun _ k => XS.ifNo X0.here hx rfl (hb hby own_d_prog_60_method_4_code_1) rfl (by decide) k) ?_
  refine own_st (T' := T0) (g' := (mkF m 5 #[.val (.int (15 : Int32))] [(.int (15 : Int32))])) (fun _ k => XS.iloadN X0.here hx rfl (hb hby own_d_prog_60_method_4_code_4) rfl k) ?_
  obtain ⟨T1, X1, e1, st1⟩ := getS2 X0 hx hZ hown (host := "") (Or.inl (hw _ (List.mem_of_getElem? (i := 8) rfl))) Via.refl e0 S_BY_CODE (g := (mkF m 5 #[.val (.int (15 : Int32))] [(.int (15 : Int32))])) rfl (hb hby own_d_prog_60_method_4_code_5)
  refine own_st (T' := T1) (g' := (mkF m 8 #[.val (.int (15 : Int32))] [(.ref a_BY_CODE), (.int (15 : Int32))])) st1 ?_
  refine own_st (T' := T1) (g' := (mkF m 9 #[.val (.int (15 : Int32))] [(.int cl_BY_CODE.slots.size.toInt32), (.int (15 : Int32))])) (fun _ k => X1.arraylength hx (by rw [e1]; exact A_BY_CODE.1) (State.isArrayOf_alike hZ.alike A_BY_CODE.2.1) (g := (mkF m 8 #[.val (.int (15 : Int32))] [(.ref a_BY_CODE), (.int (15 : Int32))])) rfl rfl (hb hby own_d_prog_60_method_4_code_8) _ k) ?_
  rw [len_of Z_BY_CODE (by decide)]
  refine own_st (T' := T1) (g' := (mkF m 12 #[.val (.int (15 : Int32))] [])) (fun _ k => XS.icmpNo X1.here hx rfl (hb hby own_d_prog_60_method_4_code_9) rfl (by decide) k) ?_
  obtain ⟨T2, X2, e2, st2⟩ := getS2 X1 hx hZ hown (host := "") (Or.inl (hw _ (List.mem_of_getElem? (i := 8) rfl))) Via.refl e1 S_BY_CODE (g := (mkF m 12 #[.val (.int (15 : Int32))] [])) rfl (hb hby own_d_prog_60_method_4_code_12)
  refine own_st (T' := T2) (g' := (mkF m 15 #[.val (.int (15 : Int32))] [(.ref a_BY_CODE)])) st2 ?_
  refine own_st (T' := T2) (g' := (mkF m 16 #[.val (.int (15 : Int32))] [(.int (15 : Int32)), (.ref a_BY_CODE)])) (fun _ k => XS.iloadN X2.here hx rfl (hb hby own_d_prog_60_method_4_code_15) rfl k) ?_
  refine own_st (T' := T2) (g' := (mkF m 17 #[.val (.int (15 : Int32))] [(.ref a_HOLDABLE_CLASS)])) (fun _ k => X2.aaload hx (j := (15 : Int32)) (v := (.ref a_HOLDABLE_CLASS)) (by rw [e2]; exact A_BY_CODE.1) (State.isArrayOf_alike hZ.alike A_BY_CODE.2.1) rfl A_BY_CODE.2.2 (inb_of Z_BY_CODE ⟨by decide, by decide⟩) Y_BY_CODE_15 (g := (mkF m 16 #[.val (.int (15 : Int32))] [(.int (15 : Int32)), (.ref a_BY_CODE)])) rfl rfl (hb hby own_d_prog_60_method_4_code_16) _ k) ?_
  refine own_st (T' := T2) (g' := (mkF m 21 #[.val (.int (15 : Int32))] [(.ref a_HOLDABLE_CLASS)])) (fun _ k => XS.goto X2.here hx rfl (pc0 := 17) (pc' := 21) rfl (hb hby own_d_prog_60_method_4_code_17) (by decide) (by decide) k) ?_
  exact own_ret X2 hx hlk hret rfl (Or.inr (Or.inr (Or.inr (Or.inr ⟨rfl, rfl, rfl⟩)))) (hb hby own_d_prog_60_method_4_code_21) (by decide) (by decide) ⟨rfl, rfl, e2⟩
set_option maxRecDepth 65536 in
set_option maxHeartbeats 40000000 in
theorem own_code_30 (l : Launch) (Z : State) (a0 : Array Value) (hw : ∀ d ∈ tables_1, d.before a0 Z = true) (h0 : Heap) (a_BY_CODE : Addr) (a_BUFFERS : Addr) (a_HOLDABLE_CLASS : Addr) (a_UNPARK : Addr) (a_MONITOR_ENTER : Addr) (a_CPU_TIMER : Addr) (a_CLASS : Addr) (a_ALLOC_INTERVAL : Addr) (a_THREAD : Addr) (a_OPTIONS : Addr) (a_END : Addr) (a_STACK : Addr) (a_TIME : Addr) (a_UNDER_WAY : Addr) (a_PARK : Addr) (a_ALLOC_SAMPLE : Addr) (a_SAMPLE : Addr) (a_WALL_SAMPLE : Addr) (a_METHOD : Addr) (a_VIRTUAL_THREAD : Addr) (a_WALL_INTERVAL : Addr) (cl_BY_CODE : Cell) (hE : own_E Z h0 a_BY_CODE a_BUFFERS a_HOLDABLE_CLASS a_UNPARK a_MONITOR_ENTER a_CPU_TIMER a_CLASS a_ALLOC_INTERVAL a_THREAD a_OPTIONS a_END a_STACK a_TIME a_UNDER_WAY a_PARK a_ALLOC_SAMPLE a_SAMPLE a_WALL_SAMPLE a_METHOD a_VIRTUAL_THREAD a_WALL_INTERVAL cl_BY_CODE) :
    own_Pure l Z h0 [] ({ frames := 0, cells := 0, slots := 0, locals := 0 } : Room) (⟨"com/example/tracewell/tracewell/RecordKind", "code", "()I"⟩ : MethodName) prog_60_method_6_code 1 (some .int) #[(.ref a_HOLDABLE_CLASS)] (some (.int (15 : Int32))) := by
  refine own_body (plainFor_of_name own_pn_0) ?_
  intro p e s m below meth c T0 X0 hx hby hml hown hZ e0 hret hlk hnm hnamed
  replace hown : s.vm.findClass "com/example/tracewell/tracewell/RecordKind" = some m.cls := hown
  replace hml : c.maxLocals = 1 := hml
  have ef : entryFrame m #[(.ref a_HOLDABLE_CLASS)] 1 = mkF m 0 #[.val (.ref a_HOLDABLE_CLASS)] [] := by first | (simp [entryFrame, mkF, argsToLocals, Value.category]; done) | rfl
  rw [ef]
  have F_HOLDABLE_CLASS_code := own_p_F_HOLDABLE_CLASS_code hE
  refine own_st (T' := T0) (g' := (mkF m 1 #[.val (.ref a_HOLDABLE_CLASS)] [(.ref a_HOLDABLE_CLASS)])) (fun _ k => XS.aloadN X0.here hx rfl (hb hby own_d_prog_60_method_6_code_0) rfl rfl k) ?_
  obtain ⟨T1, X1, e1, st1⟩ := getF X0 hx hZ hown (host := "") (Or.inl (hw _ (List.mem_of_getElem? (i := 16) rfl))) Via.refl e0 F_HOLDABLE_CLASS_code (g := (mkF m 1 #[.val (.ref a_HOLDABLE_CLASS)] [(.ref a_HOLDABLE_CLASS)])) rfl rfl (hb hby own_d_prog_60_method_6_code_1)
  refine own_st (T' := T1) (g' := (mkF m 4 #[.val (.ref a_HOLDABLE_CLASS)] [(.int (15 : Int32))])) st1 ?_
  exact own_ret X1 hx hlk hret rfl (Or.inl ⟨rfl, Or.inl rfl, _, rfl⟩) (hb hby own_d_prog_60_method_6_code_4) (by decide) (by decide) ⟨rfl, rfl, e1⟩
set_option maxRecDepth 65536 in
set_option maxHeartbeats 40000000 in
theorem own_check_15 (l : Launch) (Z : State) (a0 : Array Value) (hw : ∀ d ∈ tables_1, d.before a0 Z = true) (h0 : Heap) (a_BY_CODE : Addr) (a_BUFFERS : Addr) (a_HOLDABLE_CLASS : Addr) (a_UNPARK : Addr) (a_MONITOR_ENTER : Addr) (a_CPU_TIMER : Addr) (a_CLASS : Addr) (a_ALLOC_INTERVAL : Addr) (a_THREAD : Addr) (a_OPTIONS : Addr) (a_END : Addr) (a_STACK : Addr) (a_TIME : Addr) (a_UNDER_WAY : Addr) (a_PARK : Addr) (a_ALLOC_SAMPLE : Addr) (a_SAMPLE : Addr) (a_WALL_SAMPLE : Addr) (a_METHOD : Addr) (a_VIRTUAL_THREAD : Addr) (a_WALL_INTERVAL : Addr) (cl_BY_CODE : Cell) (hE : own_E Z h0 a_BY_CODE a_BUFFERS a_HOLDABLE_CLASS a_UNPARK a_MONITOR_ENTER a_CPU_TIMER a_CLASS a_ALLOC_INTERVAL a_THREAD a_OPTIONS a_END a_STACK a_TIME a_UNDER_WAY a_PARK a_ALLOC_SAMPLE a_SAMPLE a_WALL_SAMPLE a_METHOD a_VIRTUAL_THREAD a_WALL_INTERVAL cl_BY_CODE) :
    own_Pure l Z h0 [] ({ frames := 1, cells := 0, slots := 0, locals := 12 } : Room) (⟨"com/example/tracewell/tracewell/RecordKindOfPinLaw", "check", "(I)Z"⟩ : MethodName) method_3_code 3 (some .boolean) #[(.int (15 : Int32))] (some (.int (1 : Int32))) := by
  refine own_body (plainFor_of_name own_pn_1) ?_
  intro p e s m below meth c T0 X0 hx hby hml hown hZ e0 hret hlk hnm hnamed
  replace hown : s.vm.findClass "com/example/tracewell/tracewell/RecordKindOfPinLaw" = some m.cls := hown
  replace hml : c.maxLocals = 3 := hml
  have ef : entryFrame m #[(.int (15 : Int32))] 3 = mkF m 0 #[.val (.int (15 : Int32)), .unset, .unset] [] := by first | (simp [entryFrame, mkF, argsToLocals, Value.category]; done) | rfl
  rw [ef]
  have E_HOLDABLE_CLASS := own_p_E_HOLDABLE_CLASS hE
  refine own_st (T' := T0) (g' := (mkF m 1 #[.val (.int (15 : Int32)), .unset, .unset] [(.int (15 : Int32))])) (fun _ k => XS.iloadN X0.here hx rfl (hb hby own_d_method_3_code_0) rfl k) ?_
  obtain ⟨T1, X1, e1, st1⟩ := own_pure (w := (.ref a_HOLDABLE_CLASS)) rfl rfl (own_gS X0 hx hZ hown (hw _ (List.mem_of_getElem? (i := 4) rfl)) (hw _ (List.mem_of_getElem? (i := 5) rfl)) (hw _ (List.mem_of_getElem? (i := 6) rfl)) (hw _ (List.mem_of_getElem? (i := 7) rfl)) (by decide) e0 (own_of_29 l Z a0 hw h0 a_BY_CODE a_BUFFERS a_HOLDABLE_CLASS a_UNPARK a_MONITOR_ENTER a_CPU_TIMER a_CLASS a_ALLOC_INTERVAL a_THREAD a_OPTIONS a_END a_STACK a_TIME a_UNDER_WAY a_PARK a_ALLOC_SAMPLE a_SAMPLE a_WALL_SAMPLE a_METHOD a_VIRTUAL_THREAD a_WALL_INTERVAL cl_BY_CODE hE) (by decide) (by decide) (by decide) (by decide) (Q := fun v h L => v = some (.ref a_HOLDABLE_CLASS) ∧ L = [] ∧ h = h0) (W := 0) (g := (mkF m 1 #[.val (.int (15 : Int32)), .unset, .unset] [(.int (15 : Int32))])) (argsL := [(.int (15 : Int32))]) (rest := []) rfl (by rw [hml]; rfl) (lenOf own_pd_0 rfl) rfl (by show 2 * 0 + _ ≤ _; exact Nat.le_of_eq rfl) (hb hby own_d_method_3_code_1))
  refine own_st (T' := T1) (g' := (mkF m 4 #[.val (.int (15 : Int32)), .unset, .unset] [(.ref a_HOLDABLE_CLASS)])) st1 ?_
  refine own_st (T' := T1) (g' := (mkF m 5 #[.val (.int (15 : Int32)), .val (.ref a_HOLDABLE_CLASS), .unset] [])) (fun _ k => XS.astoreN X1.here hx rfl (hb hby own_d_method_3_code_4) rfl rfl (l' := #[.val (.int (15 : Int32)), .val (.ref a_HOLDABLE_CLASS), .unset]) rfl k) ?_
  refine own_st (T' := T1) (g' := (mkF m 6 #[.val (.int (15 : Int32)), .val (.ref a_HOLDABLE_CLASS), .unset] [(.int (15 : Int32))])) (fun _ k => XS.iloadN X1.here hx rfl (hb hby own_d_method_3_code_5) rfl k) ?_
  refine own_st (T' := T1) (g' := (mkF m 7 #[.val (.int (15 : Int32)), .val (.ref a_HOLDABLE_CLASS), .unset] [(.int (1 : Int32)), (.int (15 : Int32))])) (fun _ k => XS.iconst X1.here hx rfl (hb hby own_d_method_3_code_6) k) ?_
  refine own_st (T' := T1) (g' := (mkF m 10 #[.val (.int (15 : Int32)), .val (.ref a_HOLDABLE_CLASS), .unset] [])) (fun _ k => XS.icmpNo X1.here hx rfl (hb hby own_d_method_3_code_7) rfl (by decide) k) ?_
  refine own_st (T' := T1) (g' := (mkF m 11 #[.val (.int (15 : Int32)), .val (.ref a_HOLDABLE_CLASS), .unset] [(.int (15 : Int32))])) (fun _ k => XS.iloadN X1.here hx rfl (hb hby own_d_method_3_code_10) rfl k) ?_
  refine own_st (T' := T1) (g' := (mkF m 13 #[.val (.int (15 : Int32)), .val (.ref a_HOLDABLE_CLASS), .unset] [(.int (20 : Int32)), (.int (15 : Int32))])) (fun _ k => XS.bipush X1.here hx rfl (hb hby own_d_method_3_code_11) k) ?_
  refine own_st (T' := T1) (g' := (mkF m 16 #[.val (.int (15 : Int32)), .val (.ref a_HOLDABLE_CLASS), .unset] [])) (fun _ k => XS.icmpNo X1.here hx rfl (hb hby own_d_method_3_code_13) rfl (by decide) k) ?_
  refine own_st (T' := T1) (g' := (mkF m 17 #[.val (.int (15 : Int32)), .val (.ref a_HOLDABLE_CLASS), .unset] [(.int (1 : Int32))])) (fun _ k => XS.iconst X1.here hx rfl (hb hby own_d_method_3_code_16) k) ?_
  refine own_st (T' := T1) (g' := (mkF m 21 #[.val (.int (15 : Int32)), .val (.ref a_HOLDABLE_CLASS), .unset] [(.int (1 : Int32))])) (fun _ k => XS.goto X1.here hx rfl (pc0 := 17) (pc' := 21) rfl (hb hby own_d_method_3_code_17) (by decide) (by decide) k) ?_
  refine own_st (T' := T1) (g' := (mkF m 22 #[.val (.int (15 : Int32)), .val (.ref a_HOLDABLE_CLASS), .val (.int (1 : Int32))] [])) (fun _ k => XS.istoreN X1.here hx rfl (hb hby own_d_method_3_code_21) rfl (l' := #[.val (.int (15 : Int32)), .val (.ref a_HOLDABLE_CLASS), .val (.int (1 : Int32))]) rfl k) ?_
  refine own_st (T' := T1) (g' := (mkF m 23 #[.val (.int (15 : Int32)), .val (.ref a_HOLDABLE_CLASS), .val (.int (1 : Int32))] [(.int (1 : Int32))])) (fun _ k => XS.iloadN X1.here hx rfl (hb hby own_d_method_3_code_22) rfl k) ?_
  refine own_st (T' := T1) (g' := (mkF m 36 #[.val (.int (15 : Int32)), .val (.ref a_HOLDABLE_CLASS), .val (.int (1 : Int32))] [])) (fun _ k => XS.ifYes X1.here hx rfl (pc0 := 23) (pc' := 36) rfl (hb hby own_d_method_3_code_23) rfl (by decide) (by decide) (by decide) k) ?_
  refine own_st (T' := T1) (g' := (mkF m 37 #[.val (.int (15 : Int32)), .val (.ref a_HOLDABLE_CLASS), .val (.int (1 : Int32))] [(.ref a_HOLDABLE_CLASS)])) (fun _ k => XS.aloadN X1.here hx rfl (hb hby own_d_method_3_code_36) rfl rfl k) ?_
  refine own_st (T' := T1) (g' := (mkF m 40 #[.val (.int (15 : Int32)), .val (.ref a_HOLDABLE_CLASS), .val (.int (1 : Int32))] [])) (fun _ k => XS.ifnullNo X1.here hx rfl (hb hby own_d_method_3_code_37) rfl k) ?_
  refine own_st (T' := T1) (g' := (mkF m 41 #[.val (.int (15 : Int32)), .val (.ref a_HOLDABLE_CLASS), .val (.int (1 : Int32))] [(.ref a_HOLDABLE_CLASS)])) (fun _ k => XS.aloadN X1.here hx rfl (hb hby own_d_method_3_code_40) rfl rfl k) ?_
  obtain ⟨T2, X2, e2, st2⟩ := own_pure (w := (.int (15 : Int32))) rfl rfl (own_gV X1 hx hZ hown (hw _ (List.mem_of_getElem? (i := 11) rfl)) (hw _ (List.mem_of_getElem? (i := 12) rfl)) (notFace_of_selects (args := #[]) (mvT hZ (hw _ (List.mem_of_getElem? (i := 14) rfl)))) (hw _ (List.mem_of_getElem? (i := 14) rfl)) (hw _ (List.mem_of_getElem? (i := 13) rfl)) (hw _ (List.mem_of_getElem? (i := 6) rfl)) (hw _ (List.mem_of_getElem? (i := 15) rfl)) (by decide) e1 E_HOLDABLE_CLASS (own_code_30 l Z a0 hw h0 a_BY_CODE a_BUFFERS a_HOLDABLE_CLASS a_UNPARK a_MONITOR_ENTER a_CPU_TIMER a_CLASS a_ALLOC_INTERVAL a_THREAD a_OPTIONS a_END a_STACK a_TIME a_UNDER_WAY a_PARK a_ALLOC_SAMPLE a_SAMPLE a_WALL_SAMPLE a_METHOD a_VIRTUAL_THREAD a_WALL_INTERVAL cl_BY_CODE hE) (by decide) (by decide) (by decide) (by decide) (Q := fun v h L => v = some (.int (15 : Int32)) ∧ L = [] ∧ h = h0) (W := 0) (g := (mkF m 41 #[.val (.int (15 : Int32)), .val (.ref a_HOLDABLE_CLASS), .val (.int (1 : Int32))] [(.ref a_HOLDABLE_CLASS)])) (argsL := []) (rest := []) rfl (by rw [hml]; rfl) (lenOf own_pd_1 rfl) rfl (by show 2 * 0 + _ ≤ _; exact Nat.le_of_eq rfl) (hb hby own_d_method_3_code_41))
  refine own_st (T' := T2) (g' := (mkF m 44 #[.val (.int (15 : Int32)), .val (.ref a_HOLDABLE_CLASS), .val (.int (1 : Int32))] [(.int (15 : Int32))])) st2 ?_
  refine own_st (T' := T2) (g' := (mkF m 45 #[.val (.int (15 : Int32)), .val (.ref a_HOLDABLE_CLASS), .val (.int (1 : Int32))] [(.int (15 : Int32)), (.int (15 : Int32))])) (fun _ k => XS.iloadN X2.here hx rfl (hb hby own_d_method_3_code_44) rfl k) ?_
  refine own_st (T' := T2) (g' := (mkF m 48 #[.val (.int (15 : Int32)), .val (.ref a_HOLDABLE_CLASS), .val (.int (1 : Int32))] [])) (fun _ k => XS.icmpNo X2.here hx rfl (hb hby own_d_method_3_code_45) rfl (by decide) k) ?_
  refine own_st (T' := T2) (g' := (mkF m 49 #[.val (.int (15 : Int32)), .val (.ref a_HOLDABLE_CLASS), .val (.int (1 : Int32))] [(.int (1 : Int32))])) (fun _ k => XS.iconst X2.here hx rfl (hb hby own_d_method_3_code_48) k) ?_
  refine own_st (T' := T2) (g' := (mkF m 53 #[.val (.int (15 : Int32)), .val (.ref a_HOLDABLE_CLASS), .val (.int (1 : Int32))] [(.int (1 : Int32))])) (fun _ k => XS.goto X2.here hx rfl (pc0 := 49) (pc' := 53) rfl (hb hby own_d_method_3_code_49) (by decide) (by decide) k) ?_
  exact own_ret X2 hx hlk hret rfl (Or.inl ⟨rfl, Or.inr (Or.inl rfl), _, rfl⟩) (hb hby own_d_method_3_code_53) (by decide) (by decide) ⟨rfl, rfl, e2⟩
set_option maxRecDepth 65536 in
set_option maxHeartbeats 40000000 in
theorem own_of_31 (l : Launch) (Z : State) (a0 : Array Value) (hw : ∀ d ∈ tables_1, d.before a0 Z = true) (h0 : Heap) (a_BY_CODE : Addr) (a_BUFFERS : Addr) (a_HOLDABLE_CLASS : Addr) (a_UNPARK : Addr) (a_MONITOR_ENTER : Addr) (a_CPU_TIMER : Addr) (a_CLASS : Addr) (a_ALLOC_INTERVAL : Addr) (a_THREAD : Addr) (a_OPTIONS : Addr) (a_END : Addr) (a_STACK : Addr) (a_TIME : Addr) (a_UNDER_WAY : Addr) (a_PARK : Addr) (a_ALLOC_SAMPLE : Addr) (a_SAMPLE : Addr) (a_WALL_SAMPLE : Addr) (a_METHOD : Addr) (a_VIRTUAL_THREAD : Addr) (a_WALL_INTERVAL : Addr) (cl_BY_CODE : Cell) (hE : own_E Z h0 a_BY_CODE a_BUFFERS a_HOLDABLE_CLASS a_UNPARK a_MONITOR_ENTER a_CPU_TIMER a_CLASS a_ALLOC_INTERVAL a_THREAD a_OPTIONS a_END a_STACK a_TIME a_UNDER_WAY a_PARK a_ALLOC_SAMPLE a_SAMPLE a_WALL_SAMPLE a_METHOD a_VIRTUAL_THREAD a_WALL_INTERVAL cl_BY_CODE) :
    own_Pure l Z h0 [] ({ frames := 0, cells := 0, slots := 0, locals := 0 } : Room) (⟨"com/example/tracewell/tracewell/RecordKind", "of", "(I)Lcom/example/tracewell/tracewell/RecordKind;"⟩ : MethodName) prog_60_method_4_code 1 (some (.object "com/example/tracewell/tracewell/RecordKind")) #[(.int (16 : Int32))] (some (.ref a_WALL_INTERVAL)) := by
  refine own_body (plainFor_of_name own_pn_0) ?_
  intro p e s m below meth c T0 X0 hx hby hml hown hZ e0 hret hlk hnm hnamed
  replace hown : s.vm.findClass "com/example/tracewell/tracewell/RecordKind" = some m.cls := hown
  replace hml : c.maxLocals = 1 := hml
  have ef : entryFrame m #[(.int (16 : Int32))] 1 = mkF m 0 #[.val (.int (16 : Int32))] [] := by first | (simp [entryFrame, mkF, argsToLocals, Value.category]; done) | rfl
  rw [ef]
  have S_BY_CODE := own_p_S_BY_CODE hE
  have A_BY_CODE := own_p_A_BY_CODE hE
  have Z_BY_CODE := own_p_Z_BY_CODE hE
  have Y_BY_CODE_16 := own_p_Y_BY_CODE_16 hE
  refine own_st (T' := T0) (g' := (mkF m 1 #[.val (.int (16 : Int32))] [(.int (16 : Int32))])) (fun _ k => XS.iloadN X0.here hx rfl (hb hby own_d_prog_60_method_4_code_0) rfl k) ?_
  refine own_st (T' := T0) (g' := (mkF m 4 #[.val (.int (16 : Int32))] [])) (fun _ k => XS.ifNo X0.here hx rfl (hb hby own_d_prog_60_method_4_code_1) rfl (by decide) k) ?_
  refine own_st (T' := T0) (g' := (mkF m 5 #[.val (.int (16 : Int32))] [(.int (16 : Int32))])) (fun _ k => XS.iloadN X0.here hx rfl (hb hby own_d_prog_60_method_4_code_4) rfl k) ?_
  obtain ⟨T1, X1, e1, st1⟩ := getS2 X0 hx hZ hown (host := "") (Or.inl (hw _ (List.mem_of_getElem? (i := 8) rfl))) Via.refl e0 S_BY_CODE (g := (mkF m 5 #[.val (.int (16 : Int32))] [(.int (16 : Int32))])) rfl (hb hby own_d_prog_60_method_4_code_5)
  refine own_st (T' := T1) (g' := (mkF m 8 #[.val (.int (16 : Int32))] [(.ref a_BY_CODE), (.int (16 : Int32))])) st1 ?_
  refine own_st (T' := T1) (g' := (mkF m 9 #[.val (.int (16 : Int32))] [(.int cl_BY_CODE.slots.size.toInt32), (.int (16 : Int32))])) (fun _ k => X1.arraylength hx (by rw [e1]; exact A_BY_CODE.1) (State.isArrayOf_alike hZ.alike A_BY_CODE.2.1) (g := (mkF m 8 #[.val (.int (16 : Int32))] [(.ref a_BY_CODE), (.int (16 : Int32))])) rfl rfl (hb hby own_d_prog_60_method_4_code_8) _ k) ?_
  rw [len_of Z_BY_CODE (by decide)]
  refine own_st (T' := T1) (g' := (mkF m 12 #[.val (.int (16 : Int32))] [])) (fun _ k => XS.icmpNo X1.here hx rfl (hb hby own_d_prog_60_method_4_code_9) rfl (by decide) k) ?_
  obtain ⟨T2, X2, e2, st2⟩ := getS2 X1 hx hZ hown (host := "") (Or.inl (hw _ (List.mem_of_getElem? (i := 8) rfl))) Via.refl e1 S_BY_CODE (g := (mkF m 12 #[.val (.int (16 : Int32))] [])) rfl (hb hby own_d_prog_60_method_4_code_12)
  refine own_st (T' := T2) (g' := (mkF m 15 #[.val (.int (16 : Int32))] [(.ref a_BY_CODE)])) st2 ?_
  refine own_st (T' := T2) (g' := (mkF m 16 #[.val (.int (16 : Int32))] [(.int (16 : Int32)), (.ref a_BY_CODE)])) (fun _ k => XS.iloadN X2.here hx rfl (hb hby own_d_prog_60_method_4_code_15) rfl k) ?_
  refine own_st (T' := T2) (g' := (mkF m 17 #[.val (.int (16 : Int32))] [(.ref a_WALL_INTERVAL)])) (fun _ k => X2.aaload hx (j := (16 : Int32)) (v := (.ref a_WALL_INTERVAL)) (by rw [e2]; exact A_BY_CODE.1) (State.isArrayOf_alike hZ.alike A_BY_CODE.2.1) rfl A_BY_CODE.2.2 (inb_of Z_BY_CODE ⟨by decide, by decide⟩) Y_BY_CODE_16 (g := (mkF m 16 #[.val (.int (16 : Int32))] [(.int (16 : Int32)), (.ref a_BY_CODE)])) rfl rfl (hb hby own_d_prog_60_method_4_code_16) _ k) ?_
  refine own_st (T' := T2) (g' := (mkF m 21 #[.val (.int (16 : Int32))] [(.ref a_WALL_INTERVAL)])) (fun _ k => XS.goto X2.here hx rfl (pc0 := 17) (pc' := 21) rfl (hb hby own_d_prog_60_method_4_code_17) (by decide) (by decide) k) ?_
  exact own_ret X2 hx hlk hret rfl (Or.inr (Or.inr (Or.inr (Or.inr ⟨rfl, rfl, rfl⟩)))) (hb hby own_d_prog_60_method_4_code_21) (by decide) (by decide) ⟨rfl, rfl, e2⟩
set_option maxRecDepth 65536 in
set_option maxHeartbeats 40000000 in
theorem own_code_32 (l : Launch) (Z : State) (a0 : Array Value) (hw : ∀ d ∈ tables_1, d.before a0 Z = true) (h0 : Heap) (a_BY_CODE : Addr) (a_BUFFERS : Addr) (a_HOLDABLE_CLASS : Addr) (a_UNPARK : Addr) (a_MONITOR_ENTER : Addr) (a_CPU_TIMER : Addr) (a_CLASS : Addr) (a_ALLOC_INTERVAL : Addr) (a_THREAD : Addr) (a_OPTIONS : Addr) (a_END : Addr) (a_STACK : Addr) (a_TIME : Addr) (a_UNDER_WAY : Addr) (a_PARK : Addr) (a_ALLOC_SAMPLE : Addr) (a_SAMPLE : Addr) (a_WALL_SAMPLE : Addr) (a_METHOD : Addr) (a_VIRTUAL_THREAD : Addr) (a_WALL_INTERVAL : Addr) (cl_BY_CODE : Cell) (hE : own_E Z h0 a_BY_CODE a_BUFFERS a_HOLDABLE_CLASS a_UNPARK a_MONITOR_ENTER a_CPU_TIMER a_CLASS a_ALLOC_INTERVAL a_THREAD a_OPTIONS a_END a_STACK a_TIME a_UNDER_WAY a_PARK a_ALLOC_SAMPLE a_SAMPLE a_WALL_SAMPLE a_METHOD a_VIRTUAL_THREAD a_WALL_INTERVAL cl_BY_CODE) :
    own_Pure l Z h0 [] ({ frames := 0, cells := 0, slots := 0, locals := 0 } : Room) (⟨"com/example/tracewell/tracewell/RecordKind", "code", "()I"⟩ : MethodName) prog_60_method_6_code 1 (some .int) #[(.ref a_WALL_INTERVAL)] (some (.int (16 : Int32))) := by
  refine own_body (plainFor_of_name own_pn_0) ?_
  intro p e s m below meth c T0 X0 hx hby hml hown hZ e0 hret hlk hnm hnamed
  replace hown : s.vm.findClass "com/example/tracewell/tracewell/RecordKind" = some m.cls := hown
  replace hml : c.maxLocals = 1 := hml
  have ef : entryFrame m #[(.ref a_WALL_INTERVAL)] 1 = mkF m 0 #[.val (.ref a_WALL_INTERVAL)] [] := by first | (simp [entryFrame, mkF, argsToLocals, Value.category]; done) | rfl
  rw [ef]
  have F_WALL_INTERVAL_code := own_p_F_WALL_INTERVAL_code hE
  refine own_st (T' := T0) (g' := (mkF m 1 #[.val (.ref a_WALL_INTERVAL)] [(.ref a_WALL_INTERVAL)])) (fun _ k => XS.aloadN X0.here hx rfl (hb hby own_d_prog_60_method_6_code_0) rfl rfl k) ?_
  obtain ⟨T1, X1, e1, st1⟩ := getF X0 hx hZ hown (host := "") (Or.inl (hw _ (List.mem_of_getElem? (i := 16) rfl))) Via.refl e0 F_WALL_INTERVAL_code (g := (mkF m 1 #[.val (.ref a_WALL_INTERVAL)] [(.ref a_WALL_INTERVAL)])) rfl rfl (hb hby own_d_prog_60_method_6_code_1)
  refine own_st (T' := T1) (g' := (mkF m 4 #[.val (.ref a_WALL_INTERVAL)] [(.int (16 : Int32))])) st1 ?_
  exact own_ret X1 hx hlk hret rfl (Or.inl ⟨rfl, Or.inl rfl, _, rfl⟩) (hb hby own_d_prog_60_method_6_code_4) (by decide) (by decide) ⟨rfl, rfl, e1⟩
set_option maxRecDepth 65536 in
set_option maxHeartbeats 40000000 in
theorem own_check_16 (l : Launch) (Z : State) (a0 : Array Value) (hw : ∀ d ∈ tables_1, d.before a0 Z = true) (h0 : Heap) (a_BY_CODE : Addr) (a_BUFFERS : Addr) (a_HOLDABLE_CLASS : Addr) (a_UNPARK : Addr) (a_MONITOR_ENTER : Addr) (a_CPU_TIMER : Addr) (a_CLASS : Addr) (a_ALLOC_INTERVAL : Addr) (a_THREAD : Addr) (a_OPTIONS : Addr) (a_END : Addr) (a_STACK : Addr) (a_TIME : Addr) (a_UNDER_WAY : Addr) (a_PARK : Addr) (a_ALLOC_SAMPLE : Addr) (a_SAMPLE : Addr) (a_WALL_SAMPLE : Addr) (a_METHOD : Addr) (a_VIRTUAL_THREAD : Addr) (a_WALL_INTERVAL : Addr) (cl_BY_CODE : Cell) (hE : own_E Z h0 a_BY_CODE a_BUFFERS a_HOLDABLE_CLASS a_UNPARK a_MONITOR_ENTER a_CPU_TIMER a_CLASS a_ALLOC_INTERVAL a_THREAD a_OPTIONS a_END a_STACK a_TIME a_UNDER_WAY a_PARK a_ALLOC_SAMPLE a_SAMPLE a_WALL_SAMPLE a_METHOD a_VIRTUAL_THREAD a_WALL_INTERVAL cl_BY_CODE) :
    own_Pure l Z h0 [] ({ frames := 1, cells := 0, slots := 0, locals := 12 } : Room) (⟨"com/example/tracewell/tracewell/RecordKindOfPinLaw", "check", "(I)Z"⟩ : MethodName) method_3_code 3 (some .boolean) #[(.int (16 : Int32))] (some (.int (1 : Int32))) := by
  refine own_body (plainFor_of_name own_pn_1) ?_
  intro p e s m below meth c T0 X0 hx hby hml hown hZ e0 hret hlk hnm hnamed
  replace hown : s.vm.findClass "com/example/tracewell/tracewell/RecordKindOfPinLaw" = some m.cls := hown
  replace hml : c.maxLocals = 3 := hml
  have ef : entryFrame m #[(.int (16 : Int32))] 3 = mkF m 0 #[.val (.int (16 : Int32)), .unset, .unset] [] := by first | (simp [entryFrame, mkF, argsToLocals, Value.category]; done) | rfl
  rw [ef]
  have E_WALL_INTERVAL := own_p_E_WALL_INTERVAL hE
  refine own_st (T' := T0) (g' := (mkF m 1 #[.val (.int (16 : Int32)), .unset, .unset] [(.int (16 : Int32))])) (fun _ k => XS.iloadN X0.here hx rfl (hb hby own_d_method_3_code_0) rfl k) ?_
  obtain ⟨T1, X1, e1, st1⟩ := own_pure (w := (.ref a_WALL_INTERVAL)) rfl rfl (own_gS X0 hx hZ hown (hw _ (List.mem_of_getElem? (i := 4) rfl)) (hw _ (List.mem_of_getElem? (i := 5) rfl)) (hw _ (List.mem_of_getElem? (i := 6) rfl)) (hw _ (List.mem_of_getElem? (i := 7) rfl)) (by decide) e0 (own_of_31 l Z a0 hw h0 a_BY_CODE a_BUFFERS a_HOLDABLE_CLASS a_UNPARK a_MONITOR_ENTER a_CPU_TIMER a_CLASS a_ALLOC_INTERVAL a_THREAD a_OPTIONS a_END a_STACK a_TIME a_UNDER_WAY a_PARK a_ALLOC_SAMPLE a_SAMPLE a_WALL_SAMPLE a_METHOD a_VIRTUAL_THREAD a_WALL_INTERVAL cl_BY_CODE hE) (by decide) (by decide) (by decide) (by decide) (Q := fun v h L => v = some (.ref a_WALL_INTERVAL) ∧ L = [] ∧ h = h0) (W := 0) (g := (mkF m 1 #[.val (.int (16 : Int32)), .unset, .unset] [(.int (16 : Int32))])) (argsL := [(.int (16 : Int32))]) (rest := []) rfl (by rw [hml]; rfl) (lenOf own_pd_0 rfl) rfl (by show 2 * 0 + _ ≤ _; exact Nat.le_of_eq rfl) (hb hby own_d_method_3_code_1))
  refine own_st (T' := T1) (g' := (mkF m 4 #[.val (.int (16 : Int32)), .unset, .unset] [(.ref a_WALL_INTERVAL)])) st1 ?_
  refine own_st (T' := T1) (g' := (mkF m 5 #[.val (.int (16 : Int32)), .val (.ref a_WALL_INTERVAL), .unset] [])) (fun _ k => XS.astoreN X1.here hx rfl (hb hby own_d_method_3_code_4) rfl rfl (l' := #[.val (.int (16 : Int32)), .val (.ref a_WALL_INTERVAL), .unset]) rfl k) ?_
  refine own_st (T' := T1) (g' := (mkF m 6 #[.val (.int (16 : Int32)), .val (.ref a_WALL_INTERVAL), .unset] [(.int (16 : Int32))])) (fun _ k => XS.iloadN X1.here hx rfl (hb hby own_d_method_3_code_5) rfl k) ?_
  refine own_st (T' := T1) (g' := (mkF m 7 #[.val (.int (16 : Int32)), .val (.ref a_WALL_INTERVAL), .unset] [(.int (1 : Int32)), (.int (16 : Int32))])) (fun _ k => XS.iconst X1.here hx rfl (hb hby own_d_method_3_code_6) k) ?_
  refine own_st (T' := T1) (g' := (mkF m 10 #[.val (.int (16 : Int32)), .val (.ref a_WALL_INTERVAL), .unset] [])) (fun _ k => XS.icmpNo X1.here hx rfl (hb hby own_d_method_3_code_7) rfl (by decide) k) ?_
  refine own_st (T' := T1) (g' := (mkF m 11 #[.val (.int (16 : Int32)), .val (.ref a_WALL_INTERVAL), .unset] [(.int (16 : Int32))])) (fun _ k => XS.iloadN X1.here hx rfl (hb hby own_d_method_3_code_10) rfl k) ?_
  refine own_st (T' := T1) (g' := (mkF m 13 #[.val (.int (16 : Int32)), .val (.ref a_WALL_INTERVAL), .unset] [(.int (20 : Int32)), (.int (16 : Int32))])) (fun _ k => XS.bipush X1.here hx rfl (hb hby own_d_method_3_code_11) k) ?_
  refine own_st (T' := T1) (g' := (mkF m 16 #[.val (.int (16 : Int32)), .val (.ref a_WALL_INTERVAL), .unset] [])) (fun _ k => XS.icmpNo X1.here hx rfl (hb hby own_d_method_3_code_13) rfl (by decide) k) ?_
  refine own_st (T' := T1) (g' := (mkF m 17 #[.val (.int (16 : Int32)), .val (.ref a_WALL_INTERVAL), .unset] [(.int (1 : Int32))])) (fun _ k => XS.iconst X1.here hx rfl (hb hby own_d_method_3_code_16) k) ?_
  refine own_st (T' := T1) (g' := (mkF m 21 #[.val (.int (16 : Int32)), .val (.ref a_WALL_INTERVAL), .unset] [(.int (1 : Int32))])) (fun _ k => XS.goto X1.here hx rfl (pc0 := 17) (pc' := 21) rfl (hb hby own_d_method_3_code_17) (by decide) (by decide) k) ?_
  refine own_st (T' := T1) (g' := (mkF m 22 #[.val (.int (16 : Int32)), .val (.ref a_WALL_INTERVAL), .val (.int (1 : Int32))] [])) (fun _ k => XS.istoreN X1.here hx rfl (hb hby own_d_method_3_code_21) rfl (l' := #[.val (.int (16 : Int32)), .val (.ref a_WALL_INTERVAL), .val (.int (1 : Int32))]) rfl k) ?_
  refine own_st (T' := T1) (g' := (mkF m 23 #[.val (.int (16 : Int32)), .val (.ref a_WALL_INTERVAL), .val (.int (1 : Int32))] [(.int (1 : Int32))])) (fun _ k => XS.iloadN X1.here hx rfl (hb hby own_d_method_3_code_22) rfl k) ?_
  refine own_st (T' := T1) (g' := (mkF m 36 #[.val (.int (16 : Int32)), .val (.ref a_WALL_INTERVAL), .val (.int (1 : Int32))] [])) (fun _ k => XS.ifYes X1.here hx rfl (pc0 := 23) (pc' := 36) rfl (hb hby own_d_method_3_code_23) rfl (by decide) (by decide) (by decide) k) ?_
  refine own_st (T' := T1) (g' := (mkF m 37 #[.val (.int (16 : Int32)), .val (.ref a_WALL_INTERVAL), .val (.int (1 : Int32))] [(.ref a_WALL_INTERVAL)])) (fun _ k => XS.aloadN X1.here hx rfl (hb hby own_d_method_3_code_36) rfl rfl k) ?_
  refine own_st (T' := T1) (g' := (mkF m 40 #[.val (.int (16 : Int32)), .val (.ref a_WALL_INTERVAL), .val (.int (1 : Int32))] [])) (fun _ k => XS.ifnullNo X1.here hx rfl (hb hby own_d_method_3_code_37) rfl k) ?_
  refine own_st (T' := T1) (g' := (mkF m 41 #[.val (.int (16 : Int32)), .val (.ref a_WALL_INTERVAL), .val (.int (1 : Int32))] [(.ref a_WALL_INTERVAL)])) (fun _ k => XS.aloadN X1.here hx rfl (hb hby own_d_method_3_code_40) rfl rfl k) ?_
  obtain ⟨T2, X2, e2, st2⟩ := own_pure (w := (.int (16 : Int32))) rfl rfl (own_gV X1 hx hZ hown (hw _ (List.mem_of_getElem? (i := 11) rfl)) (hw _ (List.mem_of_getElem? (i := 12) rfl)) (notFace_of_selects (args := #[]) (mvT hZ (hw _ (List.mem_of_getElem? (i := 14) rfl)))) (hw _ (List.mem_of_getElem? (i := 14) rfl)) (hw _ (List.mem_of_getElem? (i := 13) rfl)) (hw _ (List.mem_of_getElem? (i := 6) rfl)) (hw _ (List.mem_of_getElem? (i := 15) rfl)) (by decide) e1 E_WALL_INTERVAL (own_code_32 l Z a0 hw h0 a_BY_CODE a_BUFFERS a_HOLDABLE_CLASS a_UNPARK a_MONITOR_ENTER a_CPU_TIMER a_CLASS a_ALLOC_INTERVAL a_THREAD a_OPTIONS a_END a_STACK a_TIME a_UNDER_WAY a_PARK a_ALLOC_SAMPLE a_SAMPLE a_WALL_SAMPLE a_METHOD a_VIRTUAL_THREAD a_WALL_INTERVAL cl_BY_CODE hE) (by decide) (by decide) (by decide) (by decide) (Q := fun v h L => v = some (.int (16 : Int32)) ∧ L = [] ∧ h = h0) (W := 0) (g := (mkF m 41 #[.val (.int (16 : Int32)), .val (.ref a_WALL_INTERVAL), .val (.int (1 : Int32))] [(.ref a_WALL_INTERVAL)])) (argsL := []) (rest := []) rfl (by rw [hml]; rfl) (lenOf own_pd_1 rfl) rfl (by show 2 * 0 + _ ≤ _; exact Nat.le_of_eq rfl) (hb hby own_d_method_3_code_41))
  refine own_st (T' := T2) (g' := (mkF m 44 #[.val (.int (16 : Int32)), .val (.ref a_WALL_INTERVAL), .val (.int (1 : Int32))] [(.int (16 : Int32))])) st2 ?_
  refine own_st (T' := T2) (g' := (mkF m 45 #[.val (.int (16 : Int32)), .val (.ref a_WALL_INTERVAL), .val (.int (1 : Int32))] [(.int (16 : Int32)), (.int (16 : Int32))])) (fun _ k => XS.iloadN X2.here hx rfl (hb hby own_d_method_3_code_44) rfl k) ?_
  refine own_st (T' := T2) (g' := (mkF m 48 #[.val (.int (16 : Int32)), .val (.ref a_WALL_INTERVAL), .val (.int (1 : Int32))] [])) (fun _ k => XS.icmpNo X2.here hx rfl (hb hby own_d_method_3_code_45) rfl (by decide) k) ?_
  refine own_st (T' := T2) (g' := (mkF m 49 #[.val (.int (16 : Int32)), .val (.ref a_WALL_INTERVAL), .val (.int (1 : Int32))] [(.int (1 : Int32))])) (fun _ k => XS.iconst X2.here hx rfl (hb hby own_d_method_3_code_48) k) ?_
  refine own_st (T' := T2) (g' := (mkF m 53 #[.val (.int (16 : Int32)), .val (.ref a_WALL_INTERVAL), .val (.int (1 : Int32))] [(.int (1 : Int32))])) (fun _ k => XS.goto X2.here hx rfl (pc0 := 49) (pc' := 53) rfl (hb hby own_d_method_3_code_49) (by decide) (by decide) k) ?_
  exact own_ret X2 hx hlk hret rfl (Or.inl ⟨rfl, Or.inr (Or.inl rfl), _, rfl⟩) (hb hby own_d_method_3_code_53) (by decide) (by decide) ⟨rfl, rfl, e2⟩
set_option maxRecDepth 65536 in
set_option maxHeartbeats 40000000 in
theorem own_of_33 (l : Launch) (Z : State) (a0 : Array Value) (hw : ∀ d ∈ tables_1, d.before a0 Z = true) (h0 : Heap) (a_BY_CODE : Addr) (a_BUFFERS : Addr) (a_HOLDABLE_CLASS : Addr) (a_UNPARK : Addr) (a_MONITOR_ENTER : Addr) (a_CPU_TIMER : Addr) (a_CLASS : Addr) (a_ALLOC_INTERVAL : Addr) (a_THREAD : Addr) (a_OPTIONS : Addr) (a_END : Addr) (a_STACK : Addr) (a_TIME : Addr) (a_UNDER_WAY : Addr) (a_PARK : Addr) (a_ALLOC_SAMPLE : Addr) (a_SAMPLE : Addr) (a_WALL_SAMPLE : Addr) (a_METHOD : Addr) (a_VIRTUAL_THREAD : Addr) (a_WALL_INTERVAL : Addr) (cl_BY_CODE : Cell) (hE : own_E Z h0 a_BY_CODE a_BUFFERS a_HOLDABLE_CLASS a_UNPARK a_MONITOR_ENTER a_CPU_TIMER a_CLASS a_ALLOC_INTERVAL a_THREAD a_OPTIONS a_END a_STACK a_TIME a_UNDER_WAY a_PARK a_ALLOC_SAMPLE a_SAMPLE a_WALL_SAMPLE a_METHOD a_VIRTUAL_THREAD a_WALL_INTERVAL cl_BY_CODE) :
    own_Pure l Z h0 [] ({ frames := 0, cells := 0, slots := 0, locals := 0 } : Room) (⟨"com/example/tracewell/tracewell/RecordKind", "of", "(I)Lcom/example/tracewell/tracewell/RecordKind;"⟩ : MethodName) prog_60_method_4_code 1 (some (.object "com/example/tracewell/tracewell/RecordKind")) #[(.int (17 : Int32))] (some (.ref a_WALL_SAMPLE)) := by
  refine own_body (plainFor_of_name own_pn_0) ?_
  intro p e s m below meth c T0 X0 hx hby hml hown hZ e0 hret hlk hnm hnamed
  replace hown : s.vm.findClass "com/example/tracewell/tracewell/RecordKind" = some m.cls := hown
  replace hml : c.maxLocals = 1 := hml
  have ef : entryFrame m #[(.int (17 : Int32))] 1 = mkF m 0 #[.val (.int (17 : Int32))] [] := by first | (simp [entryFrame, mkF, argsToLocals, Value.category]; done) | rfl
  rw [ef]
  have S_BY_CODE := own_p_S_BY_CODE hE
  have A_BY_CODE := own_p_A_BY_CODE hE
  have Z_BY_CODE := own_p_Z_BY_CODE hE
  have Y_BY_CODE_17 := own_p_Y_BY_CODE_17 hE
  refine own_st (T' := T0) (g' := (mkF m 1 #[.val (.int (17 : Int32))] [(.int (17 : Int32))])) (fun _ k => XS.iloadN X0.here hx rfl (hb hby own_d_prog_60_method_4_code_0) rfl k) ?_
  refine own_st (T' := T0) (g' := (mkF m 4 #[.val (.int (17 : Int32))] [])) (fun _ k => XS.ifNo X0.here hx rfl (hb hby own_d_prog_60_method_4_code_1) rfl (by decide) k) ?_
  refine own_st (T' := T0) (g' := (mkF m 5 #[.val (.int (17 : Int32))] [(.int (17 : Int32))])) (fun _ k => XS.iloadN X0.here hx rfl (hb hby own_d_prog_60_method_4_code_4) rfl k) ?_
  obtain ⟨T1, X1, e1, st1⟩ := getS2 X0 hx hZ hown (host := "") (Or.inl (hw _ (List.mem_of_getElem? (i := 8) rfl))) Via.refl e0 S_BY_CODE (g := (mkF m 5 #[.val (.int (17 : Int32))] [(.int (17 : Int32))])) rfl (hb hby own_d_prog_60_method_4_code_5)
  refine own_st (T' := T1) (g' := (mkF m 8 #[.val (.int (17 : Int32))] [(.ref a_BY_CODE), (.int (17 : Int32))])) st1 ?_
  refine own_st (T' := T1) (g' := (mkF m 9 #[.val (.int (17 : Int32))] [(.int cl_BY_CODE.slots.size.toInt32), (.int (17 : Int32))])) (fun _ k => X1.arraylength hx (by rw [e1]; exact A_BY_CODE.1) (State.isArrayOf_alike hZ.alike A_BY_CODE.2.1) (g := (mkF m 8 #[.val (.int (17 : Int32))] [(.ref a_BY_CODE), (.int (17 : Int32))])) rfl rfl (hb hby own_d_prog_60_method_4_code_8) _ k) ?_
  rw [len_of Z_BY_CODE (by decide)]
  refine own_st (T' := T1) (g' := (mkF m 12 #[.val (.int (17 : Int32))] [])) (fun _ k => XS.icmpNo X1.here hx rfl (hb hby own_d_prog_60_method_4_code_9) rfl (by decide) k) ?_
  obtain ⟨T2, X2, e2, st2⟩ := getS2 X1 hx hZ hown (host := "") (Or.inl (hw _ (List.mem_of_getElem? (i := 8) rfl))) Via.refl e1 S_BY_CODE (g := (mkF m 12 #[.val (.int (17 : Int32))] [])) rfl (hb hby own_d_prog_60_method_4_code_12)
  refine own_st (T' := T2) (g' := (mkF m 15 #[.val (.int (17 : Int32))] [(.ref a_BY_CODE)])) st2 ?_
  refine own_st (T' := T2) (g' := (mkF m 16 #[.val (.int (17 : Int32))] [(.int (17 : Int32)), (.ref a_BY_CODE)])) (fun _ k => XS.iloadN X2.here hx rfl (hb hby own_d_prog_60_method_4_code_15) rfl k) ?_
  refine own_st (T' := T2) (g' := (mkF m 17 #[.val (.int (17 : Int32))] [(.ref a_WALL_SAMPLE)])) (fun _ k => X2.aaload hx (j := (17 : Int32)) (v := (.ref a_WALL_SAMPLE)) (by rw [e2]; exact A_BY_CODE.1) (State.isArrayOf_alike hZ.alike A_BY_CODE.2.1) rfl A_BY_CODE.2.2 (inb_of Z_BY_CODE ⟨by decide, by decide⟩) Y_BY_CODE_17 (g := (mkF m 16 #[.val (.int (17 : Int32))] [(.int (17 : Int32)), (.ref a_BY_CODE)])) rfl rfl (hb hby own_d_prog_60_method_4_code_16) _ k) ?_
  refine own_st (T' := T2) (g' := (mkF m 21 #[.val (.int (17 : Int32))] [(.ref a_WALL_SAMPLE)])) (fun _ k => XS.goto X2.here hx rfl (pc0 := 17) (pc' := 21) rfl (hb hby own_d_prog_60_method_4_code_17) (by decide) (by decide) k) ?_
  exact own_ret X2 hx hlk hret rfl (Or.inr (Or.inr (Or.inr (Or.inr ⟨rfl, rfl, rfl⟩)))) (hb hby own_d_prog_60_method_4_code_21) (by decide) (by decide) ⟨rfl, rfl, e2⟩
set_option maxRecDepth 65536 in
set_option maxHeartbeats 40000000 in
theorem own_code_34 (l : Launch) (Z : State) (a0 : Array Value) (hw : ∀ d ∈ tables_1, d.before a0 Z = true) (h0 : Heap) (a_BY_CODE : Addr) (a_BUFFERS : Addr) (a_HOLDABLE_CLASS : Addr) (a_UNPARK : Addr) (a_MONITOR_ENTER : Addr) (a_CPU_TIMER : Addr) (a_CLASS : Addr) (a_ALLOC_INTERVAL : Addr) (a_THREAD : Addr) (a_OPTIONS : Addr) (a_END : Addr) (a_STACK : Addr) (a_TIME : Addr) (a_UNDER_WAY : Addr) (a_PARK : Addr) (a_ALLOC_SAMPLE : Addr) (a_SAMPLE : Addr) (a_WALL_SAMPLE : Addr) (a_METHOD : Addr) (a_VIRTUAL_THREAD : Addr) (a_WALL_INTERVAL : Addr) (cl_BY_CODE : Cell) (hE : own_E Z h0 a_BY_CODE a_BUFFERS a_HOLDABLE_CLASS a_UNPARK a_MONITOR_ENTER a_CPU_TIMER a_CLASS a_ALLOC_INTERVAL a_THREAD a_OPTIONS a_END a_STACK a_TIME a_UNDER_WAY a_PARK a_ALLOC_SAMPLE a_SAMPLE a_WALL_SAMPLE a_METHOD a_VIRTUAL_THREAD a_WALL_INTERVAL cl_BY_CODE) :
    own_Pure l Z h0 [] ({ frames := 0, cells := 0, slots := 0, locals := 0 } : Room) (⟨"com/example/tracewell/tracewell/RecordKind", "code", "()I"⟩ : MethodName) prog_60_method_6_code 1 (some .int) #[(.ref a_WALL_SAMPLE)] (some (.int (17 : Int32))) := by
  refine own_body (plainFor_of_name own_pn_0) ?_
  intro p e s m below meth c T0 X0 hx hby hml hown hZ e0 hret hlk hnm hnamed
  replace hown : s.vm.findClass "com/example/tracewell/tracewell/RecordKind" = some m.cls := hown
  replace hml : c.maxLocals = 1 := hml
  have ef : entryFrame m #[(.ref a_WALL_SAMPLE)] 1 = mkF m 0 #[.val (.ref a_WALL_SAMPLE)] [] := by first | (simp [entryFrame, mkF, argsToLocals, Value.category]; done) | rfl
  rw [ef]
  have F_WALL_SAMPLE_code := own_p_F_WALL_SAMPLE_code hE
  refine own_st (T' := T0) (g' := (mkF m 1 #[.val (.ref a_WALL_SAMPLE)] [(.ref a_WALL_SAMPLE)])) (fun _ k => XS.aloadN X0.here hx rfl (hb hby own_d_prog_60_method_6_code_0) rfl rfl k) ?_
  obtain ⟨T1, X1, e1, st1⟩ := getF X0 hx hZ hown (host := "") (Or.inl (hw _ (List.mem_of_getElem? (i := 16) rfl))) Via.refl e0 F_WALL_SAMPLE_code (g := (mkF m 1 #[.val (.ref a_WALL_SAMPLE)] [(.ref a_WALL_SAMPLE)])) rfl rfl (hb hby own_d_prog_60_method_6_code_1)
  refine own_st (T' := T1) (g' := (mkF m 4 #[.val (.ref a_WALL_SAMPLE)] [(.int (17 : Int32))])) st1 ?_
  exact own_ret X1 hx hlk hret rfl (Or.inl ⟨rfl, Or.inl rfl, _, rfl⟩) (hb hby own_d_prog_60_method_6_code_4) (by decide) (by decide) ⟨rfl, rfl, e1⟩
set_option maxRecDepth 65536 in
set_option maxHeartbeats 40000000 in
theorem own_check_17 (l : Launch) (Z : State) (a0 : Array Value) (hw : ∀ d ∈ tables_1, d.before a0 Z = true) (h0 : Heap) (a_BY_CODE : Addr) (a_BUFFERS : Addr) (a_HOLDABLE_CLASS : Addr) (a_UNPARK : Addr) (a_MONITOR_ENTER : Addr) (a_CPU_TIMER : Addr) (a_CLASS : Addr) (a_ALLOC_INTERVAL : Addr) (a_THREAD : Addr) (a_OPTIONS : Addr) (a_END : Addr) (a_STACK : Addr) (a_TIME : Addr) (a_UNDER_WAY : Addr) (a_PARK : Addr) (a_ALLOC_SAMPLE : Addr) (a_SAMPLE : Addr) (a_WALL_SAMPLE : Addr) (a_METHOD : Addr) (a_VIRTUAL_THREAD : Addr) (a_WALL_INTERVAL : Addr) (cl_BY_CODE : Cell) (hE : own_E Z h0 a_BY_CODE a_BUFFERS a_HOLDABLE_CLASS a_UNPARK a_MONITOR_ENTER a_CPU_TIMER a_CLASS a_ALLOC_INTERVAL a_THREAD a_OPTIONS a_END a_STACK a_TIME a_UNDER_WAY a_PARK a_ALLOC_SAMPLE a_SAMPLE a_WALL_SAMPLE a_METHOD a_VIRTUAL_THREAD a_WALL_INTERVAL cl_BY_CODE) :
    own_Pure l Z h0 [] ({ frames := 1, cells := 0, slots := 0, locals := 12 } : Room) (⟨"com/example/tracewell/tracewell/RecordKindOfPinLaw", "check", "(I)Z"⟩ : MethodName) method_3_code 3 (some .boolean) #[(.int (17 : Int32))] (some (.int (1 : Int32))) := by
  refine own_body (plainFor_of_name own_pn_1) ?_
  intro p e s m below meth c T0 X0 hx hby hml hown hZ e0 hret hlk hnm hnamed
  replace hown : s.vm.findClass "com/example/tracewell/tracewell/RecordKindOfPinLaw" = some m.cls := hown
  replace hml : c.maxLocals = 3 := hml
  have ef : entryFrame m #[(.int (17 : Int32))] 3 = mkF m 0 #[.val (.int (17 : Int32)), .unset, .unset] [] := by first | (simp [entryFrame, mkF, argsToLocals, Value.category]; done) | rfl
  rw [ef]
  have E_WALL_SAMPLE := own_p_E_WALL_SAMPLE hE
  refine own_st (T' := T0) (g' := (mkF m 1 #[.val (.int (17 : Int32)), .unset, .unset] [(.int (17 : Int32))])) (fun _ k => XS.iloadN X0.here hx rfl (hb hby own_d_method_3_code_0) rfl k) ?_
  obtain ⟨T1, X1, e1, st1⟩ := own_pure (w := (.ref a_WALL_SAMPLE)) rfl rfl (own_gS X0 hx hZ hown (hw _ (List.mem_of_getElem? (i := 4) rfl)) (hw _ (List.mem_of_getElem? (i := 5) rfl)) (hw _ (List.mem_of_getElem? (i := 6) rfl)) (hw _ (List.mem_of_getElem? (i := 7) rfl)) (by decide) e0 (own_of_33 l Z a0 hw h0 a_BY_CODE a_BUFFERS a_HOLDABLE_CLASS a_UNPARK a_MONITOR_ENTER a_CPU_TIMER a_CLASS a_ALLOC_INTERVAL a_THREAD a_OPTIONS a_END a_STACK a_TIME a_UNDER_WAY a_PARK a_ALLOC_SAMPLE a_SAMPLE a_WALL_SAMPLE a_METHOD a_VIRTUAL_THREAD a_WALL_INTERVAL cl_BY_CODE hE) (by decide) (by decide) (by decide) (by decide) (Q := fun v h L => v = some (.ref a_WALL_SAMPLE) ∧ L = [] ∧ h = h0) (W := 0) (g := (mkF m 1 #[.val (.int (17 : Int32)), .unset, .unset] [(.int (17 : Int32))])) (argsL := [(.int (17 : Int32))]) (rest := []) rfl (by rw [hml]; rfl) (lenOf own_pd_0 rfl) rfl (by show 2 * 0 + _ ≤ _; exact Nat.le_of_eq rfl) (hb hby own_d_method_3_code_1))
  refine own_st (T' := T1) (g' := (mkF m 4 #[.val (.int (17 : Int32)), .unset, .unset] [(.ref a_WALL_SAMPLE)])) st1 ?_
  refine own_st (T' := T1) (g' := (mkF m 5 #[.val (.int (17 : Int32)), .val (.ref a_WALL_SAMPLE), .unset] [])) (fun _ k => XS.astoreN X1.here hx rfl (hb hby own_d_method_3_code_4) rfl rfl (l' := #[.val (.int (17 : Int32)), .val (.ref a_WALL_SAMPLE), .unset]) rfl k) ?_
  refine own_st (T' := T1) (g' := (mkF m 6 #[.val (.int (17 : Int32)), .val (.ref a_WALL_SAMPLE), .unset] [(.int (17 : Int32))])) (fun _ k => XS.iloadN X1.here hx rfl (hb hby own_d_method_3_code_5) rfl k) ?_
  refine own_st (T' := T1) (g' := (mkF m 7 #[.val (.int (17 : Int32)), .val (.ref a_WALL_SAMPLE), .unset] [(.int (1 : Int32)), (.int (17 : Int32))])) (fun _ k => XS.iconst X1.here hx rfl (hb hby own_d_method_3_code_6) k) ?_
  refine own_st (T' := T1) (g' := (mkF m 10 #[.val (.int (17 : Int32)), .val (.ref a_WALL_SAMPLE), .unset] [])) (fun _ k => XS.icmpNo X1.here hx rfl (hb hby own_d_method_3_code_7) rfl (by decide) k) ?_
  refine own_st (T' := T1) (g' := (mkF m 11 #[.val (.int (17 : Int32)), .val (.ref a_WALL_SAMPLE), .unset] [(.int (17 : Int32))])) (fun _ k => XS.iloadN X1.here hx rfl (hb hby own_d_method_3_code_10) rfl k) ?_
  refine own_st (T' := T1) (g' := (mkF m 13 #[.val (.int (17 : Int32)), .val (.ref a_WALL_SAMPLE), .unset] [(.int (20 : Int32)), (.int (17 : Int32))])) (fun _ k => XS.bipush X1.here hx rfl (hb hby own_d_method_3_code_11) k) ?_
  refine own_st (T' := T1) (g' := (mkF m 16 #[.val (.int (17 : Int32)), .val (.ref a_WALL_SAMPLE), .unset] [])) (fun _ k => XS.icmpNo X1.here hx rfl (hb hby own_d_method_3_code_13) rfl (by decide) k) ?_
  refine own_st (T' := T1) (g' := (mkF m 17 #[.val (.int (17 : Int32)), .val (.ref a_WALL_SAMPLE), .unset] [(.int (1 : Int32))])) (fun _ k => XS.iconst X1.here hx rfl (hb hby own_d_method_3_code_16) k) ?_
  refine own_st (T' := T1) (g' := (mkF m 21 #[.val (.int (17 : Int32)), .val (.ref a_WALL_SAMPLE), .unset] [(.int (1 : Int32))])) (fun _ k => XS.goto X1.here hx rfl (pc0 := 17) (pc' := 21) rfl (hb hby own_d_method_3_code_17) (by decide) (by decide) k) ?_
  refine own_st (T' := T1) (g' := (mkF m 22 #[.val (.int (17 : Int32)), .val (.ref a_WALL_SAMPLE), .val (.int (1 : Int32))] [])) (fun _ k => XS.istoreN X1.here hx rfl (hb hby own_d_method_3_code_21) rfl (l' := #[.val (.int (17 : Int32)), .val (.ref a_WALL_SAMPLE), .val (.int (1 : Int32))]) rfl k) ?_
  refine own_st (T' := T1) (g' := (mkF m 23 #[.val (.int (17 : Int32)), .val (.ref a_WALL_SAMPLE), .val (.int (1 : Int32))] [(.int (1 : Int32))])) (fun _ k => XS.iloadN X1.here hx rfl (hb hby own_d_method_3_code_22) rfl k) ?_
  refine own_st (T' := T1) (g' := (mkF m 36 #[.val (.int (17 : Int32)), .val (.ref a_WALL_SAMPLE), .val (.int (1 : Int32))] [])) (fun _ k => XS.ifYes X1.here hx rfl (pc0 := 23) (pc' := 36) rfl (hb hby own_d_method_3_code_23) rfl (by decide) (by decide) (by decide) k) ?_
  refine own_st (T' := T1) (g' := (mkF m 37 #[.val (.int (17 : Int32)), .val (.ref a_WALL_SAMPLE), .val (.int (1 : Int32))] [(.ref a_WALL_SAMPLE)])) (fun _ k => XS.aloadN X1.here hx rfl (hb hby own_d_method_3_code_36) rfl rfl k) ?_
  refine own_st (T' := T1) (g' := (mkF m 40 #[.val (.int (17 : Int32)), .val (.ref a_WALL_SAMPLE), .val (.int (1 : Int32))] [])) (fun _ k => XS.ifnullNo X1.here hx rfl (hb hby own_d_method_3_code_37) rfl k) ?_
  refine own_st (T' := T1) (g' := (mkF m 41 #[.val (.int (17 : Int32)), .val (.ref a_WALL_SAMPLE), .val (.int (1 : Int32))] [(.ref a_WALL_SAMPLE)])) (fun _ k => XS.aloadN X1.here hx rfl (hb hby own_d_method_3_code_40) rfl rfl k) ?_
  obtain ⟨T2, X2, e2, st2⟩ := own_pure (w := (.int (17 : Int32))) rfl rfl (own_gV X1 hx hZ hown (hw _ (List.mem_of_getElem? (i := 11) rfl)) (hw _ (List.mem_of_getElem? (i := 12) rfl)) (notFace_of_selects (args := #[]) (mvT hZ (hw _ (List.mem_of_getElem? (i := 14) rfl)))) (hw _ (List.mem_of_getElem? (i := 14) rfl)) (hw _ (List.mem_of_getElem? (i := 13) rfl)) (hw _ (List.mem_of_getElem? (i := 6) rfl)) (hw _ (List.mem_of_getElem? (i := 15) rfl)) (by decide) e1 E_WALL_SAMPLE (own_code_34 l Z a0 hw h0 a_BY_CODE a_BUFFERS a_HOLDABLE_CLASS a_UNPARK a_MONITOR_ENTER a_CPU_TIMER a_CLASS a_ALLOC_INTERVAL a_THREAD a_OPTIONS a_END a_STACK a_TIME a_UNDER_WAY a_PARK a_ALLOC_SAMPLE a_SAMPLE a_WALL_SAMPLE a_METHOD a_VIRTUAL_THREAD a_WALL_INTERVAL cl_BY_CODE hE) (by decide) (by decide) (by decide) (by decide) (Q := fun v h L => v = some (.int (17 : Int32)) ∧ L = [] ∧ h = h0) (W := 0) (g := (mkF m 41 #[.val (.int (17 : Int32)), .val (.ref a_WALL_SAMPLE), .val (.int (1 : Int32))] [(.ref a_WALL_SAMPLE)])) (argsL := []) (rest := []) rfl (by rw [hml]; rfl) (lenOf own_pd_1 rfl) rfl (by show 2 * 0 + _ ≤ _; exact Nat.le_of_eq rfl) (hb hby own_d_method_3_code_41))
  refine own_st (T' := T2) (g' := (mkF m 44 #[.val (.int (17 : Int32)), .val (.ref a_WALL_SAMPLE), .val (.int (1 : Int32))] [(.int (17 : Int32))])) st2 ?_
  refine own_st (T' := T2) (g' := (mkF m 45 #[.val (.int (17 : Int32)), .val (.ref a_WALL_SAMPLE), .val (.int (1 : Int32))] [(.int (17 : Int32)), (.int (17 : Int32))])) (fun _ k => XS.iloadN X2.here hx rfl (hb hby own_d_method_3_code_44) rfl k) ?_
  refine own_st (T' := T2) (g' := (mkF m 48 #[.val (.int (17 : Int32)), .val (.ref a_WALL_SAMPLE), .val (.int (1 : Int32))] [])) (fun _ k => XS.icmpNo X2.here hx rfl (hb hby own_d_method_3_code_45) rfl (by decide) k) ?_
  refine own_st (T' := T2) (g' := (mkF m 49 #[.val (.int (17 : Int32)), .val (.ref a_WALL_SAMPLE), .val (.int (1 : Int32))] [(.int (1 : Int32))])) (fun _ k => XS.iconst X2.here hx rfl (hb hby own_d_method_3_code_48) k) ?_
  refine own_st (T' := T2) (g' := (mkF m 53 #[.val (.int (17 : Int32)), .val (.ref a_WALL_SAMPLE), .val (.int (1 : Int32))] [(.int (1 : Int32))])) (fun _ k => XS.goto X2.here hx rfl (pc0 := 49) (pc' := 53) rfl (hb hby own_d_method_3_code_49) (by decide) (by decide) k) ?_
  exact own_ret X2 hx hlk hret rfl (Or.inl ⟨rfl, Or.inr (Or.inl rfl), _, rfl⟩) (hb hby own_d_method_3_code_53) (by decide) (by decide) ⟨rfl, rfl, e2⟩
set_option maxRecDepth 65536 in
set_option maxHeartbeats 40000000 in
theorem own_of_35 (l : Launch) (Z : State) (a0 : Array Value) (hw : ∀ d ∈ tables_1, d.before a0 Z = true) (h0 : Heap) (a_BY_CODE : Addr) (a_BUFFERS : Addr) (a_HOLDABLE_CLASS : Addr) (a_UNPARK : Addr) (a_MONITOR_ENTER : Addr) (a_CPU_TIMER : Addr) (a_CLASS : Addr) (a_ALLOC_INTERVAL : Addr) (a_THREAD : Addr) (a_OPTIONS : Addr) (a_END : Addr) (a_STACK : Addr) (a_TIME : Addr) (a_UNDER_WAY : Addr) (a_PARK : Addr) (a_ALLOC_SAMPLE : Addr) (a_SAMPLE : Addr) (a_WALL_SAMPLE : Addr) (a_METHOD : Addr) (a_VIRTUAL_THREAD : Addr) (a_WALL_INTERVAL : Addr) (cl_BY_CODE : Cell) (hE : own_E Z h0 a_BY_CODE a_BUFFERS a_HOLDABLE_CLASS a_UNPARK a_MONITOR_ENTER a_CPU_TIMER a_CLASS a_ALLOC_INTERVAL a_THREAD a_OPTIONS a_END a_STACK a_TIME a_UNDER_WAY a_PARK a_ALLOC_SAMPLE a_SAMPLE a_WALL_SAMPLE a_METHOD a_VIRTUAL_THREAD a_WALL_INTERVAL cl_BY_CODE) :
    own_Pure l Z h0 [] ({ frames := 0, cells := 0, slots := 0, locals := 0 } : Room) (⟨"com/example/tracewell/tracewell/RecordKind", "of", "(I)Lcom/example/tracewell/tracewell/RecordKind;"⟩ : MethodName) prog_60_method_4_code 1 (some (.object "com/example/tracewell/tracewell/RecordKind")) #[(.int (18 : Int32))] (some (.ref a_ALLOC_INTERVAL)) := by
  refine own_body (plainFor_of_name own_pn_0) ?_
  intro p e s m below meth c T0 X0 hx hby hml hown hZ e0 hret hlk hnm hnamed
  replace hown : s.vm.findClass "com/example/tracewell/tracewell/RecordKind" = some m.cls := hown
  replace hml : c.maxLocals = 1 := hml
  have ef : entryFrame m #[(.int (18 : Int32))] 1 = mkF m 0 #[.val (.int (18 : Int32))] [] := by first | (simp [entryFrame, mkF, argsToLocals, Value.category]; done) | rfl
  rw [ef]
  have S_BY_CODE := own_p_S_BY_CODE hE
  have A_BY_CODE := own_p_A_BY_CODE hE
  have Z_BY_CODE := own_p_Z_BY_CODE hE
  have Y_BY_CODE_18 := own_p_Y_BY_CODE_18 hE
  refine own_st (T' := T0) (g' := (mkF m 1 #[.val (.int (18 : Int32))] [(.int (18 : Int32))])) (fun _ k => XS.iloadN X0.here hx rfl (hb hby own_d_prog_60_method_4_code_0) rfl k) ?_
  refine own_st (T' := T0) (g' := (mkF m 4 #[.val (.int (18 : Int32))] [])) (fun _ k => XS.ifNo X0.here hx rfl (hb hby own_d_prog_60_method_4_code_1) rfl (by decide) k) ?_
  refine own_st (T' := T0) (g' := (mkF m 5 #[.val (.int (18 : Int32))] [(.int (18 : Int32))])) (fun _ k => XS.iloadN X0.here hx rfl (hb hby own_d_prog_60_method_4_code_4) rfl k) ?_
  obtain ⟨T1, X1, e1, st1⟩ := getS2 X0 hx hZ hown (host := "") (Or.inl (hw _ (List.mem_of_getElem? (i := 8) rfl))) Via.refl e0 S_BY_CODE (g := (mkF m 5 #[.val (.int (18 : Int32))] [(.int (18 : Int32))])) rfl (hb hby own_d_prog_60_method_4_code_5)
  refine own_st (T' := T1) (g' := (mkF m 8 #[.val (.int (18 : Int32))] [(.ref a_BY_CODE), (.int (18 : Int32))])) st1 ?_
  refine own_st (T' := T1) (g' := (mkF m 9 #[.val (.int (18 : Int32))] [(.int cl_BY_CODE.slots.size.toInt32), (.int (18 : Int32))])) (fun _ k => X1.arraylength hx (by rw [e1]; exact A_BY_CODE.1) (State.isArrayOf_alike hZ.alike A_BY_CODE.2.1) (g := (mkF m 8 #[.val (.int (18 : Int32))] [(.ref a_BY_CODE), (.int (18 : Int32))])) rfl rfl (hb hby own_d_prog_60_method_4_code_8) _ k) ?_
  rw [len_of Z_BY_CODE (by decide)]
  refine own_st (T' := T1) (g' := (mkF m 12 #[.val (.int (18 : Int32))] [])) (fun _ k => XS.icmpNo X1.here hx rfl (hb hby own_d_prog_60_method_4_code_9) rfl (by decide) k) ?_
  obtain ⟨T2, X2, e2, st2⟩ := getS2 X1 hx hZ hown (host := "") (Or.inl (hw _ (List.mem_of_getElem? (i := 8) rfl))) Via.refl e1 S_BY_CODE (g := (mkF m 12 #[.val (.int (18 : Int32))] [])) rfl (hb hby own_d_prog_60_method_4_code_12)
  refine own_st (T' := T2) (g' := (mkF m 15 #[.val (.int (18 : Int32))] [(.ref a_BY_CODE)])) st2 ?_
  refine own_st (T' := T2) (g' := (mkF m 16 #[.val (.int (18 : Int32))] [(.int (18 : Int32)), (.ref a_BY_CODE)])) (fun _ k => XS.iloadN X2.here hx rfl (hb hby own_d_prog_60_method_4_code_15) rfl k) ?_
  refine own_st (T' := T2) (g' := (mkF m 17 #[.val (.int (18 : Int32))] [(.ref a_ALLOC_INTERVAL)])) (fun _ k => X2.aaload hx (j := (18 : Int32)) (v := (.ref a_ALLOC_INTERVAL)) (by rw [e2]; exact A_BY_CODE.1) (State.isArrayOf_alike hZ.alike A_BY_CODE.2.1) rfl A_BY_CODE.2.2 (inb_of Z_BY_CODE ⟨by decide, by decide⟩) Y_BY_CODE_18 (g := (mkF m 16 #[.val (.int (18 : Int32))] [(.int (18 : Int32)), (.ref a_BY_CODE)])) rfl rfl (hb hby own_d_prog_60_method_4_code_16) _ k) ?_
  refine own_st (T' := T2) (g' := (mkF m 21 #[.val (.int (18 : Int32))] [(.ref a_ALLOC_INTERVAL)])) (fun _ k => XS.goto X2.here hx rfl (pc0 := 17) (pc' := 21) rfl (hb hby own_d_prog_60_method_4_code_17) (by decide) (by decide) k) ?_
  exact own_ret X2 hx hlk hret rfl (Or.inr (Or.inr (Or.inr (Or.inr ⟨rfl, rfl, rfl⟩)))) (hb hby own_d_prog_60_method_4_code_21) (by decide) (by decide) ⟨rfl, rfl, e2⟩
set_option maxRecDepth 65536 in
set_option maxHeartbeats 40000000 in
theorem own_code_36 (l : Launch) (Z : State) (a0 : Array Value) (hw : ∀ d ∈ tables_1, d.before a0 Z = true) (h0 : Heap) (a_BY_CODE : Addr) (a_BUFFERS : Addr) (a_HOLDABLE_CLASS : Addr) (a_UNPARK : Addr) (a_MONITOR_ENTER : Addr) (a_CPU_TIMER : Addr) (a_CLASS : Addr) (a_ALLOC_INTERVAL : Addr) (a_THREAD : Addr) (a_OPTIONS : Addr) (a_END : Addr) (a_STACK : Addr) (a_TIME : Addr) (a_UNDER_WAY : Addr) (a_PARK : Addr) (a_ALLOC_SAMPLE : Addr) (a_SAMPLE : Addr) (a_WALL_SAMPLE : Addr) (a_METHOD : Addr) (a_VIRTUAL_THREAD : Addr) (a_WALL_INTERVAL : Addr) (cl_BY_CODE : Cell) (hE : own_E Z h0 a_BY_CODE a_BUFFERS a_HOLDABLE_CLASS a_UNPARK a_MONITOR_ENTER a_CPU_TIMER a_CLASS a_ALLOC_INTERVAL a_THREAD a_OPTIONS a_END a_STACK a_TIME a_UNDER_WAY a_PARK a_ALLOC_SAMPLE a_SAMPLE a_WALL_SAMPLE a_METHOD a_VIRTUAL_THREAD a_WALL_INTERVAL cl_BY_CODE) :
    own_Pure l Z h0 [] ({ frames := 0, cells := 0, slots := 0, locals := 0 } : Room) (⟨"com/example/tracewell/tracewell/RecordKind", "code", "()I"⟩ : MethodName) prog_60_method_6_code 1 (some .int) #[(.ref a_ALLOC_INTERVAL)] (some (.int (18 : Int32))) := by
  refine own_body (plainFor_of_name own_pn_0) ?_
  intro p e s m below meth c T0 X0 hx hby hml hown hZ e0 hret hlk hnm hnamed
  replace hown : s.vm.findClass "com/example/tracewell/tracewell/RecordKind" = some m.cls := hown
  replace hml : c.maxLocals = 1 := hml
  have ef : entryFrame m #[(.ref a_ALLOC_INTERVAL)] 1 = mkF m 0 #[.val (.ref a_ALLOC_INTERVAL)] [] := by first | (simp [entryFrame, mkF, argsToLocals, Value.category]; done) | rfl
  rw [ef]
  have F_ALLOC_INTERVAL_code := own_p_F_ALLOC_INTERVAL_code hE
  refine own_st (T' := T0) (g' := (mkF m 1 #[.val (.ref a_ALLOC_INTERVAL)] [(.ref a_ALLOC_INTERVAL)])) (fun _ k => XS.aloadN X0.here hx rfl (hb hby own_d_prog_60_method_6_code_0) rfl rfl k) ?_
  obtain ⟨T1, X1, e1, st1⟩ := getF X0 hx hZ hown (host := "") (Or.inl (hw _ (List.mem_of_getElem? (i := 16) rfl))) Via.refl e0 F_ALLOC_INTERVAL_code (g := (mkF m 1 #[.val (.ref a_ALLOC_INTERVAL)] [(.ref a_ALLOC_INTERVAL)])) rfl rfl (hb hby own_d_prog_60_method_6_code_1)
  refine own_st (T' := T1) (g' := (mkF m 4 #[.val (.ref a_ALLOC_INTERVAL)] [(.int (18 : Int32))])) st1 ?_
  exact own_ret X1 hx hlk hret rfl (Or.inl ⟨rfl, Or.inl rfl, _, rfl⟩) (hb hby own_d_prog_60_method_6_code_4) (by decide) (by decide) ⟨rfl, rfl, e1⟩
set_option maxRecDepth 65536 in
set_option maxHeartbeats 40000000 in
theorem own_check_18 (l : Launch) (Z : State) (a0 : Array Value) (hw : ∀ d ∈ tables_1, d.before a0 Z = true) (h0 : Heap) (a_BY_CODE : Addr) (a_BUFFERS : Addr) (a_HOLDABLE_CLASS : Addr) (a_UNPARK : Addr) (a_MONITOR_ENTER : Addr) (a_CPU_TIMER : Addr) (a_CLASS : Addr) (a_ALLOC_INTERVAL : Addr) (a_THREAD : Addr) (a_OPTIONS : Addr) (a_END : Addr) (a_STACK : Addr) (a_TIME : Addr) (a_UNDER_WAY : Addr) (a_PARK : Addr) (a_ALLOC_SAMPLE : Addr) (a_SAMPLE : Addr) (a_WALL_SAMPLE : Addr) (a_METHOD : Addr) (a_VIRTUAL_THREAD : Addr) (a_WALL_INTERVAL : Addr) (cl_BY_CODE : Cell) (hE : own_E Z h0 a_BY_CODE a_BUFFERS a_HOLDABLE_CLASS a_UNPARK a_MONITOR_ENTER a_CPU_TIMER a_CLASS a_ALLOC_INTERVAL a_THREAD a_OPTIONS a_END a_STACK a_TIME a_UNDER_WAY a_PARK a_ALLOC_SAMPLE a_SAMPLE a_WALL_SAMPLE a_METHOD a_VIRTUAL_THREAD a_WALL_INTERVAL cl_BY_CODE) :
    own_Pure l Z h0 [] ({ frames := 1, cells := 0, slots := 0, locals := 12 } : Room) (⟨"com/example/tracewell/tracewell/RecordKindOfPinLaw", "check", "(I)Z"⟩ : MethodName) method_3_code 3 (some .boolean) #[(.int (18 : Int32))] (some (.int (1 : Int32))) := by
  refine own_body (plainFor_of_name own_pn_1) ?_
  intro p e s m below meth c T0 X0 hx hby hml hown hZ e0 hret hlk hnm hnamed
  replace hown : s.vm.findClass "com/example/tracewell/tracewell/RecordKindOfPinLaw" = some m.cls := hown
  replace hml : c.maxLocals = 3 := hml
  have ef : entryFrame m #[(.int (18 : Int32))] 3 = mkF m 0 #[.val (.int (18 : Int32)), .unset, .unset] [] := by first | (simp [entryFrame, mkF, argsToLocals, Value.category]; done) | rfl
  rw [ef]
  have E_ALLOC_INTERVAL := own_p_E_ALLOC_INTERVAL hE
  refine own_st (T' := T0) (g' := (mkF m 1 #[.val (.int (18 : Int32)), .unset, .unset] [(.int (18 : Int32))])) (fun _ k => XS.iloadN X0.here hx rfl (hb hby own_d_method_3_code_0) rfl k) ?_
  obtain ⟨T1, X1, e1, st1⟩ := own_pure (w := (.ref a_ALLOC_INTERVAL)) rfl rfl (own_gS X0 hx hZ hown (hw _ (List.mem_of_getElem? (i := 4) rfl)) (hw _ (List.mem_of_getElem? (i := 5) rfl)) (hw _ (List.mem_of_getElem? (i := 6) rfl)) (hw _ (List.mem_of_getElem? (i := 7) rfl)) (by decide) e0 (own_of_35 l Z a0 hw h0 a_BY_CODE a_BUFFERS a_HOLDABLE_CLASS a_UNPARK a_MONITOR_ENTER a_CPU_TIMER a_CLASS a_ALLOC_INTERVAL a_THREAD a_OPTIONS a_END a_STACK a_TIME a_UNDER_WAY a_PARK a_ALLOC_SAMPLE a_SAMPLE a_WALL_SAMPLE a_METHOD a_VIRTUAL_THREAD a_WALL_INTERVAL cl_BY_CODE hE) (by decide) (by decide) (by decide) (by decide) (Q := fun v h L => v = some (.ref a_ALLOC_INTERVAL) ∧ L = [] ∧ h = h0) (W := 0) (g := (mkF m 1 #[.val (.int (18 : Int32)), .unset, .unset] [(.int (18 : Int32))])) (argsL := [(.int (18 : Int32))]) (rest := []) rfl (by rw [hml]; rfl) (lenOf own_pd_0 rfl) rfl (by show 2 * 0 + _ ≤ _; exact Nat.le_of_eq rfl) (hb hby own_d_method_3_code_1))
  refine own_st (T' := T1) (g' := (mkF m 4 #[.val (.int (18 : Int32)), .unset, .unset] [(.ref a_ALLOC_INTERVAL)])) st1 ?_
  refine own_st (T' := T1) (g' := (mkF m 5 #[.val (.int (18 : Int32)), .val (.ref a_ALLOC_INTERVAL), .unset] [])) (fun _ k => XS.astoreN X1.here hx rfl (hb hby own_d_method_3_code_4) rfl rfl (l' := #[.val (.int (18 : Int32)), .val (.ref a_ALLOC_INTERVAL), .unset]) rfl k) ?_
  refine own_st (T' := T1) (g' := (mkF m 6 #[.val (.int (18 : Int32)), .val (.ref a_ALLOC_INTERVAL), .unset] [(.int (18 : Int32))])) (fun _ k => XS.iloadN X1.here hx rfl (hb hby own_d_method_3_code_5) rfl k) ?_
  refine own_st (T' := T1) (g' := (mkF m 7 #[.val (.int (18 : Int32)), .val (.ref a_ALLOC_INTERVAL), .unset] [(.int (1 : Int32)), (.int (18 : Int32))])) (fun _ k => XS.iconst X1.here hx rfl (hb hby own_d_method_3_code_6) k) ?_
  refine own_st (T' := T1) (g' := (mkF m 10 #[.val (.int (18 : Int32)), .val (.ref a_ALLOC_INTERVAL), .unset] [])) (fun _ k => XS.icmpNo X1.here hx rfl (hb hby own_d_method_3_code_7) rfl (by decide) k) ?_
  refine own_st (T' := T1) (g' := (mkF m 11 #[.val (.int (18 : Int32)), .val (.ref a_ALLOC_INTERVAL), .unset] [(.int (18 : Int32))])) (fun _ k => XS.iloadN X1.here hx rfl (hb hby own_d_method_3_code_10) rfl k) ?_
  refine own_st (T' := T1) (g' := (mkF m 13 #[.val (.int (18 : Int32)), .val (.ref a_ALLOC_INTERVAL), .unset] [(.int (20 : Int32)), (.int (18 : Int32))])) (fun _ k => XS.bipush X1.here hx rfl (hb hby own_d_method_3_code_11) k) ?_
  refine own_st (T' := T1) (g' := (mkF m 16 #[.val (.int (18 : Int32)), .val (.ref a_ALLOC_INTERVAL), .unset] [])) (fun _ k => XS.icmpNo X1.here hx rfl (hb hby own_d_method_3_code_13) rfl (by decide) k) ?_
  refine own_st (T' := T1) (g' := (mkF m 17 #[.val (.int (18 : Int32)), .val (.ref a_ALLOC_INTERVAL), .unset] [(.int (1 : Int32))])) (fun _ k => XS.iconst X1.here hx rfl (hb hby own_d_method_3_code_16) k) ?_
  refine own_st (T' := T1) (g' := (mkF m 21 #[.val (.int (18 : Int32)), .val (.ref a_ALLOC_INTERVAL), .unset] [(.int (1 : Int32))])) (fun _ k => XS.goto X1.here hx rfl (pc0 := 17) (pc' := 21) rfl (hb hby own_d_method_3_code_17) (by decide) (by decide) k) ?_
  refine own_st (T' := T1) (g' := (mkF m 22 #[.val (.int (18 : Int32)), .val (.ref a_ALLOC_INTERVAL), .val (.int (1 : Int32))] [])) (fun _ k => XS.istoreN X1.here hx rfl (hb hby own_d_method_3_code_21) rfl (l' := #[.val (.int (18 : Int32)), .val (.ref a_ALLOC_INTERVAL), .val (.int (1 : Int32))]) rfl k) ?_
  refine own_st (T' := T1) (g' := (mkF m 23 #[.val (.int (18 : Int32)), .val (.ref a_ALLOC_INTERVAL), .val (.int (1 : Int32))] [(.int (1 : Int32))])) (fun _ k => XS.iloadN X1.here hx rfl (hb hby own_d_method_3_code_22) rfl k) ?_
  refine own_st (T' := T1) (g' := (mkF m 36 #[.val (.int (18 : Int32)), .val (.ref a_ALLOC_INTERVAL), .val (.int (1 : Int32))] [])) (fun _ k => XS.ifYes X1.here hx rfl (pc0 := 23) (pc' := 36) rfl (hb hby own_d_method_3_code_23) rfl (by decide) (by decide) (by decide) k) ?_
  refine own_st (T' := T1) (g' := (mkF m 37 #[.val (.int (18 : Int32)), .val (.ref a_ALLOC_INTERVAL), .val (.int (1 : Int32))] [(.ref a_ALLOC_INTERVAL)])) (fun _ k => XS.aloadN X1.here hx rfl (hb hby own_d_method_3_code_36) rfl rfl k) ?_
  refine own_st (T' := T1) (g' := (mkF m 40 #[.val (.int (18 : Int32)), .val (.ref a_ALLOC_INTERVAL), .val (.int (1 : Int32))] [])) (fun _ k => XS.ifnullNo X1.here hx rfl (hb hby own_d_method_3_code_37) rfl k) ?_
  refine own_st (T' := T1) (g' := (mkF m 41 #[.val (.int (18 : Int32)), .val (.ref a_ALLOC_INTERVAL), .val (.int (1 : Int32))] [(.ref a_ALLOC_INTERVAL)])) (fun _ k => XS.aloadN X1.here hx rfl (hb hby own_d_method_3_code_40) rfl rfl k) ?_
  obtain ⟨T2, X2, e2, st2⟩ := own_pure (w := (.int (18 : Int32))) rfl rfl (own_gV X1 hx hZ hown (hw _ (List.mem_of_getElem? (i := 11) rfl)) (hw _ (List.mem_of_getElem? (i := 12) rfl)) (notFace_of_selects (args := #[]) (mvT hZ (hw _ (List.mem_of_getElem? (i := 14) rfl)))) (hw _ (List.mem_of_getElem? (i := 14) rfl)) (hw _ (List.mem_of_getElem? (i := 13) rfl)) (hw _ (List.mem_of_getElem? (i := 6) rfl)) (hw _ (List.mem_of_getElem? (i := 15) rfl)) (by decide) e1 E_ALLOC_INTERVAL (own_code_36 l Z a0 hw h0 a_BY_CODE a_BUFFERS a_HOLDABLE_CLASS a_UNPARK a_MONITOR_ENTER a_CPU_TIMER a_CLASS a_ALLOC_INTERVAL a_THREAD a_OPTIONS a_END a_STACK a_TIME a_UNDER_WAY a_PARK a_ALLOC_SAMPLE a_SAMPLE a_WALL_SAMPLE a_METHOD a_VIRTUAL_THREAD a_WALL_INTERVAL cl_BY_CODE hE) (by decide) (by decide) (by decide) (by decide) (Q := fun v h L => v = some (.int (18 : Int32)) ∧ L = [] ∧ h = h0) (W := 0) (g := (mkF m 41 #[.val (.int (18 : Int32)), .val (.ref a_ALLOC_INTERVAL), .val (.int (1 : Int32))] [(.ref a_ALLOC_INTERVAL)])) (argsL := []) (rest := []) rfl (by rw [hml]; rfl) (lenOf own_pd_1 rfl) rfl (by show 2 * 0 + _ ≤ _; exact Nat.le_of_eq rfl) (hb hby own_d_method_3_code_41))
  refine own_st (T' := T2) (g' := (mkF m 44 #[.val (.int (18 : Int32)), .val (.ref a_ALLOC_INTERVAL), .val (.int (1 : Int32))] [(.int (18 : Int32))])) st2 ?_
  refine own_st (T' := T2) (g' := (mkF m 45 #[.val (.int (18 : Int32)), .val (.ref a_ALLOC_INTERVAL), .val (.int (1 : Int32))] [(.int (18 : Int32)), (.int (18 : Int32))])) (fun _ k => XS.iloadN X2.here hx rfl (hb hby own_d_method_3_code_44) rfl k) ?_
  refine own_st (T' := T2) (g' := (mkF m 48 #[.val (.int (18 : Int32)), .val (.ref a_ALLOC_INTERVAL), .val (.int (1 : Int32))] [])) (fun _ k => XS.icmpNo X2.here hx rfl (hb hby own_d_method_3_code_45) rfl (by decide) k) ?_
  refine own_st (T' := T2) (g' := (mkF m 49 #[.val (.int (18 : Int32)), .val (.ref a_ALLOC_INTERVAL), .val (.int (1 : Int32))] [(.int (1 : Int32))])) (fun _ k => XS.iconst X2.here hx rfl (hb hby own_d_method_3_code_48) k) ?_
  refine own_st (T' := T2) (g' := (mkF m 53 #[.val (.int (18 : Int32)), .val (.ref a_ALLOC_INTERVAL), .val (.int (1 : Int32))] [(.int (1 : Int32))])) (fun _ k => XS.goto X2.here hx rfl (pc0 := 49) (pc' := 53) rfl (hb hby own_d_method_3_code_49) (by decide) (by decide) k) ?_
  exact own_ret X2 hx hlk hret rfl (Or.inl ⟨rfl, Or.inr (Or.inl rfl), _, rfl⟩) (hb hby own_d_method_3_code_53) (by decide) (by decide) ⟨rfl, rfl, e2⟩
set_option maxRecDepth 65536 in
set_option maxHeartbeats 40000000 in
theorem own_of_37 (l : Launch) (Z : State) (a0 : Array Value) (hw : ∀ d ∈ tables_1, d.before a0 Z = true) (h0 : Heap) (a_BY_CODE : Addr) (a_BUFFERS : Addr) (a_HOLDABLE_CLASS : Addr) (a_UNPARK : Addr) (a_MONITOR_ENTER : Addr) (a_CPU_TIMER : Addr) (a_CLASS : Addr) (a_ALLOC_INTERVAL : Addr) (a_THREAD : Addr) (a_OPTIONS : Addr) (a_END : Addr) (a_STACK : Addr) (a_TIME : Addr) (a_UNDER_WAY : Addr) (a_PARK : Addr) (a_ALLOC_SAMPLE : Addr) (a_SAMPLE : Addr) (a_WALL_SAMPLE : Addr) (a_METHOD : Addr) (a_VIRTUAL_THREAD : Addr) (a_WALL_INTERVAL : Addr) (cl_BY_CODE : Cell) (hE : own_E Z h0 a_BY_CODE a_BUFFERS a_HOLDABLE_CLASS a_UNPARK a_MONITOR_ENTER a_CPU_TIMER a_CLASS a_ALLOC_INTERVAL a_THREAD a_OPTIONS a_END a_STACK a_TIME a_UNDER_WAY a_PARK a_ALLOC_SAMPLE a_SAMPLE a_WALL_SAMPLE a_METHOD a_VIRTUAL_THREAD a_WALL_INTERVAL cl_BY_CODE) :
    own_Pure l Z h0 [] ({ frames := 0, cells := 0, slots := 0, locals := 0 } : Room) (⟨"com/example/tracewell/tracewell/RecordKind", "of", "(I)Lcom/example/tracewell/tracewell/RecordKind;"⟩ : MethodName) prog_60_method_4_code 1 (some (.object "com/example/tracewell/tracewell/RecordKind")) #[(.int (19 : Int32))] (some (.ref a_ALLOC_SAMPLE)) := by
  refine own_body (plainFor_of_name own_pn_0) ?_
  intro p e s m below meth c T0 X0 hx hby hml hown hZ e0 hret hlk hnm hnamed
  replace hown : s.vm.findClass "com/example/tracewell/tracewell/RecordKind" = some m.cls := hown
  replace hml : c.maxLocals = 1 := hml
  have ef : entryFrame m #[(.int (19 : Int32))] 1 = mkF m 0 #[.val (.int (19 : Int32))] [] := by first | (simp [entryFrame, mkF, argsToLocals, Value.category]; done) | rfl
  rw [ef]
  have S_BY_CODE := own_p_S_BY_CODE hE
  have A_BY_CODE := own_p_A_BY_CODE hE
  have Z_BY_CODE := own_p_Z_BY_CODE hE
  have Y_BY_CODE_19 := own_p_Y_BY_CODE_19 hE
  refine own_st (T' := T0) (g' := (mkF m 1 #[.val (.int (19 : Int32))] [(.int (19 : Int32))])) (fun _ k => XS.iloadN X0.here hx rfl (hb hby own_d_prog_60_method_4_code_0) rfl k) ?_
  refine own_st (T' := T0) (g' := (mkF m 4 #[.val (.int (19 : Int32))] [])) (fun _ k => XS.ifNo X0.here hx rfl (hb hby own_d_prog_60_method_4_code_1) rfl (by decide) k) ?_
  refine own_st (T' := T0) (g' := (mkF m 5 #[.val (.int (19 : Int32))] [(.int (19 : Int32))])) (fun _ k => XS.iloadN X0.here hx rfl (hb hby own_d_prog_60_method_4_code_4) rfl k) ?_
  obtain ⟨T1, X1, e1, st1⟩ := getS2 X0 hx hZ hown (host := "") (Or.inl (hw _ (List.mem_of_getElem? (i := 8) rfl))) Via.refl e0 S_BY_CODE (g := (mkF m 5 #[.val (.int (19 : Int32))] [(.int (19 : Int32))])) rfl (hb hby own_d_prog_60_method_4_code_5)
  refine own_st (T' := T1) (g' := (mkF m 8 #[.val (.int (19 : Int32))] [(.ref a_BY_CODE), (.int (19 : Int32))])) st1 ?_
  refine own_st (T' := T1) (g' := (mkF m 9 #[.val (.int (19 : Int32))] [(.int cl_BY_CODE.slots.size.toInt32), (.int (19 : Int32))])) (fun _ k => X1.arraylength hx (by rw [e1]; exact A_BY_CODE.1) (State.isArrayOf_alike hZ.alike A_BY_CODE.2.1) (g := (mkF m 8 #[.val (.int (19 : Int32))] [(.ref a_BY_CODE), (.int (19 : Int32))])) rfl rfl (hb hby own_d_prog_60_method_4_code_8) _ k) ?_
  rw [len_of Z_BY_CODE (by decide)]
  refine own_st (T' := T1) (g' := (mkF m 12 #[.val (.int (19 : Int32))] [])) (fun _ k => XS.icmpNo X1.here hx rfl (hb hby own_d_prog_60_method_4_code_9) rfl (by decide) k) ?_
  obtain ⟨T2, X2, e2, st2⟩ := getS2 X1 hx hZ hown (host := "") (Or.inl (hw _ (List.mem_of_getElem? (i := 8) rfl))) Via.refl e1 S_BY_CODE (g := (mkF m 12 #[.val (.int (19 : Int32))] [])) rfl (hb hby own_d_prog_60_method_4_code_12)
  refine own_st (T' := T2) (g' := (mkF m 15 #[.val (.int (19 : Int32))] [(.ref a_BY_CODE)])) st2 ?_
  refine own_st (T' := T2) (g' := (mkF m 16 #[.val (.int (19 : Int32))] [(.int (19 : Int32)), (.ref a_BY_CODE)])) (fun _ k => XS.iloadN X2.here hx rfl (hb hby own_d_prog_60_method_4_code_15) rfl k) ?_
  refine own_st (T' := T2) (g' := (mkF m 17 #[.val (.int (19 : Int32))] [(.ref a_ALLOC_SAMPLE)])) (fun _ k => X2.aaload hx (j := (19 : Int32)) (v := (.ref a_ALLOC_SAMPLE)) (by rw [e2]; exact A_BY_CODE.1) (State.isArrayOf_alike hZ.alike A_BY_CODE.2.1) rfl A_BY_CODE.2.2 (inb_of Z_BY_CODE ⟨by decide, by decide⟩) Y_BY_CODE_19 (g := (mkF m 16 #[.val (.int (19 : Int32))] [(.int (19 : Int32)), (.ref a_BY_CODE)])) rfl rfl (hb hby own_d_prog_60_method_4_code_16) _ k) ?_
  refine own_st (T' := T2) (g' := (mkF m 21 #[.val (.int (19 : Int32))] [(.ref a_ALLOC_SAMPLE)])) (fun _ k => XS.goto X2.here hx rfl (pc0 := 17) (pc' := 21) rfl (hb hby own_d_prog_60_method_4_code_17) (by decide) (by decide) k) ?_
  exact own_ret X2 hx hlk hret rfl (Or.inr (Or.inr (Or.inr (Or.inr ⟨rfl, rfl, rfl⟩)))) (hb hby own_d_prog_60_method_4_code_21) (by decide) (by decide) ⟨rfl, rfl, e2⟩
set_option maxRecDepth 65536 in
set_option maxHeartbeats 40000000 in
theorem own_code_38 (l : Launch) (Z : State) (a0 : Array Value) (hw : ∀ d ∈ tables_1, d.before a0 Z = true) (h0 : Heap) (a_BY_CODE : Addr) (a_BUFFERS : Addr) (a_HOLDABLE_CLASS : Addr) (a_UNPARK : Addr) (a_MONITOR_ENTER : Addr) (a_CPU_TIMER : Addr) (a_CLASS : Addr) (a_ALLOC_INTERVAL : Addr) (a_THREAD : Addr) (a_OPTIONS : Addr) (a_END : Addr) (a_STACK : Addr) (a_TIME : Addr) (a_UNDER_WAY : Addr) (a_PARK : Addr) (a_ALLOC_SAMPLE : Addr) (a_SAMPLE : Addr) (a_WALL_SAMPLE : Addr) (a_METHOD : Addr) (a_VIRTUAL_THREAD : Addr) (a_WALL_INTERVAL : Addr) (cl_BY_CODE : Cell) (hE : own_E Z h0 a_BY_CODE a_BUFFERS a_HOLDABLE_CLASS a_UNPARK a_MONITOR_ENTER a_CPU_TIMER a_CLASS a_ALLOC_INTERVAL a_THREAD a_OPTIONS a_END a_STACK a_TIME a_UNDER_WAY a_PARK a_ALLOC_SAMPLE a_SAMPLE a_WALL_SAMPLE a_METHOD a_VIRTUAL_THREAD a_WALL_INTERVAL cl_BY_CODE) :
    own_Pure l Z h0 [] ({ frames := 0, cells := 0, slots := 0, locals := 0 } : Room) (⟨"com/example/tracewell/tracewell/RecordKind", "code", "()I"⟩ : MethodName) prog_60_method_6_code 1 (some .int) #[(.ref a_ALLOC_SAMPLE)] (some (.int (19 : Int32))) := by
  refine own_body (plainFor_of_name own_pn_0) ?_
  intro p e s m below meth c T0 X0 hx hby hml hown hZ e0 hret hlk hnm hnamed
  replace hown : s.vm.findClass "com/example/tracewell/tracewell/RecordKind" = some m.cls := hown
  replace hml : c.maxLocals = 1 := hml
  have ef : entryFrame m #[(.ref a_ALLOC_SAMPLE)] 1 = mkF m 0 #[.val (.ref a_ALLOC_SAMPLE)] [] := by first | (simp [entryFrame, mkF, argsToLocals, Value.category]; done) | rfl
  rw [ef]
  have F_ALLOC_SAMPLE_code := own_p_F_ALLOC_SAMPLE_code hE
  refine own_st (T' := T0) (g' := (mkF m 1 #[.val (.ref a_ALLOC_SAMPLE)] [(.ref a_ALLOC_SAMPLE)])) (fun _ k => XS.aloadN X0.here hx rfl (hb hby own_d_prog_60_method_6_code_0) rfl rfl k) ?_
  obtain ⟨T1, X1, e1, st1⟩ := getF X0 hx hZ hown (host := "") (Or.inl (hw _ (List.mem_of_getElem? (i := 16) rfl))) Via.refl e0 F_ALLOC_SAMPLE_code (g := (mkF m 1 #[.val (.ref a_ALLOC_SAMPLE)] [(.ref a_ALLOC_SAMPLE)])) rfl rfl (hb hby own_d_prog_60_method_6_code_1)
  refine own_st (T' := T1) (g' := (mkF m 4 #[.val (.ref a_ALLOC_SAMPLE)] [(.int (19 : Int32))])) st1 ?_
  exact own_ret X1 hx hlk hret rfl (Or.inl ⟨rfl, Or.inl rfl, _, rfl⟩) (hb hby own_d_prog_60_method_6_code_4) (by decide) (by decide) ⟨rfl, rfl, e1⟩
set_option maxRecDepth 65536 in
set_option maxHeartbeats 40000000 in
theorem own_check_19 (l : Launch) (Z : State) (a0 : Array Value) (hw : ∀ d ∈ tables_1, d.before a0 Z = true) (h0 : Heap) (a_BY_CODE : Addr) (a_BUFFERS : Addr) (a_HOLDABLE_CLASS : Addr) (a_UNPARK : Addr) (a_MONITOR_ENTER : Addr) (a_CPU_TIMER : Addr) (a_CLASS : Addr) (a_ALLOC_INTERVAL : Addr) (a_THREAD : Addr) (a_OPTIONS : Addr) (a_END : Addr) (a_STACK : Addr) (a_TIME : Addr) (a_UNDER_WAY : Addr) (a_PARK : Addr) (a_ALLOC_SAMPLE : Addr) (a_SAMPLE : Addr) (a_WALL_SAMPLE : Addr) (a_METHOD : Addr) (a_VIRTUAL_THREAD : Addr) (a_WALL_INTERVAL : Addr) (cl_BY_CODE : Cell) (hE : own_E Z h0 a_BY_CODE a_BUFFERS a_HOLDABLE_CLASS a_UNPARK a_MONITOR_ENTER a_CPU_TIMER a_CLASS a_ALLOC_INTERVAL a_THREAD a_OPTIONS a_END a_STACK a_TIME a_UNDER_WAY a_PARK a_ALLOC_SAMPLE a_SAMPLE a_WALL_SAMPLE a_METHOD a_VIRTUAL_THREAD a_WALL_INTERVAL cl_BY_CODE) :
    own_Pure l Z h0 [] ({ frames := 1, cells := 0, slots := 0, locals := 12 } : Room) (⟨"com/example/tracewell/tracewell/RecordKindOfPinLaw", "check", "(I)Z"⟩ : MethodName) method_3_code 3 (some .boolean) #[(.int (19 : Int32))] (some (.int (1 : Int32))) := by
  refine own_body (plainFor_of_name own_pn_1) ?_
  intro p e s m below meth c T0 X0 hx hby hml hown hZ e0 hret hlk hnm hnamed
  replace hown : s.vm.findClass "com/example/tracewell/tracewell/RecordKindOfPinLaw" = some m.cls := hown
  replace hml : c.maxLocals = 3 := hml
  have ef : entryFrame m #[(.int (19 : Int32))] 3 = mkF m 0 #[.val (.int (19 : Int32)), .unset, .unset] [] := by first | (simp [entryFrame, mkF, argsToLocals, Value.category]; done) | rfl
  rw [ef]
  have E_ALLOC_SAMPLE := own_p_E_ALLOC_SAMPLE hE
  refine own_st (T' := T0) (g' := (mkF m 1 #[.val (.int (19 : Int32)), .unset, .unset] [(.int (19 : Int32))])) (fun _ k => XS.iloadN X0.here hx rfl (hb hby own_d_method_3_code_0) rfl k) ?_
  obtain ⟨T1, X1, e1, st1⟩ := own_pure (w := (.ref a_ALLOC_SAMPLE)) rfl rfl (own_gS X0 hx hZ hown (hw _ (List.mem_of_getElem? (i := 4) rfl)) (hw _ (List.mem_of_getElem? (i := 5) rfl)) (hw _ (List.mem_of_getElem? (i := 6) rfl)) (hw _ (List.mem_of_getElem? (i := 7) rfl)) (by decide) e0 (own_of_37 l Z a0 hw h0 a_BY_CODE a_BUFFERS a_HOLDABLE_CLASS a_UNPARK a_MONITOR_ENTER a_CPU_TIMER a_CLASS a_ALLOC_INTERVAL a_THREAD a_OPTIONS a_END a_STACK a_TIME a_UNDER_WAY a_PARK a_ALLOC_SAMPLE a_SAMPLE a_WALL_SAMPLE a_METHOD a_VIRTUAL_THREAD a_WALL_INTERVAL cl_BY_CODE hE) (by decide) (by decide) (by decide) (by decide) (Q := fun v h L => v = some (.ref a_ALLOC_SAMPLE) ∧ L = [] ∧ h = h0) (W := 0) (g := (mkF m 1 #[.val (.int (19 : Int32)), .unset, .unset] [(.int (19 : Int32))])) (argsL := [(.int (19 : Int32))]) (rest := []) rfl (by rw [hml]; rfl) (lenOf own_pd_0 rfl) rfl (by show 2 * 0 + _ ≤ _; exact Nat.le_of_eq rfl) (hb hby own_d_method_3_code_1))
  refine own_st (T' := T1) (g' := (mkF m 4 #[.val (.int (19 : Int32)), .unset, .unset] [(.ref a_ALLOC_SAMPLE)])) st1 ?_
  refine own_st (T' := T1) (g' := (mkF m 5 #[.val (.int (19 : Int32)), .val (.ref a_ALLOC_SAMPLE), .unset] [])) (fun _ k => XS.astoreN X1.here hx rfl (hb hby own_d_method_3_code_4) rfl rfl (l' := #[.val (.int (19 : Int32)), .val (.ref a_ALLOC_SAMPLE), .unset]) rfl k) ?_
  refine own_st (T' := T1) (g' := (mkF m 6 #[.val (.int (19 : Int32)), .val (.ref a_ALLOC_SAMPLE), .unset] [(.int (19 : Int32))])) (fun _ k => XS.iloadN X1.here hx rfl (hb hby own_d_method_3_code_5) rfl k) ?_
  refine own_st (T' := T1) (g' := (mkF m 7 #[.val (.int (19 : Int32)), .val (.ref a_ALLOC_SAMPLE), .unset] [(.int (1 : Int32)), (.int (19 : Int32))])) (fun _ k => XS.iconst X1.here hx rfl (hb hby own_d_method_3_code_6) k) ?_
  refine own_st (T' := T1) (g' := (mkF m 10 #[.val (.int (19 : Int32)), .val (.ref a_ALLOC_SAMPLE), .unset] [])) (fun _ k => XS.icmpNo X1.here hx rfl (hb hby own_d_method_3_code_7) rfl (by decide) k) ?_
  refine own_st (T' := T1) (g' := (mkF m 11 #[.val (.int (19 : Int32)), .val (.ref a_ALLOC_SAMPLE), .unset] [(.int (19 : Int32))])) (fun _ k => XS.iloadN X1.here hx rfl (hb hby own_d_method_3_code_10) rfl k) ?_
  refine own_st (T' := T1) (g' := (mkF m 13 #[.val (.int (19 : Int32)), .val (.ref a_ALLOC_SAMPLE), .unset] [(.int (20 : Int32)), (.int (19 : Int32))])) (fun _ k => XS.bipush X1.here hx rfl (hb hby own_d_method_3_code_11) k) ?_
  refine own_st (T' := T1) (g' := (mkF m 16 #[.val (.int (19 : Int32)), .val (.ref a_ALLOC_SAMPLE), .unset] [])) (fun _ k => XS.icmpNo X1.here hx rfl (hb hby own_d_method_3_code_13) rfl (by decide) k) ?_
  refine own_st (T' := T1) (g' := (mkF m 17 #[.val (.int (19 : Int32)), .val (.ref a_ALLOC_SAMPLE), .unset] [(.int (1 : Int32))])) (fun _ k => XS.iconst X1.here hx rfl (hb hby own_d_method_3_code_16) k) ?_
  refine own_st (T' := T1) (g' := (mkF m 21 #[.val (.int (19 : Int32)), .val (.ref a_ALLOC_SAMPLE), .unset] [(.int (1 : Int32))])) (fun _ k => XS.goto X1.here hx rfl (pc0 := 17) (pc' := 21) rfl (hb hby own_d_method_3_code_17) (by decide) (by decide) k) ?_
  refine own_st (T' := T1) (g' := (mkF m 22 #[.val (.int (19 : Int32)), .val (.ref a_ALLOC_SAMPLE), .val (.int (1 : Int32))] [])) (fun _ k => XS.istoreN X1.here hx rfl (hb hby own_d_method_3_code_21) rfl (l' := #[.val (.int (19 : Int32)), .val (.ref a_ALLOC_SAMPLE), .val (.int (1 : Int32))]) rfl k) ?_
  refine own_st (T' := T1) (g' := (mkF m 23 #[.val (.int (19 : Int32)), .val (.ref a_ALLOC_SAMPLE), .val (.int (1 : Int32))] [(.int (1 : Int32))])) (fun _ k => XS.iloadN X1.here hx rfl (hb hby own_d_method_3_code_22) rfl k) ?_
  refine own_st (T' := T1) (g' := (mkF m 36 #[.val (.int (19 : Int32)), .val (.ref a_ALLOC_SAMPLE), .val (.int (1 : Int32))] [])) (fun _ k => XS.ifYes X1.here hx rfl (pc0 := 23) (pc' := 36) rfl (hb hby own_d_method_3_code_23) rfl (by decide) (by decide) (by decide) k) ?_
  refine own_st (T' := T1) (g' := (mkF m 37 #[.val (.int (19 : Int32)), .val (.ref a_ALLOC_SAMPLE), .val (.int (1 : Int32))] [(.ref a_ALLOC_SAMPLE)])) (fun _ k => XS.aloadN X1.here hx rfl (hb hby own_d_method_3_code_36) rfl rfl k) ?_
  refine own_st (T' := T1) (g' := (mkF m 40 #[.val (.int (19 : Int32)), .val (.ref a_ALLOC_SAMPLE), .val (.int (1 : Int32))] [])) (fun _ k => XS.ifnullNo X1.here hx rfl (hb hby own_d_method_3_code_37) rfl k) ?_
  refine own_st (T' := T1) (g' := (mkF m 41 #[.val (.int (19 : Int32)), .val (.ref a_ALLOC_SAMPLE), .val (.int (1 : Int32))] [(.ref a_ALLOC_SAMPLE)])) (fun _ k => XS.aloadN X1.here hx rfl (hb hby own_d_method_3_code_40) rfl rfl k) ?_
  obtain ⟨T2, X2, e2, st2⟩ := own_pure (w := (.int (19 : Int32))) rfl rfl (own_gV X1 hx hZ hown (hw _ (List.mem_of_getElem? (i := 11) rfl)) (hw _ (List.mem_of_getElem? (i := 12) rfl)) (notFace_of_selects (args := #[]) (mvT hZ (hw _ (List.mem_of_getElem? (i := 14) rfl)))) (hw _ (List.mem_of_getElem? (i := 14) rfl)) (hw _ (List.mem_of_getElem? (i := 13) rfl)) (hw _ (List.mem_of_getElem? (i := 6) rfl)) (hw _ (List.mem_of_getElem? (i := 15) rfl)) (by decide) e1 E_ALLOC_SAMPLE (own_code_38 l Z a0 hw h0 a_BY_CODE a_BUFFERS a_HOLDABLE_CLASS a_UNPARK a_MONITOR_ENTER a_CPU_TIMER a_CLASS a_ALLOC_INTERVAL a_THREAD a_OPTIONS a_END a_STACK a_TIME a_UNDER_WAY a_PARK a_ALLOC_SAMPLE a_SAMPLE a_WALL_SAMPLE a_METHOD a_VIRTUAL_THREAD a_WALL_INTERVAL cl_BY_CODE hE) (by decide) (by decide) (by decide) (by decide) (Q := fun v h L => v = some (.int (19 : Int32)) ∧ L = [] ∧ h = h0) (W := 0) (g := (mkF m 41 #[.val (.int (19 : Int32)), .val (.ref a_ALLOC_SAMPLE), .val (.int (1 : Int32))] [(.ref a_ALLOC_SAMPLE)])) (argsL := []) (rest := []) rfl (by rw [hml]; rfl) (lenOf own_pd_1 rfl) rfl (by show 2 * 0 + _ ≤ _; exact Nat.le_of_eq rfl) (hb hby own_d_method_3_code_41))
  refine own_st (T' := T2) (g' := (mkF m 44 #[.val (.int (19 : Int32)), .val (.ref a_ALLOC_SAMPLE), .val (.int (1 : Int32))] [(.int (19 : Int32))])) st2 ?_
  refine own_st (T' := T2) (g' := (mkF m 45 #[.val (.int (19 : Int32)), .val (.ref a_ALLOC_SAMPLE), .val (.int (1 : Int32))] [(.int (19 : Int32)), (.int (19 : Int32))])) (fun _ k => XS.iloadN X2.here hx rfl (hb hby own_d_method_3_code_44) rfl k) ?_
  refine own_st (T' := T2) (g' := (mkF m 48 #[.val (.int (19 : Int32)), .val (.ref a_ALLOC_SAMPLE), .val (.int (1 : Int32))] [])) (fun _ k => XS.icmpNo X2.here hx rfl (hb hby own_d_method_3_code_45) rfl (by decide) k) ?_
  refine own_st (T' := T2) (g' := (mkF m 49 #[.val (.int (19 : Int32)), .val (.ref a_ALLOC_SAMPLE), .val (.int (1 : Int32))] [(.int (1 : Int32))])) (fun _ k => XS.iconst X2.here hx rfl (hb hby own_d_method_3_code_48) k) ?_
  refine own_st (T' := T2) (g' := (mkF m 53 #[.val (.int (19 : Int32)), .val (.ref a_ALLOC_SAMPLE), .val (.int (1 : Int32))] [(.int (1 : Int32))])) (fun _ k => XS.goto X2.here hx rfl (pc0 := 49) (pc' := 53) rfl (hb hby own_d_method_3_code_49) (by decide) (by decide) k) ?_
  exact own_ret X2 hx hlk hret rfl (Or.inl ⟨rfl, Or.inr (Or.inl rfl), _, rfl⟩) (hb hby own_d_method_3_code_53) (by decide) (by decide) ⟨rfl, rfl, e2⟩
set_option maxRecDepth 65536 in
set_option maxHeartbeats 40000000 in
theorem own_of_39 (l : Launch) (Z : State) (a0 : Array Value) (hw : ∀ d ∈ tables_1, d.before a0 Z = true) (h0 : Heap) (a_BY_CODE : Addr) (a_BUFFERS : Addr) (a_HOLDABLE_CLASS : Addr) (a_UNPARK : Addr) (a_MONITOR_ENTER : Addr) (a_CPU_TIMER : Addr) (a_CLASS : Addr) (a_ALLOC_INTERVAL : Addr) (a_THREAD : Addr) (a_OPTIONS : Addr) (a_END : Addr) (a_STACK : Addr) (a_TIME : Addr) (a_UNDER_WAY : Addr) (a_PARK : Addr) (a_ALLOC_SAMPLE : Addr) (a_SAMPLE : Addr) (a_WALL_SAMPLE : Addr) (a_METHOD : Addr) (a_VIRTUAL_THREAD : Addr) (a_WALL_INTERVAL : Addr) (cl_BY_CODE : Cell) (hE : own_E Z h0 a_BY_CODE a_BUFFERS a_HOLDABLE_CLASS a_UNPARK a_MONITOR_ENTER a_CPU_TIMER a_CLASS a_ALLOC_INTERVAL a_THREAD a_OPTIONS a_END a_STACK a_TIME a_UNDER_WAY a_PARK a_ALLOC_SAMPLE a_SAMPLE a_WALL_SAMPLE a_METHOD a_VIRTUAL_THREAD a_WALL_INTERVAL cl_BY_CODE) :
    own_Pure l Z h0 [] ({ frames := 0, cells := 0, slots := 0, locals := 0 } : Room) (⟨"com/example/tracewell/tracewell/RecordKind", "of", "(I)Lcom/example/tracewell/tracewell/RecordKind;"⟩ : MethodName) prog_60_method_4_code 1 (some (.object "com/example/tracewell/tracewell/RecordKind")) #[(.int (20 : Int32))] (some (.ref a_OPTIONS)) := by
  refine own_body (plainFor_of_name own_pn_0) ?_
  intro p e s m below meth c T0 X0 hx hby hml hown hZ e0 hret hlk hnm hnamed
  replace hown : s.vm.findClass "com/example/tracewell/tracewell/RecordKind" = some m.cls := hown
  replace hml : c.maxLocals = 1 := hml
  have ef : entryFrame m #[(.int (20 : Int32))] 1 = mkF m 0 #[.val (.int (20 : Int32))] [] := by first | (simp [entryFrame, mkF, argsToLocals, Value.category]; done) | rfl
  rw [ef]
  have S_BY_CODE := own_p_S_BY_CODE hE
  have A_BY_CODE := own_p_A_BY_CODE hE
  have Z_BY_CODE := own_p_Z_BY_CODE hE
  have Y_BY_CODE_20 := own_p_Y_BY_CODE_20 hE
  refine own_st (T' := T0) (g' := (mkF m 1 #[.val (.int (20 : Int32))] [(.int (20 : Int32))])) (fun _ k => XS.iloadN X0.here hx rfl (hb hby own_d_prog_60_method_4_code_0) rfl k) ?_
  refine own_st (T' := T0) (g' := (mkF m 4 #[.val (.int (20 : Int32))] [])) (fun _ k => XS.ifNo X0.here hx rfl (hb hby own_d_prog_60_method_4_code_1) rfl (by decide) k) ?_
  refine own_st (T' := T0) (g' := (mkF m 5 #[.val (.int (20 : Int32))] [(.int (20 : Int32))])) (fun _ k => XS.iloadN X0.here hx rfl (hb hby own_d_prog_60_method_4_code_4) rfl k) ?_
  obtain ⟨T1, X1, e1, st1⟩ := getS2 X0 hx hZ hown (host := "") (Or.inl (hw _ (List.mem_of_getElem? (i := 8) rfl))) Via.refl e0 S_BY_CODE (g := (mkF m 5 #[.val (.int (20 : Int32))] [(.int (20 : Int32))])) rfl (hb hby own_d_prog_60_method_4_code_5)
  refine own_st (T' := T1) (g' := (mkF m 8 #[.val (.int (20 : Int32))] [(.ref a_BY_CODE), (.int (20 : Int32))])) st1 ?_
  refine own_st (T' := T1) (g' := (mkF m 9 #[.val (.int (20 : Int32))] [(.int cl_BY_CODE.slots.size.toInt32), (.int (20 : Int32))])) (fun _ k => X1.arraylength hx (by rw [e1]; exact A_BY_CODE.1) (State.isArrayOf_alike hZ.alike A_BY_CODE.2.1) (g := (mkF m 8 #[.val (.int (20 : Int32))] [(.ref a_BY_CODE), (.int (20 : Int32))])) rfl rfl (hb hby own_d_prog_60_method_4_code_8) _ k) ?_
  rw [len_of Z_BY_CODE (by decide)]
  refine own_st (T' := T1) (g' := (mkF m 12 #[.val (.int (20 : Int32))] [])) (fun _ k => XS.icmpNo X1.here hx rfl (hb hby own_d_prog_60_method_4_code_9) rfl (by decide) k) ?_
  obtain ⟨T2, X2, e2, st2⟩ := getS2 X1 hx hZ hown (host := "") (Or.inl (hw _ (List.mem_of_getElem? (i := 8) rfl))) Via.refl e1 S_BY_CODE (g := (mkF m 12 #[.val (.int (20 : Int32))] [])) rfl (hb hby own_d_prog_60_method_4_code_12)
  refine own_st (T' := T2) (g' := (mkF m 15 #[.val (.int (20 : Int32))] [(.ref a_BY_CODE)])) st2 ?_
  refine own_st (T' := T2) (g' := (mkF m 16 #[.val (.int (20 : Int32))] [(.int (20 : Int32)), (.ref a_BY_CODE)])) (fun _ k => XS.iloadN X2.here hx rfl (hb hby own_d_prog_60_method_4_code_15) rfl k) ?_
  refine own_st (T' := T2) (g' := (mkF m 17 #[.val (.int (20 : Int32))] [(.ref a_OPTIONS)])) (fun _ k => X2.aaload hx (j := (20 : Int32)) (v := (.ref a_OPTIONS)) (by rw [e2]; exact A_BY_CODE.1) (State.isArrayOf_alike hZ.alike A_BY_CODE.2.1) rfl A_BY_CODE.2.2 (inb_of Z_BY_CODE ⟨by decide, by decide⟩) Y_BY_CODE_20 (g := (mkF m 16 #[.val (.int (20 : Int32))] [(.int (20 : Int32)), (.ref a_BY_CODE)])) rfl rfl (hb hby own_d_prog_60_method_4_code_16) _ k) ?_
  refine own_st (T' := T2) (g' := (mkF m 21 #[.val (.int (20 : Int32))] [(.ref a_OPTIONS)])) (fun _ k => XS.goto X2.here hx rfl (pc0 := 17) (pc' := 21) rfl (hb hby own_d_prog_60_method_4_code_17) (by decide) (by decide) k) ?_
  exact own_ret X2 hx hlk hret rfl (Or.inr (Or.inr (Or.inr (Or.inr ⟨rfl, rfl, rfl⟩)))) (hb hby own_d_prog_60_method_4_code_21) (by decide) (by decide) ⟨rfl, rfl, e2⟩
set_option maxRecDepth 65536 in
set_option maxHeartbeats 40000000 in
theorem own_code_40 (l : Launch) (Z : State) (a0 : Array Value) (hw : ∀ d ∈ tables_1, d.before a0 Z = true) (h0 : Heap) (a_BY_CODE : Addr) (a_BUFFERS : Addr) (a_HOLDABLE_CLASS : Addr) (a_UNPARK : Addr) (a_MONITOR_ENTER : Addr) (a_CPU_TIMER : Addr) (a_CLASS : Addr) (a_ALLOC_INTERVAL : Addr) (a_THREAD : Addr) (a_OPTIONS : Addr) (a_END : Addr) (a_STACK : Addr) (a_TIME : Addr) (a_UNDER_WAY : Addr) (a_PARK : Addr) (a_ALLOC_SAMPLE : Addr) (a_SAMPLE : Addr) (a_WALL_SAMPLE : Addr) (a_METHOD : Addr) (a_VIRTUAL_THREAD : Addr) (a_WALL_INTERVAL : Addr) (cl_BY_CODE : Cell) (hE : own_E Z h0 a_BY_CODE a_BUFFERS a_HOLDABLE_CLASS a_UNPARK a_MONITOR_ENTER a_CPU_TIMER a_CLASS a_ALLOC_INTERVAL a_THREAD a_OPTIONS a_END a_STACK a_TIME a_UNDER_WAY a_PARK a_ALLOC_SAMPLE a_SAMPLE a_WALL_SAMPLE a_METHOD a_VIRTUAL_THREAD a_WALL_INTERVAL cl_BY_CODE) :
    own_Pure l Z h0 [] ({ frames := 0, cells := 0, slots := 0, locals := 0 } : Room) (⟨"com/example/tracewell/tracewell/RecordKind", "code", "()I"⟩ : MethodName) prog_60_method_6_code 1 (some .int) #[(.ref a_OPTIONS)] (some (.int (20 : Int32))) := by
  refine own_body (plainFor_of_name own_pn_0) ?_
  intro p e s m below meth c T0 X0 hx hby hml hown hZ e0 hret hlk hnm hnamed
  replace hown : s.vm.findClass "com/example/tracewell/tracewell/RecordKind" = some m.cls := hown
  replace hml : c.maxLocals = 1 := hml
  have ef : entryFrame m #[(.ref a_OPTIONS)] 1 = mkF m 0 #[.val (.ref a_OPTIONS)] [] := by first | (simp [entryFrame, mkF, argsToLocals, Value.category]; done) | rfl
  rw [ef]
  have F_OPTIONS_code := own_p_F_OPTIONS_code hE
  refine own_st (T' := T0) (g' := (mkF m 1 #[.val (.ref a_OPTIONS)] [(.ref a_OPTIONS)])) (fun _ k => XS.aloadN X0.here hx rfl (hb hby own_d_prog_60_method_6_code_0) rfl rfl k) ?_
  obtain ⟨T1, X1, e1, st1⟩ := getF X0 hx hZ hown (host := "") (Or.inl (hw _ (List.mem_of_getElem? (i := 16) rfl))) Via.refl e0 F_OPTIONS_code (g := (mkF m 1 #[.val (.ref a_OPTIONS)] [(.ref a_OPTIONS)])) rfl rfl (hb hby own_d_prog_60_method_6_code_1)
  refine own_st (T' := T1) (g' := (mkF m 4 #[.val (.ref a_OPTIONS)] [(.int (20 : Int32))])) st1 ?_
  exact own_ret X1 hx hlk hret rfl (Or.inl ⟨rfl, Or.inl rfl, _, rfl⟩) (hb hby own_d_prog_60_method_6_code_4) (by decide) (by decide) ⟨rfl, rfl, e1⟩
set_option maxRecDepth 65536 in
set_option maxHeartbeats 40000000 in
theorem own_check_20 (l : Launch) (Z : State) (a0 : Array Value) (hw : ∀ d ∈ tables_1, d.before a0 Z = true) (h0 : Heap) (a_BY_CODE : Addr) (a_BUFFERS : Addr) (a_HOLDABLE_CLASS : Addr) (a_UNPARK : Addr) (a_MONITOR_ENTER : Addr) (a_CPU_TIMER : Addr) (a_CLASS : Addr) (a_ALLOC_INTERVAL : Addr) (a_THREAD : Addr) (a_OPTIONS : Addr) (a_END : Addr) (a_STACK : Addr) (a_TIME : Addr) (a_UNDER_WAY : Addr) (a_PARK : Addr) (a_ALLOC_SAMPLE : Addr) (a_SAMPLE : Addr) (a_WALL_SAMPLE : Addr) (a_METHOD : Addr) (a_VIRTUAL_THREAD : Addr) (a_WALL_INTERVAL : Addr) (cl_BY_CODE : Cell) (hE : own_E Z h0 a_BY_CODE a_BUFFERS a_HOLDABLE_CLASS a_UNPARK a_MONITOR_ENTER a_CPU_TIMER a_CLASS a_ALLOC_INTERVAL a_THREAD a_OPTIONS a_END a_STACK a_TIME a_UNDER_WAY a_PARK a_ALLOC_SAMPLE a_SAMPLE a_WALL_SAMPLE a_METHOD a_VIRTUAL_THREAD a_WALL_INTERVAL cl_BY_CODE) :
    own_Pure l Z h0 [] ({ frames := 1, cells := 0, slots := 0, locals := 12 } : Room) (⟨"com/example/tracewell/tracewell/RecordKindOfPinLaw", "check", "(I)Z"⟩ : MethodName) method_3_code 3 (some .boolean) #[(.int (20 : Int32))] (some (.int (1 : Int32))) := by
  refine own_body (plainFor_of_name own_pn_1) ?_
  intro p e s m below meth c T0 X0 hx hby hml hown hZ e0 hret hlk hnm hnamed
  replace hown : s.vm.findClass "com/example/tracewell/tracewell/RecordKindOfPinLaw" = some m.cls := hown
  replace hml : c.maxLocals = 3 := hml
  have ef : entryFrame m #[(.int (20 : Int32))] 3 = mkF m 0 #[.val (.int (20 : Int32)), .unset, .unset] [] := by first | (simp [entryFrame, mkF, argsToLocals, Value.category]; done) | rfl
  rw [ef]
  have E_OPTIONS := own_p_E_OPTIONS hE
  refine own_st (T' := T0) (g' := (mkF m 1 #[.val (.int (20 : Int32)), .unset, .unset] [(.int (20 : Int32))])) (fun _ k => XS.iloadN X0.here hx rfl (hb hby own_d_method_3_code_0) rfl k) ?_
  obtain ⟨T1, X1, e1, st1⟩ := own_pure (w := (.ref a_OPTIONS)) rfl rfl (own_gS X0 hx hZ hown (hw _ (List.mem_of_getElem? (i := 4) rfl)) (hw _ (List.mem_of_getElem? (i := 5) rfl)) (hw _ (List.mem_of_getElem? (i := 6) rfl)) (hw _ (List.mem_of_getElem? (i := 7) rfl)) (by decide) e0 (own_of_39 l Z a0 hw h0 a_BY_CODE a_BUFFERS a_HOLDABLE_CLASS a_UNPARK a_MONITOR_ENTER a_CPU_TIMER a_CLASS a_ALLOC_INTERVAL a_THREAD a_OPTIONS a_END a_STACK a_TIME a_UNDER_WAY a_PARK a_ALLOC_SAMPLE a_SAMPLE a_WALL_SAMPLE a_METHOD a_VIRTUAL_THREAD a_WALL_INTERVAL cl_BY_CODE hE) (by decide) (by decide) (by decide) (by decide) (Q := fun v h L => v = some (.ref a_OPTIONS) ∧ L = [] ∧ h = h0) (W := 0) (g := (mkF m 1 #[.val (.int (20 : Int32)), .unset, .unset] [(.int (20 : Int32))])) (argsL := [(.int (20 : Int32))]) (rest := []) rfl (by rw [hml]; rfl) (lenOf own_pd_0 rfl) rfl (by show 2 * 0 + _ ≤ _; exact Nat.le_of_eq rfl) (hb hby own_d_method_3_code_1))
  refine own_st (T' := T1) (g' := (mkF m 4 #[.val (.int (20 : Int32)), .unset, .unset] [(.ref a_OPTIONS)])) st1 ?_
  refine own_st (T' := T1) (g' := (mkF m 5 #[.val (.int (20 : Int32)), .val (.ref a_OPTIONS), .unset] [])) (fun _ k => XS.astoreN X1.here hx rfl (hb hby own_d_method_3_code_4) rfl rfl (l' := #[.val (.int (20 : Int32)), .val (.ref a_OPTIONS), .unset]) rfl k) ?_
  refine own_st (T' := T1) (g' := (mkF m 6 #[.val (.int (20 : Int32)), .val (.ref a_OPTIONS), .unset] [(.int (20 : Int32))])) (fun _ k => XS.iloadN X1.here hx rfl (hb hby own_d_method_3_code_5) rfl k) ?_
  refine own_st (T' := T1) (g' := (mkF m 7 #[.val (.int (20 : Int32)), .val (.ref a_OPTIONS), .unset] [(.int (1 : Int32)), (.int (20 : Int32))])) (fun _ k => XS.iconst X1.here hx rfl (hb hby own_d_method_3_code_6) k) ?_
  refine own_st (T' := T1) (g' := (mkF m 10 #[.val (.int (20 : Int32)), .val (.ref a_OPTIONS), .unset] [])) (fun _ k => XS.icmpNo X1.here hx rfl (hb hby own_d_method_3_code_7) rfl (by decide) k) ?_
  refine own_st (T' := T1) (g' := (mkF m 11 #[.val (.int (20 : Int32)), .val (.ref a_OPTIONS), .unset] [(.int (20 : Int32))])) (fun _ k => XS.iloadN X1.here hx rfl (hb hby own_d_method_3_code_10) rfl k) ?_
  refine own_st (T' := T1) (g' := (mkF m 13 #[.val (.int (20 : Int32)), .val (.ref a_OPTIONS), .unset] [(.int (20 : Int32)), (.int (20 : Int32))])) (fun _ k => XS.bipush X1.here hx rfl (hb hby own_d_method_3_code_11) k) ?_
  refine own_st (T' := T1) (g' := (mkF m 16 #[.val (.int (20 : Int32)), .val (.ref a_OPTIONS), .unset] [])) (fun _ k => XS.icmpNo X1.here hx rfl (hb hby own_d_method_3_code_13) rfl (by decide) k) ?_
  refine own_st (T' := T1) (g' := (mkF m 17 #[.val (.int (20 : Int32)), .val (.ref a_OPTIONS), .unset] [(.int (1 : Int32))])) (fun _ k => XS.iconst X1.here hx rfl (hb hby own_d_method_3_code_16) k) ?_
  refine own_st (T' := T1) (g' := (mkF m 21 #[.val (.int (20 : Int32)), .val (.ref a_OPTIONS), .unset] [(.int (1 : Int32))])) (fun _ k => XS.goto X1.here hx rfl (pc0 := 17) (pc' := 21) rfl (hb hby own_d_method_3_code_17) (by decide) (by decide) k) ?_
  refine own_st (T' := T1) (g' := (mkF m 22 #[.val (.int (20 : Int32)), .val (.ref a_OPTIONS), .val (.int (1 : Int32))] [])) (fun _ k => XS.istoreN X1.here hx rfl (hb hby own_d_method_3_code_21) rfl (l' := #[.val (.int (20 : Int32)), .val (.ref a_OPTIONS), .val (.int (1 : Int32))]) rfl k) ?_
  refine own_st (T' := T1) (g' := (mkF m 23 #[.val (.int (20 : Int32)), .val (.ref a_OPTIONS), .val (.int (1 : Int32))] [(.int (1 : Int32))])) (fun _ k => XS.iloadN X1.here hx rfl (hb hby own_d_method_3_code_22) rfl k) ?_
  refine own_st (T' := T1) (g' := (mkF m 36 #[.val (.int (20 : Int32)), .val (.ref a_OPTIONS), .val (.int (1 : Int32))] [])) (fun _ k => XS.ifYes X1.here hx rfl (pc0 := 23) (pc' := 36) rfl (hb hby own_d_method_3_code_23) rfl (by decide) (by decide) (by decide) k) ?_
  refine own_st (T' := T1) (g' := (mkF m 37 #[.val (.int (20 : Int32)), .val (.ref a_OPTIONS), .val (.int (1 : Int32))] [(.ref a_OPTIONS)])) (fun _ k => XS.aloadN X1.here hx rfl (hb hby own_d_method_3_code_36) rfl rfl k) ?_
  refine own_st (T' := T1) (g' := (mkF m 40 #[.val (.int (20 : Int32)), .val (.ref a_OPTIONS), .val (.int (1 : Int32))] [])) (fun _ k => XS.ifnullNo X1.here hx rfl (hb hby own_d_method_3_code_37) rfl k) ?_
  refine own_st (T' := T1) (g' := (mkF m 41 #[.val (.int (20 : Int32)), .val (.ref a_OPTIONS), .val (.int (1 : Int32))] [(.ref a_OPTIONS)])) (fun _ k => XS.aloadN X1.here hx rfl (hb hby own_d_method_3_code_40) rfl rfl k) ?_
  obtain ⟨T2, X2, e2, st2⟩ := own_pure (w := (.int (20 : Int32))) rfl rfl (own_gV X1 hx hZ hown (hw _ (List.mem_of_getElem? (i := 11) rfl)) (hw _ (List.mem_of_getElem? (i := 12) rfl)) (notFace_of_selects (args := #[]) (mvT hZ (hw _ (List.mem_of_getElem? (i := 14) rfl)))) (hw _ (List.mem_of_getElem? (i := 14) rfl)) (hw _ (List.mem_of_getElem? (i := 13) rfl)) (hw _ (List.mem_of_getElem? (i := 6) rfl)) (hw _ (List.mem_of_getElem? (i := 15) rfl)) (by decide) e1 E_OPTIONS (own_code_40 l Z a0 hw h0 a_BY_CODE a_BUFFERS a_HOLDABLE_CLASS a_UNPARK a_MONITOR_ENTER a_CPU_TIMER a_CLASS a_ALLOC_INTERVAL a_THREAD a_OPTIONS a_END a_STACK a_TIME a_UNDER_WAY a_PARK a_ALLOC_SAMPLE a_SAMPLE a_WALL_SAMPLE a_METHOD a_VIRTUAL_THREAD a_WALL_INTERVAL cl_BY_CODE hE) (by decide) (by decide) (by decide) (by decide) (Q := fun v h L => v = some (.int (20 : Int32)) ∧ L = [] ∧ h = h0) (W := 0) (g := (mkF m 41 #[.val (.int (20 : Int32)), .val (.ref a_OPTIONS), .val (.int (1 : Int32))] [(.ref a_OPTIONS)])) (argsL := []) (rest := []) rfl (by rw [hml]; rfl) (lenOf own_pd_1 rfl) rfl (by show 2 * 0 + _ ≤ _; exact Nat.le_of_eq rfl) (hb hby own_d_method_3_code_41))
  refine own_st (T' := T2) (g' := (mkF m 44 #[.val (.int (20 : Int32)), .val (.ref a_OPTIONS), .val (.int (1 : Int32))] [(.int (20 : Int32))])) st2 ?_
  refine own_st (T' := T2) (g' := (mkF m 45 #[.val (.int (20 : Int32)), .val (.ref a_OPTIONS), .val (.int (1 : Int32))] [(.int (20 : Int32)), (.int (20 : Int32))])) (fun _ k => XS.iloadN X2.here hx rfl (hb hby own_d_method_3_code_44) rfl k) ?_
  refine own_st (T' := T2) (g' := (mkF m 48 #[.val (.int (20 : Int32)), .val (.ref a_OPTIONS), .val (.int (1 : Int32))] [])) (fun _ k => XS.icmpNo X2.here hx rfl (hb hby own_d_method_3_code_45) rfl (by decide) k) ?_
  refine own_st (T' := T2) (g' := (mkF m 49 #[.val (.int (20 : Int32)), .val (.ref a_OPTIONS), .val (.int (1 : Int32))] [(.int (1 : Int32))])) (fun _ k => XS.iconst X2.here hx rfl (hb hby own_d_method_3_code_48) k) ?_
  refine own_st (T' := T2) (g' := (mkF m 53 #[.val (.int (20 : Int32)), .val (.ref a_OPTIONS), .val (.int (1 : Int32))] [(.int (1 : Int32))])) (fun _ k => XS.goto X2.here hx rfl (pc0 := 49) (pc' := 53) rfl (hb hby own_d_method_3_code_49) (by decide) (by decide) k) ?_
  exact own_ret X2 hx hlk hret rfl (Or.inl ⟨rfl, Or.inr (Or.inl rfl), _, rfl⟩) (hb hby own_d_method_3_code_53) (by decide) (by decide) ⟨rfl, rfl, e2⟩
set_option maxRecDepth 65536 in
set_option maxHeartbeats 40000000 in
theorem own_of_41 (l : Launch) (Z : State) (a0 : Array Value) (hw : ∀ d ∈ tables_1, d.before a0 Z = true) (h0 : Heap) (a_BY_CODE : Addr) (a_BUFFERS : Addr) (a_HOLDABLE_CLASS : Addr) (a_UNPARK : Addr) (a_MONITOR_ENTER : Addr) (a_CPU_TIMER : Addr) (a_CLASS : Addr) (a_ALLOC_INTERVAL : Addr) (a_THREAD : Addr) (a_OPTIONS : Addr) (a_END : Addr) (a_STACK : Addr) (a_TIME : Addr) (a_UNDER_WAY : Addr) (a_PARK : Addr) (a_ALLOC_SAMPLE : Addr) (a_SAMPLE : Addr) (a_WALL_SAMPLE : Addr) (a_METHOD : Addr) (a_VIRTUAL_THREAD : Addr) (a_WALL_INTERVAL : Addr) (cl_BY_CODE : Cell) (hE : own_E Z h0 a_BY_CODE a_BUFFERS a_HOLDABLE_CLASS a_UNPARK a_MONITOR_ENTER a_CPU_TIMER a_CLASS a_ALLOC_INTERVAL a_THREAD a_OPTIONS a_END a_STACK a_TIME a_UNDER_WAY a_PARK a_ALLOC_SAMPLE a_SAMPLE a_WALL_SAMPLE a_METHOD a_VIRTUAL_THREAD a_WALL_INTERVAL cl_BY_CODE) (i : Int32) (f0 : i < (0 : Int32)) (f1 : i < (1 : Int32)) :
    own_Pure l Z h0 [] ({ frames := 0, cells := 0, slots := 0, locals := 0 } : Room) (⟨"com/example/tracewell/tracewell/RecordKind", "of", "(I)Lcom/example/tracewell/tracewell/RecordKind;"⟩ : MethodName) prog_60_method_4_code 1 (some (.object "com/example/tracewell/tracewell/RecordKind")) #[(.int i)] (some .null) := by
  refine own_body (plainFor_of_name own_pn_0) ?_
  intro p e s m below meth c T0 X0 hx hby hml hown hZ e0 hret hlk hnm hnamed
  replace hown : s.vm.findClass "com/example/tracewell/tracewell/RecordKind" = some m.cls := hown
  replace hml : c.maxLocals = 1 := hml
  have ef : entryFrame m #[(.int i)] 1 = mkF m 0 #[.val (.int i)] [] := by first | (simp [entryFrame, mkF, argsToLocals, Value.category]; done) | rfl
  rw [ef]
  refine own_st (T' := T0) (g' := (mkF m 1 #[.val (.int i)] [(.int i)])) (fun _ k => XS.iloadN X0.here hx rfl (hb hby own_d_prog_60_method_4_code_0) rfl k) ?_
  refine own_st (T' := T0) (g' := (mkF m 20 #[.val (.int i)] [])) (fun _ k => XS.ifYes X0.here hx rfl (pc0 := 1) (pc' := 20) rfl (hb hby own_d_prog_60_method_4_code_1) rfl ((if0 _ _).trans (tlt f0).1) (by decide) (by decide) k) ?_
  refine own_st (T' := T0) (g' := (mkF m 21 #[.val (.int i)] [.null])) (fun _ k => XS.aconstNull X0.here hx rfl (hb hby own_d_prog_60_method_4_code_20) k) ?_
  exact own_ret X0 hx hlk hret rfl (Or.inr (Or.inr (Or.inr (Or.inr ⟨rfl, rfl, rfl⟩)))) (hb hby own_d_prog_60_method_4_code_21) (by decide) (by decide) ⟨rfl, rfl, e0⟩
set_option maxRecDepth 65536 in
set_option maxHeartbeats 40000000 in
theorem own_check_neg (l : Launch) (Z : State) (a0 : Array Value) (hw : ∀ d ∈ tables_1, d.before a0 Z = true) (h0 : Heap) (a_BY_CODE : Addr) (a_BUFFERS : Addr) (a_HOLDABLE_CLASS : Addr) (a_UNPARK : Addr) (a_MONITOR_ENTER : Addr) (a_CPU_TIMER : Addr) (a_CLASS : Addr) (a_ALLOC_INTERVAL : Addr) (a_THREAD : Addr) (a_OPTIONS : Addr) (a_END : Addr) (a_STACK : Addr) (a_TIME : Addr) (a_UNDER_WAY : Addr) (a_PARK : Addr) (a_ALLOC_SAMPLE : Addr) (a_SAMPLE : Addr) (a_WALL_SAMPLE : Addr) (a_METHOD : Addr) (a_VIRTUAL_THREAD : Addr) (a_WALL_INTERVAL : Addr) (cl_BY_CODE : Cell) (hE : own_E Z h0 a_BY_CODE a_BUFFERS a_HOLDABLE_CLASS a_UNPARK a_MONITOR_ENTER a_CPU_TIMER a_CLASS a_ALLOC_INTERVAL a_THREAD a_OPTIONS a_END a_STACK a_TIME a_UNDER_WAY a_PARK a_ALLOC_SAMPLE a_SAMPLE a_WALL_SAMPLE a_METHOD a_VIRTUAL_THREAD a_WALL_INTERVAL cl_BY_CODE) (i : Int32) (f0 : i < (0 : Int32)) (f1 : i < (1 : Int32)) :
    own_Pure l Z h0 [] ({ frames := 1, cells := 0, slots := 0, locals := 12 } : Room) (⟨"com/example/tracewell/tracewell/RecordKindOfPinLaw", "check", "(I)Z"⟩ : MethodName) method_3_code 3 (some .boolean) #[(.int i)] (some (.int (1 : Int32))) := by
  refine own_body (plainFor_of_name own_pn_1) ?_
  intro p e s m below meth c T0 X0 hx hby hml hown hZ e0 hret hlk hnm hnamed
  replace hown : s.vm.findClass "com/example/tracewell/tracewell/RecordKindOfPinLaw" = some m.cls := hown
  replace hml : c.maxLocals = 3 := hml
  have ef : entryFrame m #[(.int i)] 3 = mkF m 0 #[.val (.int i), .unset, .unset] [] := by first | (simp [entryFrame, mkF, argsToLocals, Value.category]; done) | rfl
  rw [ef]
  refine own_st (T' := T0) (g' := (mkF m 1 #[.val (.int i), .unset, .unset] [(.int i)])) (fun _ k => XS.iloadN X0.here hx rfl (hb hby own_d_method_3_code_0) rfl k) ?_
  obtain ⟨T1, X1, e1, st1⟩ := own_pure (w := .null) rfl rfl (own_gS X0 hx hZ hown (hw _ (List.mem_of_getElem? (i := 4) rfl)) (hw _ (List.mem_of_getElem? (i := 5) rfl)) (hw _ (List.mem_of_getElem? (i := 6) rfl)) (hw _ (List.mem_of_getElem? (i := 7) rfl)) (by decide) e0 (own_of_41 l Z a0 hw h0 a_BY_CODE a_BUFFERS a_HOLDABLE_CLASS a_UNPARK a_MONITOR_ENTER a_CPU_TIMER a_CLASS a_ALLOC_INTERVAL a_THREAD a_OPTIONS a_END a_STACK a_TIME a_UNDER_WAY a_PARK a_ALLOC_SAMPLE a_SAMPLE a_WALL_SAMPLE a_METHOD a_VIRTUAL_THREAD a_WALL_INTERVAL cl_BY_CODE hE i f0 f1) (by decide) (by decide) (by decide) (by decide) (Q := fun v h L => v = some .null ∧ L = [] ∧ h = h0) (W := 0) (g := (mkF m 1 #[.val (.int i), .unset, .unset] [(.int i)])) (argsL := [(.int i)]) (rest := []) rfl (by rw [hml]; rfl) (lenOf own_pd_0 rfl) rfl (by show 2 * 0 + _ ≤ _; exact Nat.le_of_eq rfl) (hb hby own_d_method_3_code_1))
  refine own_st (T' := T1) (g' := (mkF m 4 #[.val (.int i), .unset, .unset] [.null])) st1 ?_
  refine own_st (T' := T1) (g' := (mkF m 5 #[.val (.int i), .val .null, .unset] [])) (fun _ k => XS.astoreN X1.here hx rfl (hb hby own_d_method_3_code_4) rfl rfl (l' := #[.val (.int i), .val .null, .unset]) rfl k) ?_
  refine own_st (T' := T1) (g' := (mkF m 6 #[.val (.int i), .val .null, .unset] [(.int i)])) (fun _ k => XS.iloadN X1.here hx rfl (hb hby own_d_method_3_code_5) rfl k) ?_
  refine own_st (T' := T1) (g' := (mkF m 7 #[.val (.int i), .val .null, .unset] [(.int (1 : Int32)), (.int i)])) (fun _ k => XS.iconst X1.here hx rfl (hb hby own_d_method_3_code_6) k) ?_
  refine own_st (T' := T1) (g' := (mkF m 20 #[.val (.int i), .val .null, .unset] [])) (fun _ k => XS.icmpYes X1.here hx rfl (pc0 := 7) (pc' := 20) rfl (hb hby own_d_method_3_code_7) rfl (tlt f1).1 (by decide) (by decide) k) ?_
  refine own_st (T' := T1) (g' := (mkF m 21 #[.val (.int i), .val .null, .unset] [(.int (0 : Int32))])) (fun _ k => XS.iconst X1.here hx rfl (hb hby own_d_method_3_code_20) k) ?_
  refine own_st (T' := T1) (g' := (mkF m 22 #[.val (.int i), .val .null, .val (.int (0 : Int32))] [])) (fun _ k => XS.istoreN X1.here hx rfl (hb hby own_d_method_3_code_21) rfl (l' := #[.val (.int i), .val .null, .val (.int (0 : Int32))]) rfl k) ?_
  refine own_st (T' := T1) (g' := (mkF m 23 #[.val (.int i), .val .null, .val (.int (0 : Int32))] [(.int (0 : Int32))])) (fun _ k => XS.iloadN X1.here hx rfl (hb hby own_d_method_3_code_22) rfl k) ?_
  refine own_st (T' := T1) (g' := (mkF m 26 #[.val (.int i), .val .null, .val (.int (0 : Int32))] [])) (fun _ k => XS.ifNo X1.here hx rfl (hb hby own_d_method_3_code_23) rfl (by decide) k) ?_
  refine own_st (T' := T1) (g' := (mkF m 27 #[.val (.int i), .val .null, .val (.int (0 : Int32))] [.null])) (fun _ k => XS.aloadN X1.here hx rfl (hb hby own_d_method_3_code_26) rfl rfl k) ?_
  refine own_st (T' := T1) (g' := (mkF m 30 #[.val (.int i), .val .null, .val (.int (0 : Int32))] [])) (fun _ k => XS.ifnonnullNo X1.here hx rfl (hb hby own_d_method_3_code_27) rfl k) ?_
  refine own_st (T' := T1) (g' := (mkF m 31 #[.val (.int i), .val .null, .val (.int (0 : Int32))] [(.int (1 : Int32))])) (fun _ k => XS.iconst X1.here hx rfl (hb hby own_d_method_3_code_30) k) ?_
  refine own_st (T' := T1) (g' := (mkF m 35 #[.val (.int i), .val .null, .val (.int (0 : Int32))] [(.int (1 : Int32))])) (fun _ k => XS.goto X1.here hx rfl (pc0 := 31) (pc' := 35) rfl (hb hby own_d_method_3_code_31) (by decide) (by decide) k) ?_
  exact own_ret X1 hx hlk hret rfl (Or.inl ⟨rfl, Or.inr (Or.inl rfl), _, rfl⟩) (hb hby own_d_method_3_code_35) (by decide) (by decide) ⟨rfl, rfl, e1⟩
set_option maxRecDepth 65536 in
set_option maxHeartbeats 40000000 in
theorem own_of_42 (l : Launch) (Z : State) (a0 : Array Value) (hw : ∀ d ∈ tables_1, d.before a0 Z = true) (h0 : Heap) (a_BY_CODE : Addr) (a_BUFFERS : Addr) (a_HOLDABLE_CLASS : Addr) (a_UNPARK : Addr) (a_MONITOR_ENTER : Addr) (a_CPU_TIMER : Addr) (a_CLASS : Addr) (a_ALLOC_INTERVAL : Addr) (a_THREAD : Addr) (a_OPTIONS : Addr) (a_END : Addr) (a_STACK : Addr) (a_TIME : Addr) (a_UNDER_WAY : Addr) (a_PARK : Addr) (a_ALLOC_SAMPLE : Addr) (a_SAMPLE : Addr) (a_WALL_SAMPLE : Addr) (a_METHOD : Addr) (a_VIRTUAL_THREAD : Addr) (a_WALL_INTERVAL : Addr) (cl_BY_CODE : Cell) (hE : own_E Z h0 a_BY_CODE a_BUFFERS a_HOLDABLE_CLASS a_UNPARK a_MONITOR_ENTER a_CPU_TIMER a_CLASS a_ALLOC_INTERVAL a_THREAD a_OPTIONS a_END a_STACK a_TIME a_UNDER_WAY a_PARK a_ALLOC_SAMPLE a_SAMPLE a_WALL_SAMPLE a_METHOD a_VIRTUAL_THREAD a_WALL_INTERVAL cl_BY_CODE) (i : Int32) (f0 : ¬ (i < (0 : Int32))) (f1 : ¬ (i < (1 : Int32))) (f2 : ¬ (i < (21 : Int32))) (f3 : (20 : Int32) < i) :
    own_Pure l Z h0 [] ({ frames := 0, cells := 0, slots := 0, locals := 0 } : Room) (⟨"com/example/tracewell/tracewell/RecordKind", "of", "(I)Lcom/example/tracewell/tracewell/RecordKind;"⟩ : MethodName) prog_60_method_4_code 1 (some (.object "com/example/tracewell/tracewell/RecordKind")) #[(.int i)] (some .null) := by
  refine own_body (plainFor_of_name own_pn_0) ?_
  intro p e s m below meth c T0 X0 hx hby hml hown hZ e0 hret hlk hnm hnamed
  replace hown : s.vm.findClass "com/example/tracewell/tracewell/RecordKind" = some m.cls := hown
  replace hml : c.maxLocals = 1 := hml
  have ef : entryFrame m #[(.int i)] 1 = mkF m 0 #[.val (.int i)] [] := by first | (simp [entryFrame, mkF, argsToLocals, Value.category]; done) | rfl
  rw [ef]
  have S_BY_CODE := own_p_S_BY_CODE hE
  have A_BY_CODE := own_p_A_BY_CODE hE
  have Z_BY_CODE := own_p_Z_BY_CODE hE
  refine own_st (T' := T0) (g' := (mkF m 1 #[.val (.int i)] [(.int i)])) (fun _ k => XS.iloadN X0.here hx rfl (hb hby own_d_prog_60_method_4_code_0) rfl k) ?_
  refine own_st (T' := T0) (g' := (mkF m 4 #[.val (.int i)] [])) (fun _ k => XS.ifNo X0.here hx rfl (hb hby own_d_prog_60_method_4_code_1) rfl ((if0 _ _).trans (flt f0).1) k) ?_
  refine own_st (T' := T0) (g' := (mkF m 5 #[.val (.int i)] [(.int i)])) (fun _ k => XS.iloadN X0.here hx rfl (hb hby own_d_prog_60_method_4_code_4) rfl k) ?_
  obtain ⟨T1, X1, e1, st1⟩ := getS2 X0 hx hZ hown (host := "") (Or.inl (hw _ (List.mem_of_getElem? (i := 8) rfl))) Via.refl e0 S_BY_CODE (g := (mkF m 5 #[.val (.int i)] [(.int i)])) rfl (hb hby own_d_prog_60_method_4_code_5)
  refine own_st (T' := T1) (g' := (mkF m 8 #[.val (.int i)] [(.ref a_BY_CODE), (.int i)])) st1 ?_
  refine own_st (T' := T1) (g' := (mkF m 9 #[.val (.int i)] [(.int cl_BY_CODE.slots.size.toInt32), (.int i)])) (fun _ k => X1.arraylength hx (by rw [e1]; exact A_BY_CODE.1) (State.isArrayOf_alike hZ.alike A_BY_CODE.2.1) (g := (mkF m 8 #[.val (.int i)] [(.ref a_BY_CODE), (.int i)])) rfl rfl (hb hby own_d_prog_60_method_4_code_8) _ k) ?_
  rw [len_of Z_BY_CODE (by decide)]
  refine own_st (T' := T1) (g' := (mkF m 20 #[.val (.int i)] [])) (fun _ k => XS.icmpYes X1.here hx rfl (pc0 := 9) (pc' := 20) rfl (hb hby own_d_prog_60_method_4_code_9) rfl (flt f2).2.1 (by decide) (by decide) k) ?_
  refine own_st (T' := T1) (g' := (mkF m 21 #[.val (.int i)] [.null])) (fun _ k => XS.aconstNull X1.here hx rfl (hb hby own_d_prog_60_method_4_code_20) k) ?_
  exact own_ret X1 hx hlk hret rfl (Or.inr (Or.inr (Or.inr (Or.inr ⟨rfl, rfl, rfl⟩)))) (hb hby own_d_prog_60_method_4_code_21) (by decide) (by decide) ⟨rfl, rfl, e1⟩
set_option maxRecDepth 65536 in
set_option maxHeartbeats 40000000 in
theorem own_check_big (l : Launch) (Z : State) (a0 : Array Value) (hw : ∀ d ∈ tables_1, d.before a0 Z = true) (h0 : Heap) (a_BY_CODE : Addr) (a_BUFFERS : Addr) (a_HOLDABLE_CLASS : Addr) (a_UNPARK : Addr) (a_MONITOR_ENTER : Addr) (a_CPU_TIMER : Addr) (a_CLASS : Addr) (a_ALLOC_INTERVAL : Addr) (a_THREAD : Addr) (a_OPTIONS : Addr) (a_END : Addr) (a_STACK : Addr) (a_TIME : Addr) (a_UNDER_WAY : Addr) (a_PARK : Addr) (a_ALLOC_SAMPLE : Addr) (a_SAMPLE : Addr) (a_WALL_SAMPLE : Addr) (a_METHOD : Addr) (a_VIRTUAL_THREAD : Addr) (a_WALL_INTERVAL : Addr) (cl_BY_CODE : Cell) (hE : own_E Z h0 a_BY_CODE a_BUFFERS a_HOLDABLE_CLASS a_UNPARK a_MONITOR_ENTER a_CPU_TIMER a_CLASS a_ALLOC_INTERVAL a_THREAD a_OPTIONS a_END a_STACK a_TIME a_UNDER_WAY a_PARK a_ALLOC_SAMPLE a_SAMPLE a_WALL_SAMPLE a_METHOD a_VIRTUAL_THREAD a_WALL_INTERVAL cl_BY_CODE) (i : Int32) (f0 : ¬ (i < (0 : Int32))) (f1 : ¬ (i < (1 : Int32))) (f2 : ¬ (i < (21 : Int32))) (f3 : (20 : Int32) < i) :
    own_Pure l Z h0 [] ({ frames := 1, cells := 0, slots := 0, locals := 12 } : Room) (⟨"com/example/tracewell/tracewell/RecordKindOfPinLaw", "check", "(I)Z"⟩ : MethodName) method_3_code 3 (some .boolean) #[(.int i)] (some (.int (1 : Int32))) := by
  refine own_body (plainFor_of_name own_pn_1) ?_
  intro p e s m below meth c T0 X0 hx hby hml hown hZ e0 hret hlk hnm hnamed
  replace hown : s.vm.findClass "com/example/tracewell/tracewell/RecordKindOfPinLaw" = some m.cls := hown
  replace hml : c.maxLocals = 3 := hml
  have ef : entryFrame m #[(.int i)] 3 = mkF m 0 #[.val (.int i), .unset, .unset] [] := by first | (simp [entryFrame, mkF, argsToLocals, Value.category]; done) | rfl
  rw [ef]
  refine own_st (T' := T0) (g' := (mkF m 1 #[.val (.int i), .unset, .unset] [(.int i)])) (fun _ k => XS.iloadN X0.here hx rfl (hb hby own_d_method_3_code_0) rfl k) ?_
  obtain ⟨T1, X1, e1, st1⟩ := own_pure (w := .null) rfl rfl (own_gS X0 hx hZ hown (hw _ (List.mem_of_getElem? (i := 4) rfl)) (hw _ (List.mem_of_getElem? (i := 5) rfl)) (hw _ (List.mem_of_getElem? (i := 6) rfl)) (hw _ (List.mem_of_getElem? (i := 7) rfl)) (by decide) e0 (own_of_42 l Z a0 hw h0 a_BY_CODE a_BUFFERS a_HOLDABLE_CLASS a_UNPARK a_MONITOR_ENTER a_CPU_TIMER a_CLASS a_ALLOC_INTERVAL a_THREAD a_OPTIONS a_END a_STACK a_TIME a_UNDER_WAY a_PARK a_ALLOC_SAMPLE a_SAMPLE a_WALL_SAMPLE a_METHOD a_VIRTUAL_THREAD a_WALL_INTERVAL cl_BY_CODE hE i f0 f1 f2 f3) (by decide) (by decide) (by decide) (by decide) (Q := fun v h L => v = some .null ∧ L = [] ∧ h = h0) (W := 0) (g := (mkF m 1 #[.val (.int i), .unset, .unset] [(.int i)])) (argsL := [(.int i)]) (rest := []) rfl (by rw [hml]; rfl) (lenOf own_pd_0 rfl) rfl (by show 2 * 0 + _ ≤ _; exact Nat.le_of_eq rfl) (hb hby own_d_method_3_code_1))
  refine own_st (T' := T1) (g' := (mkF m 4 #[.val (.int i), .unset, .unset] [.null])) st1 ?_
  refine own_st (T' := T1) (g' := (mkF m 5 #[.val (.int i), .val .null, .unset] [])) (fun _ k => XS.astoreN X1.here hx rfl (hb hby own_d_method_3_code_4) rfl rfl (l' := #[.val (.int i), .val .null, .unset]) rfl k) ?_
  refine own_st (T' := T1) (g' := (mkF m 6 #[.val (.int i), .val .null, .unset] [(.int i)])) (fun _ k => XS.iloadN X1.here hx rfl (hb hby own_d_method_3_code_5) rfl k) ?_
  refine own_st (T' := T1) (g' := (mkF m 7 #[.val (.int i), .val .null, .unset] [(.int (1 : Int32)), (.int i)])) (fun _ k => XS.iconst X1.here hx rfl (hb hby own_d_method_3_code_6) k) ?_
  refine own_st (T' := T1) (g' := (mkF m 10 #[.val (.int i), .val .null, .unset] [])) (fun _ k => XS.icmpNo X1.here hx rfl (hb hby own_d_method_3_code_7) rfl (flt f1).1 k) ?_
  refine own_st (T' := T1) (g' := (mkF m 11 #[.val (.int i), .val .null, .unset] [(.int i)])) (fun _ k => XS.iloadN X1.here hx rfl (hb hby own_d_method_3_code_10) rfl k) ?_
  refine own_st (T' := T1) (g' := (mkF m 13 #[.val (.int i), .val .null, .unset] [(.int (20 : Int32)), (.int i)])) (fun _ k => XS.bipush X1.here hx rfl (hb hby own_d_method_3_code_11) k) ?_
  refine own_st (T' := T1) (g' := (mkF m 20 #[.val (.int i), .val .null, .unset] [])) (fun _ k => XS.icmpYes X1.here hx rfl (pc0 := 13) (pc' := 20) rfl (hb hby own_d_method_3_code_13) rfl (tlt f3).2.2.1 (by decide) (by decide) k) ?_
  refine own_st (T' := T1) (g' := (mkF m 21 #[.val (.int i), .val .null, .unset] [(.int (0 : Int32))])) (fun _ k => XS.iconst X1.here hx rfl (hb hby own_d_method_3_code_20) k) ?_
  refine own_st (T' := T1) (g' := (mkF m 22 #[.val (.int i), .val .null, .val (.int (0 : Int32))] [])) (fun _ k => XS.istoreN X1.here hx rfl (hb hby own_d_method_3_code_21) rfl (l' := #[.val (.int i), .val .null, .val (.int (0 : Int32))]) rfl k) ?_
  refine own_st (T' := T1) (g' := (mkF m 23 #[.val (.int i), .val .null, .val (.int (0 : Int32))] [(.int (0 : Int32))])) (fun _ k => XS.iloadN X1.here hx rfl (hb hby own_d_method_3_code_22) rfl k) ?_
  refine own_st (T' := T1) (g' := (mkF m 26 #[.val (.int i), .val .null, .val (.int (0 : Int32))] [])) (fun _ k => XS.ifNo X1.here hx rfl (hb hby own_d_method_3_code_23) rfl (by decide) k) ?_
  refine own_st (T' := T1) (g' := (mkF m 27 #[.val (.int i), .val .null, .val (.int (0 : Int32))] [.null])) (fun _ k => XS.aloadN X1.here hx rfl (hb hby own_d_method_3_code_26) rfl rfl k) ?_
  refine own_st (T' := T1) (g' := (mkF m 30 #[.val (.int i), .val .null, .val (.int (0 : Int32))] [])) (fun _ k => XS.ifnonnullNo X1.here hx rfl (hb hby own_d_method_3_code_27) rfl k) ?_
  refine own_st (T' := T1) (g' := (mkF m 31 #[.val (.int i), .val .null, .val (.int (0 : Int32))] [(.int (1 : Int32))])) (fun _ k => XS.iconst X1.here hx rfl (hb hby own_d_method_3_code_30) k) ?_
  refine own_st (T' := T1) (g' := (mkF m 35 #[.val (.int i), .val .null, .val (.int (0 : Int32))] [(.int (1 : Int32))])) (fun _ k => XS.goto X1.here hx rfl (pc0 := 31) (pc' := 35) rfl (hb hby own_d_method_3_code_31) (by decide) (by decide) k) ?_
  exact own_ret X1 hx hlk hret rfl (Or.inl ⟨rfl, Or.inr (Or.inl rfl), _, rfl⟩) (hb hby own_d_method_3_code_35) (by decide) (by decide) ⟨rfl, rfl, e1⟩
theorem own_21 (c : Int32) (h1 : ¬ c < (0 : Int32)) (h2 : c < (21 : Int32)) : c = (0 : Int32) ∨ c = (1 : Int32) ∨ c = (2 : Int32) ∨ c = (3 : Int32) ∨ c = (4 : Int32) ∨ c = (5 : Int32) ∨ c = (6 : Int32) ∨ c = (7 : Int32) ∨ c = (8 : Int32) ∨ c = (9 : Int32) ∨ c = (10 : Int32) ∨ c = (11 : Int32) ∨ c = (12 : Int32) ∨ c = (13 : Int32) ∨ c = (14 : Int32) ∨ c = (15 : Int32) ∨ c = (16 : Int32) ∨ c = (17 : Int32) ∨ c = (18 : Int32) ∨ c = (19 : Int32) ∨ c = (20 : Int32) := by
  rw [Int32.lt_iff_toInt_lt] at h1 h2
  have e0 : (0 : Int32).toInt = 0 := rfl; have e1 : (1 : Int32).toInt = 1 := rfl; have e20 : (20 : Int32).toInt = 20 := rfl; have e21 : (21 : Int32).toInt = 21 := rfl
  have h : c.toInt = 0 ∨ c.toInt = 1 ∨ c.toInt = 2 ∨ c.toInt = 3 ∨ c.toInt = 4 ∨ c.toInt = 5 ∨ c.toInt = 6 ∨ c.toInt = 7 ∨ c.toInt = 8 ∨ c.toInt = 9 ∨ c.toInt = 10 ∨ c.toInt = 11 ∨ c.toInt = 12 ∨ c.toInt = 13 ∨ c.toInt = 14 ∨ c.toInt = 15 ∨ c.toInt = 16 ∨ c.toInt = 17 ∨ c.toInt = 18 ∨ c.toInt = 19 ∨ c.toInt = 20 := by omega
  rcases h with h | h | h | h | h | h | h | h | h | h | h | h | h | h | h | h | h | h | h | h | h
  · exact Or.inl (Int32.toInt_inj.mp h)
  · exact Or.inr (Or.inl (Int32.toInt_inj.mp h))
  · exact Or.inr (Or.inr (Or.inl (Int32.toInt_inj.mp h)))
  · exact Or.inr (Or.inr (Or.inr (Or.inl (Int32.toInt_inj.mp h))))
  · exact Or.inr (Or.inr (Or.inr (Or.inr (Or.inl (Int32.toInt_inj.mp h)))))
  · exact Or.inr (Or.inr (Or.inr (Or.inr (Or.inr (Or.inl (Int32.toInt_inj.mp h))))))
  · exact Or.inr (Or.inr (Or.inr (Or.inr (Or.inr (Or.inr (Or.inl (Int32.toInt_inj.mp h)))))))
  · exact Or.inr (Or.inr (Or.inr (Or.inr (Or.inr (Or.inr (Or.inr (Or.inl (Int32.toInt_inj.mp h))))))))
  · exact Or.inr (Or.inr (Or.inr (Or.inr (Or.inr (Or.inr (Or.inr (Or.inr (Or.inl (Int32.toInt_inj.mp h)))))))))
  · exact Or.inr (Or.inr (Or.inr (Or.inr (Or.inr (Or.inr (Or.inr (Or.inr (Or.inr (Or.inl (Int32.toInt_inj.mp h))))))))))
  · exact Or.inr (Or.inr (Or.inr (Or.inr (Or.inr (Or.inr (Or.inr (Or.inr (Or.inr (Or.inr (Or.inl (Int32.toInt_inj.mp h)))))))))))
  · exact Or.inr (Or.inr (Or.inr (Or.inr (Or.inr (Or.inr (Or.inr (Or.inr (Or.inr (Or.inr (Or.inr (Or.inl (Int32.toInt_inj.mp h))))))))))))
  · exact Or.inr (Or.inr (Or.inr (Or.inr (Or.inr (Or.inr (Or.inr (Or.inr (Or.inr (Or.inr (Or.inr (Or.inr (Or.inl (Int32.toInt_inj.mp h)))))))))))))
  · exact Or.inr (Or.inr (Or.inr (Or.inr (Or.inr (Or.inr (Or.inr (Or.inr (Or.inr (Or.inr (Or.inr (Or.inr (Or.inr (Or.inl (Int32.toInt_inj.mp h))))))))))))))
  · exact Or.inr (Or.inr (Or.inr (Or.inr (Or.inr (Or.inr (Or.inr (Or.inr (Or.inr (Or.inr (Or.inr (Or.inr (Or.inr (Or.inr (Or.inl (Int32.toInt_inj.mp h)))))))))))))))
  · exact Or.inr (Or.inr (Or.inr (Or.inr (Or.inr (Or.inr (Or.inr (Or.inr (Or.inr (Or.inr (Or.inr (Or.inr (Or.inr (Or.inr (Or.inr (Or.inl (Int32.toInt_inj.mp h))))))))))))))))
  · exact Or.inr (Or.inr (Or.inr (Or.inr (Or.inr (Or.inr (Or.inr (Or.inr (Or.inr (Or.inr (Or.inr (Or.inr (Or.inr (Or.inr (Or.inr (Or.inr (Or.inl (Int32.toInt_inj.mp h)))))))))))))))))
  · exact Or.inr (Or.inr (Or.inr (Or.inr (Or.inr (Or.inr (Or.inr (Or.inr (Or.inr (Or.inr (Or.inr (Or.inr (Or.inr (Or.inr (Or.inr (Or.inr (Or.inr (Or.inl (Int32.toInt_inj.mp h))))))))))))))))))
  · exact Or.inr (Or.inr (Or.inr (Or.inr (Or.inr (Or.inr (Or.inr (Or.inr (Or.inr (Or.inr (Or.inr (Or.inr (Or.inr (Or.inr (Or.inr (Or.inr (Or.inr (Or.inr (Or.inl (Int32.toInt_inj.mp h)))))))))))))))))))
  · exact Or.inr (Or.inr (Or.inr (Or.inr (Or.inr (Or.inr (Or.inr (Or.inr (Or.inr (Or.inr (Or.inr (Or.inr (Or.inr (Or.inr (Or.inr (Or.inr (Or.inr (Or.inr (Or.inr (Or.inl (Int32.toInt_inj.mp h))))))))))))))))))))
  · exact Or.inr (Or.inr (Or.inr (Or.inr (Or.inr (Or.inr (Or.inr (Or.inr (Or.inr (Or.inr (Or.inr (Or.inr (Or.inr (Or.inr (Or.inr (Or.inr (Or.inr (Or.inr (Or.inr (Or.inr ((Int32.toInt_inj.mp h)))))))))))))))))))))
theorem own_check (l : Launch) (Z : State) (a0 : Array Value) (hw : ∀ d ∈ tables_1, d.before a0 Z = true) (h0 : Heap) (a_BY_CODE : Addr) (a_BUFFERS : Addr) (a_HOLDABLE_CLASS : Addr) (a_UNPARK : Addr) (a_MONITOR_ENTER : Addr) (a_CPU_TIMER : Addr) (a_CLASS : Addr) (a_ALLOC_INTERVAL : Addr) (a_THREAD : Addr) (a_OPTIONS : Addr) (a_END : Addr) (a_STACK : Addr) (a_TIME : Addr) (a_UNDER_WAY : Addr) (a_PARK : Addr) (a_ALLOC_SAMPLE : Addr) (a_SAMPLE : Addr) (a_WALL_SAMPLE : Addr) (a_METHOD : Addr) (a_VIRTUAL_THREAD : Addr) (a_WALL_INTERVAL : Addr) (cl_BY_CODE : Cell) (hE : own_E Z h0 a_BY_CODE a_BUFFERS a_HOLDABLE_CLASS a_UNPARK a_MONITOR_ENTER a_CPU_TIMER a_CLASS a_ALLOC_INTERVAL a_THREAD a_OPTIONS a_END a_STACK a_TIME a_UNDER_WAY a_PARK a_ALLOC_SAMPLE a_SAMPLE a_WALL_SAMPLE a_METHOD a_VIRTUAL_THREAD a_WALL_INTERVAL cl_BY_CODE) (c : Int32) :
    own_Pure l Z h0 [] ({ frames := 1, cells := 0, slots := 0, locals := 12 } : Room) (⟨"com/example/tracewell/tracewell/RecordKindOfPinLaw", "check", "(I)Z"⟩ : MethodName) method_3_code 3 (some .boolean) #[(.int c)] (some (.int (1 : Int32))) := by
  by_cases f0 : c < (0 : Int32)
  · exact own_check_neg l Z a0 hw h0 a_BY_CODE a_BUFFERS a_HOLDABLE_CLASS a_UNPARK a_MONITOR_ENTER a_CPU_TIMER a_CLASS a_ALLOC_INTERVAL a_THREAD a_OPTIONS a_END a_STACK a_TIME a_UNDER_WAY a_PARK a_ALLOC_SAMPLE a_SAMPLE a_WALL_SAMPLE a_METHOD a_VIRTUAL_THREAD a_WALL_INTERVAL cl_BY_CODE hE c f0 (by rw [Int32.lt_iff_toInt_lt] at *; have e0 : (0 : Int32).toInt = 0 := rfl; have e1 : (1 : Int32).toInt = 1 := rfl; have e20 : (20 : Int32).toInt = 20 := rfl; have e21 : (21 : Int32).toInt = 21 := rfl; omega)
  by_cases f2 : c < (21 : Int32)
  · rcases own_21 c f0 f2 with rfl | rfl | rfl | rfl | rfl | rfl | rfl | rfl | rfl | rfl | rfl | rfl | rfl | rfl | rfl | rfl | rfl | rfl | rfl | rfl | rfl
    · exact own_check_0 l Z a0 hw h0 a_BY_CODE a_BUFFERS a_HOLDABLE_CLASS a_UNPARK a_MONITOR_ENTER a_CPU_TIMER a_CLASS a_ALLOC_INTERVAL a_THREAD a_OPTIONS a_END a_STACK a_TIME a_UNDER_WAY a_PARK a_ALLOC_SAMPLE a_SAMPLE a_WALL_SAMPLE a_METHOD a_VIRTUAL_THREAD a_WALL_INTERVAL cl_BY_CODE hE
    · exact own_check_1 l Z a0 hw h0 a_BY_CODE a_BUFFERS a_HOLDABLE_CLASS a_UNPARK a_MONITOR_ENTER a_CPU_TIMER a_CLASS a_ALLOC_INTERVAL a_THREAD a_OPTIONS a_END a_STACK a_TIME a_UNDER_WAY a_PARK a_ALLOC_SAMPLE a_SAMPLE a_WALL_SAMPLE a_METHOD a_VIRTUAL_THREAD a_WALL_INTERVAL cl_BY_CODE hE
    · exact own_check_2 l Z a0 hw h0 a_BY_CODE a_BUFFERS a_HOLDABLE_CLASS a_UNPARK a_MONITOR_ENTER a_CPU_TIMER a_CLASS a_ALLOC_INTERVAL a_THREAD a_OPTIONS a_END a_STACK a_TIME a_UNDER_WAY a_PARK a_ALLOC_SAMPLE a_SAMPLE a_WALL_SAMPLE a_METHOD a_VIRTUAL_THREAD a_WALL_INTERVAL cl_BY_CODE hE
    · exact own_check_3 l Z a0 hw h0 a_BY_CODE a_BUFFERS a_HOLDABLE_CLASS a_UNPARK a_MONITOR_ENTER a_CPU_TIMER a_CLASS a_ALLOC_INTERVAL a_THREAD a_OPTIONS a_END a_STACK a_TIME a_UNDER_WAY a_PARK a_ALLOC_SAMPLE a_SAMPLE a_WALL_SAMPLE a_METHOD a_VIRTUAL_THREAD a_WALL_INTERVAL cl_BY_CODE hE
    · exact own_check_4 l Z a0 hw h0 a_BY_CODE a_BUFFERS a_HOLDABLE_CLASS a_UNPARK a_MONITOR_ENTER a_CPU_TIMER a_CLASS a_ALLOC_INTERVAL a_THREAD a_OPTIONS a_END a_STACK a_TIME a_UNDER_WAY a_PARK a_ALLOC_SAMPLE a_SAMPLE a_WALL_SAMPLE a_METHOD a_VIRTUAL_THREAD a_WALL_INTERVAL cl_BY_CODE hE
    · exact own_check_5 l Z a0 hw h0 a_BY_CODE a_BUFFERS a_HOLDABLE_CLASS a_UNPARK a_MONITOR_ENTER a_CPU_TIMER a_CLASS a_ALLOC_INTERVAL a_THREAD a_OPTIONS a_END a_STACK a_TIME a_UNDER_WAY a_PARK a_ALLOC_SAMPLE a_SAMPLE a_WALL_SAMPLE a_METHOD a_VIRTUAL_THREAD a_WALL_INTERVAL cl_BY_CODE hE
    · exact own_check_6 l Z a0 hw h0 a_BY_CODE a_BUFFERS a_HOLDABLE_CLASS a_UNPARK a_MONITOR_ENTER a_CPU_TIMER a_CLASS a_ALLOC_INTERVAL a_THREAD a_OPTIONS a_END a_STACK a_TIME a_UNDER_WAY a_PARK a_ALLOC_SAMPLE a_SAMPLE a_WALL_SAMPLE a_METHOD a_VIRTUAL_THREAD a_WALL_INTERVAL cl_BY_CODE hE
    · exact own_check_7 l Z a0 hw h0 a_BY_CODE a_BUFFERS a_HOLDABLE_CLASS a_UNPARK a_MONITOR_ENTER a_CPU_TIMER a_CLASS a_ALLOC_INTERVAL a_THREAD a_OPTIONS a_END a_STACK a_TIME a_UNDER_WAY a_PARK a_ALLOC_SAMPLE a_SAMPLE a_WALL_SAMPLE a_METHOD a_VIRTUAL_THREAD a_WALL_INTERVAL cl_BY_CODE hE
    · exact own_check_8 l Z a0 hw h0 a_BY_CODE a_BUFFERS a_HOLDABLE_CLASS a_UNPARK a_MONITOR_ENTER a_CPU_TIMER a_CLASS a_ALLOC_INTERVAL a_THREAD a_OPTIONS a_END a_STACK a_TIME a_UNDER_WAY a_PARK a_ALLOC_SAMPLE a_SAMPLE a_WALL_SAMPLE a_METHOD a_VIRTUAL_THREAD a_WALL_INTERVAL cl_BY_CODE hE
    · exact own_check_9 l Z a0 hw h0 a_BY_CODE a_BUFFERS a_HOLDABLE_CLASS a_UNPARK a_MONITOR_ENTER a_CPU_TIMER a_CLASS a_ALLOC_INTERVAL a_THREAD a_OPTIONS a_END a_STACK a_TIME a_UNDER_WAY a_PARK a_ALLOC_SAMPLE a_SAMPLE a_WALL_SAMPLE a_METHOD a_VIRTUAL_THREAD a_WALL_INTERVAL cl_BY_CODE hE
    · exact own_check_10 l Z a0 hw h0 a_BY_CODE a_BUFFERS a_HOLDABLE_CLASS a_UNPARK a_MONITOR_ENTER a_CPU_TIMER a_CLASS a_ALLOC_INTERVAL a_THREAD a_OPTIONS a_END a_STACK a_TIME a_UNDER_WAY a_PARK a_ALLOC_SAMPLE a_SAMPLE a_WALL_SAMPLE a_METHOD a_VIRTUAL_THREAD a_WALL_INTERVAL cl_BY_CODE hE
    · exact own_check_11 l Z a0 hw h0 a_BY_CODE a_BUFFERS a_HOLDABLE_CLASS a_UNPARK a_MONITOR_ENTER a_CPU_TIMER a_CLASS a_ALLOC_INTERVAL a_THREAD a_OPTIONS a_END a_STACK a_TIME a_UNDER_WAY a_PARK a_ALLOC_SAMPLE a_SAMPLE a_WALL_SAMPLE a_METHOD a_VIRTUAL_THREAD a_WALL_INTERVAL cl_BY_CODE hE
    · exact own_check_12 l Z a0 hw h0 a_BY_CODE a_BUFFERS a_HOLDABLE_CLASS a_UNPARK a_MONITOR_ENTER a_CPU_TIMER a_CLASS a_ALLOC_INTERVAL a_THREAD a_OPTIONS a_END a_STACK a_TIME a_UNDER_WAY a_PARK a_ALLOC_SAMPLE a_SAMPLE a_WALL_SAMPLE a_METHOD a_VIRTUAL_THREAD a_WALL_INTERVAL cl_BY_CODE hE
    · exact own_check_13 l Z a0 hw h0 a_BY_CODE a_BUFFERS a_HOLDABLE_CLASS a_UNPARK a_MONITOR_ENTER a_CPU_TIMER a_CLASS a_ALLOC_INTERVAL a_THREAD a_OPTIONS a_END a_STACK a_TIME a_UNDER_WAY a_PARK a_ALLOC_SAMPLE a_SAMPLE a_WALL_SAMPLE a_METHOD a_VIRTUAL_THREAD a_WALL_INTERVAL cl_BY_CODE hE
    · exact own_check_14 l Z a0 hw h0 a_BY_CODE a_BUFFERS a_HOLDABLE_CLASS a_UNPARK a_MONITOR_ENTER a_CPU_TIMER a_CLASS a_ALLOC_INTERVAL a_THREAD a_OPTIONS a_END a_STACK a_TIME a_UNDER_WAY a_PARK a_ALLOC_SAMPLE a_SAMPLE a_WALL_SAMPLE a_METHOD a_VIRTUAL_THREAD a_WALL_INTERVAL cl_BY_CODE hE
    · exact own_check_15 l Z a0 hw h0 a_BY_CODE a_BUFFERS a_HOLDABLE_CLASS a_UNPARK a_MONITOR_ENTER a_CPU_TIMER a_CLASS a_ALLOC_INTERVAL a_THREAD a_OPTIONS a_END a_STACK a_TIME a_UNDER_WAY a_PARK a_ALLOC_SAMPLE a_SAMPLE a_WALL_SAMPLE a_METHOD a_VIRTUAL_THREAD a_WALL_INTERVAL cl_BY_CODE hE
    · exact own_check_16 l Z a0 hw h0 a_BY_CODE a_BUFFERS a_HOLDABLE_CLASS a_UNPARK a_MONITOR_ENTER a_CPU_TIMER a_CLASS a_ALLOC_INTERVAL a_THREAD a_OPTIONS a_END a_STACK a_TIME a_UNDER_WAY a_PARK a_ALLOC_SAMPLE a_SAMPLE a_WALL_SAMPLE a_METHOD a_VIRTUAL_THREAD a_WALL_INTERVAL cl_BY_CODE hE
    · exact own_check_17 l Z a0 hw h0 a_BY_CODE a_BUFFERS a_HOLDABLE_CLASS a_UNPARK a_MONITOR_ENTER a_CPU_TIMER a_CLASS a_ALLOC_INTERVAL a_THREAD a_OPTIONS a_END a_STACK a_TIME a_UNDER_WAY a_PARK a_ALLOC_SAMPLE a_SAMPLE a_WALL_SAMPLE a_METHOD a_VIRTUAL_THREAD a_WALL_INTERVAL cl_BY_CODE hE
    · exact own_check_18 l Z a0 hw h0 a_BY_CODE a_BUFFERS a_HOLDABLE_CLASS a_UNPARK a_MONITOR_ENTER a_CPU_TIMER a_CLASS a_ALLOC_INTERVAL a_THREAD a_OPTIONS a_END a_STACK a_TIME a_UNDER_WAY a_PARK a_ALLOC_SAMPLE a_SAMPLE a_WALL_SAMPLE a_METHOD a_VIRTUAL_THREAD a_WALL_INTERVAL cl_BY_CODE hE
    · exact own_check_19 l Z a0 hw h0 a_BY_CODE a_BUFFERS a_HOLDABLE_CLASS a_UNPARK a_MONITOR_ENTER a_CPU_TIMER a_CLASS a_ALLOC_INTERVAL a_THREAD a_OPTIONS a_END a_STACK a_TIME a_UNDER_WAY a_PARK a_ALLOC_SAMPLE a_SAMPLE a_WALL_SAMPLE a_METHOD a_VIRTUAL_THREAD a_WALL_INTERVAL cl_BY_CODE hE
    · exact own_check_20 l Z a0 hw h0 a_BY_CODE a_BUFFERS a_HOLDABLE_CLASS a_UNPARK a_MONITOR_ENTER a_CPU_TIMER a_CLASS a_ALLOC_INTERVAL a_THREAD a_OPTIONS a_END a_STACK a_TIME a_UNDER_WAY a_PARK a_ALLOC_SAMPLE a_SAMPLE a_WALL_SAMPLE a_METHOD a_VIRTUAL_THREAD a_WALL_INTERVAL cl_BY_CODE hE
  · exact own_check_big l Z a0 hw h0 a_BY_CODE a_BUFFERS a_HOLDABLE_CLASS a_UNPARK a_MONITOR_ENTER a_CPU_TIMER a_CLASS a_ALLOC_INTERVAL a_THREAD a_OPTIONS a_END a_STACK a_TIME a_UNDER_WAY a_PARK a_ALLOC_SAMPLE a_SAMPLE a_WALL_SAMPLE a_METHOD a_VIRTUAL_THREAD a_WALL_INTERVAL cl_BY_CODE hE c f0 (by rw [Int32.lt_iff_toInt_lt] at *; have e0 : (0 : Int32).toInt = 0 := rfl; have e1 : (1 : Int32).toInt = 1 := rfl; have e20 : (20 : Int32).toInt = 20 := rfl; have e21 : (21 : Int32).toInt = 21 := rfl; omega) f2 (by rw [Int32.lt_iff_toInt_lt] at *; have e0 : (0 : Int32).toInt = 0 := rfl; have e1 : (1 : Int32).toInt = 1 := rfl; have e20 : (20 : Int32).toInt = 20 := rfl; have e21 : (21 : Int32).toInt = 21 := rfl; omega)
set_option maxRecDepth 65536 in
set_option maxHeartbeats 40000000 in
theorem own_lawP (l : Launch) (Z : State) (a0 : Array Value) (hw : ∀ d ∈ tables_1, d.before a0 Z = true) (h0 : Heap) (a_BY_CODE : Addr) (a_BUFFERS : Addr) (a_HOLDABLE_CLASS : Addr) (a_UNPARK : Addr) (a_MONITOR_ENTER : Addr) (a_CPU_TIMER : Addr) (a_CLASS : Addr) (a_ALLOC_INTERVAL : Addr) (a_THREAD : Addr) (a_OPTIONS : Addr) (a_END : Addr) (a_STACK : Addr) (a_TIME : Addr) (a_UNDER_WAY : Addr) (a_PARK : Addr) (a_ALLOC_SAMPLE : Addr) (a_SAMPLE : Addr) (a_WALL_SAMPLE : Addr) (a_METHOD : Addr) (a_VIRTUAL_THREAD : Addr) (a_WALL_INTERVAL : Addr) (cl_BY_CODE : Cell) (hE : own_E Z h0 a_BY_CODE a_BUFFERS a_HOLDABLE_CLASS a_UNPARK a_MONITOR_ENTER a_CPU_TIMER a_CLASS a_ALLOC_INTERVAL a_THREAD a_OPTIONS a_END a_STACK a_TIME a_UNDER_WAY a_PARK a_ALLOC_SAMPLE a_SAMPLE a_WALL_SAMPLE a_METHOD a_VIRTUAL_THREAD a_WALL_INTERVAL cl_BY_CODE) (i j : Int32) :
    own_Pure l Z h0 tables_1 room_1 x code maxLocals ret #[(.int i), (.int j)] (some (.int (1 : Int32))) := by
  refine own_body (plainFor_of_name own_pn_1) ?_
  intro p e s m below meth c T0 X0 hx hby hml hown hZ e0 hret hlk hnm hnamed
  replace hown : s.vm.findClass "com/example/tracewell/tracewell/RecordKindOfPinLaw" = some m.cls := hown
  replace hml : c.maxLocals = 3 := hml
  have ef : entryFrame m #[(.int i), (.int j)] maxLocals = mkF m 0 #[.val (.int i), .val (.int j), .unset] [] := by first | (simp [entryFrame, mkF, argsToLocals, Value.category, maxLocals]; done) | rfl
  rw [ef]
  refine own_st (T' := T0) (g' := (mkF m 1 #[.val (.int i), .val (.int j), .unset] [(.int j)])) (fun _ k => XS.iloadN X0.here hx rfl (hb hby at_0) rfl k) ?_
  refine own_st (T' := T0) (g' := (mkF m 3 #[.val (.int i), .val (.int j), .unset] [(.int (31 : Int32)), (.int j)])) (fun _ k => XS.bipush X0.here hx rfl (hb hby at_1) k) ?_
  refine own_st (T' := T0) (g' := (mkF m 4 #[.val (.int i), .val (.int j), .unset] [(.int (j &&& (31 : Int32)))])) (fun _ k => XS.iand X0.here hx rfl (hb hby at_3) rfl k) ?_
  refine own_st (T' := T0) (g' := (mkF m 5 #[.val (.int i), .val (.int j), .unset] [(.int (5 : Int32)), (.int (j &&& (31 : Int32)))])) (fun _ k => XS.iconst X0.here hx rfl (hb hby at_4) k) ?_
  refine own_st (T' := T0) (g' := (mkF m 6 #[.val (.int i), .val (.int j), .unset] [(.int ((j &&& (31 : Int32)) - (5 : Int32)))])) (fun _ k => XS.isub X0.here hx rfl (hb hby at_5) rfl k) ?_
  refine own_st (T' := T0) (g' := (mkF m 7 #[.val (.int i), .val (.int j), .val (.int ((j &&& (31 : Int32)) - (5 : Int32)))] [])) (fun _ k => XS.istoreN X0.here hx rfl (hb hby at_6) rfl (l' := #[.val (.int i), .val (.int j), .val (.int ((j &&& (31 : Int32)) - (5 : Int32)))]) rfl k) ?_
  refine own_st (T' := T0) (g' := (mkF m 8 #[.val (.int i), .val (.int j), .val (.int ((j &&& (31 : Int32)) - (5 : Int32)))] [(.int i)])) (fun _ k => XS.iloadN X0.here hx rfl (hb hby at_7) rfl k) ?_
  obtain ⟨T1, X1, e1, st1⟩ := own_pure (w := (.int (1 : Int32))) rfl rfl (own_gS X0 hx hZ hown (hw _ (List.mem_of_getElem? (i := 0) rfl)) (hw _ (List.mem_of_getElem? (i := 1) rfl)) (hw _ (List.mem_of_getElem? (i := 2) rfl)) (hw _ (List.mem_of_getElem? (i := 3) rfl)) (by decide) e0 (own_check l Z a0 hw h0 a_BY_CODE a_BUFFERS a_HOLDABLE_CLASS a_UNPARK a_MONITOR_ENTER a_CPU_TIMER a_CLASS a_ALLOC_INTERVAL a_THREAD a_OPTIONS a_END a_STACK a_TIME a_UNDER_WAY a_PARK a_ALLOC_SAMPLE a_SAMPLE a_WALL_SAMPLE a_METHOD a_VIRTUAL_THREAD a_WALL_INTERVAL cl_BY_CODE hE i) (by decide) (by decide) (by decide) (by decide) (Q := fun v h L => v = some (.int (1 : Int32)) ∧ L = [] ∧ h = h0) (W := 0) (g := (mkF m 8 #[.val (.int i), .val (.int j), .val (.int ((j &&& (31 : Int32)) - (5 : Int32)))] [(.int i)])) (argsL := [(.int i)]) (rest := []) rfl (by rw [hml]; rfl) (lenOf own_pd_2 rfl) rfl (by show 2 * 0 + _ ≤ _; exact Nat.le_of_eq rfl) (hb hby at_8))
  refine own_st (T' := T1) (g' := (mkF m 11 #[.val (.int i), .val (.int j), .val (.int ((j &&& (31 : Int32)) - (5 : Int32)))] [(.int (1 : Int32))])) st1 ?_
  refine own_st (T' := T1) (g' := (mkF m 14 #[.val (.int i), .val (.int j), .val (.int ((j &&& (31 : Int32)) - (5 : Int32)))] [])) (fun _ k => XS.ifNo X1.here hx rfl (hb hby at_11) rfl (by decide) k) ?_
  refine own_st (T' := T1) (g' := (mkF m 15 #[.val (.int i), .val (.int j), .val (.int ((j &&& (31 : Int32)) - (5 : Int32)))] [(.int ((j &&& (31 : Int32)) - (5 : Int32)))])) (fun _ k => XS.iloadN X1.here hx rfl (hb hby at_14) rfl k) ?_
  obtain ⟨T2, X2, e2, st2⟩ := own_pure (w := (.int (1 : Int32))) rfl rfl (own_gS X1 hx hZ hown (hw _ (List.mem_of_getElem? (i := 0) rfl)) (hw _ (List.mem_of_getElem? (i := 1) rfl)) (hw _ (List.mem_of_getElem? (i := 2) rfl)) (hw _ (List.mem_of_getElem? (i := 3) rfl)) (by decide) e1 (own_check l Z a0 hw h0 a_BY_CODE a_BUFFERS a_HOLDABLE_CLASS a_UNPARK a_MONITOR_ENTER a_CPU_TIMER a_CLASS a_ALLOC_INTERVAL a_THREAD a_OPTIONS a_END a_STACK a_TIME a_UNDER_WAY a_PARK a_ALLOC_SAMPLE a_SAMPLE a_WALL_SAMPLE a_METHOD a_VIRTUAL_THREAD a_WALL_INTERVAL cl_BY_CODE hE ((j &&& (31 : Int32)) - (5 : Int32))) (by decide) (by decide) (by decide) (by decide) (Q := fun v h L => v = some (.int (1 : Int32)) ∧ L = [] ∧ h = h0) (W := 0) (g := (mkF m 15 #[.val (.int i), .val (.int j), .val (.int ((j &&& (31 : Int32)) - (5 : Int32)))] [(.int ((j &&& (31 : Int32)) - (5 : Int32)))])) (argsL := [(.int ((j &&& (31 : Int32)) - (5 : Int32)))]) (rest := []) rfl (by rw [hml]; rfl) (lenOf own_pd_2 rfl) rfl (by show 2 * 0 + _ ≤ _; exact Nat.le_of_eq rfl) (hb hby at_15))
  refine own_st (T' := T2) (g' := (mkF m 18 #[.val (.int i), .val (.int j), .val (.int ((j &&& (31 : Int32)) - (5 : Int32)))] [(.int (1 : Int32))])) st2 ?_
  refine own_st (T' := T2) (g' := (mkF m 21 #[.val (.int i), .val (.int j), .val (.int ((j &&& (31 : Int32)) - (5 : Int32)))] [])) (fun _ k => XS.ifNo X2.here hx rfl (hb hby at_18) rfl (by decide) k) ?_
  refine own_st (T' := T2) (g' := (mkF m 22 #[.val (.int i), .val (.int j), .val (.int ((j &&& (31 : Int32)) - (5 : Int32)))] [(.int (1 : Int32))])) (fun _ k => XS.iconst X2.here hx rfl (hb hby at_21) k) ?_
  refine own_st (T' := T2) (g' := (mkF m 26 #[.val (.int i), .val (.int j), .val (.int ((j &&& (31 : Int32)) - (5 : Int32)))] [(.int (1 : Int32))])) (fun _ k => XS.goto X2.here hx rfl (pc0 := 22) (pc' := 26) rfl (hb hby at_22) (by decide) (by decide) k) ?_
  exact own_ret X2 hx hlk hret rfl (Or.inl ⟨rfl, Or.inr (Or.inl rfl), _, rfl⟩) (hb hby at_26) (by decide) (by decide) ⟨rfl, rfl, e2⟩
/-! ### from the case's words to the owed theorems -/
theorem own_comes (H : ∀ (l : Launch) (s : State) (args : Array Value), Fit s → (∀ d ∈ tables_1, d.before args s = true) → given_1.value args s none s [] = some true → narrow_1.value args s none s [] = some true → own_Met l s s.heap tables_1 room_1 x code maxLocals ret args (fun v h L => v = some (.int 1) ∧ Fr s.heap.size L))
    {Post : Tables → Env → Array Value → State → Outcome → State → Prop} (hpost : ∀ tb e args s v u, (limb_1_1.after args s (.returned v) u = true ∧ limb_1_2.after args s (.returned v) u = true) → FrameEnd s (.returned v) u (Jvm.fieldLocs frame_1_writes args s ++ Jvm.arrayLocs frame_1_arrays args s ++ Jvm.staticLocs frame_1_statics s) 0 0 → Post tb e args s (.returned v) u) :
    ArmFor flags0 classFile x code maxLocals ret World_1 tables_1 room_1 Calls_1 rest_1 Pre_1 Post := by
  intro l hfl _ _ p e ha hc hk s m args below hf hA hF happ hP
  obtain ⟨hcalls, hrest, hpre⟩ := hP
  obtain ⟨-, -, -, hnamed, -, -, -, hat⟩ := (Spec.applies_iff hf).mp happ
  obtain ⟨hg, hn⟩ := and_e (Cond.before_iff.mp (show (Jvm.Cond.and given_1 narrow_1).before args s = true from hpre))
  have hw := fun d (hd : d ∈ tables_1) => atoms_spec (ws := Jvm.Cond.code x code maxLocals ret :: tables_1) hat d (List.mem_cons_of_mem _ hd)
  have hfit : Fit s := fun {y c} hc i hi => by
    obtain ⟨ha, rfl⟩ := Array.getElem?_eq_some_iff.mp hc
    have q := List.all_eq_true.mp ((Array.all_eq_true_iff_forall_mem.mp hF) _ (Array.getElem_mem ha)) i (List.mem_range.mpr hi)
    simpa [Array.getElem?_eq_getElem hi] using q
  obtain ⟨n, o, h1, h2, h3, _, L, rfl, ⟨rfl, N⟩, hq⟩ := H l s args hfit hw hg hn p e ha hc hk s m args below hf ((Spec.applies_iff_loose hf).mp happ).1 ⟨rfl, State.Warmed39.refl s, rfl⟩ trivial
  exact ⟨n, _, h1, h2, h3, hpost _ _ _ _ _ _ ⟨Cond.after_iff.mpr rfl, Cond.after_iff.mpr (eq_i res_at (Term.int_eval (1)) rfl)⟩ ⟨hq.1, hq.2.1, (hq.2.2.sift fun y hy => Or.inr (N y hy)).mono (by decide) (by decide)⟩⟩
set_option maxRecDepth 65536 in
theorem own_law (l : Launch) (s : State) (args : Array Value) (hfit : Fit s) (hw : ∀ d ∈ tables_1, d.before args s = true) (hg : given_1.value args s none s [] = some true) (hn : narrow_1.value args s none s [] = some true) :
    own_Met l s s.heap tables_1 room_1 x code maxLocals ret args (fun v h L => v = some (.int 1) ∧ Fr s.heap.size L) := by
  obtain ⟨i, j, rfl⟩ := own_args2 (k := 0) hg
  obtain ⟨n0a, n0b⟩ := and_e hn
  obtain ⟨n1a, n1b⟩ := and_e n0b
  obtain ⟨n2a, n2b⟩ := and_e n1b
  obtain ⟨n3a, n3b⟩ := and_e n2b
  obtain ⟨n4a, n4b⟩ := and_e n3b
  obtain ⟨n5a, n5b⟩ := and_e n4b
  obtain ⟨n6a, n6b⟩ := and_e n5b
  obtain ⟨n7a, n7b⟩ := and_e n6b
  obtain ⟨n8a, n8b⟩ := and_e n7b
  obtain ⟨n9a, n9b⟩ := and_e n8b
  obtain ⟨n10a, n10b⟩ := and_e n9b
  obtain ⟨n11a, n11b⟩ := and_e n10b
  obtain ⟨n12a, n12b⟩ := and_e n11b
  obtain ⟨n13a, n13b⟩ := and_e n12b
  obtain ⟨n14a, n14b⟩ := and_e n13b
  obtain ⟨n15a, n15b⟩ := and_e n14b
  obtain ⟨n16a, n16b⟩ := and_e n15b
  obtain ⟨n17a, n17b⟩ := and_e n16b
  obtain ⟨n18a, n18b⟩ := and_e n17b
  obtain ⟨n19a, n19b⟩ := and_e n18b
  obtain ⟨n20a, n20b⟩ := and_e n19b
  obtain ⟨n21a, n21b⟩ := and_e n20b
  obtain ⟨n22a, n22b⟩ := and_e n21b
  obtain ⟨n23a, n23b⟩ := and_e n22b
  obtain ⟨n24a, n24b⟩ := and_e n23b
  obtain ⟨n25a, n25b⟩ := and_e n24b
  obtain ⟨n26a, n26b⟩ := and_e n25b
  obtain ⟨n27a, n27b⟩ := and_e n26b
  obtain ⟨n28a, n28b⟩ := and_e n27b
  obtain ⟨n29a, n29b⟩ := and_e n28b
  obtain ⟨n30a, n30b⟩ := and_e n29b
  obtain ⟨n31a, n31b⟩ := and_e n30b
  obtain ⟨n32a, n32b⟩ := and_e n31b
  obtain ⟨n33a, n33b⟩ := and_e n32b
  obtain ⟨n34a, n34b⟩ := and_e n33b
  obtain ⟨n35a, n35b⟩ := and_e n34b
  obtain ⟨n36a, n36b⟩ := and_e n35b
  obtain ⟨n37a, n37b⟩ := and_e n36b
  obtain ⟨n38a, n38b⟩ := and_e n37b
  obtain ⟨n39a, n39b⟩ := and_e n38b
  obtain ⟨n40a, n40b⟩ := and_e n39b
  obtain ⟨n41a, n41b⟩ := and_e n40b
  obtain ⟨n42a, n42b⟩ := and_e n41b
  obtain ⟨n43a, n43b⟩ := and_e n42b
  obtain ⟨n44a, n44b⟩ := and_e n43b
  obtain ⟨n45a, n45b⟩ := and_e n44b
  obtain ⟨n46a, n46b⟩ := and_e n45b
  obtain ⟨n47a, n47b⟩ := and_e n46b
  obtain ⟨n48a, n48b⟩ := and_e n47b
  obtain ⟨n49a, n49b⟩ := and_e n48b
  obtain ⟨n50a, n50b⟩ := and_e n49b
  obtain ⟨n51a, n51b⟩ := and_e n50b
  obtain ⟨n52a, n52b⟩ := and_e n51b
  obtain ⟨n53a, n53b⟩ := and_e n52b
  obtain ⟨n54a, n54b⟩ := and_e n53b
  obtain ⟨n55a, n55b⟩ := and_e n54b
  obtain ⟨n56a, n56b⟩ := and_e n55b
  obtain ⟨n57a, n57b⟩ := and_e n56b
  obtain ⟨n58a, n58b⟩ := and_e n57b
  obtain ⟨n59a, n59b⟩ := and_e n58b
  obtain ⟨n60a, n60b⟩ := and_e n59b
  obtain ⟨n61a, n61b⟩ := and_e n60b
  obtain ⟨a_BY_CODE, cl_BY_CODE, V_BY_CODE, A_BY_CODE, S_BY_CODE⟩ := own_ax n0a (hw _ (List.mem_of_getElem? (i := 6) rfl)) (hw _ (List.mem_of_getElem? (i := 9) rfl))
  have Z_BY_CODE := own_len V_BY_CODE A_BY_CODE n1a
  have Y_BY_CODE_0 := own_eln V_BY_CODE A_BY_CODE n2a
  obtain ⟨a_BUFFERS, V_BUFFERS, E_BUFFERS, S_BUFFERS⟩ := own_sx n3a (hw _ (List.mem_of_getElem? (i := 6) rfl)) (hw _ (List.mem_of_getElem? (i := 10) rfl))
  have Y_BY_CODE_14 := own_elr V_BY_CODE A_BY_CODE V_BUFFERS n4a
  have F_BUFFERS_code := own_fi V_BUFFERS n5a
  obtain ⟨a_HOLDABLE_CLASS, V_HOLDABLE_CLASS, E_HOLDABLE_CLASS, S_HOLDABLE_CLASS⟩ := own_sx n6a (hw _ (List.mem_of_getElem? (i := 6) rfl)) (hw _ (List.mem_of_getElem? (i := 18) rfl))
  have Y_BY_CODE_15 := own_elr V_BY_CODE A_BY_CODE V_HOLDABLE_CLASS n7a
  have F_HOLDABLE_CLASS_code := own_fi V_HOLDABLE_CLASS n8a
  obtain ⟨a_UNPARK, V_UNPARK, E_UNPARK, S_UNPARK⟩ := own_sx n9a (hw _ (List.mem_of_getElem? (i := 6) rfl)) (hw _ (List.mem_of_getElem? (i := 19) rfl))
  have Y_BY_CODE_8 := own_elr V_BY_CODE A_BY_CODE V_UNPARK n10a
  have F_UNPARK_code := own_fi V_UNPARK n11a
  obtain ⟨a_MONITOR_ENTER, V_MONITOR_ENTER, E_MONITOR_ENTER, S_MONITOR_ENTER⟩ := own_sx n12a (hw _ (List.mem_of_getElem? (i := 6) rfl)) (hw _ (List.mem_of_getElem? (i := 20) rfl))
  have Y_BY_CODE_6 := own_elr V_BY_CODE A_BY_CODE V_MONITOR_ENTER n13a
  have F_MONITOR_ENTER_code := own_fi V_MONITOR_ENTER n14a
  obtain ⟨a_CPU_TIMER, V_CPU_TIMER, E_CPU_TIMER, S_CPU_TIMER⟩ := own_sx n15a (hw _ (List.mem_of_getElem? (i := 6) rfl)) (hw _ (List.mem_of_getElem? (i := 21) rfl))
  have Y_BY_CODE_12 := own_elr V_BY_CODE A_BY_CODE V_CPU_TIMER n16a
  have F_CPU_TIMER_code := own_fi V_CPU_TIMER n17a
  obtain ⟨a_CLASS, V_CLASS, E_CLASS, S_CLASS⟩ := own_sx n18a (hw _ (List.mem_of_getElem? (i := 6) rfl)) (hw _ (List.mem_of_getElem? (i := 22) rfl))
  have Y_BY_CODE_3 := own_elr V_BY_CODE A_BY_CODE V_CLASS n19a
  have F_CLASS_code := own_fi V_CLASS n20a
  obtain ⟨a_ALLOC_INTERVAL, V_ALLOC_INTERVAL, E_ALLOC_INTERVAL, S_ALLOC_INTERVAL⟩ := own_sx n21a (hw _ (List.mem_of_getElem? (i := 6) rfl)) (hw _ (List.mem_of_getElem? (i := 23) rfl))
  have Y_BY_CODE_18 := own_elr V_BY_CODE A_BY_CODE V_ALLOC_INTERVAL n22a
  have F_ALLOC_INTERVAL_code := own_fi V_ALLOC_INTERVAL n23a
  obtain ⟨a_THREAD, V_THREAD, E_THREAD, S_THREAD⟩ := own_sx n24a (hw _ (List.mem_of_getElem? (i := 6) rfl)) (hw _ (List.mem_of_getElem? (i := 24) rfl))
  have Y_BY_CODE_1 := own_elr V_BY_CODE A_BY_CODE V_THREAD n25a
  have F_THREAD_code := own_fi V_THREAD n26a
  obtain ⟨a_OPTIONS, V_OPTIONS, E_OPTIONS, S_OPTIONS⟩ := own_sx n27a (hw _ (List.mem_of_getElem? (i := 6) rfl)) (hw _ (List.mem_of_getElem? (i := 25) rfl))
  have Y_BY_CODE_20 := own_elr V_BY_CODE A_BY_CODE V_OPTIONS n28a
  have F_OPTIONS_code := own_fi V_OPTIONS n29a
  obtain ⟨a_END, V_END, E_END, S_END⟩ := own_sx n30a (hw _ (List.mem_of_getElem? (i := 6) rfl)) (hw _ (List.mem_of_getElem? (i := 26) rfl))
  have Y_BY_CODE_2 := own_elr V_BY_CODE A_BY_CODE V_END n31a
  have F_END_code := own_fi V_END n32a
  obtain ⟨a_STACK, V_STACK, E_STACK, S_STACK⟩ := own_sx n33a (hw _ (List.mem_of_getElem? (i := 6) rfl)) (hw _ (List.mem_of_getElem? (i := 27) rfl))
  have Y_BY_CODE_5 := own_elr V_BY_CODE A_BY_CODE V_STACK n34a
  have F_STACK_code := own_fi V_STACK n35a
  obtain ⟨a_TIME, V_TIME, E_TIME, S_TIME⟩ := own_sx n36a (hw _ (List.mem_of_getElem? (i := 6) rfl)) (hw _ (List.mem_of_getElem? (i := 28) rfl))
  have Y_BY_CODE_11 := own_elr V_BY_CODE A_BY_CODE V_TIME n37a
  have F_TIME_code := own_fi V_TIME n38a
  obtain ⟨a_UNDER_WAY, V_UNDER_WAY, E_UNDER_WAY, S_UNDER_WAY⟩ := own_sx n39a (hw _ (List.mem_of_getElem? (i := 6) rfl)) (hw _ (List.mem_of_getElem? (i := 29) rfl))
  have Y_BY_CODE_10 := own_elr V_BY_CODE A_BY_CODE V_UNDER_WAY n40a
  have F_UNDER_WAY_code := own_fi V_UNDER_WAY n41a
  obtain ⟨a_PARK, V_PARK, E_PARK, S_PARK⟩ := own_sx n42a (hw _ (List.mem_of_getElem? (i := 6) rfl)) (hw _ (List.mem_of_getElem? (i := 30) rfl))
  have Y_BY_CODE_7 := own_elr V_BY_CODE A_BY_CODE V_PARK n43a
  have F_PARK_code := own_fi V_PARK n44a
  obtain ⟨a_ALLOC_SAMPLE, V_ALLOC_SAMPLE, E_ALLOC_SAMPLE, S_ALLOC_SAMPLE⟩ := own_sx n45a (hw _ (List.mem_of_getElem? (i := 6) rfl)) (hw _ (List.mem_of_getElem? (i := 31) rfl))
  have Y_BY_CODE_19 := own_elr V_BY_CODE A_BY_CODE V_ALLOC_SAMPLE n46a
  have F_ALLOC_SAMPLE_code := own_fi V_ALLOC_SAMPLE n47a
  obtain ⟨a_SAMPLE, V_SAMPLE, E_SAMPLE, S_SAMPLE⟩ := own_sx n48a (hw _ (List.mem_of_getElem? (i := 6) rfl)) (hw _ (List.mem_of_getElem? (i := 32) rfl))
  have Y_BY_CODE_9 := own_elr V_BY_CODE A_BY_CODE V_SAMPLE n49a
  have F_SAMPLE_code := own_fi V_SAMPLE n50a
  obtain ⟨a_WALL_SAMPLE, V_WALL_SAMPLE, E_WALL_SAMPLE, S_WALL_SAMPLE⟩ := own_sx n51a (hw _ (List.mem_of_getElem? (i := 6) rfl)) (hw _ (List.mem_of_getElem? (i := 33) rfl))
  have Y_BY_CODE_17 := own_elr V_BY_CODE A_BY_CODE V_WALL_SAMPLE n52a
  have F_WALL_SAMPLE_code := own_fi V_WALL_SAMPLE n53a
  obtain ⟨a_METHOD, V_METHOD, E_METHOD, S_METHOD⟩ := own_sx n54a (hw _ (List.mem_of_getElem? (i := 6) rfl)) (hw _ (List.mem_of_getElem? (i := 34) rfl))
  have Y_BY_CODE_4 := own_elr V_BY_CODE A_BY_CODE V_METHOD n55a
  have F_METHOD_code := own_fi V_METHOD n56a
  obtain ⟨a_VIRTUAL_THREAD, V_VIRTUAL_THREAD, E_VIRTUAL_THREAD, S_VIRTUAL_THREAD⟩ := own_sx n57a (hw _ (List.mem_of_getElem? (i := 6) rfl)) (hw _ (List.mem_of_getElem? (i := 35) rfl))
  have Y_BY_CODE_13 := own_elr V_BY_CODE A_BY_CODE V_VIRTUAL_THREAD n58a
  have F_VIRTUAL_THREAD_code := own_fi V_VIRTUAL_THREAD n59a
  obtain ⟨a_WALL_INTERVAL, V_WALL_INTERVAL, E_WALL_INTERVAL, S_WALL_INTERVAL⟩ := own_sx n60a (hw _ (List.mem_of_getElem? (i := 6) rfl)) (hw _ (List.mem_of_getElem? (i := 36) rfl))
  have Y_BY_CODE_16 := own_elr V_BY_CODE A_BY_CODE V_WALL_INTERVAL n61a
  have F_WALL_INTERVAL_code := own_fi V_WALL_INTERVAL n61b
  have hE : own_E s s.heap a_BY_CODE a_BUFFERS a_HOLDABLE_CLASS a_UNPARK a_MONITOR_ENTER a_CPU_TIMER a_CLASS a_ALLOC_INTERVAL a_THREAD a_OPTIONS a_END a_STACK a_TIME a_UNDER_WAY a_PARK a_ALLOC_SAMPLE a_SAMPLE a_WALL_SAMPLE a_METHOD a_VIRTUAL_THREAD a_WALL_INTERVAL cl_BY_CODE := ⟨S_BY_CODE, S_BUFFERS, S_HOLDABLE_CLASS, S_UNPARK, S_MONITOR_ENTER, S_CPU_TIMER, S_CLASS, S_ALLOC_INTERVAL, S_THREAD, S_OPTIONS, S_END, S_STACK, S_TIME, S_UNDER_WAY, S_PARK, S_ALLOC_SAMPLE, S_SAMPLE, S_WALL_SAMPLE, S_METHOD, S_VIRTUAL_THREAD, S_WALL_INTERVAL, A_BY_CODE, Z_BY_CODE, Y_BY_CODE_0, Y_BY_CODE_1, Y_BY_CODE_2, Y_BY_CODE_3, Y_BY_CODE_4, Y_BY_CODE_5, Y_BY_CODE_6, Y_BY_CODE_7, Y_BY_CODE_8, Y_BY_CODE_9, Y_BY_CODE_10, Y_BY_CODE_11, Y_BY_CODE_12, Y_BY_CODE_13, Y_BY_CODE_14, Y_BY_CODE_15, Y_BY_CODE_16, Y_BY_CODE_17, Y_BY_CODE_18, Y_BY_CODE_19, Y_BY_CODE_20, E_BUFFERS, E_HOLDABLE_CLASS, E_UNPARK, E_MONITOR_ENTER, E_CPU_TIMER, E_CLASS, E_ALLOC_INTERVAL, E_THREAD, E_OPTIONS, E_END, E_STACK, E_TIME, E_UNDER_WAY, E_PARK, E_ALLOC_SAMPLE, E_SAMPLE, E_WALL_SAMPLE, E_METHOD, E_VIRTUAL_THREAD, E_WALL_INTERVAL, F_BUFFERS_code, F_HOLDABLE_CLASS_code, F_UNPARK_code, F_MONITOR_ENTER_code, F_CPU_TIMER_code, F_CLASS_code, F_ALLOC_INTERVAL_code, F_THREAD_code, F_OPTIONS_code, F_END_code, F_STACK_code, F_TIME_code, F_UNDER_WAY_code, F_PARK_code, F_ALLOC_SAMPLE_code, F_SAMPLE_code, F_WALL_SAMPLE_code, F_METHOD_code, F_VIRTUAL_THREAD_code, F_WALL_INTERVAL_code, trivial⟩
  exact own_weaken (own_lawP l s _ hw s.heap a_BY_CODE a_BUFFERS a_HOLDABLE_CLASS a_UNPARK a_MONITOR_ENTER a_CPU_TIMER a_CLASS a_ALLOC_INTERVAL a_THREAD a_OPTIONS a_END a_STACK a_TIME a_UNDER_WAY a_PARK a_ALLOC_SAMPLE a_SAMPLE a_WALL_SAMPLE a_METHOD a_VIRTUAL_THREAD a_WALL_INTERVAL cl_BY_CODE hE i j)
theorem main_1_1 : Claimed_1_1 := own_comes own_law fun _ _ _ _ _ _ h hF => ⟨h.1, hF⟩
theorem main_1_2 : Claimed_1_2 := own_comes own_law fun _ _ _ _ _ _ h hF => ⟨h.2, hF⟩
end Jvm.Pilot.@@N@@
namespace Jvm.Pilot.@@N@@
open Jvm Jvm.ClassFile Sem Op Lib Jvm.Free Jvm.Stand Jvm.Pilot.@@N@@.Jvm.D
/-! MADE BY PROGRAM (witnessworld.py) out of the Statement's table words and the real class files: 13 classes; the members and pool entries that the words name. The judged class is class 1, her method 1. -/
namespace start1
open Jvm.ClassFile
def u (s : String) : CpInfo := .utf8 (stringToUtf16 s)
/-- a pool by its gaps: so many unusable entries, then the entry; so many at the end -/
def gap : Nat → List CpInfo → List CpInfo
  | 0, r => r
  | n + 1, r => .unusable :: gap n r
def poolList (es : List (Nat × CpInfo)) (last : Nat) : List CpInfo := es.foldr (fun e r => gap e.1 (e.2 :: r)) (gap last [])
def pool (es : List (Nat × CpInfo)) (last : Nat) : Array CpInfo := ⟨poolList es last⟩
def fileOf (pool : Array CpInfo) (this : Nat) (attrs : Array Attribute := #[]) (ms : Array MethodInfo := #[]) (fl : Nat := 33) (sup : Nat := 0) (ifs : Array Nat := #[]) (fds : Array FieldInfo := #[]) : ClassFile where
  minorVersion := 0
  majorVersion := 65
  constantPool := pool
  accessFlags := fl
  thisClass := this
  superClass := sup
  interfaces := ifs
  fields := fds
  methods := ms
  attributes := attrs
def plain (name : String) (sup : Option ClassId) : Class where
  name := name
  kind := .ordinary
  loader := none
  accessFlags := 33
  super := sup
  interfaces := #[]
  cf := none
  fields := #[]
  methods := #[]
  instanceTypes := #[]
  staticTypes := #[]
  resolved := #[]
  callSites := []
  init := .initialized
  statics := none
  mirror := none

def pool0 : Array CpInfo := pool [(5, u "<init>"), (0, u "()V"), (1, .class_ 10), (1, u "java/lang/Object")] 113

def k0m0 : Method := { name := "<init>", desc := "()V", sig := { parameters := [], returnType := none }, accessFlags := 1, code := none }
/-- java/lang/Object -/
def k0 : Class := { plain "java/lang/Object" none with
  accessFlags := 33
  interfaces := #[]
  cf := some (fileOf pool0 8 #[] #[{ accessFlags := 1, nameIndex := 5, descriptorIndex := 6, attributes := #[] }] 33 0 #[] #[])
  fields := #[]
  methods := #[k0m0]
  instanceTypes := #[]
  staticTypes := #[]
  resolved := Array.replicate 124 none
  statics := none }

def pool1 : Array CpInfo := pool [(2, .class_ 4), (1, u "java/lang/Object"), (0, u "<init>"), (0, u "()V"), (0, .methodref 8 9), (0, .class_ 10), (0, .nameAndType 11 12), (0, u "com/example/tracewell/tracewell/RecordKindOfPinLaw"), (0, u "check"), (0, u "(I)Z"), (0, .methodref 14 15), (0, .class_ 16), (0, .nameAndType 17 18), (0, u "com/example/tracewell/tracewell/RecordKind"), (0, u "of"), (0, u "(I)Lcom/example/tracewell/tracewell/RecordKind;"), (0, .methodref 14 20), (0, .nameAndType 21 22), (0, u "code"), (0, u "()I"), (2, u "law"), (0, u "(II)Z")] 3

def k1m0 : Method := { name := "<init>", desc := "()V", sig := { parameters := [], returnType := none }, accessFlags := 2, code := none }
def k1c1 : Code := { maxStack := 2, maxLocals := 3, code := code, exceptionTable := #[], attributes := #[] }
def k1m1 : Method := { name := "law", desc := "(II)Z", sig := { parameters := [.int, .int], returnType := some .boolean }, accessFlags := 9, code := some k1c1 }
def k1c2 : Code := { maxStack := 2, maxLocals := 3, code := method_3_code, exceptionTable := #[], attributes := #[] }
def k1m2 : Method := { name := "check", desc := "(I)Z", sig := { parameters := [.int], returnType := some .boolean }, accessFlags := 10, code := some k1c2 }
/-- com/example/tracewell/tracewell/RecordKindOfPinLaw -/
def k1 : Class := { plain "com/example/tracewell/tracewell/RecordKindOfPinLaw" (some 0) with
  accessFlags := 49
  interfaces := #[]
  cf := some (fileOf pool1 8 #[] #[{ accessFlags := 2, nameIndex := 5, descriptorIndex := 6, attributes := #[] }, { accessFlags := 9, nameIndex := 25, descriptorIndex := 26, attributes := #[] }, { accessFlags := 10, nameIndex := 11, descriptorIndex := 12, attributes := #[] }] 49 2 #[] #[])
  fields := #[]
  methods := #[k1m0, k1m1, k1m2]
  instanceTypes := #[]
  staticTypes := #[]
  resolved := Array.replicate 30 none
  statics := none }

def pool2 : Array CpInfo := pool [(1, .class_ 2), (0, u "java/lang/constant/Constable"), (0, .class_ 4), (0, u "java/lang/Object")] 6

/-- java/lang/constant/Constable -/
def k2 : Class := { plain "java/lang/constant/Constable" (some 0) with
  accessFlags := 1537
  interfaces := #[]
  cf := some (fileOf pool2 1 #[] #[] 1537 3 #[] #[])
  fields := #[]
  methods := #[]
  instanceTypes := #[]
  staticTypes := #[]
  resolved := Array.replicate 11 none
  statics := none }

def pool3 : Array CpInfo := pool [(1, .class_ 2), (0, u "java/lang/Comparable"), (0, .class_ 4), (0, u "java/lang/Object")] 7

/-- java/lang/Comparable -/
def k3 : Class := { plain "java/lang/Comparable" (some 0) with
  accessFlags := 1537
  interfaces := #[]
  cf := some (fileOf pool3 1 #[] #[] 1537 3 #[] #[])
  fields := #[]
  methods := #[]
  instanceTypes := #[]
  staticTypes := #[]
  resolved := Array.replicate 12 none
  statics := none }

def pool4 : Array CpInfo := pool [(1, .class_ 2), (0, u "java/io/Serializable"), (0, .class_ 4), (0, u "java/lang/Object")] 2

/-- java/io/Serializable -/
def k4 : Class := { plain "java/io/Serializable" (some 0) with
  accessFlags := 1537
  interfaces := #[]
  cf := some (fileOf pool4 1 #[] #[] 1537 3 #[] #[])
  fields := #[]
  methods := #[]
  instanceTypes := #[]
  staticTypes := #[]
  resolved := Array.replicate 7 none
  statics := none }

def pool5 : Array CpInfo := pool [(2, .class_ 4), (1, u "java/lang/Enum"), (0, u "name"), (0, u "Ljava/lang/String;"), (2, u "ordinal"), (0, u "I"), (1, .class_ 14), (1, u "java/lang/Object"), (4, u "hash"), (86, .class_ 108), (1, u "java/lang/Enum$EnumDesc"), (2, .class_ 112), (0, u "java/lang/constant/Constable"), (0, .class_ 114), (0, u "java/lang/Comparable"), (0, .class_ 116), (0, u "java/io/Serializable")] 87

/-- java/lang/Enum -/
def k5 : Class := { plain "java/lang/Enum" (some 0) with
  accessFlags := 1057
  interfaces := #[2, 3, 4]
  cf := some (fileOf pool5 2 #[.nestMembers #[106]] #[] 1057 12 #[111, 113, 115] #[{ accessFlags := 18, nameIndex := 5, descriptorIndex := 6, attributes := #[] }, { accessFlags := 18, nameIndex := 9, descriptorIndex := 10, attributes := #[] }, { accessFlags := 2, nameIndex := 19, descriptorIndex := 10, attributes := #[] }])
  fields := #[{ name := "name", type := (.object "java/lang/String"), accessFlags := 18, slot := 0, constantValue := 0 }, { name := "ordinal", type := .int, accessFlags := 18, slot := 1, constantValue := 0 }, { name := "hash", type := .int, accessFlags := 2, slot := 2, constantValue := 0 }]
  methods := #[]
  instanceTypes := #[(.object "java/lang/String"), .int, .int]
  staticTypes := #[]
  resolved := Array.replicate 204 none
  statics := none }

def pool6 : Array CpInfo := pool [(1, .class_ 2), (0, u "com/example/tracewell/tracewell/RecordKind"), (2, u "THREAD"), (0, u "Lcom/example/tracewell/tracewell/RecordKind;"), (2, u "END"), (2, u "CLASS"), (2, u "METHOD"), (2, u "STACK"), (2, u "MONITOR_ENTER"), (2, u "PARK"), (2, u "UNPARK"), (2, u "SAMPLE"), (2, u "UNDER_WAY"), (2, u "TIME"), (2, u "CPU_TIMER"), (2, u "VIRTUAL_THREAD"), (2, u "BUFFERS"), (2, u "HOLDABLE_CLASS"), (2, u "WALL_INTERVAL"), (2, u "WALL_SAMPLE"), (2, u "ALLOC_INTERVAL"), (2, u "ALLOC_SAMPLE"), (2, u "OPTIONS"), (2, u "$VALUES"), (0, u "[Lcom/example/tracewell/tracewell/RecordKind;"), (6, .class_ 76), (1, u "java/lang/Enum"), (6, .fieldref 1 84), (0, .nameAndType 85 86), (0, u "code"), (0, u "I"), (2, u "label"), (0, u "Ljava/lang/String;"), (0, .fieldref 1 92), (0, .nameAndType 93 67), (0, u "BY_CODE"), (85, u "of"), (0, u "(I)Lcom/example/tracewell/tracewell/RecordKind;"), (1, u "()I")] 6

def k6c0 : Code := { maxStack := 2, maxLocals := 1, code := prog_60_method_4_code, exceptionTable := #[], attributes := #[] }
def k6m0 : Method := { name := "of", desc := "(I)Lcom/example/tracewell/tracewell/RecordKind;", sig := { parameters := [.int], returnType := some (.object "com/example/tracewell/tracewell/RecordKind") }, accessFlags := 8, code := some k6c0 }
def k6c1 : Code := { maxStack := 1, maxLocals := 1, code := prog_60_method_6_code, exceptionTable := #[], attributes := #[] }
def k6m1 : Method := { name := "code", desc := "()I", sig := { parameters := [], returnType := some .int }, accessFlags := 0, code := some k6c1 }
/-- com/example/tracewell/tracewell/RecordKind -/
def k6 : Class := { plain "com/example/tracewell/tracewell/RecordKind" (some 5) with
  accessFlags := 16432
  interfaces := #[]
  cf := some (fileOf pool6 1 #[] #[{ accessFlags := 8, nameIndex := 179, descriptorIndex := 180, attributes := #[] }, { accessFlags := 0, nameIndex := 85, descriptorIndex := 182, attributes := #[] }] 16432 74 #[] #[{ accessFlags := 16409, nameIndex := 5, descriptorIndex := 6, attributes := #[] }, { accessFlags := 16409, nameIndex := 9, descriptorIndex := 6, attributes := #[] }, { accessFlags := 16409, nameIndex := 12, descriptorIndex := 6, attributes := #[] }, { accessFlags := 16409, nameIndex := 15, descriptorIndex := 6, attributes := #[] }, { accessFlags := 16409, nameIndex := 18, descriptorIndex := 6, attributes := #[] }, { accessFlags := 16409, nameIndex := 21, descriptorIndex := 6, attributes := #[] }, { accessFlags := 16409, nameIndex := 24, descriptorIndex := 6, attributes := #[] }, { accessFlags := 16409, nameIndex := 27, descriptorIndex := 6, attributes := #[] }, { accessFlags := 16409, nameIndex := 30, descriptorIndex := 6, attributes := #[] }, { accessFlags := 16409, nameIndex := 33, descriptorIndex := 6, attributes := #[] }, { accessFlags := 16409, nameIndex := 36, descriptorIndex := 6, attributes := #[] }, { accessFlags := 16409, nameIndex := 39, descriptorIndex := 6, attributes := #[] }, { accessFlags := 16409, nameIndex := 42, descriptorIndex := 6, attributes := #[] }, { accessFlags := 16409, nameIndex := 45, descriptorIndex := 6, attributes := #[] }, { accessFlags := 16409, nameIndex := 48, descriptorIndex := 6, attributes := #[] }, { accessFlags := 16409, nameIndex := 51, descriptorIndex := 6, attributes := #[] }, { accessFlags := 16409, nameIndex := 54, descriptorIndex := 6, attributes := #[] }, { accessFlags := 16409, nameIndex := 57, descriptorIndex := 6, attributes := #[] }, { accessFlags := 16409, nameIndex := 60, descriptorIndex := 6, attributes := #[] }, { accessFlags := 16409, nameIndex := 63, descriptorIndex := 6, attributes := #[] }, { accessFlags := 26, nameIndex := 93, descriptorIndex := 67, attributes := #[] }, { accessFlags := 18, nameIndex := 85, descriptorIndex := 86, attributes := #[] }, { accessFlags := 18, nameIndex := 89, descriptorIndex := 90, attributes := #[] }, { accessFlags := 4122, nameIndex := 66, descriptorIndex := 67, attributes := #[] }])
  fields := #[{ name := "THREAD", type := (.object "com/example/tracewell/tracewell/RecordKind"), accessFlags := 16409, slot := 0, constantValue := 0 }, { name := "END", type := (.object "com/example/tracewell/tracewell/RecordKind"), accessFlags := 16409, slot := 1, constantValue := 0 }, { name := "CLASS", type := (.object "com/example/tracewell/tracewell/RecordKind"), accessFlags := 16409, slot := 2, constantValue := 0 }, { name := "METHOD", type := (.object "com/example/tracewell/tracewell/RecordKind"), accessFlags := 16409, slot := 3, constantValue := 0 }, { name := "STACK", type := (.object "com/example/tracewell/tracewell/RecordKind"), accessFlags := 16409, slot := 4, constantValue := 0 }, { name := "MONITOR_ENTER", type := (.object "com/example/tracewell/tracewell/RecordKind"), accessFlags := 16409, slot := 5, constantValue := 0 }, { name := "PARK", type := (.object "com/example/tracewell/tracewell/RecordKind"), accessFlags := 16409, slot := 6, constantValue := 0 }, { name := "UNPARK", type := (.object "com/example/tracewell/tracewell/RecordKind"), accessFlags := 16409, slot := 7, constantValue := 0 }, { name := "SAMPLE", type := (.object "com/example/tracewell/tracewell/RecordKind"), accessFlags := 16409, slot := 8, constantValue := 0 }, { name := "UNDER_WAY", type := (.object "com/example/tracewell/tracewell/RecordKind"), accessFlags := 16409, slot := 9, constantValue := 0 }, { name := "TIME", type := (.object "com/example/tracewell/tracewell/RecordKind"), accessFlags := 16409, slot := 10, constantValue := 0 }, { name := "CPU_TIMER", type := (.object "com/example/tracewell/tracewell/RecordKind"), accessFlags := 16409, slot := 11, constantValue := 0 }, { name := "VIRTUAL_THREAD", type := (.object "com/example/tracewell/tracewell/RecordKind"), accessFlags := 16409, slot := 12, constantValue := 0 }, { name := "BUFFERS", type := (.object "com/example/tracewell/tracewell/RecordKind"), accessFlags := 16409, slot := 13, constantValue := 0 }, { name := "HOLDABLE_CLASS", type := (.object "com/example/tracewell/tracewell/RecordKind"), accessFlags := 16409, slot := 14, constantValue := 0 }, { name := "WALL_INTERVAL", type := (.object "com/example/tracewell/tracewell/RecordKind"), accessFlags := 16409, slot := 15, constantValue := 0 }, { name := "WALL_SAMPLE", type := (.object "com/example/tracewell/tracewell/RecordKind"), accessFlags := 16409, slot := 16, constantValue := 0 }, { name := "ALLOC_INTERVAL", type := (.object "com/example/tracewell/tracewell/RecordKind"), accessFlags := 16409, slot := 17, constantValue := 0 }, { name := "ALLOC_SAMPLE", type := (.object "com/example/tracewell/tracewell/RecordKind"), accessFlags := 16409, slot := 18, constantValue := 0 }, { name := "OPTIONS", type := (.object "com/example/tracewell/tracewell/RecordKind"), accessFlags := 16409, slot := 19, constantValue := 0 }, { name := "BY_CODE", type := (.array (.object "com/example/tracewell/tracewell/RecordKind")), accessFlags := 26, slot := 20, constantValue := 0 }, { name := "code", type := .int, accessFlags := 18, slot := 3, constantValue := 0 }, { name := "label", type := (.object "java/lang/String"), accessFlags := 18, slot := 4, constantValue := 0 }, { name := "$VALUES", type := (.array (.object "com/example/tracewell/tracewell/RecordKind")), accessFlags := 4122, slot := 21, constantValue := 0 }]
  methods := #[k6m0, k6m1]
  instanceTypes := #[(.object "java/lang/String"), .int, .int, .int, (.object "java/lang/String")]
  staticTypes := #[(.object "com/example/tracewell/tracewell/RecordKind"), (.object "com/example/tracewell/tracewell/RecordKind"), (.object "com/example/tracewell/tracewell/RecordKind"), (.object "com/example/tracewell/tracewell/RecordKind"), (.object "com/example/tracewell/tracewell/RecordKind"), (.object "com/example/tracewell/tracewell/RecordKind"), (.object "com/example/tracewell/tracewell/RecordKind"), (.object "com/example/tracewell/tracewell/RecordKind"), (.object "com/example/tracewell/tracewell/RecordKind"), (.object "com/example/tracewell/tracewell/RecordKind"), (.object "com/example/tracewell/tracewell/RecordKind"), (.object "com/example/tracewell/tracewell/RecordKind"), (.object "com/example/tracewell/tracewell/RecordKind"), (.object "com/example/tracewell/tracewell/RecordKind"), (.object "com/example/tracewell/tracewell/RecordKind"), (.object "com/example/tracewell/tracewell/RecordKind"), (.object "com/example/tracewell/tracewell/RecordKind"), (.object "com/example/tracewell/tracewell/RecordKind"), (.object "com/example/tracewell/tracewell/RecordKind"), (.object "com/example/tracewell/tracewell/RecordKind"), (.array (.object "com/example/tracewell/tracewell/RecordKind")), (.array (.object "com/example/tracewell/tracewell/RecordKind"))]
  resolved := Array.replicate 189 none
  statics := some 0 }

def pool7 : Array CpInfo := pool [(1, u "java/lang/Cloneable"), (0, .class_ 1), (0, u "java/lang/Object"), (0, .class_ 3)] 3

/-- java/lang/Cloneable -/
def k7 : Class := { plain "java/lang/Cloneable" (some 0) with
  accessFlags := 1537
  interfaces := #[]
  cf := some (fileOf pool7 2 #[] #[] 1537 4 #[] #[])
  fields := #[]
  methods := #[]
  instanceTypes := #[]
  staticTypes := #[]
  resolved := Array.replicate 8 none
  statics := none }

/-- the primitive byte -/
def k8 : Class := { plain "byte" none with kind := .primitive 'B', accessFlags := 0x411 }
/-- [B -/
def k9 : Class := { plain "[B" (some 0) with kind := .array 8 .byte, interfaces := #[7, 4], accessFlags := 1041 }

/-- the primitive int -/
def k10 : Class := { plain "int" none with kind := .primitive 'I', accessFlags := 0x411 }
/-- [I -/
def k11 : Class := { plain "[I" (some 0) with kind := .array 10 .int, interfaces := #[7, 4], accessFlags := 1041 }

/-- [Lcom/example/tracewell/tracewell/RecordKind; -/
def k12 : Class := { plain "[Lcom/example/tracewell/tracewell/RecordKind;" (some 0) with kind := .array 6 (.object "com/example/tracewell/tracewell/RecordKind"), interfaces := #[7, 4], accessFlags := 1041 }

def heap : Heap := #[{ cls := 6, slots := #[.ref 9, .ref 11, .ref 7, .ref 19, .ref 12, .ref 5, .ref 15, .ref 4, .ref 17, .ref 14, .ref 13, .ref 6, .ref 20, .ref 2, .ref 3, .ref 21, .ref 18, .ref 8, .ref 16, .ref 10, .ref 1, .null], vm := .statics 6 },
  { cls := 12, slots := #[.null, .ref 9, .ref 11, .ref 7, .ref 19, .ref 12, .ref 5, .ref 15, .ref 4, .ref 17, .ref 14, .ref 13, .ref 6, .ref 20, .ref 2, .ref 3, .ref 21, .ref 18, .ref 8, .ref 16, .ref 10], vm := .none },
  { cls := 6, slots := #[.null, .int 0, .int 0, .int 14, .null], vm := .none },
  { cls := 6, slots := #[.null, .int 0, .int 0, .int 15, .null], vm := .none },
  { cls := 6, slots := #[.null, .int 0, .int 0, .int 8, .null], vm := .none },
  { cls := 6, slots := #[.null, .int 0, .int 0, .int 6, .null], vm := .none },
  { cls := 6, slots := #[.null, .int 0, .int 0, .int 12, .null], vm := .none },
  { cls := 6, slots := #[.null, .int 0, .int 0, .int 3, .null], vm := .none },
  { cls := 6, slots := #[.null, .int 0, .int 0, .int 18, .null], vm := .none },
  { cls := 6, slots := #[.null, .int 0, .int 0, .int 1, .null], vm := .none },
  { cls := 6, slots := #[.null, .int 0, .int 0, .int 20, .null], vm := .none },
  { cls := 6, slots := #[.null, .int 0, .int 0, .int 2, .null], vm := .none },
  { cls := 6, slots := #[.null, .int 0, .int 0, .int 5, .null], vm := .none },
  { cls := 6, slots := #[.null, .int 0, .int 0, .int 11, .null], vm := .none },
  { cls := 6, slots := #[.null, .int 0, .int 0, .int 10, .null], vm := .none },
  { cls := 6, slots := #[.null, .int 0, .int 0, .int 7, .null], vm := .none },
  { cls := 6, slots := #[.null, .int 0, .int 0, .int 19, .null], vm := .none },
  { cls := 6, slots := #[.null, .int 0, .int 0, .int 9, .null], vm := .none },
  { cls := 6, slots := #[.null, .int 0, .int 0, .int 17, .null], vm := .none },
  { cls := 6, slots := #[.null, .int 0, .int 0, .int 4, .null], vm := .none },
  { cls := 6, slots := #[.null, .int 0, .int 0, .int 13, .null], vm := .none },
  { cls := 6, slots := #[.null, .int 0, .int 0, .int 16, .null], vm := .none }]
def classes : Array Class := #[k0, k1, k2, k3, k4, k5, k6, k7, k8, k9, k10, k11, k12]
def interned : List (Array UInt16 × Addr) := []
def slotsUsed : Nat := 143
def theMethod : MethodId := ⟨1, 1⟩
def args0 : Array Value := #[.int 5, .int 6]
def aboutOver (below : List Frame) : State where
  vm := { classes := classes, interned := interned.toArray }
  heap := heap
  slotsUsed := slotsUsed
  threads := #[{ frames := .invoking theMethod args0 :: below }]
def below0 : List Frame := [.native { method := ⟨0, 0⟩, args := #[] }]
def about1 : State := aboutOver below0
def p0 : Program := .bare "" "" ""
def e0 : Env := launch0.env 0 0 0
theorem w_frames : about1.frames = Frame.invoking theMethod args0 :: below0 := rfl
set_option maxRecDepth 65536 in
theorem w_args : argsFit about1.vm theMethod args0 = true := by decide +kernel
set_option maxRecDepth 65536 in
theorem w_heap : heapFits about1 = true := by decide +kernel
set_option maxRecDepth 65536 in
theorem w_runnable : about1.curStatus? = some .runnable := by decide +kernel
set_option maxRecDepth 65536 in
theorem w_alone : about1.alone = true := by decide +kernel
set_option maxRecDepth 65536 in
theorem w_named : about1.methodNamed? x = some theMethod := by decide +kernel
set_option maxRecDepth 65536 in
theorem w_hears : about1.hears theMethod below0 = true := by decide +kernel
set_option maxRecDepth 65536 in
theorem w_ripe : about1.ripe theMethod args0 below0 = true := by decide +kernel
theorem w_running : about1.status = .running := rfl
set_option maxRecDepth 65536 in
theorem w_room : about1.hasRoom e0.platform room_1 = true :=
  launch0.hasRoom_least _ room_1 (by decide +kernel) (by decide +kernel) (by decide +kernel) (by decide +kernel) (by decide +kernel) (by decide +kernel)
theorem allAtoms_all (ts : List Jvm.Cond) (a : Array Jvm.Value) (st : Jvm.State) : (allAtoms ts).before a st = ts.all (fun c => c.before a st) := by
  induction ts with
  | nil => rfl
  | cons c t ih =>
    show (Jvm.Cond.and c (allAtoms t)).before a st = _
    rw [Jvm.Cond.before_and, ih, List.all_cons]
def words1 : List Jvm.Cond := Jvm.Cond.code x code maxLocals ret :: tables_1
/-- a 'code' word, met by the world's own term for the bytes: nothing is compared byte by byte -/
theorem code_word {y : MethodName} {bytes : ByteArray} {mx : Nat} {rt : Option FieldType} {a : Array Value} {s : State} {m : MethodId} {meth : Method} {c : Code} (h1 : s.methodNamed? y = some m) (h2 : s.vm.method? m = some meth) (h3 : meth.code = some c) (h4 : c.code = bytes)
    (h5 : (c.maxLocals == mx && c.exceptionTable.isEmpty && decide (c.maxStack ≤ mostOperands) && decide (meth.sig.returnType = rt) && !meth.locks && decide (parseMethodDescriptor y.desc = some meth.sig)) = true) : (Jvm.Cond.code y bytes mx rt).before a s = true := by
  simp only [Bool.and_eq_true, beq_iff_eq, Bool.not_eq_true', decide_eq_true_eq] at h5
  obtain ⟨⟨⟨⟨⟨g1, g2⟩, g3⟩, g4⟩, g5⟩, g6⟩ := h5
  simp [Cond.before, Cond.holds, Cond.value, h1, h2, h3, h4, g1, g2, g3, g4, g5, g6]
def isCode : Jvm.Cond → Bool
  | .code _ _ _ _ => true
  | _ => false
theorem all_split {L : List Jvm.Cond} {P : Jvm.Cond → Bool} (h1 : L.all (fun c => isCode c || P c) = true) (h2 : ∀ c ∈ L.filter isCode, P c = true) : L.all P = true := by
  refine List.all_eq_true.mpr fun c hc => ?_
  have h := List.all_eq_true.mp h1 c hc
  rcases Bool.eq_false_or_eq_true (isCode c) with hi | hi
  · exact h2 c (List.mem_filter.mpr ⟨hc, hi⟩)
  · simpa [hi] using h
set_option maxRecDepth 65536 in
theorem w_c0 : (Jvm.Cond.code x code maxLocals ret).before args0 about1 = true := code_word (m := ⟨1, 1⟩) (meth := k1m1) (c := k1c1) (by decide +kernel) rfl rfl rfl (by decide +kernel)
set_option maxRecDepth 65536 in
theorem w_c1 : (Jvm.Cond.code ({ cls := "com/example/tracewell/tracewell/RecordKindOfPinLaw", name := "check", desc := "(I)Z" } : Jvm.MethodName) method_3_code (3 : Nat) (Option.some Jvm.ClassFile.FieldType.boolean)).before args0 about1 = true := code_word (m := ⟨1, 2⟩) (meth := k1m2) (c := k1c2) (by decide +kernel) rfl rfl rfl (by decide +kernel)
set_option maxRecDepth 65536 in
theorem w_c2 : (Jvm.Cond.code ({ cls := "com/example/tracewell/tracewell/RecordKind", name := "of", desc := "(I)Lcom/example/tracewell/tracewell/RecordKind;" } : Jvm.MethodName) prog_60_method_4_code (1 : Nat) (Option.some (Jvm.ClassFile.FieldType.object "com/example/tracewell/tracewell/RecordKind"))).before args0 about1 = true := code_word (m := ⟨6, 0⟩) (meth := k6m0) (c := k6c0) (by decide +kernel) rfl rfl rfl (by decide +kernel)
set_option maxRecDepth 65536 in
theorem w_c3 : (Jvm.Cond.code ({ cls := "com/example/tracewell/tracewell/RecordKind", name := "code", desc := "()I" } : Jvm.MethodName) prog_60_method_6_code (1 : Nat) (Option.some Jvm.ClassFile.FieldType.int)).before args0 about1 = true := code_word (m := ⟨6, 1⟩) (meth := k6m1) (c := k6c1) (by decide +kernel) rfl rfl rfl (by decide +kernel)
def codes1 : List Jvm.Cond := [Jvm.Cond.code x code maxLocals ret, Jvm.Cond.code ({ cls := "com/example/tracewell/tracewell/RecordKindOfPinLaw", name := "check", desc := "(I)Z" } : Jvm.MethodName) method_3_code (3 : Nat) (Option.some Jvm.ClassFile.FieldType.boolean), Jvm.Cond.code ({ cls := "com/example/tracewell/tracewell/RecordKind", name := "of", desc := "(I)Lcom/example/tracewell/tracewell/RecordKind;" } : Jvm.MethodName) prog_60_method_4_code (1 : Nat) (Option.some (Jvm.ClassFile.FieldType.object "com/example/tracewell/tracewell/RecordKind")), Jvm.Cond.code ({ cls := "com/example/tracewell/tracewell/RecordKind", name := "code", desc := "()I" } : Jvm.MethodName) prog_60_method_6_code (1 : Nat) (Option.some Jvm.ClassFile.FieldType.int)]
set_option maxRecDepth 65536 in
theorem codes_eq : words1.filter isCode = codes1 := rfl
theorem w_codes : ∀ c ∈ words1.filter isCode, c.before args0 about1 = true := by
  rw [codes_eq]
  intro c hc
  simp only [codes1, List.mem_cons, List.not_mem_nil, or_false] at hc
  rcases hc with rfl | rfl | rfl | rfl
  · exact w_c0
  · exact w_c1
  · exact w_c2
  · exact w_c3
set_option maxRecDepth 65536 in
theorem w_t1 : (words1.take 24).all (fun c => isCode c || c.before args0 about1) = true := by decide +kernel
set_option maxRecDepth 65536 in
theorem w_t2 : (words1.drop 24).all (fun c => isCode c || c.before args0 about1) = true := by decide +kernel
theorem w_tables : (allAtoms (Jvm.Cond.code x code maxLocals ret :: tables_1)).before args0 about1 = true := by
  rw [allAtoms_all]
  show words1.all (fun c => c.before args0 about1) = true
  refine all_split ?_ w_codes
  rw [← List.take_append_drop 24 words1, List.all_append, w_t1, w_t2]
  rfl
set_option maxRecDepth 65536 in
theorem w_case : (Jvm.Cond.and given_1 narrow_1).before args0 about1 = true := by decide +kernel
theorem w_applies : (headSpec (Jvm.Cond.code x code maxLocals ret :: tables_1) room_1).applies x e0.platform about1 = true :=
  (Spec.applies_iff w_frames).mpr ⟨w_running, w_runnable, w_alone, w_named, w_hears, w_ripe, w_room, w_tables⟩
theorem atStart : AtStart classFile x code maxLocals ret World_1 tables_1 room_1 Calls_1 rest_1 Pre_1 launch0 p0 e0 about1 theMethod args0 below0 :=
  ⟨lists_1, trivial, launch0.admits_env _ _ _, launch0.least_env, fairChoices_fair.cas, fairChoices_fair.clock, w_frames, w_args, w_heap, w_applies, trivial, trivial, w_case⟩
end start1
theorem witness_1 : WitnessClaimed_1 := ⟨start1.p0, start1.e0, start1.about1, start1.theMethod, start1.args0, start1.below0, start1.atStart⟩
end Jvm.Pilot.@@N@@
