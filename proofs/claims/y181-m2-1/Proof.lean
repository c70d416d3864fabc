import JvmDerived
import JvmDerived.Pilot.@@N@@Statement
import JvmDerived.Pilot.@@N@@Code
set_option linter.unusedVariables false
set_option linter.unusedSimpArgs false
namespace Jvm.Pilot.@@N@@
open Jvm Jvm.ClassFile Sem Op Lib Jvm.Free Jvm.Stand Jvm.LawKit Jvm.RoadKit Bundle Jvm.Pilot.@@N@@.Jvm.D
/-! ### how a walk is told: 'own_Go' says that from here the body comes to its end, and what holds there -/
section OwnKit
variable {p : Program} {l : Launch} {e : Env} {R : Room} {s : State} {m : MethodId} {args : Array Value} {below : List Frame} {meth : Method} {c : Code} {T T' : State} {locs : List Loc} {cells slots kc ks : Nat} {F : Option Value → State → Prop} {Q : Option Value → Heap → List Loc → Prop} {g g' : JFrame} {Z : State} {a0 : Array Value} {h0 : Heap}
def own_Go (p : Program) (e : Env) (below : List Frame) (F : Option Value → State → Prop) (T : State) (g : JFrame) : Prop :=
  ∃ U v, Steps p.tables e below (T.setTop g) U ∧ U.status = .running ∧ Ended U below (.returned v) ∧ F v U
def own_N (s : State) (kc ks : Nat) (Q : Option Value → Heap → List Loc → Prop) : Option Value → State → Prop := fun v U => ∃ L, Q v U.heap L ∧ FrameEnd s (.returned v) U L kc ks
def own_W (s : State) (kc ks : Nat) (Q : Option Value → Heap → List Loc → Prop) : Option Value → State → Prop := fun v U => ∃ L, Q v U.heap L ∧ ReturnedEndW s (.returned v) U L kc ks
theorem own_st (h : ∀ t, Steps p.tables e below (T'.setTop g') t → Steps p.tables e below (T.setTop g) t) (G : own_Go p e below F T' g') : own_Go p e below F T g := by
  obtain ⟨U, v, h1, r⟩ := G
  exact ⟨U, v, h _ h1, r⟩
theorem own_ret (X : Stand p l e R s m args below meth c T locs cells slots) (hx : p.tables.exec = Jvm.exec) (hlk : meth.locks = false) {pc : Nat} {Ls : Array Slot} {w : Value} {t : FieldType} {i : Instr} {rest : List Value} (hret : meth.sig.returnType = some t) (hn : narrow t w = w)
    (hi : (i = .ireturn ∧ (t = .int ∨ t = .boolean ∨ t = .byte ∨ t = .char ∨ t = .short) ∧ ∃ z, w = .int z) ∨ (i = .lreturn ∧ t = .long ∧ ∃ z, w = .long z) ∨ (i = .dreturn ∧ t = .double ∧ ∃ z, w = .double z) ∨ (i = .freturn ∧ t = .float ∧ ∃ z, w = .float z) ∨ (i = .areturn ∧ t.isReference = true ∧ w.isRef = true))
    (hd : decode c.code pc = .ok (i, 1)) (hc : cells ≤ kc) (hs : slots ≤ ks) (q : Q (some w) T.heap locs) : own_Go p e below (own_N s kc ks Q) T (mkF m pc Ls (w :: rest)) := by
  obtain ⟨fs, hr, hrun, hended, hW, hsame⟩ := X.leave (v := some w) (fun h => by rw [hret] at h; cases h) hlk
  exact ⟨_, _, retOut X hx hret hn hi hd hr, hrun, hended, _, q, ⟨_, rfl⟩, hW, hsame.mono hc hs⟩
theorem own_retV (X : Stand p l e R s m args below meth c T locs cells slots) (hx : p.tables.exec = Jvm.exec) (hlk : meth.locks = false) {pc : Nat} {Ls : Array Slot} (hret : meth.sig.returnType = none) (hd : decode c.code pc = .ok (.return_, 1)) (hc : cells ≤ kc) (hs : slots ≤ ks) (q : Q none T.heap locs) : own_Go p e below (own_N s kc ks Q) T (mkF m pc Ls []) := by
  obtain ⟨fs, hr, hrun, hended, hW, hsame⟩ := X.leave (v := none) (fun _ => rfl) hlk
  exact ⟨_, _, X.returnOut hx hret hd hr, hrun, hended, _, q, ⟨_, rfl⟩, hW, hsame.mono hc hs⟩
theorem own_cat1 {w : Value} (h : w.isRef = true) : w.category = 1 := by
  rcases ref_cases h with rfl | ⟨a, rfl⟩ <;> rfl
/-- what a body does, begun at the heap h0 with these arguments -/
def own_Met (l : Launch) (Z : State) (h0 : Heap) (ws : List Jvm.Cond) (rm : Room) (y : MethodName) (bytes : ByteArray) (maxL : Nat) (ret : Option FieldType) (as' : Array Value) (Q : Option Value → Heap → List Loc → Prop) : Prop :=
  MetFree l y (head1 (Jvm.Cond.code y bytes maxL ret :: ws) rm) (fun a U => a = as' ∧ Z.Warmed39 U.vm ∧ U.heap = h0) (fun _ _ _ _ _ => True) (fun _ U o U' => ∃ v L, o = .returned v ∧ Q v U'.heap L ∧ FrameEnd U o U' L rm.cells rm.slots)
/-- it returns w and writes nothing -/
def own_Pure (l : Launch) (Z : State) (h0 : Heap) (ws : List Jvm.Cond) (rm : Room) (y : MethodName) (bytes : ByteArray) (maxL : Nat) (ret : Option FieldType) (as' : Array Value) (w : Option Value) : Prop :=
  own_Met l Z h0 ws rm y bytes maxL ret as' (fun v h L => v = w ∧ L = [] ∧ h = h0)
theorem own_body {ws : List Jvm.Cond} {rm : Room} {y : MethodName} {bytes : ByteArray} {maxL : Nat} {ret : Option FieldType} {as' : Array Value} (hpl : plainFor y = true)
    (H : ∀ (p : Program) (e : Env) (s : State) (m : MethodId) (below : List Frame) (meth : Method) (c : Code) (T : State), Stand p l e rm s m as' below meth c T [] 0 0 → p.tables.exec = Jvm.exec → c.code = bytes → c.maxLocals = maxL → s.vm.findClass y.cls = some m.cls → Z.Warmed39 s.vm → T.heap = h0 → meth.sig.returnType = ret → meth.locks = false → meth.name = y.name → s.methodNamed? y = some m →
      own_Go p e below (own_N s rm.cells rm.slots Q) T (entryFrame m as' maxL)) : own_Met l Z h0 ws rm y bytes maxL ret as' Q := by
  refine MetFree.of_bodySF hpl hisR ?_
  intro p e s m args below meth c s₁ Bd hml0 hP hK
  obtain ⟨rfl, hZ, hh⟩ := hP
  obtain ⟨U, v, h1, h2, h3, L, h4, h5⟩ := H p e s m below meth c s₁ (Stand.of_body Bd) Bd.exec Bd.bytes hml0 (findClass_of_methodNamed Bd.named) hZ (by rw [← hh, Bd.state]; rfl) Bd.returns Bd.notSynchronized (name_of_methodNamed Bd.named Bd.method).1 Bd.named
  exact ⟨U, _, h1, h2, h3, v, L, rfl, h4, h5⟩
theorem own_gS {rm : Room} {y : MethodName} {bytes : ByteArray} {maxL W index : Nat} {ret : Option FieldType} {own : String} {argsL rest : List Value} (X : Stand p l e R s m args below meth c T locs cells slots) (hx : p.tables.exec = Jvm.exec) (hZ : Z.Warmed39 s.vm) (hown : s.vm.findClass own = some m.cls)
    (w1 : (Jvm.Cond.methodLink own index y).before a0 Z = true) (w2 : (Jvm.Cond.static y).before a0 Z = true) (w3 : (Jvm.Cond.initialized y.cls).before a0 Z = true) (w4 : (Jvm.Cond.code y bytes maxL ret).before a0 Z = true) (hy : y.cls ≠ "java/lang/invoke/MethodHandle" ∧ y.cls ≠ "java/lang/invoke/VarHandle") (eT : T.heap = h0)
    (hM : own_Met l Z h0 [] rm y bytes maxL ret argsL.toArray Q) (hf : rm.frames + 1 ≤ R.frames) (hl : W + (maxL + 11) + rm.locals ≤ R.locals) (hc1 : cells + rm.cells ≤ R.cells) (hs1 : slots + rm.slots ≤ R.slots)
    (hg : g.method = m) (hsize : g.locals.size = c.maxLocals) (hlen : ∀ sig, parseMethodDescriptor y.desc = some sig → argsL.length = sig.parameters.length) (hstack : g.stack = argsL.reverse ++ rest) (hW : 2 * g.monitorRoom + (rest.map fun v => v.category).sum ≤ W) (hdg : decode c.code g.pc = .ok (.invokestatic index, 3)) :
    ∃ (v : Option Value) (T' : State) (L : List Loc), Stand p l e R s m args below meth c T' (locs ++ L) (cells + rm.cells) (slots + rm.slots) ∧ Q v T'.heap L ∧ ∀ target, Steps p.tables e below (T'.setTop { g with pc := g.pc + 3, stack := v.toList ++ rest }) target → Steps p.tables e below (T.setTop g) target := by
  obtain ⟨v, _, ⟨T1, L1, k1, n1⟩, -, X1, ⟨Lc, hq, l1, y1, z1⟩, st⟩ := Jvm.LawKit.callS X hx (y := y) hown (mvT hZ w1) (mvT hZ w2) (mvT hZ w3) (mvT hZ w4) hy (backOf (W := W) (Q := Q) hM hZ w4 w3 hf hl) (g := g) hg hsize (argsL := argsL) (rest := rest) hlen hstack hW hdg (fun _ _ => ⟨rfl, eT, hc1, hs1⟩)
  dsimp only [Pt.U, Pt.locs, Pt.cells, Pt.slots] at X1 l1 y1 z1 st hq
  subst l1 y1 z1
  exact ⟨v, T1, Lc, X1, hq, st⟩
theorem own_gV {rm : Room} {y z : MethodName} {bytes : ByteArray} {maxL W index : Nat} {ret : Option FieldType} {own C : String} {argsL rest : List Value} {b : Addr} (X : Stand p l e R s m args below meth c T locs cells slots) (hx : p.tables.exec = Jvm.exec) (hZ : Z.Warmed39 s.vm) (hown : s.vm.findClass own = some m.cls)
    (w1 : (Jvm.Cond.methodLink own index y).before a0 Z = true) (w2 : (Jvm.Cond.declares y).before a0 Z = true) (hnf : NotFace s y) (w5 : (Jvm.Cond.selects C y z).before a0 Z = true) (w6 : (Jvm.Cond.instanceMethod z).before a0 Z = true) (w3 : (Jvm.Cond.initialized z.cls).before a0 Z = true) (w4 : (Jvm.Cond.code z bytes maxL ret).before a0 Z = true) (hy : y.cls ≠ "java/lang/invoke/MethodHandle" ∧ y.cls ≠ "java/lang/invoke/VarHandle") (eT : T.heap = h0) (E : Exa Z h0 b C)
    (hM : own_Met l Z h0 [] rm z bytes maxL ret (.ref b :: argsL).toArray Q) (hf : rm.frames + 1 ≤ R.frames) (hl : W + (maxL + 11) + rm.locals ≤ R.locals) (hc1 : cells + rm.cells ≤ R.cells) (hs1 : slots + rm.slots ≤ R.slots)
    (hg : g.method = m) (hsize : g.locals.size = c.maxLocals) (hlen : ∀ sig, parseMethodDescriptor y.desc = some sig → argsL.length = sig.parameters.length) (hstack : g.stack = argsL.reverse ++ .ref b :: rest) (hW : 2 * g.monitorRoom + (rest.map fun v => v.category).sum ≤ W) (hdg : decode c.code g.pc = .ok (.invokevirtual index, 3)) :
    ∃ (v : Option Value) (T' : State) (L : List Loc), Stand p l e R s m args below meth c T' (locs ++ L) (cells + rm.cells) (slots + rm.slots) ∧ Q v T'.heap L ∧ ∀ target, Steps p.tables e below (T'.setTop { g with pc := g.pc + 3, stack := v.toList ++ rest }) target → Steps p.tables e below (T.setTop g) target := by
  obtain ⟨cq, kq, qa, qb, qc⟩ := isOf hZ eT E
  obtain ⟨v, _, ⟨T1, L1, k1, n1⟩, -, X1, ⟨Lc, hq, l1, y1, z1⟩, st⟩ := X.virtualBack hx (y := y) (z := z) hown (mvT hZ w1) (mvT hZ w2) hnf (mvT hZ w5) (mvT hZ w6) hy (backOf (W := W) (Q := Q) hM hZ w4 w3 hf hl) qa qc (g := g) hg hsize (Steps.refl _) (argsL := argsL) (rest := rest) hlen hstack hW hdg (fun _ _ => ⟨rfl, eT, hc1, hs1⟩)
  dsimp only [Pt.U, Pt.locs, Pt.cells, Pt.slots] at X1 l1 y1 z1 st hq
  subst l1 y1 z1
  exact ⟨v, T1, Lc, X1, hq, fun _ k => st.trans k⟩
theorem own_gVU {rm : Room} {y z : MethodName} {owner : String} {bytes : ByteArray} {maxL W index : Nat} {ret : Option FieldType} {own C : String} {argsL rest : List Value} {b : Addr} (X : Stand p l e R s m args below meth c T locs cells slots) (hx : p.tables.exec = Jvm.exec) (hZ : Z.Warmed39 s.vm) (hown : s.vm.findClass own = some m.cls)
    (w1 : (Jvm.Cond.methodLink own index y).before a0 Z = true) (wsm : (Jvm.Cond.sameMethod y.cls owner y.name y.desc).before a0 Z = true) (w2 : (Jvm.Cond.declares ⟨owner, y.name, y.desc⟩).before a0 Z = true) (ho : owner ≠ "java/lang/invoke/MethodHandle" ∧ owner ≠ "java/lang/invoke/VarHandle") (w5 : (Jvm.Cond.selects C y z).before a0 Z = true) (w6 : (Jvm.Cond.instanceMethod z).before a0 Z = true) (w3 : (Jvm.Cond.initialized z.cls).before a0 Z = true) (w4 : (Jvm.Cond.code z bytes maxL ret).before a0 Z = true) (eT : T.heap = h0) (E : Exa Z h0 b C)
    (hM : own_Met l Z h0 [] rm z bytes maxL ret (.ref b :: argsL).toArray Q) (hf : rm.frames + 1 ≤ R.frames) (hl : W + (maxL + 11) + rm.locals ≤ R.locals) (hc1 : cells + rm.cells ≤ R.cells) (hs1 : slots + rm.slots ≤ R.slots)
    (hg : g.method = m) (hsize : g.locals.size = c.maxLocals) (hlen : ∀ sig, parseMethodDescriptor y.desc = some sig → argsL.length = sig.parameters.length) (hstack : g.stack = argsL.reverse ++ .ref b :: rest) (hW : 2 * g.monitorRoom + (rest.map fun v => v.category).sum ≤ W) (hdg : decode c.code g.pc = .ok (.invokevirtual index, 3)) :
    ∃ (v : Option Value) (T' : State) (L : List Loc), Stand p l e R s m args below meth c T' (locs ++ L) (cells + rm.cells) (slots + rm.slots) ∧ Q v T'.heap L ∧ ∀ target, Steps p.tables e below (T'.setTop { g with pc := g.pc + 3, stack := v.toList ++ rest }) target → Steps p.tables e below (T.setTop g) target := by
  obtain ⟨cq, kq, qa, qb, qc⟩ := isOf hZ eT E
  obtain ⟨v, _, ⟨T1, L1, k1, n1⟩, -, X1, ⟨Lc, hq, l1, y1, z1⟩, st⟩ := X.virtualBackUp hx (x := y) (y := z) (owner := owner) hown (mvT hZ w1) (mvT hZ wsm) (mvT hZ w2) ho (mvT hZ w5) (mvT hZ w6) (backOf (W := W) (Q := Q) hM hZ w4 w3 hf hl) qa qc (g := g) hg hsize (Steps.refl _) (argsL := argsL) (rest := rest) hlen hstack hW hdg (fun _ _ => ⟨rfl, eT, hc1, hs1⟩)
  dsimp only [Pt.U, Pt.locs, Pt.cells, Pt.slots] at X1 l1 y1 z1 st hq
  subst l1 y1 z1
  exact ⟨v, T1, Lc, X1, hq, fun _ k => st.trans k⟩
/-- behind a call that writes nothing -/
theorem own_pure {w : Value} {rm : Room} {rest : List Value} (hc0 : rm.cells = 0) (hs0 : rm.slots = 0)
    (H : ∃ (v : Option Value) (T' : State) (L : List Loc), Stand p l e R s m args below meth c T' (locs ++ L) (cells + rm.cells) (slots + rm.slots) ∧ (v = some w ∧ L = [] ∧ T'.heap = h0) ∧ ∀ target, Steps p.tables e below (T'.setTop { g with pc := g.pc + 3, stack := v.toList ++ rest }) target → Steps p.tables e below (T.setTop g) target) :
    ∃ T', Stand p l e R s m args below meth c T' locs cells slots ∧ T'.heap = h0 ∧ ∀ target, Steps p.tables e below (T'.setTop { g with pc := g.pc + 3, stack := w :: rest }) target → Steps p.tables e below (T.setTop g) target := by
  obtain ⟨_, T', _, X', ⟨rfl, rfl, hh⟩, st⟩ := H
  rw [hc0, hs0, List.append_nil] at X'
  exact ⟨T', X', hh, st⟩
/-- what the case says of statics and fields, as facts of the start -/
theorem own_sx {C n d K : String} (h : (Jvm.Cond.exactly (Term.static C n d) K).value args s none s [] = some true) (wi : (Jvm.Cond.initialized C).before args s = true) (wl : (Jvm.Cond.laysStatic C n d).before args s = true) :
    ∃ a, (Term.static C n d).eval args s none [] s = some (.ref a) ∧ Exa s s.heap a K ∧ Sta s s.heap C n d (.ref a) := by
  obtain ⟨a, ev⟩ := exa_v h
  exact ⟨a, ev, Exa.start ev h, Sta.start ev (Or.inr ⟨wi, wl⟩)⟩
theorem own_fi {t : Term} {a : Addr} {C n d : String} {k : Int32} (ev : t.eval args s none [] s = some (.ref a)) (h : (Jvm.Cond.eq (Term.field t C n d) (Term.int k)).value args s none s [] = some true) : Fld s s.heap a C n d (.int k) := by
  have q := eqv_i (Term.int_eval k) h
  rw [fld_at ev] at q
  exact Fld.start q
theorem own_fn {t : Term} {a : Addr} {C n d : String} (ev : t.eval args s none [] s = some (.ref a)) (h : (Jvm.Cond.eq (Term.field t C n d) Term.null).value args s none s [] = some true) : Fld s s.heap a C n d .null := by
  have q := null_v h
  rw [fld_at ev] at q
  exact Fld.start q
theorem own_fx {t : Term} {a : Addr} {C n d K : String} (ev : t.eval args s none [] s = some (.ref a)) (h : (Jvm.Cond.exactly (Term.field t C n d) K).value args s none s [] = some true) : ∃ b, Fld s s.heap a C n d (.ref b) ∧ Exa s s.heap b K := by
  obtain ⟨b, q⟩ := exa_v h
  have E := Exa.start q h
  rw [fld_at ev] at q
  exact ⟨b, Fld.start q, E⟩
theorem own_eqr {t u : Term} {b : Addr} (eu : u.eval args s none [] s = some (.ref b)) (h : (Jvm.Cond.eq t u).value args s none s [] = some true) : t.eval args s none [] s = some (.ref b) := by
  obtain ⟨x, y, h1, h2, -⟩ := cmp_v (Or.inl h)
  rw [eu] at h2
  cases h2
  simp only [Cond.value, h1, eu] at h
  cases x <;> simp_all
theorem own_fs {t u : Term} {a b : Addr} {C n d : String} (ev : t.eval args s none [] s = some (.ref a)) (eu : u.eval args s none [] s = some (.ref b)) (h : (Jvm.Cond.eq (Term.field t C n d) u).value args s none s [] = some true) : Fld s s.heap a C n d (.ref b) := by
  have q := own_eqr eu h
  rw [fld_at ev] at q
  exact Fld.start q
theorem own_ax {C n d : String} {ty : FieldType} (h : (Jvm.Cond.arrayOf (Term.static C n d) ty).value args s none s [] = some true) (wi : (Jvm.Cond.initialized C).before args s = true) (wl : (Jvm.Cond.laysStatic C n d).before args s = true) :
    ∃ b cl, (Term.static C n d).eval args s none [] s = some (.ref b) ∧ Arr s s.heap b cl ty ∧ Sta s s.heap C n d (.ref b) := by
  obtain ⟨b, ev⟩ := arr_v h
  obtain ⟨cl, A⟩ := Arr.start ev h
  exact ⟨b, cl, ev, A, Sta.start ev (Or.inr ⟨wi, wl⟩)⟩
theorem own_len {t : Term} {b : Addr} {cl : Cell} {ty : FieldType} {k : Int32} (ev : t.eval args s none [] s = some (.ref b)) (A : Arr s s.heap b cl ty) (h : (Jvm.Cond.eq (Term.length t) (Term.int k)).value args s none s [] = some true) : cl.slots.size = k.toNatClampNeg := by
  have q := eqv_i (Term.int_eval k) h
  have ha : s.arrayAt? b = some cl := A.fin (Vm.Alike.refl _)
  by_cases hl : cl.slots.size < 2 ^ 31
  · rw [len_f ev ha hl] at q
    have e : cl.slots.size.toInt32 = k := Value.int.inj (Option.some.inj q)
    have e1 := len_toInt hl
    rw [← e]
    simp only [Int32.toNatClampNeg, e1]
    rfl
  · simp [Term.eval, ev, ha, hl] at q
theorem own_elr {t u : Term} {b x : Addr} {cl : Cell} {ty : FieldType} {k : Int32} (ev : t.eval args s none [] s = some (.ref b)) (A : Arr s s.heap b cl ty) (eu : u.eval args s none [] s = some (.ref x)) (h : (Jvm.Cond.eq (Term.elem t (Term.int k)) u).value args s none s [] = some true) : cl.slots[k.toNatClampNeg]? = some (.ref x) :=
  (elem_in (own_eqr eu h) ev (Term.int_eval k) A.1).2
theorem own_eln {t : Term} {b : Addr} {cl : Cell} {ty : FieldType} {k : Int32} (ev : t.eval args s none [] s = some (.ref b)) (A : Arr s s.heap b cl ty) (h : (Jvm.Cond.eq (Term.elem t (Term.int k)) Term.null).value args s none s [] = some true) : cl.slots[k.toNatClampNeg]? = some .null :=
  (elem_in (null_v h) ev (Term.int_eval k) A.1).2
theorem own_eli {t : Term} {b : Addr} {cl : Cell} {ty : FieldType} {k v : Int32} (ev : t.eval args s none [] s = some (.ref b)) (A : Arr s s.heap b cl ty) (h : (Jvm.Cond.eq (Term.elem t (Term.int k)) (Term.int v)).value args s none s [] = some true) : cl.slots[k.toNatClampNeg]? = some (.int v) :=
  (elem_in (eqv_i (Term.int_eval v) h) ev (Term.int_eval k) A.1).2
theorem own_args1 {k : Nat} (h : (Jvm.Cond.and (Jvm.Cond.count 1) (Jvm.Cond.isInt (Term.arg 0))).value args s none s [] = some true) : ∃ a : Int32, args = #[.int a] := by
  obtain ⟨h1, h2⟩ := and_e h
  have hs : args.size = 1 := by simpa [Cond.value] using h1
  obtain ⟨L⟩ := args
  match L, hs with
  | [w0], _ =>
    obtain ⟨i, e0⟩ := is_v h2
    obtain rfl : w0 = (.int i) := Option.some.inj e0
    exact ⟨i, rfl⟩
theorem own_args2 {k : Nat} (h : (Jvm.Cond.and (Jvm.Cond.count 2) (Jvm.Cond.and (Jvm.Cond.isInt (Term.arg 0)) (Jvm.Cond.isInt (Term.arg 1)))).value args s none s [] = some true) : ∃ a b : Int32, args = #[.int a, .int b] := by
  obtain ⟨h1, h2⟩ := and_e h
  obtain ⟨h2, h3⟩ := and_e h2
  have hs : args.size = 2 := by simpa [Cond.value] using h1
  obtain ⟨L⟩ := args
  match L, hs with
  | [w0, w1], _ =>
    obtain ⟨i, e0⟩ := is_v h2
    obtain ⟨j, e1⟩ := is_v h3
    obtain rfl : w0 = (.int i) := Option.some.inj e0
    obtain rfl : w1 = (.int j) := Option.some.inj e1
    exact ⟨i, j, rfl⟩
theorem own_weaken {ws : List Jvm.Cond} {rm : Room} {y : MethodName} {bytes : ByteArray} {maxL : Nat} {ret : Option FieldType} {as' : Array Value} {w : Value} {n0 : Nat} (M : own_Pure l Z h0 ws rm y bytes maxL ret as' (some w)) : own_Met l Z h0 ws rm y bytes maxL ret as' (fun v h L => v = some w ∧ Fr n0 L) := by
  intro p e ha hc hk s m args below hf happ hP hK
  obtain ⟨n, o, h1, h2, h3, v, L, h4, ⟨h5, h6, h7⟩, h8⟩ := M p e ha hc hk s m args below hf happ hP hK
  exact ⟨n, o, h1, h2, h3, v, L, h4, ⟨h5, by rw [h6]; exact Fr.nil n0⟩, h8⟩
end OwnKit

theorem own_pn_0 : plainName "com/example/megablock/megablock/service/EStatusNeedsAttentionPinLaw" = true := by first | (simp [plainName, overriddenIn]; done) | decide +kernel
theorem own_pn_1 : plainName "com/example/megablock/megablock/service/ReconciledRecord$EStatus" = true := by first | (simp [plainName, overriddenIn]; done) | decide +kernel
theorem own_pd_0 : parseMethodDescriptor "(I)Lcom/example/megablock/megablock/service/ReconciledRecord$EStatus;" = some ⟨[.int], some (.object "com/example/megablock/megablock/service/ReconciledRecord$EStatus")⟩ := by decide +kernel
theorem own_pd_1 : parseMethodDescriptor "()Z" = some ⟨[], some .boolean⟩ := by decide +kernel
theorem own_pd_2 : parseMethodDescriptor "(I)Z" = some ⟨[.int], some .boolean⟩ := by decide +kernel
theorem own_d_method_2_code_0 : decode method_2_code 0 = .ok (.iload_n 0, 1) := by decide +kernel
theorem own_d_method_2_code_1 : decode method_2_code 1 = .ok (.ifCond .ne 7, 3) := by decide +kernel
theorem own_d_method_2_code_4 : decode method_2_code 4 = .ok (.getstatic 7, 3) := by decide +kernel
theorem own_d_method_2_code_7 : decode method_2_code 7 = .ok (.areturn, 1) := by decide +kernel
theorem own_d_prog_74_method_5_code_0 : decode prog_74_method_5_code 0 = .ok (.aload_n 0, 1) := by decide +kernel
theorem own_d_prog_74_method_5_code_1 : decode prog_74_method_5_code 1 = .ok (.getstatic 3, 3) := by decide +kernel
theorem own_d_prog_74_method_5_code_4 : decode prog_74_method_5_code 4 = .ok (.if_acmp .eq 14, 3) := by decide +kernel
theorem own_d_prog_74_method_5_code_18 : decode prog_74_method_5_code 18 = .ok (.iconst 0, 1) := by decide +kernel
theorem own_d_prog_74_method_5_code_19 : decode prog_74_method_5_code 19 = .ok (.ireturn, 1) := by decide +kernel
theorem own_d_method_3_code_0 : decode method_3_code 0 = .ok (.iload_n 0, 1) := by decide +kernel
theorem own_d_method_3_code_1 : decode method_3_code 1 = .ok (.ifCond .ne 5, 3) := by decide +kernel
theorem own_d_method_3_code_4 : decode method_3_code 4 = .ok (.iconst 0, 1) := by decide +kernel
theorem own_d_method_3_code_5 : decode method_3_code 5 = .ok (.ireturn, 1) := by decide +kernel
theorem own_d_method_2_code_8 : decode method_2_code 8 = .ok (.iload_n 0, 1) := by decide +kernel
theorem own_d_method_2_code_9 : decode method_2_code 9 = .ok (.iconst 1, 1) := by decide +kernel
theorem own_d_method_2_code_10 : decode method_2_code 10 = .ok (.if_icmp .ne 7, 3) := by decide +kernel
theorem own_d_method_2_code_13 : decode method_2_code 13 = .ok (.getstatic 13, 3) := by decide +kernel
theorem own_d_method_2_code_16 : decode method_2_code 16 = .ok (.areturn, 1) := by decide +kernel
theorem own_d_prog_74_method_5_code_7 : decode prog_74_method_5_code 7 = .ok (.aload_n 0, 1) := by decide +kernel
theorem own_d_prog_74_method_5_code_8 : decode prog_74_method_5_code 8 = .ok (.getstatic 10, 3) := by decide +kernel
theorem own_d_prog_74_method_5_code_11 : decode prog_74_method_5_code 11 = .ok (.if_acmp .eq 7, 3) := by decide +kernel
theorem own_d_prog_74_method_5_code_14 : decode prog_74_method_5_code 14 = .ok (.iconst 1, 1) := by decide +kernel
theorem own_d_prog_74_method_5_code_15 : decode prog_74_method_5_code 15 = .ok (.goto 4, 3) := by decide +kernel
theorem own_d_method_3_code_6 : decode method_3_code 6 = .ok (.iload_n 0, 1) := by decide +kernel
theorem own_d_method_3_code_7 : decode method_3_code 7 = .ok (.iconst 1, 1) := by decide +kernel
theorem own_d_method_3_code_8 : decode method_3_code 8 = .ok (.if_icmp .ne 5, 3) := by decide +kernel
theorem own_d_method_3_code_11 : decode method_3_code 11 = .ok (.iconst 1, 1) := by decide +kernel
theorem own_d_method_3_code_12 : decode method_3_code 12 = .ok (.ireturn, 1) := by decide +kernel
theorem own_d_method_2_code_17 : decode method_2_code 17 = .ok (.iload_n 0, 1) := by decide +kernel
theorem own_d_method_2_code_18 : decode method_2_code 18 = .ok (.iconst 2, 1) := by decide +kernel
theorem own_d_method_2_code_19 : decode method_2_code 19 = .ok (.if_icmp .ne 7, 3) := by decide +kernel
theorem own_d_method_2_code_22 : decode method_2_code 22 = .ok (.getstatic 16, 3) := by decide +kernel
theorem own_d_method_2_code_25 : decode method_2_code 25 = .ok (.areturn, 1) := by decide +kernel
theorem own_d_method_3_code_13 : decode method_3_code 13 = .ok (.iload_n 0, 1) := by decide +kernel
theorem own_d_method_3_code_14 : decode method_3_code 14 = .ok (.iconst 2, 1) := by decide +kernel
theorem own_d_method_3_code_15 : decode method_3_code 15 = .ok (.if_icmp .ne 5, 3) := by decide +kernel
theorem own_d_method_3_code_18 : decode method_3_code 18 = .ok (.iconst 0, 1) := by decide +kernel
theorem own_d_method_3_code_19 : decode method_3_code 19 = .ok (.ireturn, 1) := by decide +kernel
theorem own_d_method_2_code_26 : decode method_2_code 26 = .ok (.iload_n 0, 1) := by decide +kernel
theorem own_d_method_2_code_27 : decode method_2_code 27 = .ok (.iconst 3, 1) := by decide +kernel
theorem own_d_method_2_code_28 : decode method_2_code 28 = .ok (.if_icmp .ne 7, 3) := by decide +kernel
theorem own_d_method_2_code_31 : decode method_2_code 31 = .ok (.getstatic 19, 3) := by decide +kernel
theorem own_d_method_2_code_34 : decode method_2_code 34 = .ok (.areturn, 1) := by decide +kernel
theorem own_d_method_3_code_20 : decode method_3_code 20 = .ok (.iload_n 0, 1) := by decide +kernel
theorem own_d_method_3_code_21 : decode method_3_code 21 = .ok (.iconst 3, 1) := by decide +kernel
theorem own_d_method_3_code_22 : decode method_3_code 22 = .ok (.if_icmp .ne 5, 3) := by decide +kernel
theorem own_d_method_3_code_25 : decode method_3_code 25 = .ok (.iconst 1, 1) := by decide +kernel
theorem own_d_method_3_code_26 : decode method_3_code 26 = .ok (.ireturn, 1) := by decide +kernel
theorem own_d_method_2_code_35 : decode method_2_code 35 = .ok (.iload_n 0, 1) := by decide +kernel
theorem own_d_method_2_code_36 : decode method_2_code 36 = .ok (.iconst 4, 1) := by decide +kernel
theorem own_d_method_2_code_37 : decode method_2_code 37 = .ok (.if_icmp .ne 7, 3) := by decide +kernel
theorem own_d_method_2_code_40 : decode method_2_code 40 = .ok (.getstatic 22, 3) := by decide +kernel
theorem own_d_method_2_code_43 : decode method_2_code 43 = .ok (.areturn, 1) := by decide +kernel
theorem own_d_method_3_code_27 : decode method_3_code 27 = .ok (.iload_n 0, 1) := by decide +kernel
theorem own_d_method_3_code_28 : decode method_3_code 28 = .ok (.iconst 4, 1) := by decide +kernel
theorem own_d_method_3_code_29 : decode method_3_code 29 = .ok (.if_icmp .ne 5, 3) := by decide +kernel
theorem own_d_method_3_code_32 : decode method_3_code 32 = .ok (.iconst 1, 1) := by decide +kernel
theorem own_d_method_3_code_33 : decode method_3_code 33 = .ok (.ireturn, 1) := by decide +kernel
theorem own_d_method_2_code_44 : decode method_2_code 44 = .ok (.getstatic 25, 3) := by decide +kernel
theorem own_d_method_2_code_47 : decode method_2_code 47 = .ok (.areturn, 1) := by decide +kernel
theorem own_d_method_3_code_34 : decode method_3_code 34 = .ok (.iconst 1, 1) := by decide +kernel
theorem own_d_method_3_code_35 : decode method_3_code 35 = .ok (.ireturn, 1) := by decide +kernel
theorem own_mod (x : Int32) : ((x &&& (2147483647 : Int32)) % (6 : Int32)) = (0 : Int32) ∨ ((x &&& (2147483647 : Int32)) % (6 : Int32)) = (1 : Int32) ∨ ((x &&& (2147483647 : Int32)) % (6 : Int32)) = (2 : Int32) ∨ ((x &&& (2147483647 : Int32)) % (6 : Int32)) = (3 : Int32) ∨ ((x &&& (2147483647 : Int32)) % (6 : Int32)) = (4 : Int32) ∨ ((x &&& (2147483647 : Int32)) % (6 : Int32)) = (5 : Int32) := by
  have e1 : (x &&& (2147483647 : Int32)).toInt = x.toInt % (2 ^ 31 : Nat) := c_mask x _ 31 (by decide) (by decide)
  have e2 := (c_irem (x &&& (2147483647 : Int32)) (6 : Int32) 6 rfl).1 (by omega)
  have h : ((x &&& (2147483647 : Int32)) % (6 : Int32)).toInt = 0 ∨ ((x &&& (2147483647 : Int32)) % (6 : Int32)).toInt = 1 ∨ ((x &&& (2147483647 : Int32)) % (6 : Int32)).toInt = 2 ∨ ((x &&& (2147483647 : Int32)) % (6 : Int32)).toInt = 3 ∨ ((x &&& (2147483647 : Int32)) % (6 : Int32)).toInt = 4 ∨ ((x &&& (2147483647 : Int32)) % (6 : Int32)).toInt = 5 := by omega
  rcases h with h | h | h | h | h | h
  · exact Or.inl (Int32.toInt_inj.mp h)
  · exact Or.inr (Or.inl (Int32.toInt_inj.mp h))
  · exact Or.inr (Or.inr (Or.inl (Int32.toInt_inj.mp h)))
  · exact Or.inr (Or.inr (Or.inr (Or.inl (Int32.toInt_inj.mp h))))
  · exact Or.inr (Or.inr (Or.inr (Or.inr (Or.inl (Int32.toInt_inj.mp h)))))
  · exact Or.inr (Or.inr (Or.inr (Or.inr (Or.inr ((Int32.toInt_inj.mp h))))))
set_option maxRecDepth 65536 in
set_option maxHeartbeats 40000000 in
theorem own_pick_0 (l : Launch) (Z : State) (a0 : Array Value) (hw : ∀ d ∈ tables_1, d.before a0 Z = true) (h0 : Heap) (a_EStatus_MATCH : Addr) (a_EStatus_NO_RATE : Addr) (a_EStatus_PRICED : Addr) (a_EStatus_DIFFERS : Addr) (a_EStatus_REJECTED : Addr) (a_EStatus_FULL : Addr) (S_EStatus_MATCH : Sta Z h0 "com/example/megablock/megablock/service/ReconciledRecord$EStatus" "MATCH" "Lcom/example/megablock/megablock/service/ReconciledRecord$EStatus;" (.ref a_EStatus_MATCH)) (S_EStatus_NO_RATE : Sta Z h0 "com/example/megablock/megablock/service/ReconciledRecord$EStatus" "NO_RATE" "Lcom/example/megablock/megablock/service/ReconciledRecord$EStatus;" (.ref a_EStatus_NO_RATE)) (S_EStatus_PRICED : Sta Z h0 "com/example/megablock/megablock/service/ReconciledRecord$EStatus" "PRICED" "Lcom/example/megablock/megablock/service/ReconciledRecord$EStatus;" (.ref a_EStatus_PRICED)) (S_EStatus_DIFFERS : Sta Z h0 "com/example/megablock/megablock/service/ReconciledRecord$EStatus" "DIFFERS" "Lcom/example/megablock/megablock/service/ReconciledRecord$EStatus;" (.ref a_EStatus_DIFFERS)) (S_EStatus_REJECTED : Sta Z h0 "com/example/megablock/megablock/service/ReconciledRecord$EStatus" "REJECTED" "Lcom/example/megablock/megablock/service/ReconciledRecord$EStatus;" (.ref a_EStatus_REJECTED)) (S_EStatus_FULL : Sta Z h0 "com/example/megablock/megablock/service/ReconciledRecord$EStatus" "FULL" "Lcom/example/megablock/megablock/service/ReconciledRecord$EStatus;" (.ref a_EStatus_FULL)) (E_EStatus_MATCH : Exa Z h0 a_EStatus_MATCH "com/example/megablock/megablock/service/ReconciledRecord$EStatus") (E_EStatus_NO_RATE : Exa Z h0 a_EStatus_NO_RATE "com/example/megablock/megablock/service/ReconciledRecord$EStatus") (E_EStatus_PRICED : Exa Z h0 a_EStatus_PRICED "com/example/megablock/megablock/service/ReconciledRecord$EStatus") (E_EStatus_DIFFERS : Exa Z h0 a_EStatus_DIFFERS "com/example/megablock/megablock/service/ReconciledRecord$EStatus") (E_EStatus_REJECTED : Exa Z h0 a_EStatus_REJECTED "com/example/megablock/megablock/service/ReconciledRecord$EStatus") (E_EStatus_FULL : Exa Z h0 a_EStatus_FULL "com/example/megablock/megablock/service/ReconciledRecord$EStatus") (F_EStatus_NO_RATE_ordinal : Fld Z h0 a_EStatus_NO_RATE "java/lang/Enum" "ordinal" "I" (.int (3 : Int32))) (F_EStatus_MATCH_ordinal : Fld Z h0 a_EStatus_MATCH "java/lang/Enum" "ordinal" "I" (.int (0 : Int32))) (F_EStatus_PRICED_ordinal : Fld Z h0 a_EStatus_PRICED "java/lang/Enum" "ordinal" "I" (.int (2 : Int32))) (F_EStatus_DIFFERS_ordinal : Fld Z h0 a_EStatus_DIFFERS "java/lang/Enum" "ordinal" "I" (.int (1 : Int32))) (F_EStatus_REJECTED_ordinal : Fld Z h0 a_EStatus_REJECTED "java/lang/Enum" "ordinal" "I" (.int (5 : Int32))) (F_EStatus_FULL_ordinal : Fld Z h0 a_EStatus_FULL "java/lang/Enum" "ordinal" "I" (.int (4 : Int32))) :
    own_Pure l Z h0 [] ({ frames := 0, cells := 0, slots := 0, locals := 0 } : Room) (⟨"com/example/megablock/megablock/service/EStatusNeedsAttentionPinLaw", "pick", "(I)Lcom/example/megablock/megablock/service/ReconciledRecord$EStatus;"⟩ : MethodName) method_2_code 1 (some (.object "com/example/megablock/megablock/service/ReconciledRecord$EStatus")) #[(.int (0 : Int32))] (some (.ref a_EStatus_MATCH)) := by
  refine own_body (plainFor_of_name own_pn_0) ?_
  intro p e s m below meth c T0 X0 hx hby hml hown hZ e0 hret hlk hnm hnamed
  replace hown : s.vm.findClass "com/example/megablock/megablock/service/EStatusNeedsAttentionPinLaw" = some m.cls := hown
  replace hml : c.maxLocals = 1 := hml
  have ef : entryFrame m #[(.int (0 : Int32))] 1 = mkF m 0 #[.val (.int (0 : Int32))] [] := by first | (simp [entryFrame, mkF, argsToLocals, Value.category]; done) | rfl
  rw [ef]
  refine own_st (T' := T0) (g' := (mkF m 1 #[.val (.int (0 : Int32))] [(.int (0 : Int32))])) (fun _ k => XS.iloadN X0.here hx rfl (hb hby own_d_method_2_code_0) rfl k) ?_
  refine own_st (T' := T0) (g' := (mkF m 4 #[.val (.int (0 : Int32))] [])) (fun _ k => XS.ifNo X0.here hx rfl (hb hby own_d_method_2_code_1) rfl (by decide) k) ?_
  obtain ⟨T1, X1, e1, st1⟩ := getS2 X0 hx hZ hown (host := "") (Or.inl (hw _ (List.mem_of_getElem? (i := 5) rfl))) Via.refl e0 S_EStatus_MATCH (g := (mkF m 4 #[.val (.int (0 : Int32))] [])) rfl (hb hby own_d_method_2_code_4)
  refine own_st (T' := T1) (g' := (mkF m 7 #[.val (.int (0 : Int32))] [(.ref a_EStatus_MATCH)])) st1 ?_
  exact own_ret X1 hx hlk hret rfl (Or.inr (Or.inr (Or.inr (Or.inr ⟨rfl, rfl, rfl⟩)))) (hb hby own_d_method_2_code_7) (by decide) (by decide) ⟨rfl, rfl, e1⟩
set_option maxRecDepth 65536 in
set_option maxHeartbeats 40000000 in
theorem own_needsAttention_1 (l : Launch) (Z : State) (a0 : Array Value) (hw : ∀ d ∈ tables_1, d.before a0 Z = true) (h0 : Heap) (a_EStatus_MATCH : Addr) (a_EStatus_NO_RATE : Addr) (a_EStatus_PRICED : Addr) (a_EStatus_DIFFERS : Addr) (a_EStatus_REJECTED : Addr) (a_EStatus_FULL : Addr) (S_EStatus_MATCH : Sta Z h0 "com/example/megablock/megablock/service/ReconciledRecord$EStatus" "MATCH" "Lcom/example/megablock/megablock/service/ReconciledRecord$EStatus;" (.ref a_EStatus_MATCH)) (S_EStatus_NO_RATE : Sta Z h0 "com/example/megablock/megablock/service/ReconciledRecord$EStatus" "NO_RATE" "Lcom/example/megablock/megablock/service/ReconciledRecord$EStatus;" (.ref a_EStatus_NO_RATE)) (S_EStatus_PRICED : Sta Z h0 "com/example/megablock/megablock/service/ReconciledRecord$EStatus" "PRICED" "Lcom/example/megablock/megablock/service/ReconciledRecord$EStatus;" (.ref a_EStatus_PRICED)) (S_EStatus_DIFFERS : Sta Z h0 "com/example/megablock/megablock/service/ReconciledRecord$EStatus" "DIFFERS" "Lcom/example/megablock/megablock/service/ReconciledRecord$EStatus;" (.ref a_EStatus_DIFFERS)) (S_EStatus_REJECTED : Sta Z h0 "com/example/megablock/megablock/service/ReconciledRecord$EStatus" "REJECTED" "Lcom/example/megablock/megablock/service/ReconciledRecord$EStatus;" (.ref a_EStatus_REJECTED)) (S_EStatus_FULL : Sta Z h0 "com/example/megablock/megablock/service/ReconciledRecord$EStatus" "FULL" "Lcom/example/megablock/megablock/service/ReconciledRecord$EStatus;" (.ref a_EStatus_FULL)) (E_EStatus_MATCH : Exa Z h0 a_EStatus_MATCH "com/example/megablock/megablock/service/ReconciledRecord$EStatus") (E_EStatus_NO_RATE : Exa Z h0 a_EStatus_NO_RATE "com/example/megablock/megablock/service/ReconciledRecord$EStatus") (E_EStatus_PRICED : Exa Z h0 a_EStatus_PRICED "com/example/megablock/megablock/service/ReconciledRecord$EStatus") (E_EStatus_DIFFERS : Exa Z h0 a_EStatus_DIFFERS "com/example/megablock/megablock/service/ReconciledRecord$EStatus") (E_EStatus_REJECTED : Exa Z h0 a_EStatus_REJECTED "com/example/megablock/megablock/service/ReconciledRecord$EStatus") (E_EStatus_FULL : Exa Z h0 a_EStatus_FULL "com/example/megablock/megablock/service/ReconciledRecord$EStatus") (F_EStatus_NO_RATE_ordinal : Fld Z h0 a_EStatus_NO_RATE "java/lang/Enum" "ordinal" "I" (.int (3 : Int32))) (F_EStatus_MATCH_ordinal : Fld Z h0 a_EStatus_MATCH "java/lang/Enum" "ordinal" "I" (.int (0 : Int32))) (F_EStatus_PRICED_ordinal : Fld Z h0 a_EStatus_PRICED "java/lang/Enum" "ordinal" "I" (.int (2 : Int32))) (F_EStatus_DIFFERS_ordinal : Fld Z h0 a_EStatus_DIFFERS "java/lang/Enum" "ordinal" "I" (.int (1 : Int32))) (F_EStatus_REJECTED_ordinal : Fld Z h0 a_EStatus_REJECTED "java/lang/Enum" "ordinal" "I" (.int (5 : Int32))) (F_EStatus_FULL_ordinal : Fld Z h0 a_EStatus_FULL "java/lang/Enum" "ordinal" "I" (.int (4 : Int32))) :
    own_Pure l Z h0 [] ({ frames := 0, cells := 0, slots := 0, locals := 0 } : Room) (⟨"com/example/megablock/megablock/service/ReconciledRecord$EStatus", "needsAttention", "()Z"⟩ : MethodName) prog_74_method_5_code 1 (some .boolean) #[(.ref a_EStatus_MATCH)] (some (.int (0 : Int32))) := by
  refine own_body (plainFor_of_name own_pn_1) ?_
  intro p e s m below meth c T0 X0 hx hby hml hown hZ e0 hret hlk hnm hnamed
  replace hown : s.vm.findClass "com/example/megablock/megablock/service/ReconciledRecord$EStatus" = some m.cls := hown
  replace hml : c.maxLocals = 1 := hml
  have ef : entryFrame m #[(.ref a_EStatus_MATCH)] 1 = mkF m 0 #[.val (.ref a_EStatus_MATCH)] [] := by first | (simp [entryFrame, mkF, argsToLocals, Value.category]; done) | rfl
  rw [ef]
  refine own_st (T' := T0) (g' := (mkF m 1 #[.val (.ref a_EStatus_MATCH)] [(.ref a_EStatus_MATCH)])) (fun _ k => XS.aloadN X0.here hx rfl (hb hby own_d_prog_74_method_5_code_0) rfl rfl k) ?_
  obtain ⟨T1, X1, e1, st1⟩ := getS2 X0 hx hZ hown (host := "") (Or.inl (hw _ (List.mem_of_getElem? (i := 13) rfl))) Via.refl e0 S_EStatus_MATCH (g := (mkF m 1 #[.val (.ref a_EStatus_MATCH)] [(.ref a_EStatus_MATCH)])) rfl (hb hby own_d_prog_74_method_5_code_1)
  refine own_st (T' := T1) (g' := (mkF m 4 #[.val (.ref a_EStatus_MATCH)] [(.ref a_EStatus_MATCH), (.ref a_EStatus_MATCH)])) st1 ?_
  refine own_st (T' := T1) (g' := (mkF m 18 #[.val (.ref a_EStatus_MATCH)] [])) (fun _ k => Jvm.RoadKit.acmp (g := (mkF m 4 #[.val (.ref a_EStatus_MATCH)] [(.ref a_EStatus_MATCH), (.ref a_EStatus_MATCH)])) X1 hx rfl rfl rfl (pc0 := 4) (pc' := 18) (same := true) rfl (hb hby own_d_prog_74_method_5_code_4) rfl (decide_eq_true rfl) (by decide) (by decide) k) ?_
  refine own_st (T' := T1) (g' := (mkF m 19 #[.val (.ref a_EStatus_MATCH)] [(.int (0 : Int32))])) (fun _ k => XS.iconst X1.here hx rfl (hb hby own_d_prog_74_method_5_code_18) k) ?_
  exact own_ret X1 hx hlk hret rfl (Or.inl ⟨rfl, Or.inr (Or.inl rfl), _, rfl⟩) (hb hby own_d_prog_74_method_5_code_19) (by decide) (by decide) ⟨rfl, rfl, e1⟩
set_option maxRecDepth 65536 in
set_option maxHeartbeats 40000000 in
theorem own_expected_2 (l : Launch) (Z : State) (a0 : Array Value) (hw : ∀ d ∈ tables_1, d.before a0 Z = true) (h0 : Heap) (a_EStatus_MATCH : Addr) (a_EStatus_NO_RATE : Addr) (a_EStatus_PRICED : Addr) (a_EStatus_DIFFERS : Addr) (a_EStatus_REJECTED : Addr) (a_EStatus_FULL : Addr) (S_EStatus_MATCH : Sta Z h0 "com/example/megablock/megablock/service/ReconciledRecord$EStatus" "MATCH" "Lcom/example/megablock/megablock/service/ReconciledRecord$EStatus;" (.ref a_EStatus_MATCH)) (S_EStatus_NO_RATE : Sta Z h0 "com/example/megablock/megablock/service/ReconciledRecord$EStatus" "NO_RATE" "Lcom/example/megablock/megablock/service/ReconciledRecord$EStatus;" (.ref a_EStatus_NO_RATE)) (S_EStatus_PRICED : Sta Z h0 "com/example/megablock/megablock/service/ReconciledRecord$EStatus" "PRICED" "Lcom/example/megablock/megablock/service/ReconciledRecord$EStatus;" (.ref a_EStatus_PRICED)) (S_EStatus_DIFFERS : Sta Z h0 "com/example/megablock/megablock/service/ReconciledRecord$EStatus" "DIFFERS" "Lcom/example/megablock/megablock/service/ReconciledRecord$EStatus;" (.ref a_EStatus_DIFFERS)) (S_EStatus_REJECTED : Sta Z h0 "com/example/megablock/megablock/service/ReconciledRecord$EStatus" "REJECTED" "Lcom/example/megablock/megablock/service/ReconciledRecord$EStatus;" (.ref a_EStatus_REJECTED)) (S_EStatus_FULL : Sta Z h0 "com/example/megablock/megablock/service/ReconciledRecord$EStatus" "FULL" "Lcom/example/megablock/megablock/service/ReconciledRecord$EStatus;" (.ref a_EStatus_FULL)) (E_EStatus_MATCH : Exa Z h0 a_EStatus_MATCH "com/example/megablock/megablock/service/ReconciledRecord$EStatus") (E_EStatus_NO_RATE : Exa Z h0 a_EStatus_NO_RATE "com/example/megablock/megablock/service/ReconciledRecord$EStatus") (E_EStatus_PRICED : Exa Z h0 a_EStatus_PRICED "com/example/megablock/megablock/service/ReconciledRecord$EStatus") (E_EStatus_DIFFERS : Exa Z h0 a_EStatus_DIFFERS "com/example/megablock/megablock/service/ReconciledRecord$EStatus") (E_EStatus_REJECTED : Exa Z h0 a_EStatus_REJECTED "com/example/megablock/megablock/service/ReconciledRecord$EStatus") (E_EStatus_FULL : Exa Z h0 a_EStatus_FULL "com/example/megablock/megablock/service/ReconciledRecord$EStatus") (F_EStatus_NO_RATE_ordinal : Fld Z h0 a_EStatus_NO_RATE "java/lang/Enum" "ordinal" "I" (.int (3 : Int32))) (F_EStatus_MATCH_ordinal : Fld Z h0 a_EStatus_MATCH "java/lang/Enum" "ordinal" "I" (.int (0 : Int32))) (F_EStatus_PRICED_ordinal : Fld Z h0 a_EStatus_PRICED "java/lang/Enum" "ordinal" "I" (.int (2 : Int32))) (F_EStatus_DIFFERS_ordinal : Fld Z h0 a_EStatus_DIFFERS "java/lang/Enum" "ordinal" "I" (.int (1 : Int32))) (F_EStatus_REJECTED_ordinal : Fld Z h0 a_EStatus_REJECTED "java/lang/Enum" "ordinal" "I" (.int (5 : Int32))) (F_EStatus_FULL_ordinal : Fld Z h0 a_EStatus_FULL "java/lang/Enum" "ordinal" "I" (.int (4 : Int32))) :
    own_Pure l Z h0 [] ({ frames := 0, cells := 0, slots := 0, locals := 0 } : Room) (⟨"com/example/megablock/megablock/service/EStatusNeedsAttentionPinLaw", "expected", "(I)Z"⟩ : MethodName) method_3_code 1 (some .boolean) #[(.int (0 : Int32))] (some (.int (0 : Int32))) := by
  refine own_body (plainFor_of_name own_pn_0) ?_
  intro p e s m below meth c T0 X0 hx hby hml hown hZ e0 hret hlk hnm hnamed
  replace hown : s.vm.findClass "com/example/megablock/megablock/service/EStatusNeedsAttentionPinLaw" = some m.cls := hown
  replace hml : c.maxLocals = 1 := hml
  have ef : entryFrame m #[(.int (0 : Int32))] 1 = mkF m 0 #[.val (.int (0 : Int32))] [] := by first | (simp [entryFrame, mkF, argsToLocals, Value.category]; done) | rfl
  rw [ef]
  refine own_st (T' := T0) (g' := (mkF m 1 #[.val (.int (0 : Int32))] [(.int (0 : Int32))])) (fun _ k => XS.iloadN X0.here hx rfl (hb hby own_d_method_3_code_0) rfl k) ?_
  refine own_st (T' := T0) (g' := (mkF m 4 #[.val (.int (0 : Int32))] [])) (fun _ k => XS.ifNo X0.here hx rfl (hb hby own_d_method_3_code_1) rfl (by decide) k) ?_
  refine own_st (T' := T0) (g' := (mkF m 5 #[.val (.int (0 : Int32))] [(.int (0 : Int32))])) (fun _ k => XS.iconst X0.here hx rfl (hb hby own_d_method_3_code_4) k) ?_
  exact own_ret X0 hx hlk hret rfl (Or.inl ⟨rfl, Or.inr (Or.inl rfl), _, rfl⟩) (hb hby own_d_method_3_code_5) (by decide) (by decide) ⟨rfl, rfl, e0⟩
set_option maxRecDepth 65536 in
set_option maxHeartbeats 40000000 in
theorem own_pick_3 (l : Launch) (Z : State) (a0 : Array Value) (hw : ∀ d ∈ tables_1, d.before a0 Z = true) (h0 : Heap) (a_EStatus_MATCH : Addr) (a_EStatus_NO_RATE : Addr) (a_EStatus_PRICED : Addr) (a_EStatus_DIFFERS : Addr) (a_EStatus_REJECTED : Addr) (a_EStatus_FULL : Addr) (S_EStatus_MATCH : Sta Z h0 "com/example/megablock/megablock/service/ReconciledRecord$EStatus" "MATCH" "Lcom/example/megablock/megablock/service/ReconciledRecord$EStatus;" (.ref a_EStatus_MATCH)) (S_EStatus_NO_RATE : Sta Z h0 "com/example/megablock/megablock/service/ReconciledRecord$EStatus" "NO_RATE" "Lcom/example/megablock/megablock/service/ReconciledRecord$EStatus;" (.ref a_EStatus_NO_RATE)) (S_EStatus_PRICED : Sta Z h0 "com/example/megablock/megablock/service/ReconciledRecord$EStatus" "PRICED" "Lcom/example/megablock/megablock/service/ReconciledRecord$EStatus;" (.ref a_EStatus_PRICED)) (S_EStatus_DIFFERS : Sta Z h0 "com/example/megablock/megablock/service/ReconciledRecord$EStatus" "DIFFERS" "Lcom/example/megablock/megablock/service/ReconciledRecord$EStatus;" (.ref a_EStatus_DIFFERS)) (S_EStatus_REJECTED : Sta Z h0 "com/example/megablock/megablock/service/ReconciledRecord$EStatus" "REJECTED" "Lcom/example/megablock/megablock/service/ReconciledRecord$EStatus;" (.ref a_EStatus_REJECTED)) (S_EStatus_FULL : Sta Z h0 "com/example/megablock/megablock/service/ReconciledRecord$EStatus" "FULL" "Lcom/example/megablock/megablock/service/ReconciledRecord$EStatus;" (.ref a_EStatus_FULL)) (E_EStatus_MATCH : Exa Z h0 a_EStatus_MATCH "com/example/megablock/megablock/service/ReconciledRecord$EStatus") (E_EStatus_NO_RATE : Exa Z h0 a_EStatus_NO_RATE "com/example/megablock/megablock/service/ReconciledRecord$EStatus") (E_EStatus_PRICED : Exa Z h0 a_EStatus_PRICED "com/example/megablock/megablock/service/ReconciledRecord$EStatus") (E_EStatus_DIFFERS : Exa Z h0 a_EStatus_DIFFERS "com/example/megablock/megablock/service/ReconciledRecord$EStatus") (E_EStatus_REJECTED : Exa Z h0 a_EStatus_REJECTED "com/example/megablock/megablock/service/ReconciledRecord$EStatus") (E_EStatus_FULL : Exa Z h0 a_EStatus_FULL "com/example/megablock/megablock/service/ReconciledRecord$EStatus") (F_EStatus_NO_RATE_ordinal : Fld Z h0 a_EStatus_NO_RATE "java/lang/Enum" "ordinal" "I" (.int (3 : Int32))) (F_EStatus_MATCH_ordinal : Fld Z h0 a_EStatus_MATCH "java/lang/Enum" "ordinal" "I" (.int (0 : Int32))) (F_EStatus_PRICED_ordinal : Fld Z h0 a_EStatus_PRICED "java/lang/Enum" "ordinal" "I" (.int (2 : Int32))) (F_EStatus_DIFFERS_ordinal : Fld Z h0 a_EStatus_DIFFERS "java/lang/Enum" "ordinal" "I" (.int (1 : Int32))) (F_EStatus_REJECTED_ordinal : Fld Z h0 a_EStatus_REJECTED "java/lang/Enum" "ordinal" "I" (.int (5 : Int32))) (F_EStatus_FULL_ordinal : Fld Z h0 a_EStatus_FULL "java/lang/Enum" "ordinal" "I" (.int (4 : Int32))) :
    own_Pure l Z h0 [] ({ frames := 0, cells := 0, slots := 0, locals := 0 } : Room) (⟨"com/example/megablock/megablock/service/EStatusNeedsAttentionPinLaw", "pick", "(I)Lcom/example/megablock/megablock/service/ReconciledRecord$EStatus;"⟩ : MethodName) method_2_code 1 (some (.object "com/example/megablock/megablock/service/ReconciledRecord$EStatus")) #[(.int (1 : Int32))] (some (.ref a_EStatus_DIFFERS)) := by
  refine own_body (plainFor_of_name own_pn_0) ?_
  intro p e s m below meth c T0 X0 hx hby hml hown hZ e0 hret hlk hnm hnamed
  replace hown : s.vm.findClass "com/example/megablock/megablock/service/EStatusNeedsAttentionPinLaw" = some m.cls := hown
  replace hml : c.maxLocals = 1 := hml
  have ef : entryFrame m #[(.int (1 : Int32))] 1 = mkF m 0 #[.val (.int (1 : Int32))] [] := by first | (simp [entryFrame, mkF, argsToLocals, Value.category]; done) | rfl
  rw [ef]
  refine own_st (T' := T0) (g' := (mkF m 1 #[.val (.int (1 : Int32))] [(.int (1 : Int32))])) (fun _ k => XS.iloadN X0.here hx rfl (hb hby own_d_method_2_code_0) rfl k) ?_
  refine own_st (T' := T0) (g' := (mkF m 8 #[.val (.int (1 : Int32))] [])) (fun _ k => XS.ifYes X0.here hx rfl (pc0 := 1) (pc' := 8) rfl (hb hby own_d_method_2_code_1) rfl (by decide) (by decide) (by decide) k) ?_
  refine own_st (T' := T0) (g' := (mkF m 9 #[.val (.int (1 : Int32))] [(.int (1 : Int32))])) (fun _ k => XS.iloadN X0.here hx rfl (hb hby own_d_method_2_code_8) rfl k) ?_
  refine own_st (T' := T0) (g' := (mkF m 10 #[.val (.int (1 : Int32))] [(.int (1 : Int32)), (.int (1 : Int32))])) (fun _ k => XS.iconst X0.here hx rfl (hb hby own_d_method_2_code_9) k) ?_
  refine own_st (T' := T0) (g' := (mkF m 13 #[.val (.int (1 : Int32))] [])) (fun _ k => XS.icmpNo X0.here hx rfl (hb hby own_d_method_2_code_10) rfl (by decide) k) ?_
  obtain ⟨T1, X1, e1, st1⟩ := getS2 X0 hx hZ hown (host := "") (Or.inl (hw _ (List.mem_of_getElem? (i := 22) rfl))) Via.refl e0 S_EStatus_DIFFERS (g := (mkF m 13 #[.val (.int (1 : Int32))] [])) rfl (hb hby own_d_method_2_code_13)
  refine own_st (T' := T1) (g' := (mkF m 16 #[.val (.int (1 : Int32))] [(.ref a_EStatus_DIFFERS)])) st1 ?_
  exact own_ret X1 hx hlk hret rfl (Or.inr (Or.inr (Or.inr (Or.inr ⟨rfl, rfl, rfl⟩)))) (hb hby own_d_method_2_code_16) (by decide) (by decide) ⟨rfl, rfl, e1⟩
set_option maxRecDepth 65536 in
set_option maxHeartbeats 40000000 in
theorem own_needsAttention_4 (l : Launch) (Z : State) (a0 : Array Value) (hw : ∀ d ∈ tables_1, d.before a0 Z = true) (h0 : Heap) (a_EStatus_MATCH : Addr) (a_EStatus_NO_RATE : Addr) (a_EStatus_PRICED : Addr) (a_EStatus_DIFFERS : Addr) (a_EStatus_REJECTED : Addr) (a_EStatus_FULL : Addr) (S_EStatus_MATCH : Sta Z h0 "com/example/megablock/megablock/service/ReconciledRecord$EStatus" "MATCH" "Lcom/example/megablock/megablock/service/ReconciledRecord$EStatus;" (.ref a_EStatus_MATCH)) (S_EStatus_NO_RATE : Sta Z h0 "com/example/megablock/megablock/service/ReconciledRecord$EStatus" "NO_RATE" "Lcom/example/megablock/megablock/service/ReconciledRecord$EStatus;" (.ref a_EStatus_NO_RATE)) (S_EStatus_PRICED : Sta Z h0 "com/example/megablock/megablock/service/ReconciledRecord$EStatus" "PRICED" "Lcom/example/megablock/megablock/service/ReconciledRecord$EStatus;" (.ref a_EStatus_PRICED)) (S_EStatus_DIFFERS : Sta Z h0 "com/example/megablock/megablock/service/ReconciledRecord$EStatus" "DIFFERS" "Lcom/example/megablock/megablock/service/ReconciledRecord$EStatus;" (.ref a_EStatus_DIFFERS)) (S_EStatus_REJECTED : Sta Z h0 "com/example/megablock/megablock/service/ReconciledRecord$EStatus" "REJECTED" "Lcom/example/megablock/megablock/service/ReconciledRecord$EStatus;" (.ref a_EStatus_REJECTED)) (S_EStatus_FULL : Sta Z h0 "com/example/megablock/megablock/service/ReconciledRecord$EStatus" "FULL" "Lcom/example/megablock/megablock/service/ReconciledRecord$EStatus;" (.ref a_EStatus_FULL)) (E_EStatus_MATCH : Exa Z h0 a_EStatus_MATCH "com/example/megablock/megablock/service/ReconciledRecord$EStatus") (E_EStatus_NO_RATE : Exa Z h0 a_EStatus_NO_RATE "com/example/megablock/megablock/service/ReconciledRecord$EStatus") (E_EStatus_PRICED : Exa Z h0 a_EStatus_PRICED "com/example/megablock/megablock/service/ReconciledRecord$EStatus") (E_EStatus_DIFFERS : Exa Z h0 a_EStatus_DIFFERS "com/example/megablock/megablock/service/ReconciledRecord$EStatus") (E_EStatus_REJECTED : Exa Z h0 a_EStatus_REJECTED "com/example/megablock/megablock/service/ReconciledRecord$EStatus") (E_EStatus_FULL : Exa Z h0 a_EStatus_FULL "com/example/megablock/megablock/service/ReconciledRecord$EStatus") (F_EStatus_NO_RATE_ordinal : Fld Z h0 a_EStatus_NO_RATE "java/lang/Enum" "ordinal" "I" (.int (3 : Int32))) (F_EStatus_MATCH_ordinal : Fld Z h0 a_EStatus_MATCH "java/lang/Enum" "ordinal" "I" (.int (0 : Int32))) (F_EStatus_PRICED_ordinal : Fld Z h0 a_EStatus_PRICED "java/lang/Enum" "ordinal" "I" (.int (2 : Int32))) (F_EStatus_DIFFERS_ordinal : Fld Z h0 a_EStatus_DIFFERS "java/lang/Enum" "ordinal" "I" (.int (1 : Int32))) (F_EStatus_REJECTED_ordinal : Fld Z h0 a_EStatus_REJECTED "java/lang/Enum" "ordinal" "I" (.int (5 : Int32))) (F_EStatus_FULL_ordinal : Fld Z h0 a_EStatus_FULL "java/lang/Enum" "ordinal" "I" (.int (4 : Int32))) :
    own_Pure l Z h0 [] ({ frames := 0, cells := 0, slots := 0, locals := 0 } : Room) (⟨"com/example/megablock/megablock/service/ReconciledRecord$EStatus", "needsAttention", "()Z"⟩ : MethodName) prog_74_method_5_code 1 (some .boolean) #[(.ref a_EStatus_DIFFERS)] (some (.int (1 : Int32))) := by
  refine own_body (plainFor_of_name own_pn_1) ?_
  intro p e s m below meth c T0 X0 hx hby hml hown hZ e0 hret hlk hnm hnamed
  replace hown : s.vm.findClass "com/example/megablock/megablock/service/ReconciledRecord$EStatus" = some m.cls := hown
  replace hml : c.maxLocals = 1 := hml
  have ef : entryFrame m #[(.ref a_EStatus_DIFFERS)] 1 = mkF m 0 #[.val (.ref a_EStatus_DIFFERS)] [] := by first | (simp [entryFrame, mkF, argsToLocals, Value.category]; done) | rfl
  rw [ef]
  refine own_st (T' := T0) (g' := (mkF m 1 #[.val (.ref a_EStatus_DIFFERS)] [(.ref a_EStatus_DIFFERS)])) (fun _ k => XS.aloadN X0.here hx rfl (hb hby own_d_prog_74_method_5_code_0) rfl rfl k) ?_
  obtain ⟨T1, X1, e1, st1⟩ := getS2 X0 hx hZ hown (host := "") (Or.inl (hw _ (List.mem_of_getElem? (i := 13) rfl))) Via.refl e0 S_EStatus_MATCH (g := (mkF m 1 #[.val (.ref a_EStatus_DIFFERS)] [(.ref a_EStatus_DIFFERS)])) rfl (hb hby own_d_prog_74_method_5_code_1)
  refine own_st (T' := T1) (g' := (mkF m 4 #[.val (.ref a_EStatus_DIFFERS)] [(.ref a_EStatus_MATCH), (.ref a_EStatus_DIFFERS)])) st1 ?_
  refine own_st (T' := T1) (g' := (mkF m 7 #[.val (.ref a_EStatus_DIFFERS)] [])) (fun _ k => Jvm.RoadKit.acmp (g := (mkF m 4 #[.val (.ref a_EStatus_DIFFERS)] [(.ref a_EStatus_MATCH), (.ref a_EStatus_DIFFERS)])) X1 hx rfl rfl rfl (pc0 := 4) (pc' := 7) (same := false) rfl (hb hby own_d_prog_74_method_5_code_4) rfl (decide_eq_false fun q => (Fld.ne F_EStatus_DIFFERS_ordinal F_EStatus_MATCH_ordinal (by decide)) (Value.ref.inj q)) (by decide) (by decide) k) ?_
  refine own_st (T' := T1) (g' := (mkF m 8 #[.val (.ref a_EStatus_DIFFERS)] [(.ref a_EStatus_DIFFERS)])) (fun _ k => XS.aloadN X1.here hx rfl (hb hby own_d_prog_74_method_5_code_7) rfl rfl k) ?_
  obtain ⟨T2, X2, e2, st2⟩ := getS2 X1 hx hZ hown (host := "") (Or.inl (hw _ (List.mem_of_getElem? (i := 19) rfl))) Via.refl e1 S_EStatus_PRICED (g := (mkF m 8 #[.val (.ref a_EStatus_DIFFERS)] [(.ref a_EStatus_DIFFERS)])) rfl (hb hby own_d_prog_74_method_5_code_8)
  refine own_st (T' := T2) (g' := (mkF m 11 #[.val (.ref a_EStatus_DIFFERS)] [(.ref a_EStatus_PRICED), (.ref a_EStatus_DIFFERS)])) st2 ?_
  refine own_st (T' := T2) (g' := (mkF m 14 #[.val (.ref a_EStatus_DIFFERS)] [])) (fun _ k => Jvm.RoadKit.acmp (g := (mkF m 11 #[.val (.ref a_EStatus_DIFFERS)] [(.ref a_EStatus_PRICED), (.ref a_EStatus_DIFFERS)])) X2 hx rfl rfl rfl (pc0 := 11) (pc' := 14) (same := false) rfl (hb hby own_d_prog_74_method_5_code_11) rfl (decide_eq_false fun q => (Fld.ne F_EStatus_DIFFERS_ordinal F_EStatus_PRICED_ordinal (by decide)) (Value.ref.inj q)) (by decide) (by decide) k) ?_
  refine own_st (T' := T2) (g' := (mkF m 15 #[.val (.ref a_EStatus_DIFFERS)] [(.int (1 : Int32))])) (fun _ k => XS.iconst X2.here hx rfl (hb hby own_d_prog_74_method_5_code_14) k) ?_
  refine own_st (T' := T2) (g' := (mkF m 19 #[.val (.ref a_EStatus_DIFFERS)] [(.int (1 : Int32))])) (fun _ k => XS.goto X2.here hx rfl (pc0 := 15) (pc' := 19) rfl (hb hby own_d_prog_74_method_5_code_15) (by decide) (by decide) k) ?_
  exact own_ret X2 hx hlk hret rfl (Or.inl ⟨rfl, Or.inr (Or.inl rfl), _, rfl⟩) (hb hby own_d_prog_74_method_5_code_19) (by decide) (by decide) ⟨rfl, rfl, e2⟩
set_option maxRecDepth 65536 in
set_option maxHeartbeats 40000000 in
theorem own_expected_5 (l : Launch) (Z : State) (a0 : Array Value) (hw : ∀ d ∈ tables_1, d.before a0 Z = true) (h0 : Heap) (a_EStatus_MATCH : Addr) (a_EStatus_NO_RATE : Addr) (a_EStatus_PRICED : Addr) (a_EStatus_DIFFERS : Addr) (a_EStatus_REJECTED : Addr) (a_EStatus_FULL : Addr) (S_EStatus_MATCH : Sta Z h0 "com/example/megablock/megablock/service/ReconciledRecord$EStatus" "MATCH" "Lcom/example/megablock/megablock/service/ReconciledRecord$EStatus;" (.ref a_EStatus_MATCH)) (S_EStatus_NO_RATE : Sta Z h0 "com/example/megablock/megablock/service/ReconciledRecord$EStatus" "NO_RATE" "Lcom/example/megablock/megablock/service/ReconciledRecord$EStatus;" (.ref a_EStatus_NO_RATE)) (S_EStatus_PRICED : Sta Z h0 "com/example/megablock/megablock/service/ReconciledRecord$EStatus" "PRICED" "Lcom/example/megablock/megablock/service/ReconciledRecord$EStatus;" (.ref a_EStatus_PRICED)) (S_EStatus_DIFFERS : Sta Z h0 "com/example/megablock/megablock/service/ReconciledRecord$EStatus" "DIFFERS" "Lcom/example/megablock/megablock/service/ReconciledRecord$EStatus;" (.ref a_EStatus_DIFFERS)) (S_EStatus_REJECTED : Sta Z h0 "com/example/megablock/megablock/service/ReconciledRecord$EStatus" "REJECTED" "Lcom/example/megablock/megablock/service/ReconciledRecord$EStatus;" (.ref a_EStatus_REJECTED)) (S_EStatus_FULL : Sta Z h0 "com/example/megablock/megablock/service/ReconciledRecord$EStatus" "FULL" "Lcom/example/megablock/megablock/service/ReconciledRecord$EStatus;" (.ref a_EStatus_FULL)) (E_EStatus_MATCH : Exa Z h0 a_EStatus_MATCH "com/example/megablock/megablock/service/ReconciledRecord$EStatus") (E_EStatus_NO_RATE : Exa Z h0 a_EStatus_NO_RATE "com/example/megablock/megablock/service/ReconciledRecord$EStatus") (E_EStatus_PRICED : Exa Z h0 a_EStatus_PRICED "com/example/megablock/megablock/service/ReconciledRecord$EStatus") (E_EStatus_DIFFERS : Exa Z h0 a_EStatus_DIFFERS "com/example/megablock/megablock/service/ReconciledRecord$EStatus") (E_EStatus_REJECTED : Exa Z h0 a_EStatus_REJECTED "com/example/megablock/megablock/service/ReconciledRecord$EStatus") (E_EStatus_FULL : Exa Z h0 a_EStatus_FULL "com/example/megablock/megablock/service/ReconciledRecord$EStatus") (F_EStatus_NO_RATE_ordinal : Fld Z h0 a_EStatus_NO_RATE "java/lang/Enum" "ordinal" "I" (.int (3 : Int32))) (F_EStatus_MATCH_ordinal : Fld Z h0 a_EStatus_MATCH "java/lang/Enum" "ordinal" "I" (.int (0 : Int32))) (F_EStatus_PRICED_ordinal : Fld Z h0 a_EStatus_PRICED "java/lang/Enum" "ordinal" "I" (.int (2 : Int32))) (F_EStatus_DIFFERS_ordinal : Fld Z h0 a_EStatus_DIFFERS "java/lang/Enum" "ordinal" "I" (.int (1 : Int32))) (F_EStatus_REJECTED_ordinal : Fld Z h0 a_EStatus_REJECTED "java/lang/Enum" "ordinal" "I" (.int (5 : Int32))) (F_EStatus_FULL_ordinal : Fld Z h0 a_EStatus_FULL "java/lang/Enum" "ordinal" "I" (.int (4 : Int32))) :
    own_Pure l Z h0 [] ({ frames := 0, cells := 0, slots := 0, locals := 0 } : Room) (⟨"com/example/megablock/megablock/service/EStatusNeedsAttentionPinLaw", "expected", "(I)Z"⟩ : MethodName) method_3_code 1 (some .boolean) #[(.int (1 : Int32))] (some (.int (1 : Int32))) := by
  refine own_body (plainFor_of_name own_pn_0) ?_
  intro p e s m below meth c T0 X0 hx hby hml hown hZ e0 hret hlk hnm hnamed
  replace hown : s.vm.findClass "com/example/megablock/megablock/service/EStatusNeedsAttentionPinLaw" = some m.cls := hown
  replace hml : c.maxLocals = 1 := hml
  have ef : entryFrame m #[(.int (1 : Int32))] 1 = mkF m 0 #[.val (.int (1 : Int32))] [] := by first | (simp [entryFrame, mkF, argsToLocals, Value.category]; done) | rfl
  rw [ef]
  refine own_st (T' := T0) (g' := (mkF m 1 #[.val (.int (1 : Int32))] [(.int (1 : Int32))])) (fun _ k => XS.iloadN X0.here hx rfl (hb hby own_d_method_3_code_0) rfl k) ?_
  refine own_st (T' := T0) (g' := (mkF m 6 #[.val (.int (1 : Int32))] [])) (fun _ k => XS.ifYes X0.here hx rfl (pc0 := 1) (pc' := 6) rfl (hb hby own_d_method_3_code_1) rfl (by decide) (by decide) (by decide) k) ?_
  refine own_st (T' := T0) (g' := (mkF m 7 #[.val (.int (1 : Int32))] [(.int (1 : Int32))])) (fun _ k => XS.iloadN X0.here hx rfl (hb hby own_d_method_3_code_6) rfl k) ?_
  refine own_st (T' := T0) (g' := (mkF m 8 #[.val (.int (1 : Int32))] [(.int (1 : Int32)), (.int (1 : Int32))])) (fun _ k => XS.iconst X0.here hx rfl (hb hby own_d_method_3_code_7) k) ?_
  refine own_st (T' := T0) (g' := (mkF m 11 #[.val (.int (1 : Int32))] [])) (fun _ k => XS.icmpNo X0.here hx rfl (hb hby own_d_method_3_code_8) rfl (by decide) k) ?_
  refine own_st (T' := T0) (g' := (mkF m 12 #[.val (.int (1 : Int32))] [(.int (1 : Int32))])) (fun _ k => XS.iconst X0.here hx rfl (hb hby own_d_method_3_code_11) k) ?_
  exact own_ret X0 hx hlk hret rfl (Or.inl ⟨rfl, Or.inr (Or.inl rfl), _, rfl⟩) (hb hby own_d_method_3_code_12) (by decide) (by decide) ⟨rfl, rfl, e0⟩
set_option maxRecDepth 65536 in
set_option maxHeartbeats 40000000 in
theorem own_pick_6 (l : Launch) (Z : State) (a0 : Array Value) (hw : ∀ d ∈ tables_1, d.before a0 Z = true) (h0 : Heap) (a_EStatus_MATCH : Addr) (a_EStatus_NO_RATE : Addr) (a_EStatus_PRICED : Addr) (a_EStatus_DIFFERS : Addr) (a_EStatus_REJECTED : Addr) (a_EStatus_FULL : Addr) (S_EStatus_MATCH : Sta Z h0 "com/example/megablock/megablock/service/ReconciledRecord$EStatus" "MATCH" "Lcom/example/megablock/megablock/service/ReconciledRecord$EStatus;" (.ref a_EStatus_MATCH)) (S_EStatus_NO_RATE : Sta Z h0 "com/example/megablock/megablock/service/ReconciledRecord$EStatus" "NO_RATE" "Lcom/example/megablock/megablock/service/ReconciledRecord$EStatus;" (.ref a_EStatus_NO_RATE)) (S_EStatus_PRICED : Sta Z h0 "com/example/megablock/megablock/service/ReconciledRecord$EStatus" "PRICED" "Lcom/example/megablock/megablock/service/ReconciledRecord$EStatus;" (.ref a_EStatus_PRICED)) (S_EStatus_DIFFERS : Sta Z h0 "com/example/megablock/megablock/service/ReconciledRecord$EStatus" "DIFFERS" "Lcom/example/megablock/megablock/service/ReconciledRecord$EStatus;" (.ref a_EStatus_DIFFERS)) (S_EStatus_REJECTED : Sta Z h0 "com/example/megablock/megablock/service/ReconciledRecord$EStatus" "REJECTED" "Lcom/example/megablock/megablock/service/ReconciledRecord$EStatus;" (.ref a_EStatus_REJECTED)) (S_EStatus_FULL : Sta Z h0 "com/example/megablock/megablock/service/ReconciledRecord$EStatus" "FULL" "Lcom/example/megablock/megablock/service/ReconciledRecord$EStatus;" (.ref a_EStatus_FULL)) (E_EStatus_MATCH : Exa Z h0 a_EStatus_MATCH "com/example/megablock/megablock/service/ReconciledRecord$EStatus") (E_EStatus_NO_RATE : Exa Z h0 a_EStatus_NO_RATE "com/example/megablock/megablock/service/ReconciledRecord$EStatus") (E_EStatus_PRICED : Exa Z h0 a_EStatus_PRICED "com/example/megablock/megablock/service/ReconciledRecord$EStatus") (E_EStatus_DIFFERS : Exa Z h0 a_EStatus_DIFFERS "com/example/megablock/megablock/service/ReconciledRecord$EStatus") (E_EStatus_REJECTED : Exa Z h0 a_EStatus_REJECTED "com/example/megablock/megablock/service/ReconciledRecord$EStatus") (E_EStatus_FULL : Exa Z h0 a_EStatus_FULL "com/example/megablock/megablock/service/ReconciledRecord$EStatus") (F_EStatus_NO_RATE_ordinal : Fld Z h0 a_EStatus_NO_RATE "java/lang/Enum" "ordinal" "I" (.int (3 : Int32))) (F_EStatus_MATCH_ordinal : Fld Z h0 a_EStatus_MATCH "java/lang/Enum" "ordinal" "I" (.int (0 : Int32))) (F_EStatus_PRICED_ordinal : Fld Z h0 a_EStatus_PRICED "java/lang/Enum" "ordinal" "I" (.int (2 : Int32))) (F_EStatus_DIFFERS_ordinal : Fld Z h0 a_EStatus_DIFFERS "java/lang/Enum" "ordinal" "I" (.int (1 : Int32))) (F_EStatus_REJECTED_ordinal : Fld Z h0 a_EStatus_REJECTED "java/lang/Enum" "ordinal" "I" (.int (5 : Int32))) (F_EStatus_FULL_ordinal : Fld Z h0 a_EStatus_FULL "java/lang/Enum" "ordinal" "I" (.int (4 : Int32))) :
    own_Pure l Z h0 [] ({ frames := 0, cells := 0, slots := 0, locals := 0 } : Room) (⟨"com/example/megablock/megablock/service/EStatusNeedsAttentionPinLaw", "pick", "(I)Lcom/example/megablock/megablock/service/ReconciledRecord$EStatus;"⟩ : MethodName) method_2_code 1 (some (.object "com/example/megablock/megablock/service/ReconciledRecord$EStatus")) #[(.int (2 : Int32))] (some (.ref a_EStatus_PRICED)) := by
  refine own_body (plainFor_of_name own_pn_0) ?_
  intro p e s m below meth c T0 X0 hx hby hml hown hZ e0 hret hlk hnm hnamed
  replace hown : s.vm.findClass "com/example/megablock/megablock/service/EStatusNeedsAttentionPinLaw" = some m.cls := hown
  replace hml : c.maxLocals = 1 := hml
  have ef : entryFrame m #[(.int (2 : Int32))] 1 = mkF m 0 #[.val (.int (2 : Int32))] [] := by first | (simp [entryFrame, mkF, argsToLocals, Value.category]; done) | rfl
  rw [ef]
  refine own_st (T' := T0) (g' := (mkF m 1 #[.val (.int (2 : Int32))] [(.int (2 : Int32))])) (fun _ k => XS.iloadN X0.here hx rfl (hb hby own_d_method_2_code_0) rfl k) ?_
  refine own_st (T' := T0) (g' := (mkF m 8 #[.val (.int (2 : Int32))] [])) (fun _ k => XS.ifYes X0.here hx rfl (pc0 := 1) (pc' := 8) rfl (hb hby own_d_method_2_code_1) rfl (by decide) (by decide) (by decide) k) ?_
  refine own_st (T' := T0) (g' := (mkF m 9 #[.val (.int (2 : Int32))] [(.int (2 : Int32))])) (fun _ k => XS.iloadN X0.here hx rfl (hb hby own_d_method_2_code_8) rfl k) ?_
  refine own_st (T' := T0) (g' := (mkF m 10 #[.val (.int (2 : Int32))] [(.int (1 : Int32)), (.int (2 : Int32))])) (fun _ k => XS.iconst X0.here hx rfl (hb hby own_d_method_2_code_9) k) ?_
  refine own_st (T' := T0) (g' := (mkF m 17 #[.val (.int (2 : Int32))] [])) (fun _ k => XS.icmpYes X0.here hx rfl (pc0 := 10) (pc' := 17) rfl (hb hby own_d_method_2_code_10) rfl (by decide) (by decide) (by decide) k) ?_
  refine own_st (T' := T0) (g' := (mkF m 18 #[.val (.int (2 : Int32))] [(.int (2 : Int32))])) (fun _ k => XS.iloadN X0.here hx rfl (hb hby own_d_method_2_code_17) rfl k) ?_
  refine own_st (T' := T0) (g' := (mkF m 19 #[.val (.int (2 : Int32))] [(.int (2 : Int32)), (.int (2 : Int32))])) (fun _ k => XS.iconst X0.here hx rfl (hb hby own_d_method_2_code_18) k) ?_
  refine own_st (T' := T0) (g' := (mkF m 22 #[.val (.int (2 : Int32))] [])) (fun _ k => XS.icmpNo X0.here hx rfl (hb hby own_d_method_2_code_19) rfl (by decide) k) ?_
  obtain ⟨T1, X1, e1, st1⟩ := getS2 X0 hx hZ hown (host := "") (Or.inl (hw _ (List.mem_of_getElem? (i := 21) rfl))) Via.refl e0 S_EStatus_PRICED (g := (mkF m 22 #[.val (.int (2 : Int32))] [])) rfl (hb hby own_d_method_2_code_22)
  refine own_st (T' := T1) (g' := (mkF m 25 #[.val (.int (2 : Int32))] [(.ref a_EStatus_PRICED)])) st1 ?_
  exact own_ret X1 hx hlk hret rfl (Or.inr (Or.inr (Or.inr (Or.inr ⟨rfl, rfl, rfl⟩)))) (hb hby own_d_method_2_code_25) (by decide) (by decide) ⟨rfl, rfl, e1⟩
set_option maxRecDepth 65536 in
set_option maxHeartbeats 40000000 in
theorem own_needsAttention_7 (l : Launch) (Z : State) (a0 : Array Value) (hw : ∀ d ∈ tables_1, d.before a0 Z = true) (h0 : Heap) (a_EStatus_MATCH : Addr) (a_EStatus_NO_RATE : Addr) (a_EStatus_PRICED : Addr) (a_EStatus_DIFFERS : Addr) (a_EStatus_REJECTED : Addr) (a_EStatus_FULL : Addr) (S_EStatus_MATCH : Sta Z h0 "com/example/megablock/megablock/service/ReconciledRecord$EStatus" "MATCH" "Lcom/example/megablock/megablock/service/ReconciledRecord$EStatus;" (.ref a_EStatus_MATCH)) (S_EStatus_NO_RATE : Sta Z h0 "com/example/megablock/megablock/service/ReconciledRecord$EStatus" "NO_RATE" "Lcom/example/megablock/megablock/service/ReconciledRecord$EStatus;" (.ref a_EStatus_NO_RATE)) (S_EStatus_PRICED : Sta Z h0 "com/example/megablock/megablock/service/ReconciledRecord$EStatus" "PRICED" "Lcom/example/megablock/megablock/service/ReconciledRecord$EStatus;" (.ref a_EStatus_PRICED)) (S_EStatus_DIFFERS : Sta Z h0 "com/example/megablock/megablock/service/ReconciledRecord$EStatus" "DIFFERS" "Lcom/example/megablock/megablock/service/ReconciledRecord$EStatus;" (.ref a_EStatus_DIFFERS)) (S_EStatus_REJECTED : Sta Z h0 "com/example/megablock/megablock/service/ReconciledRecord$EStatus" "REJECTED" "Lcom/example/megablock/megablock/service/ReconciledRecord$EStatus;" (.ref a_EStatus_REJECTED)) (S_EStatus_FULL : Sta Z h0 "com/example/megablock/megablock/service/ReconciledRecord$EStatus" "FULL" "Lcom/example/megablock/megablock/service/ReconciledRecord$EStatus;" (.ref a_EStatus_FULL)) (E_EStatus_MATCH : Exa Z h0 a_EStatus_MATCH "com/example/megablock/megablock/service/ReconciledRecord$EStatus") (E_EStatus_NO_RATE : Exa Z h0 a_EStatus_NO_RATE "com/example/megablock/megablock/service/ReconciledRecord$EStatus") (E_EStatus_PRICED : Exa Z h0 a_EStatus_PRICED "com/example/megablock/megablock/service/ReconciledRecord$EStatus") (E_EStatus_DIFFERS : Exa Z h0 a_EStatus_DIFFERS "com/example/megablock/megablock/service/ReconciledRecord$EStatus") (E_EStatus_REJECTED : Exa Z h0 a_EStatus_REJECTED "com/example/megablock/megablock/service/ReconciledRecord$EStatus") (E_EStatus_FULL : Exa Z h0 a_EStatus_FULL "com/example/megablock/megablock/service/ReconciledRecord$EStatus") (F_EStatus_NO_RATE_ordinal : Fld Z h0 a_EStatus_NO_RATE "java/lang/Enum" "ordinal" "I" (.int (3 : Int32))) (F_EStatus_MATCH_ordinal : Fld Z h0 a_EStatus_MATCH "java/lang/Enum" "ordinal" "I" (.int (0 : Int32))) (F_EStatus_PRICED_ordinal : Fld Z h0 a_EStatus_PRICED "java/lang/Enum" "ordinal" "I" (.int (2 : Int32))) (F_EStatus_DIFFERS_ordinal : Fld Z h0 a_EStatus_DIFFERS "java/lang/Enum" "ordinal" "I" (.int (1 : Int32))) (F_EStatus_REJECTED_ordinal : Fld Z h0 a_EStatus_REJECTED "java/lang/Enum" "ordinal" "I" (.int (5 : Int32))) (F_EStatus_FULL_ordinal : Fld Z h0 a_EStatus_FULL "java/lang/Enum" "ordinal" "I" (.int (4 : Int32))) :
    own_Pure l Z h0 [] ({ frames := 0, cells := 0, slots := 0, locals := 0 } : Room) (⟨"com/example/megablock/megablock/service/ReconciledRecord$EStatus", "needsAttention", "()Z"⟩ : MethodName) prog_74_method_5_code 1 (some .boolean) #[(.ref a_EStatus_PRICED)] (some (.int (0 : Int32))) := by
  refine own_body (plainFor_of_name own_pn_1) ?_
  intro p e s m below meth c T0 X0 hx hby hml hown hZ e0 hret hlk hnm hnamed
  replace hown : s.vm.findClass "com/example/megablock/megablock/service/ReconciledRecord$EStatus" = some m.cls := hown
  replace hml : c.maxLocals = 1 := hml
  have ef : entryFrame m #[(.ref a_EStatus_PRICED)] 1 = mkF m 0 #[.val (.ref a_EStatus_PRICED)] [] := by first | (simp [entryFrame, mkF, argsToLocals, Value.category]; done) | rfl
  rw [ef]
  refine own_st (T' := T0) (g' := (mkF m 1 #[.val (.ref a_EStatus_PRICED)] [(.ref a_EStatus_PRICED)])) (fun _ k => XS.aloadN X0.here hx rfl (hb hby own_d_prog_74_method_5_code_0) rfl rfl k) ?_
  obtain ⟨T1, X1, e1, st1⟩ := getS2 X0 hx hZ hown (host := "") (Or.inl (hw _ (List.mem_of_getElem? (i := 13) rfl))) Via.refl e0 S_EStatus_MATCH (g := (mkF m 1 #[.val (.ref a_EStatus_PRICED)] [(.ref a_EStatus_PRICED)])) rfl (hb hby own_d_prog_74_method_5_code_1)
  refine own_st (T' := T1) (g' := (mkF m 4 #[.val (.ref a_EStatus_PRICED)] [(.ref a_EStatus_MATCH), (.ref a_EStatus_PRICED)])) st1 ?_
  refine own_st (T' := T1) (g' := (mkF m 7 #[.val (.ref a_EStatus_PRICED)] [])) (fun _ k => Jvm.RoadKit.acmp (g := (mkF m 4 #[.val (.ref a_EStatus_PRICED)] [(.ref a_EStatus_MATCH), (.ref a_EStatus_PRICED)])) X1 hx rfl rfl rfl (pc0 := 4) (pc' := 7) (same := false) rfl (hb hby own_d_prog_74_method_5_code_4) rfl (decide_eq_false fun q => (Fld.ne F_EStatus_PRICED_ordinal F_EStatus_MATCH_ordinal (by decide)) (Value.ref.inj q)) (by decide) (by decide) k) ?_
  refine own_st (T' := T1) (g' := (mkF m 8 #[.val (.ref a_EStatus_PRICED)] [(.ref a_EStatus_PRICED)])) (fun _ k => XS.aloadN X1.here hx rfl (hb hby own_d_prog_74_method_5_code_7) rfl rfl k) ?_
  obtain ⟨T2, X2, e2, st2⟩ := getS2 X1 hx hZ hown (host := "") (Or.inl (hw _ (List.mem_of_getElem? (i := 19) rfl))) Via.refl e1 S_EStatus_PRICED (g := (mkF m 8 #[.val (.ref a_EStatus_PRICED)] [(.ref a_EStatus_PRICED)])) rfl (hb hby own_d_prog_74_method_5_code_8)
  refine own_st (T' := T2) (g' := (mkF m 11 #[.val (.ref a_EStatus_PRICED)] [(.ref a_EStatus_PRICED), (.ref a_EStatus_PRICED)])) st2 ?_
  refine own_st (T' := T2) (g' := (mkF m 18 #[.val (.ref a_EStatus_PRICED)] [])) (fun _ k => Jvm.RoadKit.acmp (g := (mkF m 11 #[.val (.ref a_EStatus_PRICED)] [(.ref a_EStatus_PRICED), (.ref a_EStatus_PRICED)])) X2 hx rfl rfl rfl (pc0 := 11) (pc' := 18) (same := true) rfl (hb hby own_d_prog_74_method_5_code_11) rfl (decide_eq_true rfl) (by decide) (by decide) k) ?_
  refine own_st (T' := T2) (g' := (mkF m 19 #[.val (.ref a_EStatus_PRICED)] [(.int (0 : Int32))])) (fun _ k => XS.iconst X2.here hx rfl (hb hby own_d_prog_74_method_5_code_18) k) ?_
  exact own_ret X2 hx hlk hret rfl (Or.inl ⟨rfl, Or.inr (Or.inl rfl), _, rfl⟩) (hb hby own_d_prog_74_method_5_code_19) (by decide) (by decide) ⟨rfl, rfl, e2⟩
set_option maxRecDepth 65536 in
set_option maxHeartbeats 40000000 in
theorem own_expected_8 (l : Launch) (Z : State) (a0 : Array Value) (hw : ∀ d ∈ tables_1, d.before a0 Z = true) (h0 : Heap) (a_EStatus_MATCH : Addr) (a_EStatus_NO_RATE : Addr) (a_EStatus_PRICED : Addr) (a_EStatus_DIFFERS : Addr) (a_EStatus_REJECTED : Addr) (a_EStatus_FULL : Addr) (S_EStatus_MATCH : Sta Z h0 "com/example/megablock/megablock/service/ReconciledRecord$EStatus" "MATCH" "Lcom/example/megablock/megablock/service/ReconciledRecord$EStatus;" (.ref a_EStatus_MATCH)) (S_EStatus_NO_RATE : Sta Z h0 "com/example/megablock/megablock/service/ReconciledRecord$EStatus" "NO_RATE" "Lcom/example/megablock/megablock/service/ReconciledRecord$EStatus;" (.ref a_EStatus_NO_RATE)) (S_EStatus_PRICED : Sta Z h0 "com/example/megablock/megablock/service/ReconciledRecord$EStatus" "PRICED" "Lcom/example/megablock/megablock/service/ReconciledRecord$EStatus;" (.ref a_EStatus_PRICED)) (S_EStatus_DIFFERS : Sta Z h0 "com/example/megablock/megablock/service/ReconciledRecord$EStatus" "DIFFERS" "Lcom/example/megablock/megablock/service/ReconciledRecord$EStatus;" (.ref a_EStatus_DIFFERS)) (S_EStatus_REJECTED : Sta Z h0 "com/example/megablock/megablock/service/ReconciledRecord$EStatus" "REJECTED" "Lcom/example/megablock/megablock/service/ReconciledRecord$EStatus;" (.ref a_EStatus_REJECTED)) (S_EStatus_FULL : Sta Z h0 "com/example/megablock/megablock/service/ReconciledRecord$EStatus" "FULL" "Lcom/example/megablock/megablock/service/ReconciledRecord$EStatus;" (.ref a_EStatus_FULL)) (E_EStatus_MATCH : Exa Z h0 a_EStatus_MATCH "com/example/megablock/megablock/service/ReconciledRecord$EStatus") (E_EStatus_NO_RATE : Exa Z h0 a_EStatus_NO_RATE "com/example/megablock/megablock/service/ReconciledRecord$EStatus") (E_EStatus_PRICED : Exa Z h0 a_EStatus_PRICED "com/example/megablock/megablock/service/ReconciledRecord$EStatus") (E_EStatus_DIFFERS : Exa Z h0 a_EStatus_DIFFERS "com/example/megablock/megablock/service/ReconciledRecord$EStatus") (E_EStatus_REJECTED : Exa Z h0 a_EStatus_REJECTED "com/example/megablock/megablock/service/ReconciledRecord$EStatus") (E_EStatus_FULL : Exa Z h0 a_EStatus_FULL "com/example/megablock/megablock/service/ReconciledRecord$EStatus") (F_EStatus_NO_RATE_ordinal : Fld Z h0 a_EStatus_NO_RATE "java/lang/Enum" "ordinal" "I" (.int (3 : Int32))) (F_EStatus_MATCH_ordinal : Fld Z h0 a_EStatus_MATCH "java/lang/Enum" "ordinal" "I" (.int (0 : Int32))) (F_EStatus_PRICED_ordinal : Fld Z h0 a_EStatus_PRICED "java/lang/Enum" "ordinal" "I" (.int (2 : Int32))) (F_EStatus_DIFFERS_ordinal : Fld Z h0 a_EStatus_DIFFERS "java/lang/Enum" "ordinal" "I" (.int (1 : Int32))) (F_EStatus_REJECTED_ordinal : Fld Z h0 a_EStatus_REJECTED "java/lang/Enum" "ordinal" "I" (.int (5 : Int32))) (F_EStatus_FULL_ordinal : Fld Z h0 a_EStatus_FULL "java/lang/Enum" "ordinal" "I" (.int (4 : Int32))) :
    own_Pure l Z h0 [] ({ frames := 0, cells := 0, slots := 0, locals := 0 } : Room) (⟨"com/example/megablock/megablock/service/EStatusNeedsAttentionPinLaw", "expected", "(I)Z"⟩ : MethodName) method_3_code 1 (some .boolean) #[(.int (2 : Int32))] (some (.int (0 : Int32))) := by
  refine own_body (plainFor_of_name own_pn_0) ?_
  intro p e s m below meth c T0 X0 hx hby hml hown hZ e0 hret hlk hnm hnamed
  replace hown : s.vm.findClass "com/example/megablock/megablock/service/EStatusNeedsAttentionPinLaw" = some m.cls := hown
  replace hml : c.maxLocals = 1 := hml
  have ef : entryFrame m #[(.int (2 : Int32))] 1 = mkF m 0 #[.val (.int (2 : Int32))] [] := by first | (simp [entryFrame, mkF, argsToLocals, Value.category]; done) | rfl
  rw [ef]
  refine own_st (T' := T0) (g' := (mkF m 1 #[.val (.int (2 : Int32))] [(.int (2 : Int32))])) (fun _ k => XS.iloadN X0.here hx rfl (hb hby own_d_method_3_code_0) rfl k) ?_
  refine own_st (T' := T0) (g' := (mkF m 6 #[.val (.int (2 : Int32))] [])) (fun _ k => XS.ifYes X0.here hx rfl (pc0 := 1) (pc' := 6) rfl (hb hby own_d_method_3_code_1) rfl (by decide) (by decide) (by decide) k) ?_
  refine own_st (T' := T0) (g' := (mkF m 7 #[.val (.int (2 : Int32))] [(.int (2 : Int32))])) (fun _ k => XS.iloadN X0.here hx rfl (hb hby own_d_method_3_code_6) rfl k) ?_
  refine own_st (T' := T0) (g' := (mkF m 8 #[.val (.int (2 : Int32))] [(.int (1 : Int32)), (.int (2 : Int32))])) (fun _ k => XS.iconst X0.here hx rfl (hb hby own_d_method_3_code_7) k) ?_
  refine own_st (T' := T0) (g' := (mkF m 13 #[.val (.int (2 : Int32))] [])) (fun _ k => XS.icmpYes X0.here hx rfl (pc0 := 8) (pc' := 13) rfl (hb hby own_d_method_3_code_8) rfl (by decide) (by decide) (by decide) k) ?_
  refine own_st (T' := T0) (g' := (mkF m 14 #[.val (.int (2 : Int32))] [(.int (2 : Int32))])) (fun _ k => XS.iloadN X0.here hx rfl (hb hby own_d_method_3_code_13) rfl k) ?_
  refine own_st (T' := T0) (g' := (mkF m 15 #[.val (.int (2 : Int32))] [(.int (2 : Int32)), (.int (2 : Int32))])) (fun _ k => XS.iconst X0.here hx rfl (hb hby own_d_method_3_code_14) k) ?_
  refine own_st (T' := T0) (g' := (mkF m 18 #[.val (.int (2 : Int32))] [])) (fun _ k => XS.icmpNo X0.here hx rfl (hb hby own_d_method_3_code_15) rfl (by decide) k) ?_
  refine own_st (T' := T0) (g' := (mkF m 19 #[.val (.int (2 : Int32))] [(.int (0 : Int32))])) (fun _ k => XS.iconst X0.here hx rfl (hb hby own_d_method_3_code_18) k) ?_
  exact own_ret X0 hx hlk hret rfl (Or.inl ⟨rfl, Or.inr (Or.inl rfl), _, rfl⟩) (hb hby own_d_method_3_code_19) (by decide) (by decide) ⟨rfl, rfl, e0⟩
set_option maxRecDepth 65536 in
set_option maxHeartbeats 40000000 in
theorem own_pick_9 (l : Launch) (Z : State) (a0 : Array Value) (hw : ∀ d ∈ tables_1, d.before a0 Z = true) (h0 : Heap) (a_EStatus_MATCH : Addr) (a_EStatus_NO_RATE : Addr) (a_EStatus_PRICED : Addr) (a_EStatus_DIFFERS : Addr) (a_EStatus_REJECTED : Addr) (a_EStatus_FULL : Addr) (S_EStatus_MATCH : Sta Z h0 "com/example/megablock/megablock/service/ReconciledRecord$EStatus" "MATCH" "Lcom/example/megablock/megablock/service/ReconciledRecord$EStatus;" (.ref a_EStatus_MATCH)) (S_EStatus_NO_RATE : Sta Z h0 "com/example/megablock/megablock/service/ReconciledRecord$EStatus" "NO_RATE" "Lcom/example/megablock/megablock/service/ReconciledRecord$EStatus;" (.ref a_EStatus_NO_RATE)) (S_EStatus_PRICED : Sta Z h0 "com/example/megablock/megablock/service/ReconciledRecord$EStatus" "PRICED" "Lcom/example/megablock/megablock/service/ReconciledRecord$EStatus;" (.ref a_EStatus_PRICED)) (S_EStatus_DIFFERS : Sta Z h0 "com/example/megablock/megablock/service/ReconciledRecord$EStatus" "DIFFERS" "Lcom/example/megablock/megablock/service/ReconciledRecord$EStatus;" (.ref a_EStatus_DIFFERS)) (S_EStatus_REJECTED : Sta Z h0 "com/example/megablock/megablock/service/ReconciledRecord$EStatus" "REJECTED" "Lcom/example/megablock/megablock/service/ReconciledRecord$EStatus;" (.ref a_EStatus_REJECTED)) (S_EStatus_FULL : Sta Z h0 "com/example/megablock/megablock/service/ReconciledRecord$EStatus" "FULL" "Lcom/example/megablock/megablock/service/ReconciledRecord$EStatus;" (.ref a_EStatus_FULL)) (E_EStatus_MATCH : Exa Z h0 a_EStatus_MATCH "com/example/megablock/megablock/service/ReconciledRecord$EStatus") (E_EStatus_NO_RATE : Exa Z h0 a_EStatus_NO_RATE "com/example/megablock/megablock/service/ReconciledRecord$EStatus") (E_EStatus_PRICED : Exa Z h0 a_EStatus_PRICED "com/example/megablock/megablock/service/ReconciledRecord$EStatus") (E_EStatus_DIFFERS : Exa Z h0 a_EStatus_DIFFERS "com/example/megablock/megablock/service/ReconciledRecord$EStatus") (E_EStatus_REJECTED : Exa Z h0 a_EStatus_REJECTED "com/example/megablock/megablock/service/ReconciledRecord$EStatus") (E_EStatus_FULL : Exa Z h0 a_EStatus_FULL "com/example/megablock/megablock/service/ReconciledRecord$EStatus") (F_EStatus_NO_RATE_ordinal : Fld Z h0 a_EStatus_NO_RATE "java/lang/Enum" "ordinal" "I" (.int (3 : Int32))) (F_EStatus_MATCH_ordinal : Fld Z h0 a_EStatus_MATCH "java/lang/Enum" "ordinal" "I" (.int (0 : Int32))) (F_EStatus_PRICED_ordinal : Fld Z h0 a_EStatus_PRICED "java/lang/Enum" "ordinal" "I" (.int (2 : Int32))) (F_EStatus_DIFFERS_ordinal : Fld Z h0 a_EStatus_DIFFERS "java/lang/Enum" "ordinal" "I" (.int (1 : Int32))) (F_EStatus_REJECTED_ordinal : Fld Z h0 a_EStatus_REJECTED "java/lang/Enum" "ordinal" "I" (.int (5 : Int32))) (F_EStatus_FULL_ordinal : Fld Z h0 a_EStatus_FULL "java/lang/Enum" "ordinal" "I" (.int (4 : Int32))) :
    own_Pure l Z h0 [] ({ frames := 0, cells := 0, slots := 0, locals := 0 } : Room) (⟨"com/example/megablock/megablock/service/EStatusNeedsAttentionPinLaw", "pick", "(I)Lcom/example/megablock/megablock/service/ReconciledRecord$EStatus;"⟩ : MethodName) method_2_code 1 (some (.object "com/example/megablock/megablock/service/ReconciledRecord$EStatus")) #[(.int (3 : Int32))] (some (.ref a_EStatus_NO_RATE)) := by
  refine own_body (plainFor_of_name own_pn_0) ?_
  intro p e s m below meth c T0 X0 hx hby hml hown hZ e0 hret hlk hnm hnamed
  replace hown : s.vm.findClass "com/example/megablock/megablock/service/EStatusNeedsAttentionPinLaw" = some m.cls := hown
  replace hml : c.maxLocals = 1 := hml
  have ef : entryFrame m #[(.int (3 : Int32))] 1 = mkF m 0 #[.val (.int (3 : Int32))] [] := by first | (simp [entryFrame, mkF, argsToLocals, Value.category]; done) | rfl
  rw [ef]
  refine own_st (T' := T0) (g' := (mkF m 1 #[.val (.int (3 : Int32))] [(.int (3 : Int32))])) (fun _ k => XS.iloadN X0.here hx rfl (hb hby own_d_method_2_code_0) rfl k) ?_
  refine own_st (T' := T0) (g' := (mkF m 8 #[.val (.int (3 : Int32))] [])) (fun _ k => XS.ifYes X0.here hx rfl (pc0 := 1) (pc' := 8) rfl (hb hby own_d_method_2_code_1) rfl (by decide) (by decide) (by decide) k) ?_
  refine own_st (T' := T0) (g' := (mkF m 9 #[.val (.int (3 : Int32))] [(.int (3 : Int32))])) (fun _ k => XS.iloadN X0.here hx rfl (hb hby own_d_method_2_code_8) rfl k) ?_
  refine own_st (T' := T0) (g' := (mkF m 10 #[.val (.int (3 : Int32))] [(.int (1 : Int32)), (.int (3 : Int32))])) (fun _ k => XS.iconst X0.here hx rfl (hb hby own_d_method_2_code_9) k) ?_
  refine own_st (T' := T0) (g' := (mkF m 17 #[.val (.int (3 : Int32))] [])) (fun _ k => XS.icmpYes X0.here hx rfl (pc0 := 10) (pc' := 17) rfl (hb hby own_d_method_2_code_10) rfl (by decide) (by decide) (by decide) k) ?_
  refine own_st (T' := T0) (g' := (mkF m 18 #[.val (.int (3 : Int32))] [(.int (3 : Int32))])) (fun _ k => XS.iloadN X0.here hx rfl (hb hby own_d_method_2_code_17) rfl k) ?_
  refine own_st (T' := T0) (g' := (mkF m 19 #[.val (.int (3 : Int32))] [(.int (2 : Int32)), (.int (3 : Int32))])) (fun _ k => XS.iconst X0.here hx rfl (hb hby own_d_method_2_code_18) k) ?_
  refine own_st (T' := T0) (g' := (mkF m 26 #[.val (.int (3 : Int32))] [])) (fun _ k => XS.icmpYes X0.here hx rfl (pc0 := 19) (pc' := 26) rfl (hb hby own_d_method_2_code_19) rfl (by decide) (by decide) (by decide) k) ?_
  refine own_st (T' := T0) (g' := (mkF m 27 #[.val (.int (3 : Int32))] [(.int (3 : Int32))])) (fun _ k => XS.iloadN X0.here hx rfl (hb hby own_d_method_2_code_26) rfl k) ?_
  refine own_st (T' := T0) (g' := (mkF m 28 #[.val (.int (3 : Int32))] [(.int (3 : Int32)), (.int (3 : Int32))])) (fun _ k => XS.iconst X0.here hx rfl (hb hby own_d_method_2_code_27) k) ?_
  refine own_st (T' := T0) (g' := (mkF m 31 #[.val (.int (3 : Int32))] [])) (fun _ k => XS.icmpNo X0.here hx rfl (hb hby own_d_method_2_code_28) rfl (by decide) k) ?_
  obtain ⟨T1, X1, e1, st1⟩ := getS2 X0 hx hZ hown (host := "") (Or.inl (hw _ (List.mem_of_getElem? (i := 17) rfl))) Via.refl e0 S_EStatus_NO_RATE (g := (mkF m 31 #[.val (.int (3 : Int32))] [])) rfl (hb hby own_d_method_2_code_31)
  refine own_st (T' := T1) (g' := (mkF m 34 #[.val (.int (3 : Int32))] [(.ref a_EStatus_NO_RATE)])) st1 ?_
  exact own_ret X1 hx hlk hret rfl (Or.inr (Or.inr (Or.inr (Or.inr ⟨rfl, rfl, rfl⟩)))) (hb hby own_d_method_2_code_34) (by decide) (by decide) ⟨rfl, rfl, e1⟩
set_option maxRecDepth 65536 in
set_option maxHeartbeats 40000000 in
theorem own_needsAttention_10 (l : Launch) (Z : State) (a0 : Array Value) (hw : ∀ d ∈ tables_1, d.before a0 Z = true) (h0 : Heap) (a_EStatus_MATCH : Addr) (a_EStatus_NO_RATE : Addr) (a_EStatus_PRICED : Addr) (a_EStatus_DIFFERS : Addr) (a_EStatus_REJECTED : Addr) (a_EStatus_FULL : Addr) (S_EStatus_MATCH : Sta Z h0 "com/example/megablock/megablock/service/ReconciledRecord$EStatus" "MATCH" "Lcom/example/megablock/megablock/service/ReconciledRecord$EStatus;" (.ref a_EStatus_MATCH)) (S_EStatus_NO_RATE : Sta Z h0 "com/example/megablock/megablock/service/ReconciledRecord$EStatus" "NO_RATE" "Lcom/example/megablock/megablock/service/ReconciledRecord$EStatus;" (.ref a_EStatus_NO_RATE)) (S_EStatus_PRICED : Sta Z h0 "com/example/megablock/megablock/service/ReconciledRecord$EStatus" "PRICED" "Lcom/example/megablock/megablock/service/ReconciledRecord$EStatus;" (.ref a_EStatus_PRICED)) (S_EStatus_DIFFERS : Sta Z h0 "com/example/megablock/megablock/service/ReconciledRecord$EStatus" "DIFFERS" "Lcom/example/megablock/megablock/service/ReconciledRecord$EStatus;" (.ref a_EStatus_DIFFERS)) (S_EStatus_REJECTED : Sta Z h0 "com/example/megablock/megablock/service/ReconciledRecord$EStatus" "REJECTED" "Lcom/example/megablock/megablock/service/ReconciledRecord$EStatus;" (.ref a_EStatus_REJECTED)) (S_EStatus_FULL : Sta Z h0 "com/example/megablock/megablock/service/ReconciledRecord$EStatus" "FULL" "Lcom/example/megablock/megablock/service/ReconciledRecord$EStatus;" (.ref a_EStatus_FULL)) (E_EStatus_MATCH : Exa Z h0 a_EStatus_MATCH "com/example/megablock/megablock/service/ReconciledRecord$EStatus") (E_EStatus_NO_RATE : Exa Z h0 a_EStatus_NO_RATE "com/example/megablock/megablock/service/ReconciledRecord$EStatus") (E_EStatus_PRICED : Exa Z h0 a_EStatus_PRICED "com/example/megablock/megablock/service/ReconciledRecord$EStatus") (E_EStatus_DIFFERS : Exa Z h0 a_EStatus_DIFFERS "com/example/megablock/megablock/service/ReconciledRecord$EStatus") (E_EStatus_REJECTED : Exa Z h0 a_EStatus_REJECTED "com/example/megablock/megablock/service/ReconciledRecord$EStatus") (E_EStatus_FULL : Exa Z h0 a_EStatus_FULL "com/example/megablock/megablock/service/ReconciledRecord$EStatus") (F_EStatus_NO_RATE_ordinal : Fld Z h0 a_EStatus_NO_RATE "java/lang/Enum" "ordinal" "I" (.int (3 : Int32))) (F_EStatus_MATCH_ordinal : Fld Z h0 a_EStatus_MATCH "java/lang/Enum" "ordinal" "I" (.int (0 : Int32))) (F_EStatus_PRICED_ordinal : Fld Z h0 a_EStatus_PRICED "java/lang/Enum" "ordinal" "I" (.int (2 : Int32))) (F_EStatus_DIFFERS_ordinal : Fld Z h0 a_EStatus_DIFFERS "java/lang/Enum" "ordinal" "I" (.int (1 : Int32))) (F_EStatus_REJECTED_ordinal : Fld Z h0 a_EStatus_REJECTED "java/lang/Enum" "ordinal" "I" (.int (5 : Int32))) (F_EStatus_FULL_ordinal : Fld Z h0 a_EStatus_FULL "java/lang/Enum" "ordinal" "I" (.int (4 : Int32))) :
    own_Pure l Z h0 [] ({ frames := 0, cells := 0, slots := 0, locals := 0 } : Room) (⟨"com/example/megablock/megablock/service/ReconciledRecord$EStatus", "needsAttention", "()Z"⟩ : MethodName) prog_74_method_5_code 1 (some .boolean) #[(.ref a_EStatus_NO_RATE)] (some (.int (1 : Int32))) := by
  refine own_body (plainFor_of_name own_pn_1) ?_
  intro p e s m below meth c T0 X0 hx hby hml hown hZ e0 hret hlk hnm hnamed
  replace hown : s.vm.findClass "com/example/megablock/megablock/service/ReconciledRecord$EStatus" = some m.cls := hown
  replace hml : c.maxLocals = 1 := hml
  have ef : entryFrame m #[(.ref a_EStatus_NO_RATE)] 1 = mkF m 0 #[.val (.ref a_EStatus_NO_RATE)] [] := by first | (simp [entryFrame, mkF, argsToLocals, Value.category]; done) | rfl
  rw [ef]
  refine own_st (T' := T0) (g' := (mkF m 1 #[.val (.ref a_EStatus_NO_RATE)] [(.ref a_EStatus_NO_RATE)])) (fun _ k => XS.aloadN X0.here hx rfl (hb hby own_d_prog_74_method_5_code_0) rfl rfl k) ?_
  obtain ⟨T1, X1, e1, st1⟩ := getS2 X0 hx hZ hown (host := "") (Or.inl (hw _ (List.mem_of_getElem? (i := 13) rfl))) Via.refl e0 S_EStatus_MATCH (g := (mkF m 1 #[.val (.ref a_EStatus_NO_RATE)] [(.ref a_EStatus_NO_RATE)])) rfl (hb hby own_d_prog_74_method_5_code_1)
  refine own_st (T' := T1) (g' := (mkF m 4 #[.val (.ref a_EStatus_NO_RATE)] [(.ref a_EStatus_MATCH), (.ref a_EStatus_NO_RATE)])) st1 ?_
  refine own_st (T' := T1) (g' := (mkF m 7 #[.val (.ref a_EStatus_NO_RATE)] [])) (fun _ k => Jvm.RoadKit.acmp (g := (mkF m 4 #[.val (.ref a_EStatus_NO_RATE)] [(.ref a_EStatus_MATCH), (.ref a_EStatus_NO_RATE)])) X1 hx rfl rfl rfl (pc0 := 4) (pc' := 7) (same := false) rfl (hb hby own_d_prog_74_method_5_code_4) rfl (decide_eq_false fun q => (Fld.ne F_EStatus_NO_RATE_ordinal F_EStatus_MATCH_ordinal (by decide)) (Value.ref.inj q)) (by decide) (by decide) k) ?_
  refine own_st (T' := T1) (g' := (mkF m 8 #[.val (.ref a_EStatus_NO_RATE)] [(.ref a_EStatus_NO_RATE)])) (fun _ k => XS.aloadN X1.here hx rfl (hb hby own_d_prog_74_method_5_code_7) rfl rfl k) ?_
  obtain ⟨T2, X2, e2, st2⟩ := getS2 X1 hx hZ hown (host := "") (Or.inl (hw _ (List.mem_of_getElem? (i := 19) rfl))) Via.refl e1 S_EStatus_PRICED (g := (mkF m 8 #[.val (.ref a_EStatus_NO_RATE)] [(.ref a_EStatus_NO_RATE)])) rfl (hb hby own_d_prog_74_method_5_code_8)
  refine own_st (T' := T2) (g' := (mkF m 11 #[.val (.ref a_EStatus_NO_RATE)] [(.ref a_EStatus_PRICED), (.ref a_EStatus_NO_RATE)])) st2 ?_
  refine own_st (T' := T2) (g' := (mkF m 14 #[.val (.ref a_EStatus_NO_RATE)] [])) (fun _ k => Jvm.RoadKit.acmp (g := (mkF m 11 #[.val (.ref a_EStatus_NO_RATE)] [(.ref a_EStatus_PRICED), (.ref a_EStatus_NO_RATE)])) X2 hx rfl rfl rfl (pc0 := 11) (pc' := 14) (same := false) rfl (hb hby own_d_prog_74_method_5_code_11) rfl (decide_eq_false fun q => (Fld.ne F_EStatus_NO_RATE_ordinal F_EStatus_PRICED_ordinal (by decide)) (Value.ref.inj q)) (by decide) (by decide) k) ?_
  refine own_st (T' := T2) (g' := (mkF m 15 #[.val (.ref a_EStatus_NO_RATE)] [(.int (1 : Int32))])) (fun _ k => XS.iconst X2.here hx rfl (hb hby own_d_prog_74_method_5_code_14) k) ?_
  refine own_st (T' := T2) (g' := (mkF m 19 #[.val (.ref a_EStatus_NO_RATE)] [(.int (1 : Int32))])) (fun _ k => XS.goto X2.here hx rfl (pc0 := 15) (pc' := 19) rfl (hb hby own_d_prog_74_method_5_code_15) (by decide) (by decide) k) ?_
  exact own_ret X2 hx hlk hret rfl (Or.inl ⟨rfl, Or.inr (Or.inl rfl), _, rfl⟩) (hb hby own_d_prog_74_method_5_code_19) (by decide) (by decide) ⟨rfl, rfl, e2⟩
set_option maxRecDepth 65536 in
set_option maxHeartbeats 40000000 in
theorem own_expected_11 (l : Launch) (Z : State) (a0 : Array Value) (hw : ∀ d ∈ tables_1, d.before a0 Z = true) (h0 : Heap) (a_EStatus_MATCH : Addr) (a_EStatus_NO_RATE : Addr) (a_EStatus_PRICED : Addr) (a_EStatus_DIFFERS : Addr) (a_EStatus_REJECTED : Addr) (a_EStatus_FULL : Addr) (S_EStatus_MATCH : Sta Z h0 "com/example/megablock/megablock/service/ReconciledRecord$EStatus" "MATCH" "Lcom/example/megablock/megablock/service/ReconciledRecord$EStatus;" (.ref a_EStatus_MATCH)) (S_EStatus_NO_RATE : Sta Z h0 "com/example/megablock/megablock/service/ReconciledRecord$EStatus" "NO_RATE" "Lcom/example/megablock/megablock/service/ReconciledRecord$EStatus;" (.ref a_EStatus_NO_RATE)) (S_EStatus_PRICED : Sta Z h0 "com/example/megablock/megablock/service/ReconciledRecord$EStatus" "PRICED" "Lcom/example/megablock/megablock/service/ReconciledRecord$EStatus;" (.ref a_EStatus_PRICED)) (S_EStatus_DIFFERS : Sta Z h0 "com/example/megablock/megablock/service/ReconciledRecord$EStatus" "DIFFERS" "Lcom/example/megablock/megablock/service/ReconciledRecord$EStatus;" (.ref a_EStatus_DIFFERS)) (S_EStatus_REJECTED : Sta Z h0 "com/example/megablock/megablock/service/ReconciledRecord$EStatus" "REJECTED" "Lcom/example/megablock/megablock/service/ReconciledRecord$EStatus;" (.ref a_EStatus_REJECTED)) (S_EStatus_FULL : Sta Z h0 "com/example/megablock/megablock/service/ReconciledRecord$EStatus" "FULL" "Lcom/example/megablock/megablock/service/ReconciledRecord$EStatus;" (.ref a_EStatus_FULL)) (E_EStatus_MATCH : Exa Z h0 a_EStatus_MATCH "com/example/megablock/megablock/service/ReconciledRecord$EStatus") (E_EStatus_NO_RATE : Exa Z h0 a_EStatus_NO_RATE "com/example/megablock/megablock/service/ReconciledRecord$EStatus") (E_EStatus_PRICED : Exa Z h0 a_EStatus_PRICED "com/example/megablock/megablock/service/ReconciledRecord$EStatus") (E_EStatus_DIFFERS : Exa Z h0 a_EStatus_DIFFERS "com/example/megablock/megablock/service/ReconciledRecord$EStatus") (E_EStatus_REJECTED : Exa Z h0 a_EStatus_REJECTED "com/example/megablock/megablock/service/ReconciledRecord$EStatus") (E_EStatus_FULL : Exa Z h0 a_EStatus_FULL "com/example/megablock/megablock/service/ReconciledRecord$EStatus") (F_EStatus_NO_RATE_ordinal : Fld Z h0 a_EStatus_NO_RATE "java/lang/Enum" "ordinal" "I" (.int (3 : Int32))) (F_EStatus_MATCH_ordinal : Fld Z h0 a_EStatus_MATCH "java/lang/Enum" "ordinal" "I" (.int (0 : Int32))) (F_EStatus_PRICED_ordinal : Fld Z h0 a_EStatus_PRICED "java/lang/Enum" "ordinal" "I" (.int (2 : Int32))) (F_EStatus_DIFFERS_ordinal : Fld Z h0 a_EStatus_DIFFERS "java/lang/Enum" "ordinal" "I" (.int (1 : Int32))) (F_EStatus_REJECTED_ordinal : Fld Z h0 a_EStatus_REJECTED "java/lang/Enum" "ordinal" "I" (.int (5 : Int32))) (F_EStatus_FULL_ordinal : Fld Z h0 a_EStatus_FULL "java/lang/Enum" "ordinal" "I" (.int (4 : Int32))) :
    own_Pure l Z h0 [] ({ frames := 0, cells := 0, slots := 0, locals := 0 } : Room) (⟨"com/example/megablock/megablock/service/EStatusNeedsAttentionPinLaw", "expected", "(I)Z"⟩ : MethodName) method_3_code 1 (some .boolean) #[(.int (3 : Int32))] (some (.int (1 : Int32))) := by
  refine own_body (plainFor_of_name own_pn_0) ?_
  intro p e s m below meth c T0 X0 hx hby hml hown hZ e0 hret hlk hnm hnamed
  replace hown : s.vm.findClass "com/example/megablock/megablock/service/EStatusNeedsAttentionPinLaw" = some m.cls := hown
  replace hml : c.maxLocals = 1 := hml
  have ef : entryFrame m #[(.int (3 : Int32))] 1 = mkF m 0 #[.val (.int (3 : Int32))] [] := by first | (simp [entryFrame, mkF, argsToLocals, Value.category]; done) | rfl
  rw [ef]
  refine own_st (T' := T0) (g' := (mkF m 1 #[.val (.int (3 : Int32))] [(.int (3 : Int32))])) (fun _ k => XS.iloadN X0.here hx rfl (hb hby own_d_method_3_code_0) rfl k) ?_
  refine own_st (T' := T0) (g' := (mkF m 6 #[.val (.int (3 : Int32))] [])) (fun _ k => XS.ifYes X0.here hx rfl (pc0 := 1) (pc' := 6) rfl (hb hby own_d_method_3_code_1) rfl (by decide) (by decide) (by decide) k) ?_
  refine own_st (T' := T0) (g' := (mkF m 7 #[.val (.int (3 : Int32))] [(.int (3 : Int32))])) (fun _ k => XS.iloadN X0.here hx rfl (hb hby own_d_method_3_code_6) rfl k) ?_
  refine own_st (T' := T0) (g' := (mkF m 8 #[.val (.int (3 : Int32))] [(.int (1 : Int32)), (.int (3 : Int32))])) (fun _ k => XS.iconst X0.here hx rfl (hb hby own_d_method_3_code_7) k) ?_
  refine own_st (T' := T0) (g' := (mkF m 13 #[.val (.int (3 : Int32))] [])) (fun _ k => XS.icmpYes X0.here hx rfl (pc0 := 8) (pc' := 13) rfl (hb hby own_d_method_3_code_8) rfl (by decide) (by decide) (by decide) k) ?_
  refine own_st (T' := T0) (g' := (mkF m 14 #[.val (.int (3 : Int32))] [(.int (3 : Int32))])) (fun _ k => XS.iloadN X0.here hx rfl (hb hby own_d_method_3_code_13) rfl k) ?_
  refine own_st (T' := T0) (g' := (mkF m 15 #[.val (.int (3 : Int32))] [(.int (2 : Int32)), (.int (3 : Int32))])) (fun _ k => XS.iconst X0.here hx rfl (hb hby own_d_method_3_code_14) k) ?_
  refine own_st (T' := T0) (g' := (mkF m 20 #[.val (.int (3 : Int32))] [])) (fun _ k => XS.icmpYes X0.here hx rfl (pc0 := 15) (pc' := 20) rfl (hb hby own_d_method_3_code_15) rfl (by decide) (by decide) (by decide) k) ?_
  refine own_st (T' := T0) (g' := (mkF m 21 #[.val (.int (3 : Int32))] [(.int (3 : Int32))])) (fun _ k => XS.iloadN X0.here hx rfl (hb hby own_d_method_3_code_20) rfl k) ?_
  refine own_st (T' := T0) (g' := (mkF m 22 #[.val (.int (3 : Int32))] [(.int (3 : Int32)), (.int (3 : Int32))])) (fun _ k => XS.iconst X0.here hx rfl (hb hby own_d_method_3_code_21) k) ?_
  refine own_st (T' := T0) (g' := (mkF m 25 #[.val (.int (3 : Int32))] [])) (fun _ k => XS.icmpNo X0.here hx rfl (hb hby own_d_method_3_code_22) rfl (by decide) k) ?_
  refine own_st (T' := T0) (g' := (mkF m 26 #[.val (.int (3 : Int32))] [(.int (1 : Int32))])) (fun _ k => XS.iconst X0.here hx rfl (hb hby own_d_method_3_code_25) k) ?_
  exact own_ret X0 hx hlk hret rfl (Or.inl ⟨rfl, Or.inr (Or.inl rfl), _, rfl⟩) (hb hby own_d_method_3_code_26) (by decide) (by decide) ⟨rfl, rfl, e0⟩
set_option maxRecDepth 65536 in
set_option maxHeartbeats 40000000 in
theorem own_pick_12 (l : Launch) (Z : State) (a0 : Array Value) (hw : ∀ d ∈ tables_1, d.before a0 Z = true) (h0 : Heap) (a_EStatus_MATCH : Addr) (a_EStatus_NO_RATE : Addr) (a_EStatus_PRICED : Addr) (a_EStatus_DIFFERS : Addr) (a_EStatus_REJECTED : Addr) (a_EStatus_FULL : Addr) (S_EStatus_MATCH : Sta Z h0 "com/example/megablock/megablock/service/ReconciledRecord$EStatus" "MATCH" "Lcom/example/megablock/megablock/service/ReconciledRecord$EStatus;" (.ref a_EStatus_MATCH)) (S_EStatus_NO_RATE : Sta Z h0 "com/example/megablock/megablock/service/ReconciledRecord$EStatus" "NO_RATE" "Lcom/example/megablock/megablock/service/ReconciledRecord$EStatus;" (.ref a_EStatus_NO_RATE)) (S_EStatus_PRICED : Sta Z h0 "com/example/megablock/megablock/service/ReconciledRecord$EStatus" "PRICED" "Lcom/example/megablock/megablock/service/ReconciledRecord$EStatus;" (.ref a_EStatus_PRICED)) (S_EStatus_DIFFERS : Sta Z h0 "com/example/megablock/megablock/service/ReconciledRecord$EStatus" "DIFFERS" "Lcom/example/megablock/megablock/service/ReconciledRecord$EStatus;" (.ref a_EStatus_DIFFERS)) (S_EStatus_REJECTED : Sta Z h0 "com/example/megablock/megablock/service/ReconciledRecord$EStatus" "REJECTED" "Lcom/example/megablock/megablock/service/ReconciledRecord$EStatus;" (.ref a_EStatus_REJECTED)) (S_EStatus_FULL : Sta Z h0 "com/example/megablock/megablock/service/ReconciledRecord$EStatus" "FULL" "Lcom/example/megablock/megablock/service/ReconciledRecord$EStatus;" (.ref a_EStatus_FULL)) (E_EStatus_MATCH : Exa Z h0 a_EStatus_MATCH "com/example/megablock/megablock/service/ReconciledRecord$EStatus") (E_EStatus_NO_RATE : Exa Z h0 a_EStatus_NO_RATE "com/example/megablock/megablock/service/ReconciledRecord$EStatus") (E_EStatus_PRICED : Exa Z h0 a_EStatus_PRICED "com/example/megablock/megablock/service/ReconciledRecord$EStatus") (E_EStatus_DIFFERS : Exa Z h0 a_EStatus_DIFFERS "com/example/megablock/megablock/service/ReconciledRecord$EStatus") (E_EStatus_REJECTED : Exa Z h0 a_EStatus_REJECTED "com/example/megablock/megablock/service/ReconciledRecord$EStatus") (E_EStatus_FULL : Exa Z h0 a_EStatus_FULL "com/example/megablock/megablock/service/ReconciledRecord$EStatus") (F_EStatus_NO_RATE_ordinal : Fld Z h0 a_EStatus_NO_RATE "java/lang/Enum" "ordinal" "I" (.int (3 : Int32))) (F_EStatus_MATCH_ordinal : Fld Z h0 a_EStatus_MATCH "java/lang/Enum" "ordinal" "I" (.int (0 : Int32))) (F_EStatus_PRICED_ordinal : Fld Z h0 a_EStatus_PRICED "java/lang/Enum" "ordinal" "I" (.int (2 : Int32))) (F_EStatus_DIFFERS_ordinal : Fld Z h0 a_EStatus_DIFFERS "java/lang/Enum" "ordinal" "I" (.int (1 : Int32))) (F_EStatus_REJECTED_ordinal : Fld Z h0 a_EStatus_REJECTED "java/lang/Enum" "ordinal" "I" (.int (5 : Int32))) (F_EStatus_FULL_ordinal : Fld Z h0 a_EStatus_FULL "java/lang/Enum" "ordinal" "I" (.int (4 : Int32))) :
    own_Pure l Z h0 [] ({ frames := 0, cells := 0, slots := 0, locals := 0 } : Room) (⟨"com/example/megablock/megablock/service/EStatusNeedsAttentionPinLaw", "pick", "(I)Lcom/example/megablock/megablock/service/ReconciledRecord$EStatus;"⟩ : MethodName) method_2_code 1 (some (.object "com/example/megablock/megablock/service/ReconciledRecord$EStatus")) #[(.int (4 : Int32))] (some (.ref a_EStatus_FULL)) := by
  refine own_body (plainFor_of_name own_pn_0) ?_
  intro p e s m below meth c T0 X0 hx hby hml hown hZ e0 hret hlk hnm hnamed
  replace hown : s.vm.findClass "com/example/megablock/megablock/service/EStatusNeedsAttentionPinLaw" = some m.cls := hown
  replace hml : c.maxLocals = 1 := hml
  have ef : entryFrame m #[(.int (4 : Int32))] 1 = mkF m 0 #[.val (.int (4 : Int32))] [] := by first | (simp [entryFrame, mkF, argsToLocals, Value.category]; done) | rfl
  rw [ef]
  refine own_st (T' := T0) (g' := (mkF m 1 #[.val (.int (4 : Int32))] [(.int (4 : Int32))])) (fun _ k => XS.iloadN X0.here hx rfl (hb hby own_d_method_2_code_0) rfl k) ?_
  refine own_st (T' := T0) (g' := (mkF m 8 #[.val (.int (4 : Int32))] [])) (fun _ k => XS.ifYes X0.here hx rfl (pc0 := 1) (pc' := 8) rfl (hb hby own_d_method_2_code_1) rfl (by decide) (by decide) (by decide) k) ?_
  refine own_st (T' := T0) (g' := (mkF m 9 #[.val (.int (4 : Int32))] [(.int (4 : Int32))])) (fun _ k => XS.iloadN X0.here hx rfl (hb hby own_d_method_2_code_8) rfl k) ?_
  refine own_st (T' := T0) (g' := (mkF m 10 #[.val (.int (4 : Int32))] [(.int (1 : Int32)), (.int (4 : Int32))])) (fun _ k => XS.iconst X0.here hx rfl (hb hby own_d_method_2_code_9) k) ?_
  refine own_st (T' := T0) (g' := (mkF m 17 #[.val (.int (4 : Int32))] [])) (fun _ k => XS.icmpYes X0.here hx rfl (pc0 := 10) (pc' := 17) rfl (hb hby own_d_method_2_code_10) rfl (by decide) (by decide) (by decide) k) ?_
  refine own_st (T' := T0) (g' := (mkF m 18 #[.val (.int (4 : Int32))] [(.int (4 : Int32))])) (fun _ k => XS.iloadN X0.here hx rfl (hb hby own_d_method_2_code_17) rfl k) ?_
  refine own_st (T' := T0) (g' := (mkF m 19 #[.val (.int (4 : Int32))] [(.int (2 : Int32)), (.int (4 : Int32))])) (fun _ k => XS.iconst X0.here hx rfl (hb hby own_d_method_2_code_18) k) ?_
  refine own_st (T' := T0) (g' := (mkF m 26 #[.val (.int (4 : Int32))] [])) (fun _ k => XS.icmpYes X0.here hx rfl (pc0 := 19) (pc' := 26) rfl (hb hby own_d_method_2_code_19) rfl (by decide) (by decide) (by decide) k) ?_
  refine own_st (T' := T0) (g' := (mkF m 27 #[.val (.int (4 : Int32))] [(.int (4 : Int32))])) (fun _ k => XS.iloadN X0.here hx rfl (hb hby own_d_method_2_code_26) rfl k) ?_
  refine own_st (T' := T0) (g' := (mkF m 28 #[.val (.int (4 : Int32))] [(.int (3 : Int32)), (.int (4 : Int32))])) (fun _ k => XS.iconst X0.here hx rfl (hb hby own_d_method_2_code_27) k) ?_
  refine own_st (T' := T0) (g' := (mkF m 35 #[.val (.int (4 : Int32))] [])) (fun _ k => XS.icmpYes X0.here hx rfl (pc0 := 28) (pc' := 35) rfl (hb hby own_d_method_2_code_28) rfl (by decide) (by decide) (by decide) k) ?_
  refine own_st (T' := T0) (g' := (mkF m 36 #[.val (.int (4 : Int32))] [(.int (4 : Int32))])) (fun _ k => XS.iloadN X0.here hx rfl (hb hby own_d_method_2_code_35) rfl k) ?_
  refine own_st (T' := T0) (g' := (mkF m 37 #[.val (.int (4 : Int32))] [(.int (4 : Int32)), (.int (4 : Int32))])) (fun _ k => XS.iconst X0.here hx rfl (hb hby own_d_method_2_code_36) k) ?_
  refine own_st (T' := T0) (g' := (mkF m 40 #[.val (.int (4 : Int32))] [])) (fun _ k => XS.icmpNo X0.here hx rfl (hb hby own_d_method_2_code_37) rfl (by decide) k) ?_
  obtain ⟨T1, X1, e1, st1⟩ := getS2 X0 hx hZ hown (host := "") (Or.inl (hw _ (List.mem_of_getElem? (i := 26) rfl))) Via.refl e0 S_EStatus_FULL (g := (mkF m 40 #[.val (.int (4 : Int32))] [])) rfl (hb hby own_d_method_2_code_40)
  refine own_st (T' := T1) (g' := (mkF m 43 #[.val (.int (4 : Int32))] [(.ref a_EStatus_FULL)])) st1 ?_
  exact own_ret X1 hx hlk hret rfl (Or.inr (Or.inr (Or.inr (Or.inr ⟨rfl, rfl, rfl⟩)))) (hb hby own_d_method_2_code_43) (by decide) (by decide) ⟨rfl, rfl, e1⟩
set_option maxRecDepth 65536 in
set_option maxHeartbeats 40000000 in
theorem own_needsAttention_13 (l : Launch) (Z : State) (a0 : Array Value) (hw : ∀ d ∈ tables_1, d.before a0 Z = true) (h0 : Heap) (a_EStatus_MATCH : Addr) (a_EStatus_NO_RATE : Addr) (a_EStatus_PRICED : Addr) (a_EStatus_DIFFERS : Addr) (a_EStatus_REJECTED : Addr) (a_EStatus_FULL : Addr) (S_EStatus_MATCH : Sta Z h0 "com/example/megablock/megablock/service/ReconciledRecord$EStatus" "MATCH" "Lcom/example/megablock/megablock/service/ReconciledRecord$EStatus;" (.ref a_EStatus_MATCH)) (S_EStatus_NO_RATE : Sta Z h0 "com/example/megablock/megablock/service/ReconciledRecord$EStatus" "NO_RATE" "Lcom/example/megablock/megablock/service/ReconciledRecord$EStatus;" (.ref a_EStatus_NO_RATE)) (S_EStatus_PRICED : Sta Z h0 "com/example/megablock/megablock/service/ReconciledRecord$EStatus" "PRICED" "Lcom/example/megablock/megablock/service/ReconciledRecord$EStatus;" (.ref a_EStatus_PRICED)) (S_EStatus_DIFFERS : Sta Z h0 "com/example/megablock/megablock/service/ReconciledRecord$EStatus" "DIFFERS" "Lcom/example/megablock/megablock/service/ReconciledRecord$EStatus;" (.ref a_EStatus_DIFFERS)) (S_EStatus_REJECTED : Sta Z h0 "com/example/megablock/megablock/service/ReconciledRecord$EStatus" "REJECTED" "Lcom/example/megablock/megablock/service/ReconciledRecord$EStatus;" (.ref a_EStatus_REJECTED)) (S_EStatus_FULL : Sta Z h0 "com/example/megablock/megablock/service/ReconciledRecord$EStatus" "FULL" "Lcom/example/megablock/megablock/service/ReconciledRecord$EStatus;" (.ref a_EStatus_FULL)) (E_EStatus_MATCH : Exa Z h0 a_EStatus_MATCH "com/example/megablock/megablock/service/ReconciledRecord$EStatus") (E_EStatus_NO_RATE : Exa Z h0 a_EStatus_NO_RATE "com/example/megablock/megablock/service/ReconciledRecord$EStatus") (E_EStatus_PRICED : Exa Z h0 a_EStatus_PRICED "com/example/megablock/megablock/service/ReconciledRecord$EStatus") (E_EStatus_DIFFERS : Exa Z h0 a_EStatus_DIFFERS "com/example/megablock/megablock/service/ReconciledRecord$EStatus") (E_EStatus_REJECTED : Exa Z h0 a_EStatus_REJECTED "com/example/megablock/megablock/service/ReconciledRecord$EStatus") (E_EStatus_FULL : Exa Z h0 a_EStatus_FULL "com/example/megablock/megablock/service/ReconciledRecord$EStatus") (F_EStatus_NO_RATE_ordinal : Fld Z h0 a_EStatus_NO_RATE "java/lang/Enum" "ordinal" "I" (.int (3 : Int32))) (F_EStatus_MATCH_ordinal : Fld Z h0 a_EStatus_MATCH "java/lang/Enum" "ordinal" "I" (.int (0 : Int32))) (F_EStatus_PRICED_ordinal : Fld Z h0 a_EStatus_PRICED "java/lang/Enum" "ordinal" "I" (.int (2 : Int32))) (F_EStatus_DIFFERS_ordinal : Fld Z h0 a_EStatus_DIFFERS "java/lang/Enum" "ordinal" "I" (.int (1 : Int32))) (F_EStatus_REJECTED_ordinal : Fld Z h0 a_EStatus_REJECTED "java/lang/Enum" "ordinal" "I" (.int (5 : Int32))) (F_EStatus_FULL_ordinal : Fld Z h0 a_EStatus_FULL "java/lang/Enum" "ordinal" "I" (.int (4 : Int32))) :
    own_Pure l Z h0 [] ({ frames := 0, cells := 0, slots := 0, locals := 0 } : Room) (⟨"com/example/megablock/megablock/service/ReconciledRecord$EStatus", "needsAttention", "()Z"⟩ : MethodName) prog_74_method_5_code 1 (some .boolean) #[(.ref a_EStatus_FULL)] (some (.int (1 : Int32))) := by
  refine own_body (plainFor_of_name own_pn_1) ?_
  intro p e s m below meth c T0 X0 hx hby hml hown hZ e0 hret hlk hnm hnamed
  replace hown : s.vm.findClass "com/example/megablock/megablock/service/ReconciledRecord$EStatus" = some m.cls := hown
  replace hml : c.maxLocals = 1 := hml
  have ef : entryFrame m #[(.ref a_EStatus_FULL)] 1 = mkF m 0 #[.val (.ref a_EStatus_FULL)] [] := by first | (simp [entryFrame, mkF, argsToLocals, Value.category]; done) | rfl
  rw [ef]
  refine own_st (T' := T0) (g' := (mkF m 1 #[.val (.ref a_EStatus_FULL)] [(.ref a_EStatus_FULL)])) (fun _ k => XS.aloadN X0.here hx rfl (hb hby own_d_prog_74_method_5_code_0) rfl rfl k) ?_
  obtain ⟨T1, X1, e1, st1⟩ := getS2 X0 hx hZ hown (host := "") (Or.inl (hw _ (List.mem_of_getElem? (i := 13) rfl))) Via.refl e0 S_EStatus_MATCH (g := (mkF m 1 #[.val (.ref a_EStatus_FULL)] [(.ref a_EStatus_FULL)])) rfl (hb hby own_d_prog_74_method_5_code_1)
  refine own_st (T' := T1) (g' := (mkF m 4 #[.val (.ref a_EStatus_FULL)] [(.ref a_EStatus_MATCH), (.ref a_EStatus_FULL)])) st1 ?_
  refine own_st (T' := T1) (g' := (mkF m 7 #[.val (.ref a_EStatus_FULL)] [])) (fun _ k => Jvm.RoadKit.acmp (g := (mkF m 4 #[.val (.ref a_EStatus_FULL)] [(.ref a_EStatus_MATCH), (.ref a_EStatus_FULL)])) X1 hx rfl rfl rfl (pc0 := 4) (pc' := 7) (same := false) rfl (hb hby own_d_prog_74_method_5_code_4) rfl (decide_eq_false fun q => (Fld.ne F_EStatus_FULL_ordinal F_EStatus_MATCH_ordinal (by decide)) (Value.ref.inj q)) (by decide) (by decide) k) ?_
  refine own_st (T' := T1) (g' := (mkF m 8 #[.val (.ref a_EStatus_FULL)] [(.ref a_EStatus_FULL)])) (fun _ k => XS.aloadN X1.here hx rfl (hb hby own_d_prog_74_method_5_code_7) rfl rfl k) ?_
  obtain ⟨T2, X2, e2, st2⟩ := getS2 X1 hx hZ hown (host := "") (Or.inl (hw _ (List.mem_of_getElem? (i := 19) rfl))) Via.refl e1 S_EStatus_PRICED (g := (mkF m 8 #[.val (.ref a_EStatus_FULL)] [(.ref a_EStatus_FULL)])) rfl (hb hby own_d_prog_74_method_5_code_8)
  refine own_st (T' := T2) (g' := (mkF m 11 #[.val (.ref a_EStatus_FULL)] [(.ref a_EStatus_PRICED), (.ref a_EStatus_FULL)])) st2 ?_
  refine own_st (T' := T2) (g' := (mkF m 14 #[.val (.ref a_EStatus_FULL)] [])) (fun _ k => Jvm.RoadKit.acmp (g := (mkF m 11 #[.val (.ref a_EStatus_FULL)] [(.ref a_EStatus_PRICED), (.ref a_EStatus_FULL)])) X2 hx rfl rfl rfl (pc0 := 11) (pc' := 14) (same := false) rfl (hb hby own_d_prog_74_method_5_code_11) rfl (decide_eq_false fun q => (Fld.ne F_EStatus_FULL_ordinal F_EStatus_PRICED_ordinal (by decide)) (Value.ref.inj q)) (by decide) (by decide) k) ?_
  refine own_st (T' := T2) (g' := (mkF m 15 #[.val (.ref a_EStatus_FULL)] [(.int (1 : Int32))])) (fun _ k => XS.iconst X2.here hx rfl (hb hby own_d_prog_74_method_5_code_14) k) ?_
  refine own_st (T' := T2) (g' := (mkF m 19 #[.val (.ref a_EStatus_FULL)] [(.int (1 : Int32))])) (fun _ k => XS.goto X2.here hx rfl (pc0 := 15) (pc' := 19) rfl (hb hby own_d_prog_74_method_5_code_15) (by decide) (by decide) k) ?_
  exact own_ret X2 hx hlk hret rfl (Or.inl ⟨rfl, Or.inr (Or.inl rfl), _, rfl⟩) (hb hby own_d_prog_74_method_5_code_19) (by decide) (by decide) ⟨rfl, rfl, e2⟩
set_option maxRecDepth 65536 in
set_option maxHeartbeats 40000000 in
theorem own_expected_14 (l : Launch) (Z : State) (a0 : Array Value) (hw : ∀ d ∈ tables_1, d.before a0 Z = true) (h0 : Heap) (a_EStatus_MATCH : Addr) (a_EStatus_NO_RATE : Addr) (a_EStatus_PRICED : Addr) (a_EStatus_DIFFERS : Addr) (a_EStatus_REJECTED : Addr) (a_EStatus_FULL : Addr) (S_EStatus_MATCH : Sta Z h0 "com/example/megablock/megablock/service/ReconciledRecord$EStatus" "MATCH" "Lcom/example/megablock/megablock/service/ReconciledRecord$EStatus;" (.ref a_EStatus_MATCH)) (S_EStatus_NO_RATE : Sta Z h0 "com/example/megablock/megablock/service/ReconciledRecord$EStatus" "NO_RATE" "Lcom/example/megablock/megablock/service/ReconciledRecord$EStatus;" (.ref a_EStatus_NO_RATE)) (S_EStatus_PRICED : Sta Z h0 "com/example/megablock/megablock/service/ReconciledRecord$EStatus" "PRICED" "Lcom/example/megablock/megablock/service/ReconciledRecord$EStatus;" (.ref a_EStatus_PRICED)) (S_EStatus_DIFFERS : Sta Z h0 "com/example/megablock/megablock/service/ReconciledRecord$EStatus" "DIFFERS" "Lcom/example/megablock/megablock/service/ReconciledRecord$EStatus;" (.ref a_EStatus_DIFFERS)) (S_EStatus_REJECTED : Sta Z h0 "com/example/megablock/megablock/service/ReconciledRecord$EStatus" "REJECTED" "Lcom/example/megablock/megablock/service/ReconciledRecord$EStatus;" (.ref a_EStatus_REJECTED)) (S_EStatus_FULL : Sta Z h0 "com/example/megablock/megablock/service/ReconciledRecord$EStatus" "FULL" "Lcom/example/megablock/megablock/service/ReconciledRecord$EStatus;" (.ref a_EStatus_FULL)) (E_EStatus_MATCH : Exa Z h0 a_EStatus_MATCH "com/example/megablock/megablock/service/ReconciledRecord$EStatus") (E_EStatus_NO_RATE : Exa Z h0 a_EStatus_NO_RATE "com/example/megablock/megablock/service/ReconciledRecord$EStatus") (E_EStatus_PRICED : Exa Z h0 a_EStatus_PRICED "com/example/megablock/megablock/service/ReconciledRecord$EStatus") (E_EStatus_DIFFERS : Exa Z h0 a_EStatus_DIFFERS "com/example/megablock/megablock/service/ReconciledRecord$EStatus") (E_EStatus_REJECTED : Exa Z h0 a_EStatus_REJECTED "com/example/megablock/megablock/service/ReconciledRecord$EStatus") (E_EStatus_FULL : Exa Z h0 a_EStatus_FULL "com/example/megablock/megablock/service/ReconciledRecord$EStatus") (F_EStatus_NO_RATE_ordinal : Fld Z h0 a_EStatus_NO_RATE "java/lang/Enum" "ordinal" "I" (.int (3 : Int32))) (F_EStatus_MATCH_ordinal : Fld Z h0 a_EStatus_MATCH "java/lang/Enum" "ordinal" "I" (.int (0 : Int32))) (F_EStatus_PRICED_ordinal : Fld Z h0 a_EStatus_PRICED "java/lang/Enum" "ordinal" "I" (.int (2 : Int32))) (F_EStatus_DIFFERS_ordinal : Fld Z h0 a_EStatus_DIFFERS "java/lang/Enum" "ordinal" "I" (.int (1 : Int32))) (F_EStatus_REJECTED_ordinal : Fld Z h0 a_EStatus_REJECTED "java/lang/Enum" "ordinal" "I" (.int (5 : Int32))) (F_EStatus_FULL_ordinal : Fld Z h0 a_EStatus_FULL "java/lang/Enum" "ordinal" "I" (.int (4 : Int32))) :
    own_Pure l Z h0 [] ({ frames := 0, cells := 0, slots := 0, locals := 0 } : Room) (⟨"com/example/megablock/megablock/service/EStatusNeedsAttentionPinLaw", "expected", "(I)Z"⟩ : MethodName) method_3_code 1 (some .boolean) #[(.int (4 : Int32))] (some (.int (1 : Int32))) := by
  refine own_body (plainFor_of_name own_pn_0) ?_
  intro p e s m below meth c T0 X0 hx hby hml hown hZ e0 hret hlk hnm hnamed
  replace hown : s.vm.findClass "com/example/megablock/megablock/service/EStatusNeedsAttentionPinLaw" = some m.cls := hown
  replace hml : c.maxLocals = 1 := hml
  have ef : entryFrame m #[(.int (4 : Int32))] 1 = mkF m 0 #[.val (.int (4 : Int32))] [] := by first | (simp [entryFrame, mkF, argsToLocals, Value.category]; done) | rfl
  rw [ef]
  refine own_st (T' := T0) (g' := (mkF m 1 #[.val (.int (4 : Int32))] [(.int (4 : Int32))])) (fun _ k => XS.iloadN X0.here hx rfl (hb hby own_d_method_3_code_0) rfl k) ?_
  refine own_st (T' := T0) (g' := (mkF m 6 #[.val (.int (4 : Int32))] [])) (fun _ k => XS.ifYes X0.here hx rfl (pc0 := 1) (pc' := 6) rfl (hb hby own_d_method_3_code_1) rfl (by decide) (by decide) (by decide) k) ?_
  refine own_st (T' := T0) (g' := (mkF m 7 #[.val (.int (4 : Int32))] [(.int (4 : Int32))])) (fun _ k => XS.iloadN X0.here hx rfl (hb hby own_d_method_3_code_6) rfl k) ?_
  refine own_st (T' := T0) (g' := (mkF m 8 #[.val (.int (4 : Int32))] [(.int (1 : Int32)), (.int (4 : Int32))])) (fun _ k => XS.iconst X0.here hx rfl (hb hby own_d_method_3_code_7) k) ?_
  refine own_st (T' := T0) (g' := (mkF m 13 #[.val (.int (4 : Int32))] [])) (fun _ k => XS.icmpYes X0.here hx rfl (pc0 := 8) (pc' := 13) rfl (hb hby own_d_method_3_code_8) rfl (by decide) (by decide) (by decide) k) ?_
  refine own_st (T' := T0) (g' := (mkF m 14 #[.val (.int (4 : Int32))] [(.int (4 : Int32))])) (fun _ k => XS.iloadN X0.here hx rfl (hb hby own_d_method_3_code_13) rfl k) ?_
  refine own_st (T' := T0) (g' := (mkF m 15 #[.val (.int (4 : Int32))] [(.int (2 : Int32)), (.int (4 : Int32))])) (fun _ k => XS.iconst X0.here hx rfl (hb hby own_d_method_3_code_14) k) ?_
  refine own_st (T' := T0) (g' := (mkF m 20 #[.val (.int (4 : Int32))] [])) (fun _ k => XS.icmpYes X0.here hx rfl (pc0 := 15) (pc' := 20) rfl (hb hby own_d_method_3_code_15) rfl (by decide) (by decide) (by decide) k) ?_
  refine own_st (T' := T0) (g' := (mkF m 21 #[.val (.int (4 : Int32))] [(.int (4 : Int32))])) (fun _ k => XS.iloadN X0.here hx rfl (hb hby own_d_method_3_code_20) rfl k) ?_
  refine own_st (T' := T0) (g' := (mkF m 22 #[.val (.int (4 : Int32))] [(.int (3 : Int32)), (.int (4 : Int32))])) (fun _ k => XS.iconst X0.here hx rfl (hb hby own_d_method_3_code_21) k) ?_
  refine own_st (T' := T0) (g' := (mkF m 27 #[.val (.int (4 : Int32))] [])) (fun _ k => XS.icmpYes X0.here hx rfl (pc0 := 22) (pc' := 27) rfl (hb hby own_d_method_3_code_22) rfl (by decide) (by decide) (by decide) k) ?_
  refine own_st (T' := T0) (g' := (mkF m 28 #[.val (.int (4 : Int32))] [(.int (4 : Int32))])) (fun _ k => XS.iloadN X0.here hx rfl (hb hby own_d_method_3_code_27) rfl k) ?_
  refine own_st (T' := T0) (g' := (mkF m 29 #[.val (.int (4 : Int32))] [(.int (4 : Int32)), (.int (4 : Int32))])) (fun _ k => XS.iconst X0.here hx rfl (hb hby own_d_method_3_code_28) k) ?_
  refine own_st (T' := T0) (g' := (mkF m 32 #[.val (.int (4 : Int32))] [])) (fun _ k => XS.icmpNo X0.here hx rfl (hb hby own_d_method_3_code_29) rfl (by decide) k) ?_
  refine own_st (T' := T0) (g' := (mkF m 33 #[.val (.int (4 : Int32))] [(.int (1 : Int32))])) (fun _ k => XS.iconst X0.here hx rfl (hb hby own_d_method_3_code_32) k) ?_
  exact own_ret X0 hx hlk hret rfl (Or.inl ⟨rfl, Or.inr (Or.inl rfl), _, rfl⟩) (hb hby own_d_method_3_code_33) (by decide) (by decide) ⟨rfl, rfl, e0⟩
set_option maxRecDepth 65536 in
set_option maxHeartbeats 40000000 in
theorem own_pick_15 (l : Launch) (Z : State) (a0 : Array Value) (hw : ∀ d ∈ tables_1, d.before a0 Z = true) (h0 : Heap) (a_EStatus_MATCH : Addr) (a_EStatus_NO_RATE : Addr) (a_EStatus_PRICED : Addr) (a_EStatus_DIFFERS : Addr) (a_EStatus_REJECTED : Addr) (a_EStatus_FULL : Addr) (S_EStatus_MATCH : Sta Z h0 "com/example/megablock/megablock/service/ReconciledRecord$EStatus" "MATCH" "Lcom/example/megablock/megablock/service/ReconciledRecord$EStatus;" (.ref a_EStatus_MATCH)) (S_EStatus_NO_RATE : Sta Z h0 "com/example/megablock/megablock/service/ReconciledRecord$EStatus" "NO_RATE" "Lcom/example/megablock/megablock/service/ReconciledRecord$EStatus;" (.ref a_EStatus_NO_RATE)) (S_EStatus_PRICED : Sta Z h0 "com/example/megablock/megablock/service/ReconciledRecord$EStatus" "PRICED" "Lcom/example/megablock/megablock/service/ReconciledRecord$EStatus;" (.ref a_EStatus_PRICED)) (S_EStatus_DIFFERS : Sta Z h0 "com/example/megablock/megablock/service/ReconciledRecord$EStatus" "DIFFERS" "Lcom/example/megablock/megablock/service/ReconciledRecord$EStatus;" (.ref a_EStatus_DIFFERS)) (S_EStatus_REJECTED : Sta Z h0 "com/example/megablock/megablock/service/ReconciledRecord$EStatus" "REJECTED" "Lcom/example/megablock/megablock/service/ReconciledRecord$EStatus;" (.ref a_EStatus_REJECTED)) (S_EStatus_FULL : Sta Z h0 "com/example/megablock/megablock/service/ReconciledRecord$EStatus" "FULL" "Lcom/example/megablock/megablock/service/ReconciledRecord$EStatus;" (.ref a_EStatus_FULL)) (E_EStatus_MATCH : Exa Z h0 a_EStatus_MATCH "com/example/megablock/megablock/service/ReconciledRecord$EStatus") (E_EStatus_NO_RATE : Exa Z h0 a_EStatus_NO_RATE "com/example/megablock/megablock/service/ReconciledRecord$EStatus") (E_EStatus_PRICED : Exa Z h0 a_EStatus_PRICED "com/example/megablock/megablock/service/ReconciledRecord$EStatus") (E_EStatus_DIFFERS : Exa Z h0 a_EStatus_DIFFERS "com/example/megablock/megablock/service/ReconciledRecord$EStatus") (E_EStatus_REJECTED : Exa Z h0 a_EStatus_REJECTED "com/example/megablock/megablock/service/ReconciledRecord$EStatus") (E_EStatus_FULL : Exa Z h0 a_EStatus_FULL "com/example/megablock/megablock/service/ReconciledRecord$EStatus") (F_EStatus_NO_RATE_ordinal : Fld Z h0 a_EStatus_NO_RATE "java/lang/Enum" "ordinal" "I" (.int (3 : Int32))) (F_EStatus_MATCH_ordinal : Fld Z h0 a_EStatus_MATCH "java/lang/Enum" "ordinal" "I" (.int (0 : Int32))) (F_EStatus_PRICED_ordinal : Fld Z h0 a_EStatus_PRICED "java/lang/Enum" "ordinal" "I" (.int (2 : Int32))) (F_EStatus_DIFFERS_ordinal : Fld Z h0 a_EStatus_DIFFERS "java/lang/Enum" "ordinal" "I" (.int (1 : Int32))) (F_EStatus_REJECTED_ordinal : Fld Z h0 a_EStatus_REJECTED "java/lang/Enum" "ordinal" "I" (.int (5 : Int32))) (F_EStatus_FULL_ordinal : Fld Z h0 a_EStatus_FULL "java/lang/Enum" "ordinal" "I" (.int (4 : Int32))) :
    own_Pure l Z h0 [] ({ frames := 0, cells := 0, slots := 0, locals := 0 } : Room) (⟨"com/example/megablock/megablock/service/EStatusNeedsAttentionPinLaw", "pick", "(I)Lcom/example/megablock/megablock/service/ReconciledRecord$EStatus;"⟩ : MethodName) method_2_code 1 (some (.object "com/example/megablock/megablock/service/ReconciledRecord$EStatus")) #[(.int (5 : Int32))] (some (.ref a_EStatus_REJECTED)) := by
  refine own_body (plainFor_of_name own_pn_0) ?_
  intro p e s m below meth c T0 X0 hx hby hml hown hZ e0 hret hlk hnm hnamed
  replace hown : s.vm.findClass "com/example/megablock/megablock/service/EStatusNeedsAttentionPinLaw" = some m.cls := hown
  replace hml : c.maxLocals = 1 := hml
  have ef : entryFrame m #[(.int (5 : Int32))] 1 = mkF m 0 #[.val (.int (5 : Int32))] [] := by first | (simp [entryFrame, mkF, argsToLocals, Value.category]; done) | rfl
  rw [ef]
  refine own_st (T' := T0) (g' := (mkF m 1 #[.val (.int (5 : Int32))] [(.int (5 : Int32))])) (fun _ k => XS.iloadN X0.here hx rfl (hb hby own_d_method_2_code_0) rfl k) ?_
  refine own_st (T' := T0) (g' := (mkF m 8 #[.val (.int (5 : Int32))] [])) (fun _ k => XS.ifYes X0.here hx rfl (pc0 := 1) (pc' := 8) rfl (hb hby own_d_method_2_code_1) rfl (by decide) (by decide) (by decide) k) ?_
  refine own_st (T' := T0) (g' := (mkF m 9 #[.val (.int (5 : Int32))] [(.int (5 : Int32))])) (fun _ k => XS.iloadN X0.here hx rfl (hb hby own_d_method_2_code_8) rfl k) ?_
  refine own_st (T' := T0) (g' := (mkF m 10 #[.val (.int (5 : Int32))] [(.int (1 : Int32)), (.int (5 : Int32))])) (fun _ k => XS.iconst X0.here hx rfl (hb hby own_d_method_2_code_9) k) ?_
  refine own_st (T' := T0) (g' := (mkF m 17 #[.val (.int (5 : Int32))] [])) (fun _ k => XS.icmpYes X0.here hx rfl (pc0 := 10) (pc' := 17) rfl (hb hby own_d_method_2_code_10) rfl (by decide) (by decide) (by decide) k) ?_
  refine own_st (T' := T0) (g' := (mkF m 18 #[.val (.int (5 : Int32))] [(.int (5 : Int32))])) (fun _ k => XS.iloadN X0.here hx rfl (hb hby own_d_method_2_code_17) rfl k) ?_
  refine own_st (T' := T0) (g' := (mkF m 19 #[.val (.int (5 : Int32))] [(.int (2 : Int32)), (.int (5 : Int32))])) (fun _ k => XS.iconst X0.here hx rfl (hb hby own_d_method_2_code_18) k) ?_
  refine own_st (T' := T0) (g' := (mkF m 26 #[.val (.int (5 : Int32))] [])) (fun _ k => XS.icmpYes X0.here hx rfl (pc0 := 19) (pc' := 26) rfl (hb hby own_d_method_2_code_19) rfl (by decide) (by decide) (by decide) k) ?_
  refine own_st (T' := T0) (g' := (mkF m 27 #[.val (.int (5 : Int32))] [(.int (5 : Int32))])) (fun _ k => XS.iloadN X0.here hx rfl (hb hby own_d_method_2_code_26) rfl k) ?_
  refine own_st (T' := T0) (g' := (mkF m 28 #[.val (.int (5 : Int32))] [(.int (3 : Int32)), (.int (5 : Int32))])) (fun _ k => XS.iconst X0.here hx rfl (hb hby own_d_method_2_code_27) k) ?_
  refine own_st (T' := T0) (g' := (mkF m 35 #[.val (.int (5 : Int32))] [])) (fun _ k => XS.icmpYes X0.here hx rfl (pc0 := 28) (pc' := 35) rfl (hb hby own_d_method_2_code_28) rfl (by decide) (by decide) (by decide) k) ?_
  refine own_st (T' := T0) (g' := (mkF m 36 #[.val (.int (5 : Int32))] [(.int (5 : Int32))])) (fun _ k => XS.iloadN X0.here hx rfl (hb hby own_d_method_2_code_35) rfl k) ?_
  refine own_st (T' := T0) (g' := (mkF m 37 #[.val (.int (5 : Int32))] [(.int (4 : Int32)), (.int (5 : Int32))])) (fun _ k => XS.iconst X0.here hx rfl (hb hby own_d_method_2_code_36) k) ?_
  refine own_st (T' := T0) (g' := (mkF m 44 #[.val (.int (5 : Int32))] [])) (fun _ k => XS.icmpYes X0.here hx rfl (pc0 := 37) (pc' := 44) rfl (hb hby own_d_method_2_code_37) rfl (by decide) (by decide) (by decide) k) ?_
  obtain ⟨T1, X1, e1, st1⟩ := getS2 X0 hx hZ hown (host := "") (Or.inl (hw _ (List.mem_of_getElem? (i := 24) rfl))) Via.refl e0 S_EStatus_REJECTED (g := (mkF m 44 #[.val (.int (5 : Int32))] [])) rfl (hb hby own_d_method_2_code_44)
  refine own_st (T' := T1) (g' := (mkF m 47 #[.val (.int (5 : Int32))] [(.ref a_EStatus_REJECTED)])) st1 ?_
  exact own_ret X1 hx hlk hret rfl (Or.inr (Or.inr (Or.inr (Or.inr ⟨rfl, rfl, rfl⟩)))) (hb hby own_d_method_2_code_47) (by decide) (by decide) ⟨rfl, rfl, e1⟩
set_option maxRecDepth 65536 in
set_option maxHeartbeats 40000000 in
theorem own_needsAttention_16 (l : Launch) (Z : State) (a0 : Array Value) (hw : ∀ d ∈ tables_1, d.before a0 Z = true) (h0 : Heap) (a_EStatus_MATCH : Addr) (a_EStatus_NO_RATE : Addr) (a_EStatus_PRICED : Addr) (a_EStatus_DIFFERS : Addr) (a_EStatus_REJECTED : Addr) (a_EStatus_FULL : Addr) (S_EStatus_MATCH : Sta Z h0 "com/example/megablock/megablock/service/ReconciledRecord$EStatus" "MATCH" "Lcom/example/megablock/megablock/service/ReconciledRecord$EStatus;" (.ref a_EStatus_MATCH)) (S_EStatus_NO_RATE : Sta Z h0 "com/example/megablock/megablock/service/ReconciledRecord$EStatus" "NO_RATE" "Lcom/example/megablock/megablock/service/ReconciledRecord$EStatus;" (.ref a_EStatus_NO_RATE)) (S_EStatus_PRICED : Sta Z h0 "com/example/megablock/megablock/service/ReconciledRecord$EStatus" "PRICED" "Lcom/example/megablock/megablock/service/ReconciledRecord$EStatus;" (.ref a_EStatus_PRICED)) (S_EStatus_DIFFERS : Sta Z h0 "com/example/megablock/megablock/service/ReconciledRecord$EStatus" "DIFFERS" "Lcom/example/megablock/megablock/service/ReconciledRecord$EStatus;" (.ref a_EStatus_DIFFERS)) (S_EStatus_REJECTED : Sta Z h0 "com/example/megablock/megablock/service/ReconciledRecord$EStatus" "REJECTED" "Lcom/example/megablock/megablock/service/ReconciledRecord$EStatus;" (.ref a_EStatus_REJECTED)) (S_EStatus_FULL : Sta Z h0 "com/example/megablock/megablock/service/ReconciledRecord$EStatus" "FULL" "Lcom/example/megablock/megablock/service/ReconciledRecord$EStatus;" (.ref a_EStatus_FULL)) (E_EStatus_MATCH : Exa Z h0 a_EStatus_MATCH "com/example/megablock/megablock/service/ReconciledRecord$EStatus") (E_EStatus_NO_RATE : Exa Z h0 a_EStatus_NO_RATE "com/example/megablock/megablock/service/ReconciledRecord$EStatus") (E_EStatus_PRICED : Exa Z h0 a_EStatus_PRICED "com/example/megablock/megablock/service/ReconciledRecord$EStatus") (E_EStatus_DIFFERS : Exa Z h0 a_EStatus_DIFFERS "com/example/megablock/megablock/service/ReconciledRecord$EStatus") (E_EStatus_REJECTED : Exa Z h0 a_EStatus_REJECTED "com/example/megablock/megablock/service/ReconciledRecord$EStatus") (E_EStatus_FULL : Exa Z h0 a_EStatus_FULL "com/example/megablock/megablock/service/ReconciledRecord$EStatus") (F_EStatus_NO_RATE_ordinal : Fld Z h0 a_EStatus_NO_RATE "java/lang/Enum" "ordinal" "I" (.int (3 : Int32))) (F_EStatus_MATCH_ordinal : Fld Z h0 a_EStatus_MATCH "java/lang/Enum" "ordinal" "I" (.int (0 : Int32))) (F_EStatus_PRICED_ordinal : Fld Z h0 a_EStatus_PRICED "java/lang/Enum" "ordinal" "I" (.int (2 : Int32))) (F_EStatus_DIFFERS_ordinal : Fld Z h0 a_EStatus_DIFFERS "java/lang/Enum" "ordinal" "I" (.int (1 : Int32))) (F_EStatus_REJECTED_ordinal : Fld Z h0 a_EStatus_REJECTED "java/lang/Enum" "ordinal" "I" (.int (5 : Int32))) (F_EStatus_FULL_ordinal : Fld Z h0 a_EStatus_FULL "java/lang/Enum" "ordinal" "I" (.int (4 : Int32))) :
    own_Pure l Z h0 [] ({ frames := 0, cells := 0, slots := 0, locals := 0 } : Room) (⟨"com/example/megablock/megablock/service/ReconciledRecord$EStatus", "needsAttention", "()Z"⟩ : MethodName) prog_74_method_5_code 1 (some .boolean) #[(.ref a_EStatus_REJECTED)] (some (.int (1 : Int32))) := by
  refine own_body (plainFor_of_name own_pn_1) ?_
  intro p e s m below meth c T0 X0 hx hby hml hown hZ e0 hret hlk hnm hnamed
  replace hown : s.vm.findClass "com/example/megablock/megablock/service/ReconciledRecord$EStatus" = some m.cls := hown
  replace hml : c.maxLocals = 1 := hml
  have ef : entryFrame m #[(.ref a_EStatus_REJECTED)] 1 = mkF m 0 #[.val (.ref a_EStatus_REJECTED)] [] := by first | (simp [entryFrame, mkF, argsToLocals, Value.category]; done) | rfl
  rw [ef]
  refine own_st (T' := T0) (g' := (mkF m 1 #[.val (.ref a_EStatus_REJECTED)] [(.ref a_EStatus_REJECTED)])) (fun _ k => XS.aloadN X0.here hx rfl (hb hby own_d_prog_74_method_5_code_0) rfl rfl k) ?_
  obtain ⟨T1, X1, e1, st1⟩ := getS2 X0 hx hZ hown (host := "") (Or.inl (hw _ (List.mem_of_getElem? (i := 13) rfl))) Via.refl e0 S_EStatus_MATCH (g := (mkF m 1 #[.val (.ref a_EStatus_REJECTED)] [(.ref a_EStatus_REJECTED)])) rfl (hb hby own_d_prog_74_method_5_code_1)
  refine own_st (T' := T1) (g' := (mkF m 4 #[.val (.ref a_EStatus_REJECTED)] [(.ref a_EStatus_MATCH), (.ref a_EStatus_REJECTED)])) st1 ?_
  refine own_st (T' := T1) (g' := (mkF m 7 #[.val (.ref a_EStatus_REJECTED)] [])) (fun _ k => Jvm.RoadKit.acmp (g := (mkF m 4 #[.val (.ref a_EStatus_REJECTED)] [(.ref a_EStatus_MATCH), (.ref a_EStatus_REJECTED)])) X1 hx rfl rfl rfl (pc0 := 4) (pc' := 7) (same := false) rfl (hb hby own_d_prog_74_method_5_code_4) rfl (decide_eq_false fun q => (Fld.ne F_EStatus_REJECTED_ordinal F_EStatus_MATCH_ordinal (by decide)) (Value.ref.inj q)) (by decide) (by decide) k) ?_
  refine own_st (T' := T1) (g' := (mkF m 8 #[.val (.ref a_EStatus_REJECTED)] [(.ref a_EStatus_REJECTED)])) (fun _ k => XS.aloadN X1.here hx rfl (hb hby own_d_prog_74_method_5_code_7) rfl rfl k) ?_
  obtain ⟨T2, X2, e2, st2⟩ := getS2 X1 hx hZ hown (host := "") (Or.inl (hw _ (List.mem_of_getElem? (i := 19) rfl))) Via.refl e1 S_EStatus_PRICED (g := (mkF m 8 #[.val (.ref a_EStatus_REJECTED)] [(.ref a_EStatus_REJECTED)])) rfl (hb hby own_d_prog_74_method_5_code_8)
  refine own_st (T' := T2) (g' := (mkF m 11 #[.val (.ref a_EStatus_REJECTED)] [(.ref a_EStatus_PRICED), (.ref a_EStatus_REJECTED)])) st2 ?_
  refine own_st (T' := T2) (g' := (mkF m 14 #[.val (.ref a_EStatus_REJECTED)] [])) (fun _ k => Jvm.RoadKit.acmp (g := (mkF m 11 #[.val (.ref a_EStatus_REJECTED)] [(.ref a_EStatus_PRICED), (.ref a_EStatus_REJECTED)])) X2 hx rfl rfl rfl (pc0 := 11) (pc' := 14) (same := false) rfl (hb hby own_d_prog_74_method_5_code_11) rfl (decide_eq_false fun q => (Fld.ne F_EStatus_REJECTED_ordinal F_EStatus_PRICED_ordinal (by decide)) (Value.ref.inj q)) (by decide) (by decide) k) ?_
  refine own_st (T' := T2) (g' := (mkF m 15 #[.val (.ref a_EStatus_REJECTED)] [(.int (1 : Int32))])) (fun _ k => XS.iconst X2.here hx rfl (hb hby own_d_prog_74_method_5_code_14) k) ?_
  refine own_st (T' := T2) (g' := (mkF m 19 #[.val (.ref a_EStatus_REJECTED)] [(.int (1 : Int32))])) (fun _ k => XS.goto X2.here hx rfl (pc0 := 15) (pc' := 19) rfl (hb hby own_d_prog_74_method_5_code_15) (by decide) (by decide) k) ?_
  exact own_ret X2 hx hlk hret rfl (Or.inl ⟨rfl, Or.inr (Or.inl rfl), _, rfl⟩) (hb hby own_d_prog_74_method_5_code_19) (by decide) (by decide) ⟨rfl, rfl, e2⟩
set_option maxRecDepth 65536 in
set_option maxHeartbeats 40000000 in
theorem own_expected_17 (l : Launch) (Z : State) (a0 : Array Value) (hw : ∀ d ∈ tables_1, d.before a0 Z = true) (h0 : Heap) (a_EStatus_MATCH : Addr) (a_EStatus_NO_RATE : Addr) (a_EStatus_PRICED : Addr) (a_EStatus_DIFFERS : Addr) (a_EStatus_REJECTED : Addr) (a_EStatus_FULL : Addr) (S_EStatus_MATCH : Sta Z h0 "com/example/megablock/megablock/service/ReconciledRecord$EStatus" "MATCH" "Lcom/example/megablock/megablock/service/ReconciledRecord$EStatus;" (.ref a_EStatus_MATCH)) (S_EStatus_NO_RATE : Sta Z h0 "com/example/megablock/megablock/service/ReconciledRecord$EStatus" "NO_RATE" "Lcom/example/megablock/megablock/service/ReconciledRecord$EStatus;" (.ref a_EStatus_NO_RATE)) (S_EStatus_PRICED : Sta Z h0 "com/example/megablock/megablock/service/ReconciledRecord$EStatus" "PRICED" "Lcom/example/megablock/megablock/service/ReconciledRecord$EStatus;" (.ref a_EStatus_PRICED)) (S_EStatus_DIFFERS : Sta Z h0 "com/example/megablock/megablock/service/ReconciledRecord$EStatus" "DIFFERS" "Lcom/example/megablock/megablock/service/ReconciledRecord$EStatus;" (.ref a_EStatus_DIFFERS)) (S_EStatus_REJECTED : Sta Z h0 "com/example/megablock/megablock/service/ReconciledRecord$EStatus" "REJECTED" "Lcom/example/megablock/megablock/service/ReconciledRecord$EStatus;" (.ref a_EStatus_REJECTED)) (S_EStatus_FULL : Sta Z h0 "com/example/megablock/megablock/service/ReconciledRecord$EStatus" "FULL" "Lcom/example/megablock/megablock/service/ReconciledRecord$EStatus;" (.ref a_EStatus_FULL)) (E_EStatus_MATCH : Exa Z h0 a_EStatus_MATCH "com/example/megablock/megablock/service/ReconciledRecord$EStatus") (E_EStatus_NO_RATE : Exa Z h0 a_EStatus_NO_RATE "com/example/megablock/megablock/service/ReconciledRecord$EStatus") (E_EStatus_PRICED : Exa Z h0 a_EStatus_PRICED "com/example/megablock/megablock/service/ReconciledRecord$EStatus") (E_EStatus_DIFFERS : Exa Z h0 a_EStatus_DIFFERS "com/example/megablock/megablock/service/ReconciledRecord$EStatus") (E_EStatus_REJECTED : Exa Z h0 a_EStatus_REJECTED "com/example/megablock/megablock/service/ReconciledRecord$EStatus") (E_EStatus_FULL : Exa Z h0 a_EStatus_FULL "com/example/megablock/megablock/service/ReconciledRecord$EStatus") (F_EStatus_NO_RATE_ordinal : Fld Z h0 a_EStatus_NO_RATE "java/lang/Enum" "ordinal" "I" (.int (3 : Int32))) (F_EStatus_MATCH_ordinal : Fld Z h0 a_EStatus_MATCH "java/lang/Enum" "ordinal" "I" (.int (0 : Int32))) (F_EStatus_PRICED_ordinal : Fld Z h0 a_EStatus_PRICED "java/lang/Enum" "ordinal" "I" (.int (2 : Int32))) (F_EStatus_DIFFERS_ordinal : Fld Z h0 a_EStatus_DIFFERS "java/lang/Enum" "ordinal" "I" (.int (1 : Int32))) (F_EStatus_REJECTED_ordinal : Fld Z h0 a_EStatus_REJECTED "java/lang/Enum" "ordinal" "I" (.int (5 : Int32))) (F_EStatus_FULL_ordinal : Fld Z h0 a_EStatus_FULL "java/lang/Enum" "ordinal" "I" (.int (4 : Int32))) :
    own_Pure l Z h0 [] ({ frames := 0, cells := 0, slots := 0, locals := 0 } : Room) (⟨"com/example/megablock/megablock/service/EStatusNeedsAttentionPinLaw", "expected", "(I)Z"⟩ : MethodName) method_3_code 1 (some .boolean) #[(.int (5 : Int32))] (some (.int (1 : Int32))) := by
  refine own_body (plainFor_of_name own_pn_0) ?_
  intro p e s m below meth c T0 X0 hx hby hml hown hZ e0 hret hlk hnm hnamed
  replace hown : s.vm.findClass "com/example/megablock/megablock/service/EStatusNeedsAttentionPinLaw" = some m.cls := hown
  replace hml : c.maxLocals = 1 := hml
  have ef : entryFrame m #[(.int (5 : Int32))] 1 = mkF m 0 #[.val (.int (5 : Int32))] [] := by first | (simp [entryFrame, mkF, argsToLocals, Value.category]; done) | rfl
  rw [ef]
  refine own_st (T' := T0) (g' := (mkF m 1 #[.val (.int (5 : Int32))] [(.int (5 : Int32))])) (fun _ k => XS.iloadN X0.here hx rfl (hb hby own_d_method_3_code_0) rfl k) ?_
  refine own_st (T' := T0) (g' := (mkF m 6 #[.val (.int (5 : Int32))] [])) (fun _ k => XS.ifYes X0.here hx rfl (pc0 := 1) (pc' := 6) rfl (hb hby own_d_method_3_code_1) rfl (by decide) (by decide) (by decide) k) ?_
  refine own_st (T' := T0) (g' := (mkF m 7 #[.val (.int (5 : Int32))] [(.int (5 : Int32))])) (fun _ k => XS.iloadN X0.here hx rfl (hb hby own_d_method_3_code_6) rfl k) ?_
  refine own_st (T' := T0) (g' := (mkF m 8 #[.val (.int (5 : Int32))] [(.int (1 : Int32)), (.int (5 : Int32))])) (fun _ k => XS.iconst X0.here hx rfl (hb hby own_d_method_3_code_7) k) ?_
  refine own_st (T' := T0) (g' := (mkF m 13 #[.val (.int (5 : Int32))] [])) (fun _ k => XS.icmpYes X0.here hx rfl (pc0 := 8) (pc' := 13) rfl (hb hby own_d_method_3_code_8) rfl (by decide) (by decide) (by decide) k) ?_
  refine own_st (T' := T0) (g' := (mkF m 14 #[.val (.int (5 : Int32))] [(.int (5 : Int32))])) (fun _ k => XS.iloadN X0.here hx rfl (hb hby own_d_method_3_code_13) rfl k) ?_
  refine own_st (T' := T0) (g' := (mkF m 15 #[.val (.int (5 : Int32))] [(.int (2 : Int32)), (.int (5 : Int32))])) (fun _ k => XS.iconst X0.here hx rfl (hb hby own_d_method_3_code_14) k) ?_
  refine own_st (T' := T0) (g' := (mkF m 20 #[.val (.int (5 : Int32))] [])) (fun _ k => XS.icmpYes X0.here hx rfl (pc0 := 15) (pc' := 20) rfl (hb hby own_d_method_3_code_15) rfl (by decide) (by decide) (by decide) k) ?_
  refine own_st (T' := T0) (g' := (mkF m 21 #[.val (.int (5 : Int32))] [(.int (5 : Int32))])) (fun _ k => XS.iloadN X0.here hx rfl (hb hby own_d_method_3_code_20) rfl k) ?_
  refine own_st (T' := T0) (g' := (mkF m 22 #[.val (.int (5 : Int32))] [(.int (3 : Int32)), (.int (5 : Int32))])) (fun _ k => XS.iconst X0.here hx rfl (hb hby own_d_method_3_code_21) k) ?_
  refine own_st (T' := T0) (g' := (mkF m 27 #[.val (.int (5 : Int32))] [])) (fun _ k => XS.icmpYes X0.here hx rfl (pc0 := 22) (pc' := 27) rfl (hb hby own_d_method_3_code_22) rfl (by decide) (by decide) (by decide) k) ?_
  refine own_st (T' := T0) (g' := (mkF m 28 #[.val (.int (5 : Int32))] [(.int (5 : Int32))])) (fun _ k => XS.iloadN X0.here hx rfl (hb hby own_d_method_3_code_27) rfl k) ?_
  refine own_st (T' := T0) (g' := (mkF m 29 #[.val (.int (5 : Int32))] [(.int (4 : Int32)), (.int (5 : Int32))])) (fun _ k => XS.iconst X0.here hx rfl (hb hby own_d_method_3_code_28) k) ?_
  refine own_st (T' := T0) (g' := (mkF m 34 #[.val (.int (5 : Int32))] [])) (fun _ k => XS.icmpYes X0.here hx rfl (pc0 := 29) (pc' := 34) rfl (hb hby own_d_method_3_code_29) rfl (by decide) (by decide) (by decide) k) ?_
  refine own_st (T' := T0) (g' := (mkF m 35 #[.val (.int (5 : Int32))] [(.int (1 : Int32))])) (fun _ k => XS.iconst X0.here hx rfl (hb hby own_d_method_3_code_34) k) ?_
  exact own_ret X0 hx hlk hret rfl (Or.inl ⟨rfl, Or.inr (Or.inl rfl), _, rfl⟩) (hb hby own_d_method_3_code_35) (by decide) (by decide) ⟨rfl, rfl, e0⟩
set_option maxRecDepth 65536 in
set_option maxHeartbeats 40000000 in
theorem own_lawP (l : Launch) (Z : State) (a0 : Array Value) (hw : ∀ d ∈ tables_1, d.before a0 Z = true) (h0 : Heap) (a_EStatus_MATCH : Addr) (a_EStatus_NO_RATE : Addr) (a_EStatus_PRICED : Addr) (a_EStatus_DIFFERS : Addr) (a_EStatus_REJECTED : Addr) (a_EStatus_FULL : Addr) (S_EStatus_MATCH : Sta Z h0 "com/example/megablock/megablock/service/ReconciledRecord$EStatus" "MATCH" "Lcom/example/megablock/megablock/service/ReconciledRecord$EStatus;" (.ref a_EStatus_MATCH)) (S_EStatus_NO_RATE : Sta Z h0 "com/example/megablock/megablock/service/ReconciledRecord$EStatus" "NO_RATE" "Lcom/example/megablock/megablock/service/ReconciledRecord$EStatus;" (.ref a_EStatus_NO_RATE)) (S_EStatus_PRICED : Sta Z h0 "com/example/megablock/megablock/service/ReconciledRecord$EStatus" "PRICED" "Lcom/example/megablock/megablock/service/ReconciledRecord$EStatus;" (.ref a_EStatus_PRICED)) (S_EStatus_DIFFERS : Sta Z h0 "com/example/megablock/megablock/service/ReconciledRecord$EStatus" "DIFFERS" "Lcom/example/megablock/megablock/service/ReconciledRecord$EStatus;" (.ref a_EStatus_DIFFERS)) (S_EStatus_REJECTED : Sta Z h0 "com/example/megablock/megablock/service/ReconciledRecord$EStatus" "REJECTED" "Lcom/example/megablock/megablock/service/ReconciledRecord$EStatus;" (.ref a_EStatus_REJECTED)) (S_EStatus_FULL : Sta Z h0 "com/example/megablock/megablock/service/ReconciledRecord$EStatus" "FULL" "Lcom/example/megablock/megablock/service/ReconciledRecord$EStatus;" (.ref a_EStatus_FULL)) (E_EStatus_MATCH : Exa Z h0 a_EStatus_MATCH "com/example/megablock/megablock/service/ReconciledRecord$EStatus") (E_EStatus_NO_RATE : Exa Z h0 a_EStatus_NO_RATE "com/example/megablock/megablock/service/ReconciledRecord$EStatus") (E_EStatus_PRICED : Exa Z h0 a_EStatus_PRICED "com/example/megablock/megablock/service/ReconciledRecord$EStatus") (E_EStatus_DIFFERS : Exa Z h0 a_EStatus_DIFFERS "com/example/megablock/megablock/service/ReconciledRecord$EStatus") (E_EStatus_REJECTED : Exa Z h0 a_EStatus_REJECTED "com/example/megablock/megablock/service/ReconciledRecord$EStatus") (E_EStatus_FULL : Exa Z h0 a_EStatus_FULL "com/example/megablock/megablock/service/ReconciledRecord$EStatus") (F_EStatus_NO_RATE_ordinal : Fld Z h0 a_EStatus_NO_RATE "java/lang/Enum" "ordinal" "I" (.int (3 : Int32))) (F_EStatus_MATCH_ordinal : Fld Z h0 a_EStatus_MATCH "java/lang/Enum" "ordinal" "I" (.int (0 : Int32))) (F_EStatus_PRICED_ordinal : Fld Z h0 a_EStatus_PRICED "java/lang/Enum" "ordinal" "I" (.int (2 : Int32))) (F_EStatus_DIFFERS_ordinal : Fld Z h0 a_EStatus_DIFFERS "java/lang/Enum" "ordinal" "I" (.int (1 : Int32))) (F_EStatus_REJECTED_ordinal : Fld Z h0 a_EStatus_REJECTED "java/lang/Enum" "ordinal" "I" (.int (5 : Int32))) (F_EStatus_FULL_ordinal : Fld Z h0 a_EStatus_FULL "java/lang/Enum" "ordinal" "I" (.int (4 : Int32))) (i : Int32) :
    own_Pure l Z h0 tables_1 room_1 x code maxLocals ret #[(.int i)] (some (.int (1 : Int32))) := by
  refine own_body (plainFor_of_name own_pn_0) ?_
  intro p e s m below meth c T0 X0 hx hby hml hown hZ e0 hret hlk hnm hnamed
  replace hown : s.vm.findClass "com/example/megablock/megablock/service/EStatusNeedsAttentionPinLaw" = some m.cls := hown
  replace hml : c.maxLocals = 3 := hml
  have ef : entryFrame m #[(.int i)] maxLocals = mkF m 0 #[.val (.int i), .unset, .unset] [] := by first | (simp [entryFrame, mkF, argsToLocals, Value.category, maxLocals]; done) | rfl
  rw [ef]
  refine own_st (T' := T0) (g' := (mkF m 1 #[.val (.int i), .unset, .unset] [(.int i)])) (fun _ k => XS.iloadN X0.here hx rfl (hb hby at_0) rfl k) ?_
  refine own_st (T' := T0) (g' := (mkF m 3 #[.val (.int i), .unset, .unset] [(.int (2147483647 : Int32)), (.int i)])) (fun _ k => X0.ldcInt hx hown (mvT hZ (hw _ (List.mem_of_getElem? (i := 0) rfl))) (g := (mkF m 1 #[.val (.int i), .unset, .unset] [(.int i)])) rfl (hb hby at_1) _ k) ?_
  refine own_st (T' := T0) (g' := (mkF m 4 #[.val (.int i), .unset, .unset] [(.int (i &&& (2147483647 : Int32)))])) (fun _ k => XS.iand X0.here hx rfl (hb hby at_3) rfl k) ?_
  refine own_st (T' := T0) (g' := (mkF m 6 #[.val (.int i), .unset, .unset] [(.int (6 : Int32)), (.int (i &&& (2147483647 : Int32)))])) (fun _ k => XS.bipush X0.here hx rfl (hb hby at_4) k) ?_
  refine own_st (T' := T0) (g' := (mkF m 7 #[.val (.int i), .unset, .unset] [(.int ((i &&& (2147483647 : Int32)) % (6 : Int32)))])) (fun _ k => iremM X0 hx (g := (mkF m 6 #[.val (.int i), .unset, .unset] [(.int (6 : Int32)), (.int (i &&& (2147483647 : Int32)))])) rfl (hb hby at_6) rfl (by decide) k) ?_
  have hE7_1 := own_mod i
  rcases hE7_1 with hE7_1 | hE7_1 | hE7_1 | hE7_1 | hE7_1 | hE7_1
  ·
    rw [hE7_1]
    refine own_st (T' := T0) (g' := (mkF m 8 #[.val (.int i), .val (.int (0 : Int32)), .unset] [])) (fun _ k => XS.istoreN X0.here hx rfl (hb hby at_7) rfl (l' := #[.val (.int i), .val (.int (0 : Int32)), .unset]) rfl k) ?_
    refine own_st (T' := T0) (g' := (mkF m 9 #[.val (.int i), .val (.int (0 : Int32)), .unset] [(.int (0 : Int32))])) (fun _ k => XS.iloadN X0.here hx rfl (hb hby at_8) rfl k) ?_
    obtain ⟨T2, X2, e2, st2⟩ := own_pure (w := (.ref a_EStatus_MATCH)) rfl rfl (own_gS X0 hx hZ hown (hw _ (List.mem_of_getElem? (i := 1) rfl)) (hw _ (List.mem_of_getElem? (i := 2) rfl)) (hw _ (List.mem_of_getElem? (i := 3) rfl)) (hw _ (List.mem_of_getElem? (i := 4) rfl)) (by decide) e0 (own_pick_0 l Z a0 hw h0 a_EStatus_MATCH a_EStatus_NO_RATE a_EStatus_PRICED a_EStatus_DIFFERS a_EStatus_REJECTED a_EStatus_FULL S_EStatus_MATCH S_EStatus_NO_RATE S_EStatus_PRICED S_EStatus_DIFFERS S_EStatus_REJECTED S_EStatus_FULL E_EStatus_MATCH E_EStatus_NO_RATE E_EStatus_PRICED E_EStatus_DIFFERS E_EStatus_REJECTED E_EStatus_FULL F_EStatus_NO_RATE_ordinal F_EStatus_MATCH_ordinal F_EStatus_PRICED_ordinal F_EStatus_DIFFERS_ordinal F_EStatus_REJECTED_ordinal F_EStatus_FULL_ordinal) (by decide) (by decide) (by decide) (by decide) (Q := fun v h L => v = some (.ref a_EStatus_MATCH) ∧ L = [] ∧ h = h0) (W := 0) (g := (mkF m 9 #[.val (.int i), .val (.int (0 : Int32)), .unset] [(.int (0 : Int32))])) (argsL := [(.int (0 : Int32))]) (rest := []) rfl (by rw [hml]; rfl) (lenOf own_pd_0 rfl) rfl (by show 2 * 0 + _ ≤ _; exact Nat.le_of_eq rfl) (hb hby at_9))
    refine own_st (T' := T2) (g' := (mkF m 12 #[.val (.int i), .val (.int (0 : Int32)), .unset] [(.ref a_EStatus_MATCH)])) st2 ?_
    refine own_st (T' := T2) (g' := (mkF m 13 #[.val (.int i), .val (.int (0 : Int32)), .val (.ref a_EStatus_MATCH)] [])) (fun _ k => XS.astoreN X2.here hx rfl (hb hby at_12) rfl rfl (l' := #[.val (.int i), .val (.int (0 : Int32)), .val (.ref a_EStatus_MATCH)]) rfl k) ?_
    refine own_st (T' := T2) (g' := (mkF m 14 #[.val (.int i), .val (.int (0 : Int32)), .val (.ref a_EStatus_MATCH)] [(.ref a_EStatus_MATCH)])) (fun _ k => XS.aloadN X2.here hx rfl (hb hby at_13) rfl rfl k) ?_
    obtain ⟨T3, X3, e3, st3⟩ := own_pure (w := (.int (0 : Int32))) rfl rfl (own_gV X2 hx hZ hown (hw _ (List.mem_of_getElem? (i := 8) rfl)) (hw _ (List.mem_of_getElem? (i := 9) rfl)) (notFace_of_selects (args := #[]) (mvT hZ (hw _ (List.mem_of_getElem? (i := 11) rfl)))) (hw _ (List.mem_of_getElem? (i := 11) rfl)) (hw _ (List.mem_of_getElem? (i := 10) rfl)) (hw _ (List.mem_of_getElem? (i := 6) rfl)) (hw _ (List.mem_of_getElem? (i := 12) rfl)) (by decide) e2 E_EStatus_MATCH (own_needsAttention_1 l Z a0 hw h0 a_EStatus_MATCH a_EStatus_NO_RATE a_EStatus_PRICED a_EStatus_DIFFERS a_EStatus_REJECTED a_EStatus_FULL S_EStatus_MATCH S_EStatus_NO_RATE S_EStatus_PRICED S_EStatus_DIFFERS S_EStatus_REJECTED S_EStatus_FULL E_EStatus_MATCH E_EStatus_NO_RATE E_EStatus_PRICED E_EStatus_DIFFERS E_EStatus_REJECTED E_EStatus_FULL F_EStatus_NO_RATE_ordinal F_EStatus_MATCH_ordinal F_EStatus_PRICED_ordinal F_EStatus_DIFFERS_ordinal F_EStatus_REJECTED_ordinal F_EStatus_FULL_ordinal) (by decide) (by decide) (by decide) (by decide) (Q := fun v h L => v = some (.int (0 : Int32)) ∧ L = [] ∧ h = h0) (W := 0) (g := (mkF m 14 #[.val (.int i), .val (.int (0 : Int32)), .val (.ref a_EStatus_MATCH)] [(.ref a_EStatus_MATCH)])) (argsL := []) (rest := []) rfl (by rw [hml]; rfl) (lenOf own_pd_1 rfl) rfl (by show 2 * 0 + _ ≤ _; exact Nat.le_of_eq rfl) (hb hby at_14))
    refine own_st (T' := T3) (g' := (mkF m 17 #[.val (.int i), .val (.int (0 : Int32)), .val (.ref a_EStatus_MATCH)] [(.int (0 : Int32))])) st3 ?_
    refine own_st (T' := T3) (g' := (mkF m 18 #[.val (.int i), .val (.int (0 : Int32)), .val (.ref a_EStatus_MATCH)] [(.int (0 : Int32)), (.int (0 : Int32))])) (fun _ k => XS.iloadN X3.here hx rfl (hb hby at_17) rfl k) ?_
    obtain ⟨T4, X4, e4, st4⟩ := own_pure (w := (.int (0 : Int32))) rfl rfl (own_gS X3 hx hZ hown (hw _ (List.mem_of_getElem? (i := 14) rfl)) (hw _ (List.mem_of_getElem? (i := 15) rfl)) (hw _ (List.mem_of_getElem? (i := 3) rfl)) (hw _ (List.mem_of_getElem? (i := 16) rfl)) (by decide) e3 (own_expected_2 l Z a0 hw h0 a_EStatus_MATCH a_EStatus_NO_RATE a_EStatus_PRICED a_EStatus_DIFFERS a_EStatus_REJECTED a_EStatus_FULL S_EStatus_MATCH S_EStatus_NO_RATE S_EStatus_PRICED S_EStatus_DIFFERS S_EStatus_REJECTED S_EStatus_FULL E_EStatus_MATCH E_EStatus_NO_RATE E_EStatus_PRICED E_EStatus_DIFFERS E_EStatus_REJECTED E_EStatus_FULL F_EStatus_NO_RATE_ordinal F_EStatus_MATCH_ordinal F_EStatus_PRICED_ordinal F_EStatus_DIFFERS_ordinal F_EStatus_REJECTED_ordinal F_EStatus_FULL_ordinal) (by decide) (by decide) (by decide) (by decide) (Q := fun v h L => v = some (.int (0 : Int32)) ∧ L = [] ∧ h = h0) (W := 1) (g := (mkF m 18 #[.val (.int i), .val (.int (0 : Int32)), .val (.ref a_EStatus_MATCH)] [(.int (0 : Int32)), (.int (0 : Int32))])) (argsL := [(.int (0 : Int32))]) (rest := [(.int (0 : Int32))]) rfl (by rw [hml]; rfl) (lenOf own_pd_2 rfl) rfl (by show 2 * 0 + _ ≤ _; exact Nat.le_of_eq rfl) (hb hby at_18))
    refine own_st (T' := T4) (g' := (mkF m 21 #[.val (.int i), .val (.int (0 : Int32)), .val (.ref a_EStatus_MATCH)] [(.int (0 : Int32)), (.int (0 : Int32))])) st4 ?_
    refine own_st (T' := T4) (g' := (mkF m 24 #[.val (.int i), .val (.int (0 : Int32)), .val (.ref a_EStatus_MATCH)] [])) (fun _ k => XS.icmpNo X4.here hx rfl (hb hby at_21) rfl (by decide) k) ?_
    refine own_st (T' := T4) (g' := (mkF m 25 #[.val (.int i), .val (.int (0 : Int32)), .val (.ref a_EStatus_MATCH)] [(.int (1 : Int32))])) (fun _ k => XS.iconst X4.here hx rfl (hb hby at_24) k) ?_
    refine own_st (T' := T4) (g' := (mkF m 29 #[.val (.int i), .val (.int (0 : Int32)), .val (.ref a_EStatus_MATCH)] [(.int (1 : Int32))])) (fun _ k => XS.goto X4.here hx rfl (pc0 := 25) (pc' := 29) rfl (hb hby at_25) (by decide) (by decide) k) ?_
    exact own_ret X4 hx hlk hret rfl (Or.inl ⟨rfl, Or.inr (Or.inl rfl), _, rfl⟩) (hb hby at_29) (by decide) (by decide) ⟨rfl, rfl, e4⟩
  ·
    rw [hE7_1]
    refine own_st (T' := T0) (g' := (mkF m 8 #[.val (.int i), .val (.int (1 : Int32)), .unset] [])) (fun _ k => XS.istoreN X0.here hx rfl (hb hby at_7) rfl (l' := #[.val (.int i), .val (.int (1 : Int32)), .unset]) rfl k) ?_
    refine own_st (T' := T0) (g' := (mkF m 9 #[.val (.int i), .val (.int (1 : Int32)), .unset] [(.int (1 : Int32))])) (fun _ k => XS.iloadN X0.here hx rfl (hb hby at_8) rfl k) ?_
    obtain ⟨T5, X5, e5, st5⟩ := own_pure (w := (.ref a_EStatus_DIFFERS)) rfl rfl (own_gS X0 hx hZ hown (hw _ (List.mem_of_getElem? (i := 1) rfl)) (hw _ (List.mem_of_getElem? (i := 2) rfl)) (hw _ (List.mem_of_getElem? (i := 3) rfl)) (hw _ (List.mem_of_getElem? (i := 4) rfl)) (by decide) e0 (own_pick_3 l Z a0 hw h0 a_EStatus_MATCH a_EStatus_NO_RATE a_EStatus_PRICED a_EStatus_DIFFERS a_EStatus_REJECTED a_EStatus_FULL S_EStatus_MATCH S_EStatus_NO_RATE S_EStatus_PRICED S_EStatus_DIFFERS S_EStatus_REJECTED S_EStatus_FULL E_EStatus_MATCH E_EStatus_NO_RATE E_EStatus_PRICED E_EStatus_DIFFERS E_EStatus_REJECTED E_EStatus_FULL F_EStatus_NO_RATE_ordinal F_EStatus_MATCH_ordinal F_EStatus_PRICED_ordinal F_EStatus_DIFFERS_ordinal F_EStatus_REJECTED_ordinal F_EStatus_FULL_ordinal) (by decide) (by decide) (by decide) (by decide) (Q := fun v h L => v = some (.ref a_EStatus_DIFFERS) ∧ L = [] ∧ h = h0) (W := 0) (g := (mkF m 9 #[.val (.int i), .val (.int (1 : Int32)), .unset] [(.int (1 : Int32))])) (argsL := [(.int (1 : Int32))]) (rest := []) rfl (by rw [hml]; rfl) (lenOf own_pd_0 rfl) rfl (by show 2 * 0 + _ ≤ _; exact Nat.le_of_eq rfl) (hb hby at_9))
    refine own_st (T' := T5) (g' := (mkF m 12 #[.val (.int i), .val (.int (1 : Int32)), .unset] [(.ref a_EStatus_DIFFERS)])) st5 ?_
    refine own_st (T' := T5) (g' := (mkF m 13 #[.val (.int i), .val (.int (1 : Int32)), .val (.ref a_EStatus_DIFFERS)] [])) (fun _ k => XS.astoreN X5.here hx rfl (hb hby at_12) rfl rfl (l' := #[.val (.int i), .val (.int (1 : Int32)), .val (.ref a_EStatus_DIFFERS)]) rfl k) ?_
    refine own_st (T' := T5) (g' := (mkF m 14 #[.val (.int i), .val (.int (1 : Int32)), .val (.ref a_EStatus_DIFFERS)] [(.ref a_EStatus_DIFFERS)])) (fun _ k => XS.aloadN X5.here hx rfl (hb hby at_13) rfl rfl k) ?_
    obtain ⟨T6, X6, e6, st6⟩ := own_pure (w := (.int (1 : Int32))) rfl rfl (own_gV X5 hx hZ hown (hw _ (List.mem_of_getElem? (i := 8) rfl)) (hw _ (List.mem_of_getElem? (i := 9) rfl)) (notFace_of_selects (args := #[]) (mvT hZ (hw _ (List.mem_of_getElem? (i := 11) rfl)))) (hw _ (List.mem_of_getElem? (i := 11) rfl)) (hw _ (List.mem_of_getElem? (i := 10) rfl)) (hw _ (List.mem_of_getElem? (i := 6) rfl)) (hw _ (List.mem_of_getElem? (i := 12) rfl)) (by decide) e5 E_EStatus_DIFFERS (own_needsAttention_4 l Z a0 hw h0 a_EStatus_MATCH a_EStatus_NO_RATE a_EStatus_PRICED a_EStatus_DIFFERS a_EStatus_REJECTED a_EStatus_FULL S_EStatus_MATCH S_EStatus_NO_RATE S_EStatus_PRICED S_EStatus_DIFFERS S_EStatus_REJECTED S_EStatus_FULL E_EStatus_MATCH E_EStatus_NO_RATE E_EStatus_PRICED E_EStatus_DIFFERS E_EStatus_REJECTED E_EStatus_FULL F_EStatus_NO_RATE_ordinal F_EStatus_MATCH_ordinal F_EStatus_PRICED_ordinal F_EStatus_DIFFERS_ordinal F_EStatus_REJECTED_ordinal F_EStatus_FULL_ordinal) (by decide) (by decide) (by decide) (by decide) (Q := fun v h L => v = some (.int (1 : Int32)) ∧ L = [] ∧ h = h0) (W := 0) (g := (mkF m 14 #[.val (.int i), .val (.int (1 : Int32)), .val (.ref a_EStatus_DIFFERS)] [(.ref a_EStatus_DIFFERS)])) (argsL := []) (rest := []) rfl (by rw [hml]; rfl) (lenOf own_pd_1 rfl) rfl (by show 2 * 0 + _ ≤ _; exact Nat.le_of_eq rfl) (hb hby at_14))
    refine own_st (T' := T6) (g' := (mkF m 17 #[.val (.int i), .val (.int (1 : Int32)), .val (.ref a_EStatus_DIFFERS)] [(.int (1 : Int32))])) st6 ?_
    refine own_st (T' := T6) (g' := (mkF m 18 #[.val (.int i), .val (.int (1 : Int32)), .val (.ref a_EStatus_DIFFERS)] [(.int (1 : Int32)), (.int (1 : Int32))])) (fun _ k => XS.iloadN X6.here hx rfl (hb hby at_17) rfl k) ?_
    obtain ⟨T7, X7, e7, st7⟩ := own_pure (w := (.int (1 : Int32))) rfl rfl (own_gS X6 hx hZ hown (hw _ (List.mem_of_getElem? (i := 14) rfl)) (hw _ (List.mem_of_getElem? (i := 15) rfl)) (hw _ (List.mem_of_getElem? (i := 3) rfl)) (hw _ (List.mem_of_getElem? (i := 16) rfl)) (by decide) e6 (own_expected_5 l Z a0 hw h0 a_EStatus_MATCH a_EStatus_NO_RATE a_EStatus_PRICED a_EStatus_DIFFERS a_EStatus_REJECTED a_EStatus_FULL S_EStatus_MATCH S_EStatus_NO_RATE S_EStatus_PRICED S_EStatus_DIFFERS S_EStatus_REJECTED S_EStatus_FULL E_EStatus_MATCH E_EStatus_NO_RATE E_EStatus_PRICED E_EStatus_DIFFERS E_EStatus_REJECTED E_EStatus_FULL F_EStatus_NO_RATE_ordinal F_EStatus_MATCH_ordinal F_EStatus_PRICED_ordinal F_EStatus_DIFFERS_ordinal F_EStatus_REJECTED_ordinal F_EStatus_FULL_ordinal) (by decide) (by decide) (by decide) (by decide) (Q := fun v h L => v = some (.int (1 : Int32)) ∧ L = [] ∧ h = h0) (W := 1) (g := (mkF m 18 #[.val (.int i), .val (.int (1 : Int32)), .val (.ref a_EStatus_DIFFERS)] [(.int (1 : Int32)), (.int (1 : Int32))])) (argsL := [(.int (1 : Int32))]) (rest := [(.int (1 : Int32))]) rfl (by rw [hml]; rfl) (lenOf own_pd_2 rfl) rfl (by show 2 * 0 + _ ≤ _; exact Nat.le_of_eq rfl) (hb hby at_18))
    refine own_st (T' := T7) (g' := (mkF m 21 #[.val (.int i), .val (.int (1 : Int32)), .val (.ref a_EStatus_DIFFERS)] [(.int (1 : Int32)), (.int (1 : Int32))])) st7 ?_
    refine own_st (T' := T7) (g' := (mkF m 24 #[.val (.int i), .val (.int (1 : Int32)), .val (.ref a_EStatus_DIFFERS)] [])) (fun _ k => XS.icmpNo X7.here hx rfl (hb hby at_21) rfl (by decide) k) ?_
    refine own_st (T' := T7) (g' := (mkF m 25 #[.val (.int i), .val (.int (1 : Int32)), .val (.ref a_EStatus_DIFFERS)] [(.int (1 : Int32))])) (fun _ k => XS.iconst X7.here hx rfl (hb hby at_24) k) ?_
    refine own_st (T' := T7) (g' := (mkF m 29 #[.val (.int i), .val (.int (1 : Int32)), .val (.ref a_EStatus_DIFFERS)] [(.int (1 : Int32))])) (fun _ k => XS.goto X7.here hx rfl (pc0 := 25) (pc' := 29) rfl (hb hby at_25) (by decide) (by decide) k) ?_
    exact own_ret X7 hx hlk hret rfl (Or.inl ⟨rfl, Or.inr (Or.inl rfl), _, rfl⟩) (hb hby at_29) (by decide) (by decide) ⟨rfl, rfl, e7⟩
  ·
    rw [hE7_1]
    refine own_st (T' := T0) (g' := (mkF m 8 #[.val (.int i), .val (.int (2 : Int32)), .unset] [])) (fun _ k => XS.istoreN X0.here hx rfl (hb hby at_7) rfl (l' := #[.val (.int i), .val (.int (2 : Int32)), .unset]) rfl k) ?_
    refine own_st (T' := T0) (g' := (mkF m 9 #[.val (.int i), .val (.int (2 : Int32)), .unset] [(.int (2 : Int32))])) (fun _ k => XS.iloadN X0.here hx rfl (hb hby at_8) rfl k) ?_
    obtain ⟨T8, X8, e8, st8⟩ := own_pure (w := (.ref a_EStatus_PRICED)) rfl rfl (own_gS X0 hx hZ hown (hw _ (List.mem_of_getElem? (i := 1) rfl)) (hw _ (List.mem_of_getElem? (i := 2) rfl)) (hw _ (List.mem_of_getElem? (i := 3) rfl)) (hw _ (List.mem_of_getElem? (i := 4) rfl)) (by decide) e0 (own_pick_6 l Z a0 hw h0 a_EStatus_MATCH a_EStatus_NO_RATE a_EStatus_PRICED a_EStatus_DIFFERS a_EStatus_REJECTED a_EStatus_FULL S_EStatus_MATCH S_EStatus_NO_RATE S_EStatus_PRICED S_EStatus_DIFFERS S_EStatus_REJECTED S_EStatus_FULL E_EStatus_MATCH E_EStatus_NO_RATE E_EStatus_PRICED E_EStatus_DIFFERS E_EStatus_REJECTED E_EStatus_FULL F_EStatus_NO_RATE_ordinal F_EStatus_MATCH_ordinal F_EStatus_PRICED_ordinal F_EStatus_DIFFERS_ordinal F_EStatus_REJECTED_ordinal F_EStatus_FULL_ordinal) (by decide) (by decide) (by decide) (by decide) (Q := fun v h L => v = some (.ref a_EStatus_PRICED) ∧ L = [] ∧ h = h0) (W := 0) (g := (mkF m 9 #[.val (.int i), .val (.int (2 : Int32)), .unset] [(.int (2 : Int32))])) (argsL := [(.int (2 : Int32))]) (rest := []) rfl (by rw [hml]; rfl) (lenOf own_pd_0 rfl) rfl (by show 2 * 0 + _ ≤ _; exact Nat.le_of_eq rfl) (hb hby at_9))
    refine own_st (T' := T8) (g' := (mkF m 12 #[.val (.int i), .val (.int (2 : Int32)), .unset] [(.ref a_EStatus_PRICED)])) st8 ?_
    refine own_st (T' := T8) (g' := (mkF m 13 #[.val (.int i), .val (.int (2 : Int32)), .val (.ref a_EStatus_PRICED)] [])) (fun _ k => XS.astoreN X8.here hx rfl (hb hby at_12) rfl rfl (l' := #[.val (.int i), .val (.int (2 : Int32)), .val (.ref a_EStatus_PRICED)]) rfl k) ?_
    refine own_st (T' := T8) (g' := (mkF m 14 #[.val (.int i), .val (.int (2 : Int32)), .val (.ref a_EStatus_PRICED)] [(.ref a_EStatus_PRICED)])) (fun _ k => XS.aloadN X8.here hx rfl (hb hby at_13) rfl rfl k) ?_
    obtain ⟨T9, X9, e9, st9⟩ := own_pure (w := (.int (0 : Int32))) rfl rfl (own_gV X8 hx hZ hown (hw _ (List.mem_of_getElem? (i := 8) rfl)) (hw _ (List.mem_of_getElem? (i := 9) rfl)) (notFace_of_selects (args := #[]) (mvT hZ (hw _ (List.mem_of_getElem? (i := 11) rfl)))) (hw _ (List.mem_of_getElem? (i := 11) rfl)) (hw _ (List.mem_of_getElem? (i := 10) rfl)) (hw _ (List.mem_of_getElem? (i := 6) rfl)) (hw _ (List.mem_of_getElem? (i := 12) rfl)) (by decide) e8 E_EStatus_PRICED (own_needsAttention_7 l Z a0 hw h0 a_EStatus_MATCH a_EStatus_NO_RATE a_EStatus_PRICED a_EStatus_DIFFERS a_EStatus_REJECTED a_EStatus_FULL S_EStatus_MATCH S_EStatus_NO_RATE S_EStatus_PRICED S_EStatus_DIFFERS S_EStatus_REJECTED S_EStatus_FULL E_EStatus_MATCH E_EStatus_NO_RATE E_EStatus_PRICED E_EStatus_DIFFERS E_EStatus_REJECTED E_EStatus_FULL F_EStatus_NO_RATE_ordinal F_EStatus_MATCH_ordinal F_EStatus_PRICED_ordinal F_EStatus_DIFFERS_ordinal F_EStatus_REJECTED_ordinal F_EStatus_FULL_ordinal) (by decide) (by decide) (by decide) (by decide) (Q := fun v h L => v = some (.int (0 : Int32)) ∧ L = [] ∧ h = h0) (W := 0) (g := (mkF m 14 #[.val (.int i), .val (.int (2 : Int32)), .val (.ref a_EStatus_PRICED)] [(.ref a_EStatus_PRICED)])) (argsL := []) (rest := []) rfl (by rw [hml]; rfl) (lenOf own_pd_1 rfl) rfl (by show 2 * 0 + _ ≤ _; exact Nat.le_of_eq rfl) (hb hby at_14))
    refine own_st (T' := T9) (g' := (mkF m 17 #[.val (.int i), .val (.int (2 : Int32)), .val (.ref a_EStatus_PRICED)] [(.int (0 : Int32))])) st9 ?_
    refine own_st (T' := T9) (g' := (mkF m 18 #[.val (.int i), .val (.int (2 : Int32)), .val (.ref a_EStatus_PRICED)] [(.int (2 : Int32)), (.int (0 : Int32))])) (fun _ k => XS.iloadN X9.here hx rfl (hb hby at_17) rfl k) ?_
    obtain ⟨T10, X10, e10, st10⟩ := own_pure (w := (.int (0 : Int32))) rfl rfl (own_gS X9 hx hZ hown (hw _ (List.mem_of_getElem? (i := 14) rfl)) (hw _ (List.mem_of_getElem? (i := 15) rfl)) (hw _ (List.mem_of_getElem? (i := 3) rfl)) (hw _ (List.mem_of_getElem? (i := 16) rfl)) (by decide) e9 (own_expected_8 l Z a0 hw h0 a_EStatus_MATCH a_EStatus_NO_RATE a_EStatus_PRICED a_EStatus_DIFFERS a_EStatus_REJECTED a_EStatus_FULL S_EStatus_MATCH S_EStatus_NO_RATE S_EStatus_PRICED S_EStatus_DIFFERS S_EStatus_REJECTED S_EStatus_FULL E_EStatus_MATCH E_EStatus_NO_RATE E_EStatus_PRICED E_EStatus_DIFFERS E_EStatus_REJECTED E_EStatus_FULL F_EStatus_NO_RATE_ordinal F_EStatus_MATCH_ordinal F_EStatus_PRICED_ordinal F_EStatus_DIFFERS_ordinal F_EStatus_REJECTED_ordinal F_EStatus_FULL_ordinal) (by decide) (by decide) (by decide) (by decide) (Q := fun v h L => v = some (.int (0 : Int32)) ∧ L = [] ∧ h = h0) (W := 1) (g := (mkF m 18 #[.val (.int i), .val (.int (2 : Int32)), .val (.ref a_EStatus_PRICED)] [(.int (2 : Int32)), (.int (0 : Int32))])) (argsL := [(.int (2 : Int32))]) (rest := [(.int (0 : Int32))]) rfl (by rw [hml]; rfl) (lenOf own_pd_2 rfl) rfl (by show 2 * 0 + _ ≤ _; exact Nat.le_of_eq rfl) (hb hby at_18))
    refine own_st (T' := T10) (g' := (mkF m 21 #[.val (.int i), .val (.int (2 : Int32)), .val (.ref a_EStatus_PRICED)] [(.int (0 : Int32)), (.int (0 : Int32))])) st10 ?_
    refine own_st (T' := T10) (g' := (mkF m 24 #[.val (.int i), .val (.int (2 : Int32)), .val (.ref a_EStatus_PRICED)] [])) (fun _ k => XS.icmpNo X10.here hx rfl (hb hby at_21) rfl (by decide) k) ?_
    refine own_st (T' := T10) (g' := (mkF m 25 #[.val (.int i), .val (.int (2 : Int32)), .val (.ref a_EStatus_PRICED)] [(.int (1 : Int32))])) (fun _ k => XS.iconst X10.here hx rfl (hb hby at_24) k) ?_
    refine own_st (T' := T10) (g' := (mkF m 29 #[.val (.int i), .val (.int (2 : Int32)), .val (.ref a_EStatus_PRICED)] [(.int (1 : Int32))])) (fun _ k => XS.goto X10.here hx rfl (pc0 := 25) (pc' := 29) rfl (hb hby at_25) (by decide) (by decide) k) ?_
    exact own_ret X10 hx hlk hret rfl (Or.inl ⟨rfl, Or.inr (Or.inl rfl), _, rfl⟩) (hb hby at_29) (by decide) (by decide) ⟨rfl, rfl, e10⟩
  ·
    rw [hE7_1]
    refine own_st (T' := T0) (g' := (mkF m 8 #[.val (.int i), .val (.int (3 : Int32)), .unset] [])) (fun _ k => XS.istoreN X0.here hx rfl (hb hby at_7) rfl (l' := #[.val (.int i), .val (.int (3 : Int32)), .unset]) rfl k) ?_
    refine own_st (T' := T0) (g' := (mkF m 9 #[.val (.int i), .val (.int (3 : Int32)), .unset] [(.int (3 : Int32))])) (fun _ k => XS.iloadN X0.here hx rfl (hb hby at_8) rfl k) ?_
    obtain ⟨T11, X11, e11, st11⟩ := own_pure (w := (.ref a_EStatus_NO_RATE)) rfl rfl (own_gS X0 hx hZ hown (hw _ (List.mem_of_getElem? (i := 1) rfl)) (hw _ (List.mem_of_getElem? (i := 2) rfl)) (hw _ (List.mem_of_getElem? (i := 3) rfl)) (hw _ (List.mem_of_getElem? (i := 4) rfl)) (by decide) e0 (own_pick_9 l Z a0 hw h0 a_EStatus_MATCH a_EStatus_NO_RATE a_EStatus_PRICED a_EStatus_DIFFERS a_EStatus_REJECTED a_EStatus_FULL S_EStatus_MATCH S_EStatus_NO_RATE S_EStatus_PRICED S_EStatus_DIFFERS S_EStatus_REJECTED S_EStatus_FULL E_EStatus_MATCH E_EStatus_NO_RATE E_EStatus_PRICED E_EStatus_DIFFERS E_EStatus_REJECTED E_EStatus_FULL F_EStatus_NO_RATE_ordinal F_EStatus_MATCH_ordinal F_EStatus_PRICED_ordinal F_EStatus_DIFFERS_ordinal F_EStatus_REJECTED_ordinal F_EStatus_FULL_ordinal) (by decide) (by decide) (by decide) (by decide) (Q := fun v h L => v = some (.ref a_EStatus_NO_RATE) ∧ L = [] ∧ h = h0) (W := 0) (g := (mkF m 9 #[.val (.int i), .val (.int (3 : Int32)), .unset] [(.int (3 : Int32))])) (argsL := [(.int (3 : Int32))]) (rest := []) rfl (by rw [hml]; rfl) (lenOf own_pd_0 rfl) rfl (by show 2 * 0 + _ ≤ _; exact Nat.le_of_eq rfl) (hb hby at_9))
    refine own_st (T' := T11) (g' := (mkF m 12 #[.val (.int i), .val (.int (3 : Int32)), .unset] [(.ref a_EStatus_NO_RATE)])) st11 ?_
    refine own_st (T' := T11) (g' := (mkF m 13 #[.val (.int i), .val (.int (3 : Int32)), .val (.ref a_EStatus_NO_RATE)] [])) (fun _ k => XS.astoreN X11.here hx rfl (hb hby at_12) rfl rfl (l' := #[.val (.int i), .val (.int (3 : Int32)), .val (.ref a_EStatus_NO_RATE)]) rfl k) ?_
    refine own_st (T' := T11) (g' := (mkF m 14 #[.val (.int i), .val (.int (3 : Int32)), .val (.ref a_EStatus_NO_RATE)] [(.ref a_EStatus_NO_RATE)])) (fun _ k => XS.aloadN X11.here hx rfl (hb hby at_13) rfl rfl k) ?_
    obtain ⟨T12, X12, e12, st12⟩ := own_pure (w := (.int (1 : Int32))) rfl rfl (own_gV X11 hx hZ hown (hw _ (List.mem_of_getElem? (i := 8) rfl)) (hw _ (List.mem_of_getElem? (i := 9) rfl)) (notFace_of_selects (args := #[]) (mvT hZ (hw _ (List.mem_of_getElem? (i := 11) rfl)))) (hw _ (List.mem_of_getElem? (i := 11) rfl)) (hw _ (List.mem_of_getElem? (i := 10) rfl)) (hw _ (List.mem_of_getElem? (i := 6) rfl)) (hw _ (List.mem_of_getElem? (i := 12) rfl)) (by decide) e11 E_EStatus_NO_RATE (own_needsAttention_10 l Z a0 hw h0 a_EStatus_MATCH a_EStatus_NO_RATE a_EStatus_PRICED a_EStatus_DIFFERS a_EStatus_REJECTED a_EStatus_FULL S_EStatus_MATCH S_EStatus_NO_RATE S_EStatus_PRICED S_EStatus_DIFFERS S_EStatus_REJECTED S_EStatus_FULL E_EStatus_MATCH E_EStatus_NO_RATE E_EStatus_PRICED E_EStatus_DIFFERS E_EStatus_REJECTED E_EStatus_FULL F_EStatus_NO_RATE_ordinal F_EStatus_MATCH_ordinal F_EStatus_PRICED_ordinal F_EStatus_DIFFERS_ordinal F_EStatus_REJECTED_ordinal F_EStatus_FULL_ordinal) (by decide) (by decide) (by decide) (by decide) (Q := fun v h L => v = some (.int (1 : Int32)) ∧ L = [] ∧ h = h0) (W := 0) (g := (mkF m 14 #[.val (.int i), .val (.int (3 : Int32)), .val (.ref a_EStatus_NO_RATE)] [(.ref a_EStatus_NO_RATE)])) (argsL := []) (rest := []) rfl (by rw [hml]; rfl) (lenOf own_pd_1 rfl) rfl (by show 2 * 0 + _ ≤ _; exact Nat.le_of_eq rfl) (hb hby at_14))
    refine own_st (T' := T12) (g' := (mkF m 17 #[.val (.int i), .val (.int (3 : Int32)), .val (.ref a_EStatus_NO_RATE)] [(.int (1 : Int32))])) st12 ?_
    refine own_st (T' := T12) (g' := (mkF m 18 #[.val (.int i), .val (.int (3 : Int32)), .val (.ref a_EStatus_NO_RATE)] [(.int (3 : Int32)), (.int (1 : Int32))])) (fun _ k => XS.iloadN X12.here hx rfl (hb hby at_17) rfl k) ?_
    obtain ⟨T13, X13, e13, st13⟩ := own_pure (w := (.int (1 : Int32))) rfl rfl (own_gS X12 hx hZ hown (hw _ (List.mem_of_getElem? (i := 14) rfl)) (hw _ (List.mem_of_getElem? (i := 15) rfl)) (hw _ (List.mem_of_getElem? (i := 3) rfl)) (hw _ (List.mem_of_getElem? (i := 16) rfl)) (by decide) e12 (own_expected_11 l Z a0 hw h0 a_EStatus_MATCH a_EStatus_NO_RATE a_EStatus_PRICED a_EStatus_DIFFERS a_EStatus_REJECTED a_EStatus_FULL S_EStatus_MATCH S_EStatus_NO_RATE S_EStatus_PRICED S_EStatus_DIFFERS S_EStatus_REJECTED S_EStatus_FULL E_EStatus_MATCH E_EStatus_NO_RATE E_EStatus_PRICED E_EStatus_DIFFERS E_EStatus_REJECTED E_EStatus_FULL F_EStatus_NO_RATE_ordinal F_EStatus_MATCH_ordinal F_EStatus_PRICED_ordinal F_EStatus_DIFFERS_ordinal F_EStatus_REJECTED_ordinal F_EStatus_FULL_ordinal) (by decide) (by decide) (by decide) (by decide) (Q := fun v h L => v = some (.int (1 : Int32)) ∧ L = [] ∧ h = h0) (W := 1) (g := (mkF m 18 #[.val (.int i), .val (.int (3 : Int32)), .val (.ref a_EStatus_NO_RATE)] [(.int (3 : Int32)), (.int (1 : Int32))])) (argsL := [(.int (3 : Int32))]) (rest := [(.int (1 : Int32))]) rfl (by rw [hml]; rfl) (lenOf own_pd_2 rfl) rfl (by show 2 * 0 + _ ≤ _; exact Nat.le_of_eq rfl) (hb hby at_18))
    refine own_st (T' := T13) (g' := (mkF m 21 #[.val (.int i), .val (.int (3 : Int32)), .val (.ref a_EStatus_NO_RATE)] [(.int (1 : Int32)), (.int (1 : Int32))])) st13 ?_
    refine own_st (T' := T13) (g' := (mkF m 24 #[.val (.int i), .val (.int (3 : Int32)), .val (.ref a_EStatus_NO_RATE)] [])) (fun _ k => XS.icmpNo X13.here hx rfl (hb hby at_21) rfl (by decide) k) ?_
    refine own_st (T' := T13) (g' := (mkF m 25 #[.val (.int i), .val (.int (3 : Int32)), .val (.ref a_EStatus_NO_RATE)] [(.int (1 : Int32))])) (fun _ k => XS.iconst X13.here hx rfl (hb hby at_24) k) ?_
    refine own_st (T' := T13) (g' := (mkF m 29 #[.val (.int i), .val (.int (3 : Int32)), .val (.ref a_EStatus_NO_RATE)] [(.int (1 : Int32))])) (fun _ k => XS.goto X13.here hx rfl (pc0 := 25) (pc' := 29) rfl (hb hby at_25) (by decide) (by decide) k) ?_
    exact own_ret X13 hx hlk hret rfl (Or.inl ⟨rfl, Or.inr (Or.inl rfl), _, rfl⟩) (hb hby at_29) (by decide) (by decide) ⟨rfl, rfl, e13⟩
  ·
    rw [hE7_1]
    refine own_st (T' := T0) (g' := (mkF m 8 #[.val (.int i), .val (.int (4 : Int32)), .unset] [])) (fun _ k => XS.istoreN X0.here hx rfl (hb hby at_7) rfl (l' := #[.val (.int i), .val (.int (4 : Int32)), .unset]) rfl k) ?_
    refine own_st (T' := T0) (g' := (mkF m 9 #[.val (.int i), .val (.int (4 : Int32)), .unset] [(.int (4 : Int32))])) (fun _ k => XS.iloadN X0.here hx rfl (hb hby at_8) rfl k) ?_
    obtain ⟨T14, X14, e14, st14⟩ := own_pure (w := (.ref a_EStatus_FULL)) rfl rfl (own_gS X0 hx hZ hown (hw _ (List.mem_of_getElem? (i := 1) rfl)) (hw _ (List.mem_of_getElem? (i := 2) rfl)) (hw _ (List.mem_of_getElem? (i := 3) rfl)) (hw _ (List.mem_of_getElem? (i := 4) rfl)) (by decide) e0 (own_pick_12 l Z a0 hw h0 a_EStatus_MATCH a_EStatus_NO_RATE a_EStatus_PRICED a_EStatus_DIFFERS a_EStatus_REJECTED a_EStatus_FULL S_EStatus_MATCH S_EStatus_NO_RATE S_EStatus_PRICED S_EStatus_DIFFERS S_EStatus_REJECTED S_EStatus_FULL E_EStatus_MATCH E_EStatus_NO_RATE E_EStatus_PRICED E_EStatus_DIFFERS E_EStatus_REJECTED E_EStatus_FULL F_EStatus_NO_RATE_ordinal F_EStatus_MATCH_ordinal F_EStatus_PRICED_ordinal F_EStatus_DIFFERS_ordinal F_EStatus_REJECTED_ordinal F_EStatus_FULL_ordinal) (by decide) (by decide) (by decide) (by decide) (Q := fun v h L => v = some (.ref a_EStatus_FULL) ∧ L = [] ∧ h = h0) (W := 0) (g := (mkF m 9 #[.val (.int i), .val (.int (4 : Int32)), .unset] [(.int (4 : Int32))])) (argsL := [(.int (4 : Int32))]) (rest := []) rfl (by rw [hml]; rfl) (lenOf own_pd_0 rfl) rfl (by show 2 * 0 + _ ≤ _; exact Nat.le_of_eq rfl) (hb hby at_9))
    refine own_st (T' := T14) (g' := (mkF m 12 #[.val (.int i), .val (.int (4 : Int32)), .unset] [(.ref a_EStatus_FULL)])) st14 ?_
    refine own_st (T' := T14) (g' := (mkF m 13 #[.val (.int i), .val (.int (4 : Int32)), .val (.ref a_EStatus_FULL)] [])) (fun _ k => XS.astoreN X14.here hx rfl (hb hby at_12) rfl rfl (l' := #[.val (.int i), .val (.int (4 : Int32)), .val (.ref a_EStatus_FULL)]) rfl k) ?_
    refine own_st (T' := T14) (g' := (mkF m 14 #[.val (.int i), .val (.int (4 : Int32)), .val (.ref a_EStatus_FULL)] [(.ref a_EStatus_FULL)])) (fun _ k => XS.aloadN X14.here hx rfl (hb hby at_13) rfl rfl k) ?_
    obtain ⟨T15, X15, e15, st15⟩ := own_pure (w := (.int (1 : Int32))) rfl rfl (own_gV X14 hx hZ hown (hw _ (List.mem_of_getElem? (i := 8) rfl)) (hw _ (List.mem_of_getElem? (i := 9) rfl)) (notFace_of_selects (args := #[]) (mvT hZ (hw _ (List.mem_of_getElem? (i := 11) rfl)))) (hw _ (List.mem_of_getElem? (i := 11) rfl)) (hw _ (List.mem_of_getElem? (i := 10) rfl)) (hw _ (List.mem_of_getElem? (i := 6) rfl)) (hw _ (List.mem_of_getElem? (i := 12) rfl)) (by decide) e14 E_EStatus_FULL (own_needsAttention_13 l Z a0 hw h0 a_EStatus_MATCH a_EStatus_NO_RATE a_EStatus_PRICED a_EStatus_DIFFERS a_EStatus_REJECTED a_EStatus_FULL S_EStatus_MATCH S_EStatus_NO_RATE S_EStatus_PRICED S_EStatus_DIFFERS S_EStatus_REJECTED S_EStatus_FULL E_EStatus_MATCH E_EStatus_NO_RATE E_EStatus_PRICED E_EStatus_DIFFERS E_EStatus_REJECTED E_EStatus_FULL F_EStatus_NO_RATE_ordinal F_EStatus_MATCH_ordinal F_EStatus_PRICED_ordinal F_EStatus_DIFFERS_ordinal F_EStatus_REJECTED_ordinal F_EStatus_FULL_ordinal) (by decide) (by decide) (by decide) (by decide) (Q := fun v h L => v = some (.int (1 : Int32)) ∧ L = [] ∧ h = h0) (W := 0) (g := (mkF m 14 #[.val (.int i), .val (.int (4 : Int32)), .val (.ref a_EStatus_FULL)] [(.ref a_EStatus_FULL)])) (argsL := []) (rest := []) rfl (by rw [hml]; rfl) (lenOf own_pd_1 rfl) rfl (by show 2 * 0 + _ ≤ _; exact Nat.le_of_eq rfl) (hb hby at_14))
    refine own_st (T' := T15) (g' := (mkF m 17 #[.val (.int i), .val (.int (4 : Int32)), .val (.ref a_EStatus_FULL)] [(.int (1 : Int32))])) st15 ?_
    refine own_st (T' := T15) (g' := (mkF m 18 #[.val (.int i), .val (.int (4 : Int32)), .val (.ref a_EStatus_FULL)] [(.int (4 : Int32)), (.int (1 : Int32))])) (fun _ k => XS.iloadN X15.here hx rfl (hb hby at_17) rfl k) ?_
    obtain ⟨T16, X16, e16, st16⟩ := own_pure (w := (.int (1 : Int32))) rfl rfl (own_gS X15 hx hZ hown (hw _ (List.mem_of_getElem? (i := 14) rfl)) (hw _ (List.mem_of_getElem? (i := 15) rfl)) (hw _ (List.mem_of_getElem? (i := 3) rfl)) (hw _ (List.mem_of_getElem? (i := 16) rfl)) (by decide) e15 (own_expected_14 l Z a0 hw h0 a_EStatus_MATCH a_EStatus_NO_RATE a_EStatus_PRICED a_EStatus_DIFFERS a_EStatus_REJECTED a_EStatus_FULL S_EStatus_MATCH S_EStatus_NO_RATE S_EStatus_PRICED S_EStatus_DIFFERS S_EStatus_REJECTED S_EStatus_FULL E_EStatus_MATCH E_EStatus_NO_RATE E_EStatus_PRICED E_EStatus_DIFFERS E_EStatus_REJECTED E_EStatus_FULL F_EStatus_NO_RATE_ordinal F_EStatus_MATCH_ordinal F_EStatus_PRICED_ordinal F_EStatus_DIFFERS_ordinal F_EStatus_REJECTED_ordinal F_EStatus_FULL_ordinal) (by decide) (by decide) (by decide) (by decide) (Q := fun v h L => v = some (.int (1 : Int32)) ∧ L = [] ∧ h = h0) (W := 1) (g := (mkF m 18 #[.val (.int i), .val (.int (4 : Int32)), .val (.ref a_EStatus_FULL)] [(.int (4 : Int32)), (.int (1 : Int32))])) (argsL := [(.int (4 : Int32))]) (rest := [(.int (1 : Int32))]) rfl (by rw [hml]; rfl) (lenOf own_pd_2 rfl) rfl (by show 2 * 0 + _ ≤ _; exact Nat.le_of_eq rfl) (hb hby at_18))
    refine own_st (T' := T16) (g' := (mkF m 21 #[.val (.int i), .val (.int (4 : Int32)), .val (.ref a_EStatus_FULL)] [(.int (1 : Int32)), (.int (1 : Int32))])) st16 ?_
    refine own_st (T' := T16) (g' := (mkF m 24 #[.val (.int i), .val (.int (4 : Int32)), .val (.ref a_EStatus_FULL)] [])) (fun _ k => XS.icmpNo X16.here hx rfl (hb hby at_21) rfl (by decide) k) ?_
    refine own_st (T' := T16) (g' := (mkF m 25 #[.val (.int i), .val (.int (4 : Int32)), .val (.ref a_EStatus_FULL)] [(.int (1 : Int32))])) (fun _ k => XS.iconst X16.here hx rfl (hb hby at_24) k) ?_
    refine own_st (T' := T16) (g' := (mkF m 29 #[.val (.int i), .val (.int (4 : Int32)), .val (.ref a_EStatus_FULL)] [(.int (1 : Int32))])) (fun _ k => XS.goto X16.here hx rfl (pc0 := 25) (pc' := 29) rfl (hb hby at_25) (by decide) (by decide) k) ?_
    exact own_ret X16 hx hlk hret rfl (Or.inl ⟨rfl, Or.inr (Or.inl rfl), _, rfl⟩) (hb hby at_29) (by decide) (by decide) ⟨rfl, rfl, e16⟩
  ·
    rw [hE7_1]
    refine own_st (T' := T0) (g' := (mkF m 8 #[.val (.int i), .val (.int (5 : Int32)), .unset] [])) (fun _ k => XS.istoreN X0.here hx rfl (hb hby at_7) rfl (l' := #[.val (.int i), .val (.int (5 : Int32)), .unset]) rfl k) ?_
    refine own_st (T' := T0) (g' := (mkF m 9 #[.val (.int i), .val (.int (5 : Int32)), .unset] [(.int (5 : Int32))])) (fun _ k => XS.iloadN X0.here hx rfl (hb hby at_8) rfl k) ?_
    obtain ⟨T17, X17, e17, st17⟩ := own_pure (w := (.ref a_EStatus_REJECTED)) rfl rfl (own_gS X0 hx hZ hown (hw _ (List.mem_of_getElem? (i := 1) rfl)) (hw _ (List.mem_of_getElem? (i := 2) rfl)) (hw _ (List.mem_of_getElem? (i := 3) rfl)) (hw _ (List.mem_of_getElem? (i := 4) rfl)) (by decide) e0 (own_pick_15 l Z a0 hw h0 a_EStatus_MATCH a_EStatus_NO_RATE a_EStatus_PRICED a_EStatus_DIFFERS a_EStatus_REJECTED a_EStatus_FULL S_EStatus_MATCH S_EStatus_NO_RATE S_EStatus_PRICED S_EStatus_DIFFERS S_EStatus_REJECTED S_EStatus_FULL E_EStatus_MATCH E_EStatus_NO_RATE E_EStatus_PRICED E_EStatus_DIFFERS E_EStatus_REJECTED E_EStatus_FULL F_EStatus_NO_RATE_ordinal F_EStatus_MATCH_ordinal F_EStatus_PRICED_ordinal F_EStatus_DIFFERS_ordinal F_EStatus_REJECTED_ordinal F_EStatus_FULL_ordinal) (by decide) (by decide) (by decide) (by decide) (Q := fun v h L => v = some (.ref a_EStatus_REJECTED) ∧ L = [] ∧ h = h0) (W := 0) (g := (mkF m 9 #[.val (.int i), .val (.int (5 : Int32)), .unset] [(.int (5 : Int32))])) (argsL := [(.int (5 : Int32))]) (rest := []) rfl (by rw [hml]; rfl) (lenOf own_pd_0 rfl) rfl (by show 2 * 0 + _ ≤ _; exact Nat.le_of_eq rfl) (hb hby at_9))
    refine own_st (T' := T17) (g' := (mkF m 12 #[.val (.int i), .val (.int (5 : Int32)), .unset] [(.ref a_EStatus_REJECTED)])) st17 ?_
    refine own_st (T' := T17) (g' := (mkF m 13 #[.val (.int i), .val (.int (5 : Int32)), .val (.ref a_EStatus_REJECTED)] [])) (fun _ k => XS.astoreN X17.here hx rfl (hb hby at_12) rfl rfl (l' := #[.val (.int i), .val (.int (5 : Int32)), .val (.ref a_EStatus_REJECTED)]) rfl k) ?_
    refine own_st (T' := T17) (g' := (mkF m 14 #[.val (.int i), .val (.int (5 : Int32)), .val (.ref a_EStatus_REJECTED)] [(.ref a_EStatus_REJECTED)])) (fun _ k => XS.aloadN X17.here hx rfl (hb hby at_13) rfl rfl k) ?_
    obtain ⟨T18, X18, e18, st18⟩ := own_pure (w := (.int (1 : Int32))) rfl rfl (own_gV X17 hx hZ hown (hw _ (List.mem_of_getElem? (i := 8) rfl)) (hw _ (List.mem_of_getElem? (i := 9) rfl)) (notFace_of_selects (args := #[]) (mvT hZ (hw _ (List.mem_of_getElem? (i := 11) rfl)))) (hw _ (List.mem_of_getElem? (i := 11) rfl)) (hw _ (List.mem_of_getElem? (i := 10) rfl)) (hw _ (List.mem_of_getElem? (i := 6) rfl)) (hw _ (List.mem_of_getElem? (i := 12) rfl)) (by decide) e17 E_EStatus_REJECTED (own_needsAttention_16 l Z a0 hw h0 a_EStatus_MATCH a_EStatus_NO_RATE a_EStatus_PRICED a_EStatus_DIFFERS a_EStatus_REJECTED a_EStatus_FULL S_EStatus_MATCH S_EStatus_NO_RATE S_EStatus_PRICED S_EStatus_DIFFERS S_EStatus_REJECTED S_EStatus_FULL E_EStatus_MATCH E_EStatus_NO_RATE E_EStatus_PRICED E_EStatus_DIFFERS E_EStatus_REJECTED E_EStatus_FULL F_EStatus_NO_RATE_ordinal F_EStatus_MATCH_ordinal F_EStatus_PRICED_ordinal F_EStatus_DIFFERS_ordinal F_EStatus_REJECTED_ordinal F_EStatus_FULL_ordinal) (by decide) (by decide) (by decide) (by decide) (Q := fun v h L => v = some (.int (1 : Int32)) ∧ L = [] ∧ h = h0) (W := 0) (g := (mkF m 14 #[.val (.int i), .val (.int (5 : Int32)), .val (.ref a_EStatus_REJECTED)] [(.ref a_EStatus_REJECTED)])) (argsL := []) (rest := []) rfl (by rw [hml]; rfl) (lenOf own_pd_1 rfl) rfl (by show 2 * 0 + _ ≤ _; exact Nat.le_of_eq rfl) (hb hby at_14))
    refine own_st (T' := T18) (g' := (mkF m 17 #[.val (.int i), .val (.int (5 : Int32)), .val (.ref a_EStatus_REJECTED)] [(.int (1 : Int32))])) st18 ?_
    refine own_st (T' := T18) (g' := (mkF m 18 #[.val (.int i), .val (.int (5 : Int32)), .val (.ref a_EStatus_REJECTED)] [(.int (5 : Int32)), (.int (1 : Int32))])) (fun _ k => XS.iloadN X18.here hx rfl (hb hby at_17) rfl k) ?_
    obtain ⟨T19, X19, e19, st19⟩ := own_pure (w := (.int (1 : Int32))) rfl rfl (own_gS X18 hx hZ hown (hw _ (List.mem_of_getElem? (i := 14) rfl)) (hw _ (List.mem_of_getElem? (i := 15) rfl)) (hw _ (List.mem_of_getElem? (i := 3) rfl)) (hw _ (List.mem_of_getElem? (i := 16) rfl)) (by decide) e18 (own_expected_17 l Z a0 hw h0 a_EStatus_MATCH a_EStatus_NO_RATE a_EStatus_PRICED a_EStatus_DIFFERS a_EStatus_REJECTED a_EStatus_FULL S_EStatus_MATCH S_EStatus_NO_RATE S_EStatus_PRICED S_EStatus_DIFFERS S_EStatus_REJECTED S_EStatus_FULL E_EStatus_MATCH E_EStatus_NO_RATE E_EStatus_PRICED E_EStatus_DIFFERS E_EStatus_REJECTED E_EStatus_FULL F_EStatus_NO_RATE_ordinal F_EStatus_MATCH_ordinal F_EStatus_PRICED_ordinal F_EStatus_DIFFERS_ordinal F_EStatus_REJECTED_ordinal F_EStatus_FULL_ordinal) (by decide) (by decide) (by decide) (by decide) (Q := fun v h L => v = some (.int (1 : Int32)) ∧ L = [] ∧ h = h0) (W := 1) (g := (mkF m 18 #[.val (.int i), .val (.int (5 : Int32)), .val (.ref a_EStatus_REJECTED)] [(.int (5 : Int32)), (.int (1 : Int32))])) (argsL := [(.int (5 : Int32))]) (rest := [(.int (1 : Int32))]) rfl (by rw [hml]; rfl) (lenOf own_pd_2 rfl) rfl (by show 2 * 0 + _ ≤ _; exact Nat.le_of_eq rfl) (hb hby at_18))
    refine own_st (T' := T19) (g' := (mkF m 21 #[.val (.int i), .val (.int (5 : Int32)), .val (.ref a_EStatus_REJECTED)] [(.int (1 : Int32)), (.int (1 : Int32))])) st19 ?_
    refine own_st (T' := T19) (g' := (mkF m 24 #[.val (.int i), .val (.int (5 : Int32)), .val (.ref a_EStatus_REJECTED)] [])) (fun _ k => XS.icmpNo X19.here hx rfl (hb hby at_21) rfl (by decide) k) ?_
    refine own_st (T' := T19) (g' := (mkF m 25 #[.val (.int i), .val (.int (5 : Int32)), .val (.ref a_EStatus_REJECTED)] [(.int (1 : Int32))])) (fun _ k => XS.iconst X19.here hx rfl (hb hby at_24) k) ?_
    refine own_st (T' := T19) (g' := (mkF m 29 #[.val (.int i), .val (.int (5 : Int32)), .val (.ref a_EStatus_REJECTED)] [(.int (1 : Int32))])) (fun _ k => XS.goto X19.here hx rfl (pc0 := 25) (pc' := 29) rfl (hb hby at_25) (by decide) (by decide) k) ?_
    exact own_ret X19 hx hlk hret rfl (Or.inl ⟨rfl, Or.inr (Or.inl rfl), _, rfl⟩) (hb hby at_29) (by decide) (by decide) ⟨rfl, rfl, e19⟩
/-! ### from the case's words to the owed theorems -/
theorem own_comes (H : ∀ (l : Launch) (s : State) (args : Array Value), Fit s → (∀ d ∈ tables_1, d.before args s = true) → given_1.value args s none s [] = some true → narrow_1.value args s none s [] = some true → own_Met l s s.heap tables_1 room_1 x code maxLocals ret args (fun v h L => v = some (.int 1) ∧ Fr s.heap.size L))
    {Post : Tables → Env → Array Value → State → Outcome → State → Prop} (hpost : ∀ tb e args s v u, (limb_1_1.after args s (.returned v) u = true ∧ limb_1_2.after args s (.returned v) u = true) → FrameEnd s (.returned v) u (Jvm.fieldLocs frame_1_writes args s ++ Jvm.arrayLocs frame_1_arrays args s ++ Jvm.staticLocs frame_1_statics s) 0 0 → Post tb e args s (.returned v) u) :
    ArmFor flags0 classFile x code maxLocals ret World_1 tables_1 room_1 Calls_1 rest_1 Pre_1 Post := by
  intro l hfl _ _ p e ha hc hk s m args below hf hA hF happ hP
  obtain ⟨hcalls, hrest, hpre⟩ := hP
  obtain ⟨-, -, -, hnamed, -, -, -, hat⟩ := (Spec.applies_iff hf).mp happ
  obtain ⟨hg, hn⟩ := and_e (Cond.before_iff.mp (show (Jvm.Cond.and given_1 narrow_1).before args s = true from hpre))
  have hw := fun d (hd : d ∈ tables_1) => atoms_spec (ws := Jvm.Cond.code x code maxLocals ret :: tables_1) hat d (List.mem_cons_of_mem _ hd)
  have hfit : Fit s := fun {y c} hc i hi => by
    obtain ⟨ha, rfl⟩ := Array.getElem?_eq_some_iff.mp hc
    have q := List.all_eq_true.mp ((Array.all_eq_true_iff_forall_mem.mp hF) _ (Array.getElem_mem ha)) i (List.mem_range.mpr hi)
    simpa [Array.getElem?_eq_getElem hi] using q
  obtain ⟨n, o, h1, h2, h3, _, L, rfl, ⟨rfl, N⟩, hq⟩ := H l s args hfit hw hg hn p e ha hc hk s m args below hf ((Spec.applies_iff_loose hf).mp happ).1 ⟨rfl, State.Warmed39.refl s, rfl⟩ trivial
  exact ⟨n, _, h1, h2, h3, hpost _ _ _ _ _ _ ⟨Cond.after_iff.mpr rfl, Cond.after_iff.mpr (eq_i res_at (Term.int_eval (1)) rfl)⟩ ⟨hq.1, hq.2.1, (hq.2.2.sift fun y hy => Or.inr (N y hy)).mono (by decide) (by decide)⟩⟩
set_option maxRecDepth 65536 in
theorem own_law (l : Launch) (s : State) (args : Array Value) (hfit : Fit s) (hw : ∀ d ∈ tables_1, d.before args s = true) (hg : given_1.value args s none s [] = some true) (hn : narrow_1.value args s none s [] = some true) :
    own_Met l s s.heap tables_1 room_1 x code maxLocals ret args (fun v h L => v = some (.int 1) ∧ Fr s.heap.size L) := by
  obtain ⟨i, rfl⟩ := own_args1 (k := 0) hg
  obtain ⟨n0a, n0b⟩ := and_e hn
  obtain ⟨n1a, n1b⟩ := and_e n0b
  obtain ⟨n2a, n2b⟩ := and_e n1b
  obtain ⟨n3a, n3b⟩ := and_e n2b
  obtain ⟨n4a, n4b⟩ := and_e n3b
  obtain ⟨n5a, n5b⟩ := and_e n4b
  obtain ⟨n6a, n6b⟩ := and_e n5b
  obtain ⟨n7a, n7b⟩ := and_e n6b
  obtain ⟨n8a, n8b⟩ := and_e n7b
  obtain ⟨n9a, n9b⟩ := and_e n8b
  obtain ⟨n10a, n10b⟩ := and_e n9b
  obtain ⟨a_EStatus_MATCH, V_EStatus_MATCH, E_EStatus_MATCH, S_EStatus_MATCH⟩ := own_sx n0a (hw _ (List.mem_of_getElem? (i := 6) rfl)) (hw _ (List.mem_of_getElem? (i := 7) rfl))
  obtain ⟨a_EStatus_NO_RATE, V_EStatus_NO_RATE, E_EStatus_NO_RATE, S_EStatus_NO_RATE⟩ := own_sx n1a (hw _ (List.mem_of_getElem? (i := 6) rfl)) (hw _ (List.mem_of_getElem? (i := 18) rfl))
  have F_EStatus_NO_RATE_ordinal := own_fi V_EStatus_NO_RATE n2a
  have F_EStatus_MATCH_ordinal := own_fi V_EStatus_MATCH n3a
  obtain ⟨a_EStatus_PRICED, V_EStatus_PRICED, E_EStatus_PRICED, S_EStatus_PRICED⟩ := own_sx n4a (hw _ (List.mem_of_getElem? (i := 6) rfl)) (hw _ (List.mem_of_getElem? (i := 20) rfl))
  have F_EStatus_PRICED_ordinal := own_fi V_EStatus_PRICED n5a
  obtain ⟨a_EStatus_DIFFERS, V_EStatus_DIFFERS, E_EStatus_DIFFERS, S_EStatus_DIFFERS⟩ := own_sx n6a (hw _ (List.mem_of_getElem? (i := 6) rfl)) (hw _ (List.mem_of_getElem? (i := 23) rfl))
  have F_EStatus_DIFFERS_ordinal := own_fi V_EStatus_DIFFERS n7a
  obtain ⟨a_EStatus_REJECTED, V_EStatus_REJECTED, E_EStatus_REJECTED, S_EStatus_REJECTED⟩ := own_sx n8a (hw _ (List.mem_of_getElem? (i := 6) rfl)) (hw _ (List.mem_of_getElem? (i := 25) rfl))
  have F_EStatus_REJECTED_ordinal := own_fi V_EStatus_REJECTED n9a
  obtain ⟨a_EStatus_FULL, V_EStatus_FULL, E_EStatus_FULL, S_EStatus_FULL⟩ := own_sx n10a (hw _ (List.mem_of_getElem? (i := 6) rfl)) (hw _ (List.mem_of_getElem? (i := 27) rfl))
  have F_EStatus_FULL_ordinal := own_fi V_EStatus_FULL n10b
  exact own_weaken (own_lawP l s _ hw s.heap a_EStatus_MATCH a_EStatus_NO_RATE a_EStatus_PRICED a_EStatus_DIFFERS a_EStatus_REJECTED a_EStatus_FULL S_EStatus_MATCH S_EStatus_NO_RATE S_EStatus_PRICED S_EStatus_DIFFERS S_EStatus_REJECTED S_EStatus_FULL E_EStatus_MATCH E_EStatus_NO_RATE E_EStatus_PRICED E_EStatus_DIFFERS E_EStatus_REJECTED E_EStatus_FULL F_EStatus_NO_RATE_ordinal F_EStatus_MATCH_ordinal F_EStatus_PRICED_ordinal F_EStatus_DIFFERS_ordinal F_EStatus_REJECTED_ordinal F_EStatus_FULL_ordinal i)
theorem main_1_1 : Claimed_1_1 := own_comes own_law fun _ _ _ _ _ _ h hF => ⟨h.1, hF⟩
theorem main_1_2 : Claimed_1_2 := own_comes own_law fun _ _ _ _ _ _ h hF => ⟨h.2, hF⟩
end Jvm.Pilot.@@N@@
namespace Jvm.Pilot.@@N@@
open Jvm Jvm.ClassFile Sem Op Lib Jvm.Free Jvm.Stand Jvm.Pilot.@@N@@.Jvm.D
/-! MADE BY PROGRAM (witnessworld.py) out of the Statement's table words and the real class files: 12 classes; the members and pool entries that the words name. The judged class is class 1, her method 3. -/
namespace start1
open Jvm.ClassFile
def u (s : String) : CpInfo := .utf8 (stringToUtf16 s)
/-- a pool by its gaps: so many unusable entries, then the entry; so many at the end -/
def gap : Nat → List CpInfo → List CpInfo
  | 0, r => r
  | n + 1, r => .unusable :: gap n r
def poolList (es : List (Nat × CpInfo)) (last : Nat) : List CpInfo := es.foldr (fun e r => gap e.1 (e.2 :: r)) (gap last [])
def pool (es : List (Nat × CpInfo)) (last : Nat) : Array CpInfo := ⟨poolList es last⟩
def fileOf (pool : Array CpInfo) (this : Nat) (attrs : Array Attribute := #[]) (ms : Array MethodInfo := #[]) (fl : Nat := 33) (sup : Nat := 0) (ifs : Array Nat := #[]) (fds : Array FieldInfo := #[]) : ClassFile where
  minorVersion := 0
  majorVersion := 65
  constantPool := pool
  accessFlags := fl
  thisClass := this
  superClass := sup
  interfaces := ifs
  fields := fds
  methods := ms
  attributes := attrs
def plain (name : String) (sup : Option ClassId) : Class where
  name := name
  kind := .ordinary
  loader := none
  accessFlags := 33
  super := sup
  interfaces := #[]
  cf := none
  fields := #[]
  methods := #[]
  instanceTypes := #[]
  staticTypes := #[]
  resolved := #[]
  callSites := []
  init := .initialized
  statics := none
  mirror := none

def pool0 : Array CpInfo := pool [(5, u "<init>"), (0, u "()V"), (1, .class_ 10), (1, u "java/lang/Object")] 113

def k0m0 : Method := { name := "<init>", desc := "()V", sig := { parameters := [], returnType := none }, accessFlags := 1, code := none }
/-- java/lang/Object -/
def k0 : Class := { plain "java/lang/Object" none with
  accessFlags := 33
  interfaces := #[]
  cf := some (fileOf pool0 8 #[] #[{ accessFlags := 1, nameIndex := 5, descriptorIndex := 6, attributes := #[] }] 33 0 #[] #[])
  fields := #[]
  methods := #[k0m0]
  instanceTypes := #[]
  staticTypes := #[]
  resolved := Array.replicate 124 none
  statics := none }

def pool1 : Array CpInfo := pool [(2, .class_ 4), (1, u "java/lang/Object"), (0, u "<init>"), (0, u "()V"), (0, .fieldref 8 9), (0, .class_ 10), (0, .nameAndType 11 12), (0, u "com/example/megablock/megablock/service/ReconciledRecord$EStatus"), (0, u "MATCH"), (0, u "Lcom/example/megablock/megablock/service/ReconciledRecord$EStatus;"), (0, .fieldref 8 14), (0, .nameAndType 15 12), (0, u "DIFFERS"), (0, .fieldref 8 17), (0, .nameAndType 18 12), (0, u "PRICED"), (0, .fieldref 8 20), (0, .nameAndType 21 12), (0, u "NO_RATE"), (0, .fieldref 8 23), (0, .nameAndType 24 12), (0, u "FULL"), (0, .fieldref 8 26), (0, .nameAndType 27 12), (0, u "REJECTED"), (0, .integer 2147483647), (0, .methodref 30 31), (0, .class_ 32), (0, .nameAndType 33 34), (0, u "com/example/megablock/megablock/service/EStatusNeedsAttentionPinLaw"), (0, u "pick"), (0, u "(I)Lcom/example/megablock/megablock/service/ReconciledRecord$EStatus;"), (0, .methodref 8 36), (0, .nameAndType 37 38), (0, u "needsAttention"), (0, u "()Z"), (0, .methodref 30 40), (0, .nameAndType 41 42), (0, u "expected"), (0, u "(I)Z"), (3, u "law")] 6

def k1m0 : Method := { name := "<init>", desc := "()V", sig := { parameters := [], returnType := none }, accessFlags := 2, code := none }
def k1c1 : Code := { maxStack := 2, maxLocals := 1, code := method_2_code, exceptionTable := #[], attributes := #[] }
def k1m1 : Method := { name := "pick", desc := "(I)Lcom/example/megablock/megablock/service/ReconciledRecord$EStatus;", sig := { parameters := [.int], returnType := some (.object "com/example/megablock/megablock/service/ReconciledRecord$EStatus") }, accessFlags := 10, code := some k1c1 }
def k1c2 : Code := { maxStack := 2, maxLocals := 1, code := method_3_code, exceptionTable := #[], attributes := #[] }
def k1m2 : Method := { name := "expected", desc := "(I)Z", sig := { parameters := [.int], returnType := some .boolean }, accessFlags := 10, code := some k1c2 }
def k1c3 : Code := { maxStack := 2, maxLocals := 3, code := code, exceptionTable := #[], attributes := #[] }
def k1m3 : Method := { name := "law", desc := "(I)Z", sig := { parameters := [.int], returnType := some .boolean }, accessFlags := 9, code := some k1c3 }
/-- com/example/megablock/megablock/service/EStatusNeedsAttentionPinLaw -/
def k1 : Class := { plain "com/example/megablock/megablock/service/EStatusNeedsAttentionPinLaw" (some 0) with
  accessFlags := 49
  interfaces := #[]
  cf := some (fileOf pool1 30 #[] #[{ accessFlags := 2, nameIndex := 5, descriptorIndex := 6, attributes := #[] }, { accessFlags := 10, nameIndex := 33, descriptorIndex := 34, attributes := #[] }, { accessFlags := 10, nameIndex := 41, descriptorIndex := 42, attributes := #[] }, { accessFlags := 9, nameIndex := 46, descriptorIndex := 42, attributes := #[] }] 49 2 #[] #[])
  fields := #[]
  methods := #[k1m0, k1m1, k1m2, k1m3]
  instanceTypes := #[]
  staticTypes := #[]
  resolved := Array.replicate 53 none
  statics := none }

def pool2 : Array CpInfo := pool [(1, .class_ 2), (0, u "java/lang/constant/Constable"), (0, .class_ 4), (0, u "java/lang/Object")] 6

/-- java/lang/constant/Constable -/
def k2 : Class := { plain "java/lang/constant/Constable" (some 0) with
  accessFlags := 1537
  interfaces := #[]
  cf := some (fileOf pool2 1 #[] #[] 1537 3 #[] #[])
  fields := #[]
  methods := #[]
  instanceTypes := #[]
  staticTypes := #[]
  resolved := Array.replicate 11 none
  statics := none }

def pool3 : Array CpInfo := pool [(1, .class_ 2), (0, u "java/lang/Comparable"), (0, .class_ 4), (0, u "java/lang/Object")] 7

/-- java/lang/Comparable -/
def k3 : Class := { plain "java/lang/Comparable" (some 0) with
  accessFlags := 1537
  interfaces := #[]
  cf := some (fileOf pool3 1 #[] #[] 1537 3 #[] #[])
  fields := #[]
  methods := #[]
  instanceTypes := #[]
  staticTypes := #[]
  resolved := Array.replicate 12 none
  statics := none }

def pool4 : Array CpInfo := pool [(1, .class_ 2), (0, u "java/io/Serializable"), (0, .class_ 4), (0, u "java/lang/Object")] 2

/-- java/io/Serializable -/
def k4 : Class := { plain "java/io/Serializable" (some 0) with
  accessFlags := 1537
  interfaces := #[]
  cf := some (fileOf pool4 1 #[] #[] 1537 3 #[] #[])
  fields := #[]
  methods := #[]
  instanceTypes := #[]
  staticTypes := #[]
  resolved := Array.replicate 7 none
  statics := none }

def pool5 : Array CpInfo := pool [(2, .class_ 4), (1, u "java/lang/Enum"), (0, u "name"), (0, u "Ljava/lang/String;"), (2, u "ordinal"), (0, u "I"), (1, .class_ 14), (1, u "java/lang/Object"), (4, u "hash"), (86, .class_ 108), (1, u "java/lang/Enum$EnumDesc"), (2, .class_ 112), (0, u "java/lang/constant/Constable"), (0, .class_ 114), (0, u "java/lang/Comparable"), (0, .class_ 116), (0, u "java/io/Serializable")] 87

/-- java/lang/Enum -/
def k5 : Class := { plain "java/lang/Enum" (some 0) with
  accessFlags := 1057
  interfaces := #[2, 3, 4]
  cf := some (fileOf pool5 2 #[.nestMembers #[106]] #[] 1057 12 #[111, 113, 115] #[{ accessFlags := 18, nameIndex := 5, descriptorIndex := 6, attributes := #[] }, { accessFlags := 18, nameIndex := 9, descriptorIndex := 10, attributes := #[] }, { accessFlags := 2, nameIndex := 19, descriptorIndex := 10, attributes := #[] }])
  fields := #[{ name := "name", type := (.object "java/lang/String"), accessFlags := 18, slot := 0, constantValue := 0 }, { name := "ordinal", type := .int, accessFlags := 18, slot := 1, constantValue := 0 }, { name := "hash", type := .int, accessFlags := 2, slot := 2, constantValue := 0 }]
  methods := #[]
  instanceTypes := #[(.object "java/lang/String"), .int, .int]
  staticTypes := #[]
  resolved := Array.replicate 204 none
  statics := none }

def pool6 : Array CpInfo := pool [(1, .class_ 2), (0, u "com/example/megablock/megablock/service/ReconciledRecord$EStatus"), (0, .fieldref 1 4), (0, .nameAndType 5 6), (0, u "MATCH"), (0, u "Lcom/example/megablock/megablock/service/ReconciledRecord$EStatus;"), (2, u "DIFFERS"), (0, .fieldref 1 11), (0, .nameAndType 12 6), (0, u "PRICED"), (2, u "NO_RATE"), (2, u "FULL"), (2, u "REJECTED"), (2, u "$VALUES"), (0, u "[Lcom/example/megablock/megablock/service/ReconciledRecord$EStatus;"), (6, .class_ 34), (1, u "java/lang/Enum"), (8, u "m_sName"), (0, u "Ljava/lang/String;"), (34, u "needsAttention"), (0, u "()Z"), (7, .class_ 89), (0, u "com/example/megablock/megablock/service/ReconciledRecord")] 2

def k6c0 : Code := { maxStack := 2, maxLocals := 1, code := prog_74_method_5_code, exceptionTable := #[], attributes := #[] }
def k6m0 : Method := { name := "needsAttention", desc := "()Z", sig := { parameters := [], returnType := some .boolean }, accessFlags := 1, code := some k6c0 }
/-- com/example/megablock/megablock/service/ReconciledRecord$EStatus -/
def k6 : Class := { plain "com/example/megablock/megablock/service/ReconciledRecord$EStatus" (some 5) with
  accessFlags := 16433
  interfaces := #[]
  cf := some (fileOf pool6 1 #[.nestHost 88] #[{ accessFlags := 1, nameIndex := 79, descriptorIndex := 80, attributes := #[] }] 16433 32 #[] #[{ accessFlags := 16409, nameIndex := 5, descriptorIndex := 6, attributes := #[] }, { accessFlags := 16409, nameIndex := 9, descriptorIndex := 6, attributes := #[] }, { accessFlags := 16409, nameIndex := 12, descriptorIndex := 6, attributes := #[] }, { accessFlags := 16409, nameIndex := 15, descriptorIndex := 6, attributes := #[] }, { accessFlags := 16409, nameIndex := 18, descriptorIndex := 6, attributes := #[] }, { accessFlags := 16409, nameIndex := 21, descriptorIndex := 6, attributes := #[] }, { accessFlags := 18, nameIndex := 43, descriptorIndex := 44, attributes := #[] }, { accessFlags := 4122, nameIndex := 24, descriptorIndex := 25, attributes := #[] }])
  fields := #[{ name := "MATCH", type := (.object "com/example/megablock/megablock/service/ReconciledRecord$EStatus"), accessFlags := 16409, slot := 0, constantValue := 0 }, { name := "DIFFERS", type := (.object "com/example/megablock/megablock/service/ReconciledRecord$EStatus"), accessFlags := 16409, slot := 1, constantValue := 0 }, { name := "PRICED", type := (.object "com/example/megablock/megablock/service/ReconciledRecord$EStatus"), accessFlags := 16409, slot := 2, constantValue := 0 }, { name := "NO_RATE", type := (.object "com/example/megablock/megablock/service/ReconciledRecord$EStatus"), accessFlags := 16409, slot := 3, constantValue := 0 }, { name := "FULL", type := (.object "com/example/megablock/megablock/service/ReconciledRecord$EStatus"), accessFlags := 16409, slot := 4, constantValue := 0 }, { name := "REJECTED", type := (.object "com/example/megablock/megablock/service/ReconciledRecord$EStatus"), accessFlags := 16409, slot := 5, constantValue := 0 }, { name := "m_sName", type := (.object "java/lang/String"), accessFlags := 18, slot := 3, constantValue := 0 }, { name := "$VALUES", type := (.array (.object "com/example/megablock/megablock/service/ReconciledRecord$EStatus")), accessFlags := 4122, slot := 6, constantValue := 0 }]
  methods := #[k6m0]
  instanceTypes := #[(.object "java/lang/String"), .int, .int, (.object "java/lang/String")]
  staticTypes := #[(.object "com/example/megablock/megablock/service/ReconciledRecord$EStatus"), (.object "com/example/megablock/megablock/service/ReconciledRecord$EStatus"), (.object "com/example/megablock/megablock/service/ReconciledRecord$EStatus"), (.object "com/example/megablock/megablock/service/ReconciledRecord$EStatus"), (.object "com/example/megablock/megablock/service/ReconciledRecord$EStatus"), (.object "com/example/megablock/megablock/service/ReconciledRecord$EStatus"), (.array (.object "com/example/megablock/megablock/service/ReconciledRecord$EStatus"))]
  resolved := Array.replicate 92 none
  statics := some 0 }

def pool7 : Array CpInfo := pool [(1, u "java/lang/Cloneable"), (0, .class_ 1), (0, u "java/lang/Object"), (0, .class_ 3)] 3

/-- java/lang/Cloneable -/
def k7 : Class := { plain "java/lang/Cloneable" (some 0) with
  accessFlags := 1537
  interfaces := #[]
  cf := some (fileOf pool7 2 #[] #[] 1537 4 #[] #[])
  fields := #[]
  methods := #[]
  instanceTypes := #[]
  staticTypes := #[]
  resolved := Array.replicate 8 none
  statics := none }

/-- the primitive byte -/
def k8 : Class := { plain "byte" none with kind := .primitive 'B', accessFlags := 0x411 }
/-- [B -/
def k9 : Class := { plain "[B" (some 0) with kind := .array 8 .byte, interfaces := #[7, 4], accessFlags := 1041 }

/-- the primitive int -/
def k10 : Class := { plain "int" none with kind := .primitive 'I', accessFlags := 0x411 }
/-- [I -/
def k11 : Class := { plain "[I" (some 0) with kind := .array 10 .int, interfaces := #[7, 4], accessFlags := 1041 }

def heap : Heap := #[{ cls := 6, slots := #[.ref 1, .ref 4, .ref 3, .ref 2, .ref 6, .ref 5, .null], vm := .statics 6 },
  { cls := 6, slots := #[.null, .int 0, .int 0, .null], vm := .none },
  { cls := 6, slots := #[.null, .int 3, .int 0, .null], vm := .none },
  { cls := 6, slots := #[.null, .int 2, .int 0, .null], vm := .none },
  { cls := 6, slots := #[.null, .int 1, .int 0, .null], vm := .none },
  { cls := 6, slots := #[.null, .int 5, .int 0, .null], vm := .none },
  { cls := 6, slots := #[.null, .int 4, .int 0, .null], vm := .none }]
def classes : Array Class := #[k0, k1, k2, k3, k4, k5, k6, k7, k8, k9, k10, k11]
def interned : List (Array UInt16 × Addr) := []
def slotsUsed : Nat := 31
def theMethod : MethodId := ⟨1, 3⟩
def args0 : Array Value := #[.int 5]
def aboutOver (below : List Frame) : State where
  vm := { classes := classes, interned := interned.toArray }
  heap := heap
  slotsUsed := slotsUsed
  threads := #[{ frames := .invoking theMethod args0 :: below }]
def below0 : List Frame := [.native { method := ⟨0, 0⟩, args := #[] }]
def about1 : State := aboutOver below0
def p0 : Program := .bare "" "" ""
def e0 : Env := launch0.env 0 0 0
theorem w_frames : about1.frames = Frame.invoking theMethod args0 :: below0 := rfl
set_option maxRecDepth 65536 in
theorem w_args : argsFit about1.vm theMethod args0 = true := by decide +kernel
set_option maxRecDepth 65536 in
theorem w_heap : heapFits about1 = true := by decide +kernel
set_option maxRecDepth 65536 in
theorem w_runnable : about1.curStatus? = some .runnable := by decide +kernel
set_option maxRecDepth 65536 in
theorem w_alone : about1.alone = true := by decide +kernel
set_option maxRecDepth 65536 in
theorem w_named : about1.methodNamed? x = some theMethod := by decide +kernel
set_option maxRecDepth 65536 in
theorem w_hears : about1.hears theMethod below0 = true := by decide +kernel
set_option maxRecDepth 65536 in
theorem w_ripe : about1.ripe theMethod args0 below0 = true := by decide +kernel
theorem w_running : about1.status = .running := rfl
set_option maxRecDepth 65536 in
theorem w_room : about1.hasRoom e0.platform room_1 = true :=
  launch0.hasRoom_least _ room_1 (by decide +kernel) (by decide +kernel) (by decide +kernel) (by decide +kernel) (by decide +kernel) (by decide +kernel)
theorem allAtoms_all (ts : List Jvm.Cond) (a : Array Jvm.Value) (st : Jvm.State) : (allAtoms ts).before a st = ts.all (fun c => c.before a st) := by
  induction ts with
  | nil => rfl
  | cons c t ih =>
    show (Jvm.Cond.and c (allAtoms t)).before a st = _
    rw [Jvm.Cond.before_and, ih, List.all_cons]
def words1 : List Jvm.Cond := Jvm.Cond.code x code maxLocals ret :: tables_1
/-- a 'code' word, met by the world's own term for the bytes: nothing is compared byte by byte -/
theorem code_word {y : MethodName} {bytes : ByteArray} {mx : Nat} {rt : Option FieldType} {a : Array Value} {s : State} {m : MethodId} {meth : Method} {c : Code} (h1 : s.methodNamed? y = some m) (h2 : s.vm.method? m = some meth) (h3 : meth.code = some c) (h4 : c.code = bytes)
    (h5 : (c.maxLocals == mx && c.exceptionTable.isEmpty && decide (c.maxStack ≤ mostOperands) && decide (meth.sig.returnType = rt) && !meth.locks && decide (parseMethodDescriptor y.desc = some meth.sig)) = true) : (Jvm.Cond.code y bytes mx rt).before a s = true := by
  simp only [Bool.and_eq_true, beq_iff_eq, Bool.not_eq_true', decide_eq_true_eq] at h5
  obtain ⟨⟨⟨⟨⟨g1, g2⟩, g3⟩, g4⟩, g5⟩, g6⟩ := h5
  simp [Cond.before, Cond.holds, Cond.value, h1, h2, h3, h4, g1, g2, g3, g4, g5, g6]
def isCode : Jvm.Cond → Bool
  | .code _ _ _ _ => true
  | _ => false
theorem all_split {L : List Jvm.Cond} {P : Jvm.Cond → Bool} (h1 : L.all (fun c => isCode c || P c) = true) (h2 : ∀ c ∈ L.filter isCode, P c = true) : L.all P = true := by
  refine List.all_eq_true.mpr fun c hc => ?_
  have h := List.all_eq_true.mp h1 c hc
  rcases Bool.eq_false_or_eq_true (isCode c) with hi | hi
  · exact h2 c (List.mem_filter.mpr ⟨hc, hi⟩)
  · simpa [hi] using h
set_option maxRecDepth 65536 in
theorem w_c0 : (Jvm.Cond.code x code maxLocals ret).before args0 about1 = true := code_word (m := ⟨1, 3⟩) (meth := k1m3) (c := k1c3) (by decide +kernel) rfl rfl rfl (by decide +kernel)
set_option maxRecDepth 65536 in
theorem w_c1 : (Jvm.Cond.code ({ cls := "com/example/megablock/megablock/service/EStatusNeedsAttentionPinLaw", name := "pick", desc := "(I)Lcom/example/megablock/megablock/service/ReconciledRecord$EStatus;" } : Jvm.MethodName) method_2_code (1 : Nat) (Option.some (Jvm.ClassFile.FieldType.object "com/example/megablock/megablock/service/ReconciledRecord$EStatus"))).before args0 about1 = true := code_word (m := ⟨1, 1⟩) (meth := k1m1) (c := k1c1) (by decide +kernel) rfl rfl rfl (by decide +kernel)
set_option maxRecDepth 65536 in
theorem w_c2 : (Jvm.Cond.code ({ cls := "com/example/megablock/megablock/service/ReconciledRecord$EStatus", name := "needsAttention", desc := "()Z" } : Jvm.MethodName) prog_74_method_5_code (1 : Nat) (Option.some Jvm.ClassFile.FieldType.boolean)).before args0 about1 = true := code_word (m := ⟨6, 0⟩) (meth := k6m0) (c := k6c0) (by decide +kernel) rfl rfl rfl (by decide +kernel)
set_option maxRecDepth 65536 in
theorem w_c3 : (Jvm.Cond.code ({ cls := "com/example/megablock/megablock/service/EStatusNeedsAttentionPinLaw", name := "expected", desc := "(I)Z" } : Jvm.MethodName) method_3_code (1 : Nat) (Option.some Jvm.ClassFile.FieldType.boolean)).before args0 about1 = true := code_word (m := ⟨1, 2⟩) (meth := k1m2) (c := k1c2) (by decide +kernel) rfl rfl rfl (by decide +kernel)
def codes1 : List Jvm.Cond := [Jvm.Cond.code x code maxLocals ret, Jvm.Cond.code ({ cls := "com/example/megablock/megablock/service/EStatusNeedsAttentionPinLaw", name := "pick", desc := "(I)Lcom/example/megablock/megablock/service/ReconciledRecord$EStatus;" } : Jvm.MethodName) method_2_code (1 : Nat) (Option.some (Jvm.ClassFile.FieldType.object "com/example/megablock/megablock/service/ReconciledRecord$EStatus")), Jvm.Cond.code ({ cls := "com/example/megablock/megablock/service/ReconciledRecord$EStatus", name := "needsAttention", desc := "()Z" } : Jvm.MethodName) prog_74_method_5_code (1 : Nat) (Option.some Jvm.ClassFile.FieldType.boolean), Jvm.Cond.code ({ cls := "com/example/megablock/megablock/service/EStatusNeedsAttentionPinLaw", name := "expected", desc := "(I)Z" } : Jvm.MethodName) method_3_code (1 : Nat) (Option.some Jvm.ClassFile.FieldType.boolean)]
set_option maxRecDepth 65536 in
theorem codes_eq : words1.filter isCode = codes1 := rfl
theorem w_codes : ∀ c ∈ words1.filter isCode, c.before args0 about1 = true := by
  rw [codes_eq]
  intro c hc
  simp only [codes1, List.mem_cons, List.not_mem_nil, or_false] at hc
  rcases hc with rfl | rfl | rfl | rfl
  · exact w_c0
  · exact w_c1
  · exact w_c2
  · exact w_c3
set_option maxRecDepth 65536 in
theorem w_t1 : (words1.take 24).all (fun c => isCode c || c.before args0 about1) = true := by decide +kernel
set_option maxRecDepth 65536 in
theorem w_t2 : (words1.drop 24).all (fun c => isCode c || c.before args0 about1) = true := by decide +kernel
theorem w_tables : (allAtoms (Jvm.Cond.code x code maxLocals ret :: tables_1)).before args0 about1 = true := by
  rw [allAtoms_all]
  show words1.all (fun c => c.before args0 about1) = true
  refine all_split ?_ w_codes
  rw [← List.take_append_drop 24 words1, List.all_append, w_t1, w_t2]
  rfl
set_option maxRecDepth 65536 in
theorem w_case : (Jvm.Cond.and given_1 narrow_1).before args0 about1 = true := by decide +kernel
theorem w_applies : (headSpec (Jvm.Cond.code x code maxLocals ret :: tables_1) room_1).applies x e0.platform about1 = true :=
  (Spec.applies_iff w_frames).mpr ⟨w_running, w_runnable, w_alone, w_named, w_hears, w_ripe, w_room, w_tables⟩
theorem atStart : AtStart classFile x code maxLocals ret World_1 tables_1 room_1 Calls_1 rest_1 Pre_1 launch0 p0 e0 about1 theMethod args0 below0 :=
  ⟨lists_1, trivial, launch0.admits_env _ _ _, launch0.least_env, fairChoices_fair.cas, fairChoices_fair.clock, w_frames, w_args, w_heap, w_applies, trivial, trivial, w_case⟩
end start1
theorem witness_1 : WitnessClaimed_1 := ⟨start1.p0, start1.e0, start1.about1, start1.theMethod, start1.args0, start1.below0, start1.atStart⟩
end Jvm.Pilot.@@N@@
