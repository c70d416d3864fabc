import JvmDerived
import JvmDerived.Pilot.@@N@@Statement
import JvmDerived.Pilot.@@N@@Code
set_option linter.unusedVariables false
set_option linter.unusedSimpArgs false
namespace Jvm.Pilot.@@N@@
open Jvm Jvm.ClassFile Sem Op Lib Jvm.Free Jvm.Stand Jvm.LawKit Jvm.RoadKit Bundle Jvm.Pilot.@@N@@.Jvm.D
/-! ### how a walk is told: 'own_Go' says that from here the body comes to its end, and what holds there -/
section OwnKit
variable {p : Program} {l : Launch} {e : Env} {R : Room} {s : State} {m : MethodId} {args : Array Value} {below : List Frame} {meth : Method} {c : Code} {T T' : State} {locs : List Loc} {cells slots kc ks : Nat} {F : Option Value → State → Prop} {Q : Option Value → Heap → List Loc → Prop} {g g' : JFrame} {Z : State} {a0 : Array Value} {h0 : Heap}
def own_Go (p : Program) (e : Env) (below : List Frame) (F : Option Value → State → Prop) (T : State) (g : JFrame) : Prop :=
  ∃ U v, Steps p.tables e below (T.setTop g) U ∧ U.status = .running ∧ Ended U below (.returned v) ∧ F v U
def own_N (s : State) (kc ks : Nat) (Q : Option Value → Heap → List Loc → Prop) : Option Value → State → Prop := fun v U => ∃ L, Q v U.heap L ∧ FrameEnd s (.returned v) U L kc ks
def own_W (s : State) (kc ks : Nat) (Q : Option Value → Heap → List Loc → Prop) : Option Value → State → Prop := fun v U => ∃ L, Q v U.heap L ∧ ReturnedEndW s (.returned v) U L kc ks
theorem own_st (h : ∀ t, Steps p.tables e below (T'.setTop g') t → Steps p.tables e below (T.setTop g) t) (G : own_Go p e below F T' g') : own_Go p e below F T g := by
  obtain ⟨U, v, h1, r⟩ := G
  exact ⟨U, v, h _ h1, r⟩
theorem own_ret (X : Stand p l e R s m args below meth c T locs cells slots) (hx : p.tables.exec = Jvm.exec) (hlk : meth.locks = false) {pc : Nat} {Ls : Array Slot} {w : Value} {t : FieldType} {i : Instr} {rest : List Value} (hret : meth.sig.returnType = some t) (hn : narrow t w = w)
    (hi : (i = .ireturn ∧ (t = .int ∨ t = .boolean ∨ t = .byte ∨ t = .char ∨ t = .short) ∧ ∃ z, w = .int z) ∨ (i = .lreturn ∧ t = .long ∧ ∃ z, w = .long z) ∨ (i = .dreturn ∧ t = .double ∧ ∃ z, w = .double z) ∨ (i = .freturn ∧ t = .float ∧ ∃ z, w = .float z) ∨ (i = .areturn ∧ t.isReference = true ∧ w.isRef = true))
    (hd : decode c.code pc = .ok (i, 1)) (hc : cells ≤ kc) (hs : slots ≤ ks) (q : Q (some w) T.heap locs) : own_Go p e below (own_N s kc ks Q) T (mkF m pc Ls (w :: rest)) := by
  obtain ⟨fs, hr, hrun, hended, hW, hsame⟩ := X.leave (v := some w) (fun h => by rw [hret] at h; cases h) hlk
  exact ⟨_, _, retOut X hx hret hn hi hd hr, hrun, hended, _, q, ⟨_, rfl⟩, hW, hsame.mono hc hs⟩
theorem own_retV (X : Stand p l e R s m args below meth c T locs cells slots) (hx : p.tables.exec = Jvm.exec) (hlk : meth.locks = false) {pc : Nat} {Ls : Array Slot} (hret : meth.sig.returnType = none) (hd : decode c.code pc = .ok (.return_, 1)) (hc : cells ≤ kc) (hs : slots ≤ ks) (q : Q none T.heap locs) : own_Go p e below (own_N s kc ks Q) T (mkF m pc Ls []) := by
  obtain ⟨fs, hr, hrun, hended, hW, hsame⟩ := X.leave (v := none) (fun _ => rfl) hlk
  exact ⟨_, _, X.returnOut hx hret hd hr, hrun, hended, _, q, ⟨_, rfl⟩, hW, hsame.mono hc hs⟩
theorem own_cat1 {w : Value} (h : w.isRef = true) : w.category = 1 := by
  rcases ref_cases h with rfl | ⟨a, rfl⟩ <;> rfl
/-- what a body does, begun at the heap h0 with these arguments -/
def own_Met (l : Launch) (Z : State) (h0 : Heap) (ws : List Jvm.Cond) (rm : Room) (y : MethodName) (bytes : ByteArray) (maxL : Nat) (ret : Option FieldType) (as' : Array Value) (Q : Option Value → Heap → List Loc → Prop) : Prop :=
  MetFree l y (head1 (Jvm.Cond.code y bytes maxL ret :: ws) rm) (fun a U => a = as' ∧ Z.Warmed39 U.vm ∧ U.heap = h0) (fun _ _ _ _ _ => True) (fun _ U o U' => ∃ v L, o = .returned v ∧ Q v U'.heap L ∧ FrameEnd U o U' L rm.cells rm.slots)
/-- it returns w and writes nothing -/
def own_Pure (l : Launch) (Z : State) (h0 : Heap) (ws : List Jvm.Cond) (rm : Room) (y : MethodName) (bytes : ByteArray) (maxL : Nat) (ret : Option FieldType) (as' : Array Value) (w : Option Value) : Prop :=
  own_Met l Z h0 ws rm y bytes maxL ret as' (fun v h L => v = w ∧ L = [] ∧ h = h0)
theorem own_body {ws : List Jvm.Cond} {rm : Room} {y : MethodName} {bytes : ByteArray} {maxL : Nat} {ret : Option FieldType} {as' : Array Value} (hpl : plainFor y = true)
    (H : ∀ (p : Program) (e : Env) (s : State) (m : MethodId) (below : List Frame) (meth : Method) (c : Code) (T : State), Stand p l e rm s m as' below meth c T [] 0 0 → p.tables.exec = Jvm.exec → c.code = bytes → c.maxLocals = maxL → s.vm.findClass y.cls = some m.cls → Z.Warmed39 s.vm → T.heap = h0 → meth.sig.returnType = ret → meth.locks = false → meth.name = y.name → s.methodNamed? y = some m →
      own_Go p e below (own_N s rm.cells rm.slots Q) T (entryFrame m as' maxL)) : own_Met l Z h0 ws rm y bytes maxL ret as' Q := by
  refine MetFree.of_bodySF hpl hisR ?_
  intro p e s m args below meth c s₁ Bd hml0 hP hK
  obtain ⟨rfl, hZ, hh⟩ := hP
  obtain ⟨U, v, h1, h2, h3, L, h4, h5⟩ := H p e s m below meth c s₁ (Stand.of_body Bd) Bd.exec Bd.bytes hml0 (findClass_of_methodNamed Bd.named) hZ (by rw [← hh, Bd.state]; rfl) Bd.returns Bd.notSynchronized (name_of_methodNamed Bd.named Bd.method).1 Bd.named
  exact ⟨U, _, h1, h2, h3, v, L, rfl, h4, h5⟩
theorem own_gS {rm : Room} {y : MethodName} {bytes : ByteArray} {maxL W index : Nat} {ret : Option FieldType} {own : String} {argsL rest : List Value} (X : Stand p l e R s m args below meth c T locs cells slots) (hx : p.tables.exec = Jvm.exec) (hZ : Z.Warmed39 s.vm) (hown : s.vm.findClass own = some m.cls)
    (w1 : (Jvm.Cond.methodLink own index y).before a0 Z = true) (w2 : (Jvm.Cond.static y).before a0 Z = true) (w3 : (Jvm.Cond.initialized y.cls).before a0 Z = true) (w4 : (Jvm.Cond.code y bytes maxL ret).before a0 Z = true) (hy : y.cls ≠ "java/lang/invoke/MethodHandle" ∧ y.cls ≠ "java/lang/invoke/VarHandle") (eT : T.heap = h0)
    (hM : own_Met l Z h0 [] rm y bytes maxL ret argsL.toArray Q) (hf : rm.frames + 1 ≤ R.frames) (hl : W + (maxL + 11) + rm.locals ≤ R.locals) (hc1 : cells + rm.cells ≤ R.cells) (hs1 : slots + rm.slots ≤ R.slots)
    (hg : g.method = m) (hsize : g.locals.size = c.maxLocals) (hlen : ∀ sig, parseMethodDescriptor y.desc = some sig → argsL.length = sig.parameters.length) (hstack : g.stack = argsL.reverse ++ rest) (hW : 2 * g.monitorRoom + (rest.map fun v => v.category).sum ≤ W) (hdg : decode c.code g.pc = .ok (.invokestatic index, 3)) :
    ∃ (v : Option Value) (T' : State) (L : List Loc), Stand p l e R s m args below meth c T' (locs ++ L) (cells + rm.cells) (slots + rm.slots) ∧ Q v T'.heap L ∧ ∀ target, Steps p.tables e below (T'.setTop { g with pc := g.pc + 3, stack := v.toList ++ rest }) target → Steps p.tables e below (T.setTop g) target := by
  obtain ⟨v, _, ⟨T1, L1, k1, n1⟩, -, X1, ⟨Lc, hq, l1, y1, z1⟩, st⟩ := Jvm.LawKit.callS X hx (y := y) hown (mvT hZ w1) (mvT hZ w2) (mvT hZ w3) (mvT hZ w4) hy (backOf (W := W) (Q := Q) hM hZ w4 w3 hf hl) (g := g) hg hsize (argsL := argsL) (rest := rest) hlen hstack hW hdg (fun _ _ => ⟨rfl, eT, hc1, hs1⟩)
  dsimp only [Pt.U, Pt.locs, Pt.cells, Pt.slots] at X1 l1 y1 z1 st hq
  subst l1 y1 z1
  exact ⟨v, T1, Lc, X1, hq, st⟩
theorem own_gV {rm : Room} {y z : MethodName} {bytes : ByteArray} {maxL W index : Nat} {ret : Option FieldType} {own C : String} {argsL rest : List Value} {b : Addr} (X : Stand p l e R s m args below meth c T locs cells slots) (hx : p.tables.exec = Jvm.exec) (hZ : Z.Warmed39 s.vm) (hown : s.vm.findClass own = some m.cls)
    (w1 : (Jvm.Cond.methodLink own index y).before a0 Z = true) (w2 : (Jvm.Cond.declares y).before a0 Z = true) (hnf : NotFace s y) (w5 : (Jvm.Cond.selects C y z).before a0 Z = true) (w6 : (Jvm.Cond.instanceMethod z).before a0 Z = true) (w3 : (Jvm.Cond.initialized z.cls).before a0 Z = true) (w4 : (Jvm.Cond.code z bytes maxL ret).before a0 Z = true) (hy : y.cls ≠ "java/lang/invoke/MethodHandle" ∧ y.cls ≠ "java/lang/invoke/VarHandle") (eT : T.heap = h0) (E : Exa Z h0 b C)
    (hM : own_Met l Z h0 [] rm z bytes maxL ret (.ref b :: argsL).toArray Q) (hf : rm.frames + 1 ≤ R.frames) (hl : W + (maxL + 11) + rm.locals ≤ R.locals) (hc1 : cells + rm.cells ≤ R.cells) (hs1 : slots + rm.slots ≤ R.slots)
    (hg : g.method = m) (hsize : g.locals.size = c.maxLocals) (hlen : ∀ sig, parseMethodDescriptor y.desc = some sig → argsL.length = sig.parameters.length) (hstack : g.stack = argsL.reverse ++ .ref b :: rest) (hW : 2 * g.monitorRoom + (rest.map fun v => v.category).sum ≤ W) (hdg : decode c.code g.pc = .ok (.invokevirtual index, 3)) :
    ∃ (v : Option Value) (T' : State) (L : List Loc), Stand p l e R s m args below meth c T' (locs ++ L) (cells + rm.cells) (slots + rm.slots) ∧ Q v T'.heap L ∧ ∀ target, Steps p.tables e below (T'.setTop { g with pc := g.pc + 3, stack := v.toList ++ rest }) target → Steps p.tables e below (T.setTop g) target := by
  obtain ⟨cq, kq, qa, qb, qc⟩ := isOf hZ eT E
  obtain ⟨v, _, ⟨T1, L1, k1, n1⟩, -, X1, ⟨Lc, hq, l1, y1, z1⟩, st⟩ := X.virtualBack hx (y := y) (z := z) hown (mvT hZ w1) (mvT hZ w2) hnf (mvT hZ w5) (mvT hZ w6) hy (backOf (W := W) (Q := Q) hM hZ w4 w3 hf hl) qa qc (g := g) hg hsize (Steps.refl _) (argsL := argsL) (rest := rest) hlen hstack hW hdg (fun _ _ => ⟨rfl, eT, hc1, hs1⟩)
  dsimp only [Pt.U, Pt.locs, Pt.cells, Pt.slots] at X1 l1 y1 z1 st hq
  subst l1 y1 z1
  exact ⟨v, T1, Lc, X1, hq, fun _ k => st.trans k⟩
theorem own_gVU {rm : Room} {y z : MethodName} {owner : String} {bytes : ByteArray} {maxL W index : Nat} {ret : Option FieldType} {own C : String} {argsL rest : List Value} {b : Addr} (X : Stand p l e R s m args below meth c T locs cells slots) (hx : p.tables.exec = Jvm.exec) (hZ : Z.Warmed39 s.vm) (hown : s.vm.findClass own = some m.cls)
    (w1 : (Jvm.Cond.methodLink own index y).before a0 Z = true) (wsm : (Jvm.Cond.sameMethod y.cls owner y.name y.desc).before a0 Z = true) (w2 : (Jvm.Cond.declares ⟨owner, y.name, y.desc⟩).before a0 Z = true) (ho : owner ≠ "java/lang/invoke/MethodHandle" ∧ owner ≠ "java/lang/invoke/VarHandle") (w5 : (Jvm.Cond.selects C y z).before a0 Z = true) (w6 : (Jvm.Cond.instanceMethod z).before a0 Z = true) (w3 : (Jvm.Cond.initialized z.cls).before a0 Z = true) (w4 : (Jvm.Cond.code z bytes maxL ret).before a0 Z = true) (eT : T.heap = h0) (E : Exa Z h0 b C)
    (hM : own_Met l Z h0 [] rm z bytes maxL ret (.ref b :: argsL).toArray Q) (hf : rm.frames + 1 ≤ R.frames) (hl : W + (maxL + 11) + rm.locals ≤ R.locals) (hc1 : cells + rm.cells ≤ R.cells) (hs1 : slots + rm.slots ≤ R.slots)
    (hg : g.method = m) (hsize : g.locals.size = c.maxLocals) (hlen : ∀ sig, parseMethodDescriptor y.desc = some sig → argsL.length = sig.parameters.length) (hstack : g.stack = argsL.reverse ++ .ref b :: rest) (hW : 2 * g.monitorRoom + (rest.map fun v => v.category).sum ≤ W) (hdg : decode c.code g.pc = .ok (.invokevirtual index, 3)) :
    ∃ (v : Option Value) (T' : State) (L : List Loc), Stand p l e R s m args below meth c T' (locs ++ L) (cells + rm.cells) (slots + rm.slots) ∧ Q v T'.heap L ∧ ∀ target, Steps p.tables e below (T'.setTop { g with pc := g.pc + 3, stack := v.toList ++ rest }) target → Steps p.tables e below (T.setTop g) target := by
  obtain ⟨cq, kq, qa, qb, qc⟩ := isOf hZ eT E
  obtain ⟨v, _, ⟨T1, L1, k1, n1⟩, -, X1, ⟨Lc, hq, l1, y1, z1⟩, st⟩ := X.virtualBackUp hx (x := y) (y := z) (owner := owner) hown (mvT hZ w1) (mvT hZ wsm) (mvT hZ w2) ho (mvT hZ w5) (mvT hZ w6) (backOf (W := W) (Q := Q) hM hZ w4 w3 hf hl) qa qc (g := g) hg hsize (Steps.refl _) (argsL := argsL) (rest := rest) hlen hstack hW hdg (fun _ _ => ⟨rfl, eT, hc1, hs1⟩)
  dsimp only [Pt.U, Pt.locs, Pt.cells, Pt.slots] at X1 l1 y1 z1 st hq
  subst l1 y1 z1
  exact ⟨v, T1, Lc, X1, hq, fun _ k => st.trans k⟩
/-- behind a call that writes nothing -/
theorem own_pure {w : Value} {rm : Room} {rest : List Value} (hc0 : rm.cells = 0) (hs0 : rm.slots = 0)
    (H : ∃ (v : Option Value) (T' : State) (L : List Loc), Stand p l e R s m args below meth c T' (locs ++ L) (cells + rm.cells) (slots + rm.slots) ∧ (v = some w ∧ L = [] ∧ T'.heap = h0) ∧ ∀ target, Steps p.tables e below (T'.setTop { g with pc := g.pc + 3, stack := v.toList ++ rest }) target → Steps p.tables e below (T.setTop g) target) :
    ∃ T', Stand p l e R s m args below meth c T' locs cells slots ∧ T'.heap = h0 ∧ ∀ target, Steps p.tables e below (T'.setTop { g with pc := g.pc + 3, stack := w :: rest }) target → Steps p.tables e below (T.setTop g) target := by
  obtain ⟨_, T', _, X', ⟨rfl, rfl, hh⟩, st⟩ := H
  rw [hc0, hs0, List.append_nil] at X'
  exact ⟨T', X', hh, st⟩
/-- what the case says of statics and fields, as facts of the start -/
theorem own_sx {C n d K : String} (h : (Jvm.Cond.exactly (Term.static C n d) K).value args s none s [] = some true) (wi : (Jvm.Cond.initialized C).before args s = true) (wl : (Jvm.Cond.laysStatic C n d).before args s = true) :
    ∃ a, (Term.static C n d).eval args s none [] s = some (.ref a) ∧ Exa s s.heap a K ∧ Sta s s.heap C n d (.ref a) := by
  obtain ⟨a, ev⟩ := exa_v h
  exact ⟨a, ev, Exa.start ev h, Sta.start ev (Or.inr ⟨wi, wl⟩)⟩
theorem own_fi {t : Term} {a : Addr} {C n d : String} {k : Int32} (ev : t.eval args s none [] s = some (.ref a)) (h : (Jvm.Cond.eq (Term.field t C n d) (Term.int k)).value args s none s [] = some true) : Fld s s.heap a C n d (.int k) := by
  have q := eqv_i (Term.int_eval k) h
  rw [fld_at ev] at q
  exact Fld.start q
theorem own_fn {t : Term} {a : Addr} {C n d : String} (ev : t.eval args s none [] s = some (.ref a)) (h : (Jvm.Cond.eq (Term.field t C n d) Term.null).value args s none s [] = some true) : Fld s s.heap a C n d .null := by
  have q := null_v h
  rw [fld_at ev] at q
  exact Fld.start q
theorem own_fx {t : Term} {a : Addr} {C n d K : String} (ev : t.eval args s none [] s = some (.ref a)) (h : (Jvm.Cond.exactly (Term.field t C n d) K).value args s none s [] = some true) : ∃ b, Fld s s.heap a C n d (.ref b) ∧ Exa s s.heap b K := by
  obtain ⟨b, q⟩ := exa_v h
  have E := Exa.start q h
  rw [fld_at ev] at q
  exact ⟨b, Fld.start q, E⟩
theorem own_eqr {t u : Term} {b : Addr} (eu : u.eval args s none [] s = some (.ref b)) (h : (Jvm.Cond.eq t u).value args s none s [] = some true) : t.eval args s none [] s = some (.ref b) := by
  obtain ⟨x, y, h1, h2, -⟩ := cmp_v (Or.inl h)
  rw [eu] at h2
  cases h2
  simp only [Cond.value, h1, eu] at h
  cases x <;> simp_all
theorem own_fs {t u : Term} {a b : Addr} {C n d : String} (ev : t.eval args s none [] s = some (.ref a)) (eu : u.eval args s none [] s = some (.ref b)) (h : (Jvm.Cond.eq (Term.field t C n d) u).value args s none s [] = some true) : Fld s s.heap a C n d (.ref b) := by
  have q := own_eqr eu h
  rw [fld_at ev] at q
  exact Fld.start q
theorem own_ax {C n d : String} {ty : FieldType} (h : (Jvm.Cond.arrayOf (Term.static C n d) ty).value args s none s [] = some true) (wi : (Jvm.Cond.initialized C).before args s = true) (wl : (Jvm.Cond.laysStatic C n d).before args s = true) :
    ∃ b cl, (Term.static C n d).eval args s none [] s = some (.ref b) ∧ Arr s s.heap b cl ty ∧ Sta s s.heap C n d (.ref b) := by
  obtain ⟨b, ev⟩ := arr_v h
  obtain ⟨cl, A⟩ := Arr.start ev h
  exact ⟨b, cl, ev, A, Sta.start ev (Or.inr ⟨wi, wl⟩)⟩
theorem own_len {t : Term} {b : Addr} {cl : Cell} {ty : FieldType} {k : Int32} (ev : t.eval args s none [] s = some (.ref b)) (A : Arr s s.heap b cl ty) (h : (Jvm.Cond.eq (Term.length t) (Term.int k)).value args s none s [] = some true) : cl.slots.size = k.toNatClampNeg := by
  have q := eqv_i (Term.int_eval k) h
  have ha : s.arrayAt? b = some cl := A.fin (Vm.Alike.refl _)
  by_cases hl : cl.slots.size < 2 ^ 31
  · rw [len_f ev ha hl] at q
    have e : cl.slots.size.toInt32 = k := Value.int.inj (Option.some.inj q)
    have e1 := len_toInt hl
    rw [← e]
    simp only [Int32.toNatClampNeg, e1]
    rfl
  · simp [Term.eval, ev, ha, hl] at q
theorem own_elr {t u : Term} {b x : Addr} {cl : Cell} {ty : FieldType} {k : Int32} (ev : t.eval args s none [] s = some (.ref b)) (A : Arr s s.heap b cl ty) (eu : u.eval args s none [] s = some (.ref x)) (h : (Jvm.Cond.eq (Term.elem t (Term.int k)) u).value args s none s [] = some true) : cl.slots[k.toNatClampNeg]? = some (.ref x) :=
  (elem_in (own_eqr eu h) ev (Term.int_eval k) A.1).2
theorem own_eln {t : Term} {b : Addr} {cl : Cell} {ty : FieldType} {k : Int32} (ev : t.eval args s none [] s = some (.ref b)) (A : Arr s s.heap b cl ty) (h : (Jvm.Cond.eq (Term.elem t (Term.int k)) Term.null).value args s none s [] = some true) : cl.slots[k.toNatClampNeg]? = some .null :=
  (elem_in (null_v h) ev (Term.int_eval k) A.1).2
theorem own_eli {t : Term} {b : Addr} {cl : Cell} {ty : FieldType} {k v : Int32} (ev : t.eval args s none [] s = some (.ref b)) (A : Arr s s.heap b cl ty) (h : (Jvm.Cond.eq (Term.elem t (Term.int k)) (Term.int v)).value args s none s [] = some true) : cl.slots[k.toNatClampNeg]? = some (.int v) :=
  (elem_in (eqv_i (Term.int_eval v) h) ev (Term.int_eval k) A.1).2
theorem own_args1 {k : Nat} (h : (Jvm.Cond.and (Jvm.Cond.count 1) (Jvm.Cond.isInt (Term.arg 0))).value args s none s [] = some true) : ∃ a : Int32, args = #[.int a] := by
  obtain ⟨h1, h2⟩ := and_e h
  have hs : args.size = 1 := by simpa [Cond.value] using h1
  obtain ⟨L⟩ := args
  match L, hs with
  | [w0], _ =>
    obtain ⟨i, e0⟩ := is_v h2
    obtain rfl : w0 = (.int i) := Option.some.inj e0
    exact ⟨i, rfl⟩
theorem own_args2 {k : Nat} (h : (Jvm.Cond.and (Jvm.Cond.count 2) (Jvm.Cond.and (Jvm.Cond.isInt (Term.arg 0)) (Jvm.Cond.isInt (Term.arg 1)))).value args s none s [] = some true) : ∃ a b : Int32, args = #[.int a, .int b] := by
  obtain ⟨h1, h2⟩ := and_e h
  obtain ⟨h2, h3⟩ := and_e h2
  have hs : args.size = 2 := by simpa [Cond.value] using h1
  obtain ⟨L⟩ := args
  match L, hs with
  | [w0, w1], _ =>
    obtain ⟨i, e0⟩ := is_v h2
    obtain ⟨j, e1⟩ := is_v h3
    obtain rfl : w0 = (.int i) := Option.some.inj e0
    obtain rfl : w1 = (.int j) := Option.some.inj e1
    exact ⟨i, j, rfl⟩
theorem own_weaken {ws : List Jvm.Cond} {rm : Room} {y : MethodName} {bytes : ByteArray} {maxL : Nat} {ret : Option FieldType} {as' : Array Value} {w : Value} {n0 : Nat} (M : own_Pure l Z h0 ws rm y bytes maxL ret as' (some w)) : own_Met l Z h0 ws rm y bytes maxL ret as' (fun v h L => v = some w ∧ Fr n0 L) := by
  intro p e ha hc hk s m args below hf happ hP hK
  obtain ⟨n, o, h1, h2, h3, v, L, h4, ⟨h5, h6, h7⟩, h8⟩ := M p e ha hc hk s m args below hf happ hP hK
  exact ⟨n, o, h1, h2, h3, v, L, h4, ⟨h5, by rw [h6]; exact Fr.nil n0⟩, h8⟩
end OwnKit

theorem own_pn_0 : plainName "com/example/megablock/megablock/service/Credential$ERole" = true := by first | (simp [plainName, overriddenIn]; done) | decide +kernel
theorem own_pn_1 : plainName "com/example/megablock/megablock/service/ERoleIncludesPinLaw" = true := by first | (simp [plainName, overriddenIn]; done) | decide +kernel
theorem own_pd_0 : parseMethodDescriptor "(Lcom/example/megablock/megablock/service/Credential$ERole;)Z" = some ⟨[(.object "com/example/megablock/megablock/service/Credential$ERole")], some .boolean⟩ := by decide +kernel
theorem own_d_prog_51_method_5_code_0 : decode prog_51_method_5_code 0 = .ok (.aload_n 0, 1) := by decide +kernel
theorem own_d_prog_51_method_5_code_1 : decode prog_51_method_5_code 1 = .ok (.getstatic 7, 3) := by decide +kernel
theorem own_d_prog_51_method_5_code_4 : decode prog_51_method_5_code 4 = .ok (.if_acmp .eq 8, 3) := by decide +kernel
theorem own_d_prog_51_method_5_code_7 : decode prog_51_method_5_code 7 = .ok (.aload_n 0, 1) := by decide +kernel
theorem own_d_prog_51_method_5_code_8 : decode prog_51_method_5_code 8 = .ok (.aload_n 1, 1) := by decide +kernel
theorem own_d_prog_51_method_5_code_9 : decode prog_51_method_5_code 9 = .ok (.if_acmp .ne 7, 3) := by decide +kernel
theorem own_d_prog_51_method_5_code_12 : decode prog_51_method_5_code 12 = .ok (.iconst 1, 1) := by decide +kernel
theorem own_d_prog_51_method_5_code_13 : decode prog_51_method_5_code 13 = .ok (.goto 4, 3) := by decide +kernel
theorem own_d_prog_51_method_5_code_17 : decode prog_51_method_5_code 17 = .ok (.ireturn, 1) := by decide +kernel
theorem own_d_prog_51_method_5_code_16 : decode prog_51_method_5_code 16 = .ok (.iconst 0, 1) := by decide +kernel
set_option maxRecDepth 65536 in
set_option maxHeartbeats 40000000 in
theorem own_includes_0 (l : Launch) (Z : State) (a0 : Array Value) (hw : ∀ d ∈ tables_1, d.before a0 Z = true) (h0 : Heap) (a_CONTRACTOR : Addr) (a_ADMINISTRATOR : Addr) (S_CONTRACTOR : Sta Z h0 "com/example/megablock/megablock/service/Credential$ERole" "CONTRACTOR" "Lcom/example/megablock/megablock/service/Credential$ERole;" (.ref a_CONTRACTOR)) (S_ADMINISTRATOR : Sta Z h0 "com/example/megablock/megablock/service/Credential$ERole" "ADMINISTRATOR" "Lcom/example/megablock/megablock/service/Credential$ERole;" (.ref a_ADMINISTRATOR)) (E_CONTRACTOR : Exa Z h0 a_CONTRACTOR "com/example/megablock/megablock/service/Credential$ERole") (E_ADMINISTRATOR : Exa Z h0 a_ADMINISTRATOR "com/example/megablock/megablock/service/Credential$ERole") (F_CONTRACTOR_ordinal : Fld Z h0 a_CONTRACTOR "java/lang/Enum" "ordinal" "I" (.int (0 : Int32))) (F_ADMINISTRATOR_ordinal : Fld Z h0 a_ADMINISTRATOR "java/lang/Enum" "ordinal" "I" (.int (1 : Int32))) :
    own_Pure l Z h0 [] ({ frames := 0, cells := 0, slots := 0, locals := 0 } : Room) (⟨"com/example/megablock/megablock/service/Credential$ERole", "includes", "(Lcom/example/megablock/megablock/service/Credential$ERole;)Z"⟩ : MethodName) prog_51_method_5_code 2 (some .boolean) #[(.ref a_CONTRACTOR), (.ref a_CONTRACTOR)] (some (.int (1 : Int32))) := by
  refine own_body (plainFor_of_name own_pn_0) ?_
  intro p e s m below meth c T0 X0 hx hby hml hown hZ e0 hret hlk hnm hnamed
  replace hown : s.vm.findClass "com/example/megablock/megablock/service/Credential$ERole" = some m.cls := hown
  replace hml : c.maxLocals = 2 := hml
  have ef : entryFrame m #[(.ref a_CONTRACTOR), (.ref a_CONTRACTOR)] 2 = mkF m 0 #[.val (.ref a_CONTRACTOR), .val (.ref a_CONTRACTOR)] [] := by first | (simp [entryFrame, mkF, argsToLocals, Value.category]; done) | rfl
  rw [ef]
  refine own_st (T' := T0) (g' := (mkF m 1 #[.val (.ref a_CONTRACTOR), .val (.ref a_CONTRACTOR)] [(.ref a_CONTRACTOR)])) (fun _ k => XS.aloadN X0.here hx rfl (hb hby own_d_prog_51_method_5_code_0) rfl rfl k) ?_
  obtain ⟨T1, X1, e1, st1⟩ := getS2 X0 hx hZ hown (host := "") (Or.inl (hw _ (List.mem_of_getElem? (i := 10) rfl))) Via.refl e0 S_ADMINISTRATOR (g := (mkF m 1 #[.val (.ref a_CONTRACTOR), .val (.ref a_CONTRACTOR)] [(.ref a_CONTRACTOR)])) rfl (hb hby own_d_prog_51_method_5_code_1)
  refine own_st (T' := T1) (g' := (mkF m 4 #[.val (.ref a_CONTRACTOR), .val (.ref a_CONTRACTOR)] [(.ref a_ADMINISTRATOR), (.ref a_CONTRACTOR)])) st1 ?_
  refine own_st (T' := T1) (g' := (mkF m 7 #[.val (.ref a_CONTRACTOR), .val (.ref a_CONTRACTOR)] [])) (fun _ k => Jvm.RoadKit.acmp (g := (mkF m 4 #[.val (.ref a_CONTRACTOR), .val (.ref a_CONTRACTOR)] [(.ref a_ADMINISTRATOR), (.ref a_CONTRACTOR)])) X1 hx rfl rfl rfl (pc0 := 4) (pc' := 7) (same := false) rfl (hb hby own_d_prog_51_method_5_code_4) rfl (decide_eq_false fun q => (Fld.ne F_CONTRACTOR_ordinal F_ADMINISTRATOR_ordinal (by decide)) (Value.ref.inj q)) (by decide) (by decide) k) ?_
  refine own_st (T' := T1) (g' := (mkF m 8 #[.val (.ref a_CONTRACTOR), .val (.ref a_CONTRACTOR)] [(.ref a_CONTRACTOR)])) (fun _ k => XS.aloadN X1.here hx rfl (hb hby own_d_prog_51_method_5_code_7) rfl rfl k) ?_
  refine own_st (T' := T1) (g' := (mkF m 9 #[.val (.ref a_CONTRACTOR), .val (.ref a_CONTRACTOR)] [(.ref a_CONTRACTOR), (.ref a_CONTRACTOR)])) (fun _ k => XS.aloadN X1.here hx rfl (hb hby own_d_prog_51_method_5_code_8) rfl rfl k) ?_
  refine own_st (T' := T1) (g' := (mkF m 12 #[.val (.ref a_CONTRACTOR), .val (.ref a_CONTRACTOR)] [])) (fun _ k => Jvm.RoadKit.acmp (g := (mkF m 9 #[.val (.ref a_CONTRACTOR), .val (.ref a_CONTRACTOR)] [(.ref a_CONTRACTOR), (.ref a_CONTRACTOR)])) X1 hx rfl rfl rfl (pc0 := 9) (pc' := 12) (same := true) rfl (hb hby own_d_prog_51_method_5_code_9) rfl (decide_eq_true rfl) (by decide) (by decide) k) ?_
  refine own_st (T' := T1) (g' := (mkF m 13 #[.val (.ref a_CONTRACTOR), .val (.ref a_CONTRACTOR)] [(.int (1 : Int32))])) (fun _ k => XS.iconst X1.here hx rfl (hb hby own_d_prog_51_method_5_code_12) k) ?_
  refine own_st (T' := T1) (g' := (mkF m 17 #[.val (.ref a_CONTRACTOR), .val (.ref a_CONTRACTOR)] [(.int (1 : Int32))])) (fun _ k => XS.goto X1.here hx rfl (pc0 := 13) (pc' := 17) rfl (hb hby own_d_prog_51_method_5_code_13) (by decide) (by decide) k) ?_
  exact own_ret X1 hx hlk hret rfl (Or.inl ⟨rfl, Or.inr (Or.inl rfl), _, rfl⟩) (hb hby own_d_prog_51_method_5_code_17) (by decide) (by decide) ⟨rfl, rfl, e1⟩
set_option maxRecDepth 65536 in
set_option maxHeartbeats 40000000 in
theorem own_includes_1 (l : Launch) (Z : State) (a0 : Array Value) (hw : ∀ d ∈ tables_1, d.before a0 Z = true) (h0 : Heap) (a_CONTRACTOR : Addr) (a_ADMINISTRATOR : Addr) (S_CONTRACTOR : Sta Z h0 "com/example/megablock/megablock/service/Credential$ERole" "CONTRACTOR" "Lcom/example/megablock/megablock/service/Credential$ERole;" (.ref a_CONTRACTOR)) (S_ADMINISTRATOR : Sta Z h0 "com/example/megablock/megablock/service/Credential$ERole" "ADMINISTRATOR" "Lcom/example/megablock/megablock/service/Credential$ERole;" (.ref a_ADMINISTRATOR)) (E_CONTRACTOR : Exa Z h0 a_CONTRACTOR "com/example/megablock/megablock/service/Credential$ERole") (E_ADMINISTRATOR : Exa Z h0 a_ADMINISTRATOR "com/example/megablock/megablock/service/Credential$ERole") (F_CONTRACTOR_ordinal : Fld Z h0 a_CONTRACTOR "java/lang/Enum" "ordinal" "I" (.int (0 : Int32))) (F_ADMINISTRATOR_ordinal : Fld Z h0 a_ADMINISTRATOR "java/lang/Enum" "ordinal" "I" (.int (1 : Int32))) :
    own_Pure l Z h0 [] ({ frames := 0, cells := 0, slots := 0, locals := 0 } : Room) (⟨"com/example/megablock/megablock/service/Credential$ERole", "includes", "(Lcom/example/megablock/megablock/service/Credential$ERole;)Z"⟩ : MethodName) prog_51_method_5_code 2 (some .boolean) #[(.ref a_CONTRACTOR), (.ref a_ADMINISTRATOR)] (some (.int (0 : Int32))) := by
  refine own_body (plainFor_of_name own_pn_0) ?_
  intro p e s m below meth c T0 X0 hx hby hml hown hZ e0 hret hlk hnm hnamed
  replace hown : s.vm.findClass "com/example/megablock/megablock/service/Credential$ERole" = some m.cls := hown
  replace hml : c.maxLocals = 2 := hml
  have ef : entryFrame m #[(.ref a_CONTRACTOR), (.ref a_ADMINISTRATOR)] 2 = mkF m 0 #[.val (.ref a_CONTRACTOR), .val (.ref a_ADMINISTRATOR)] [] := by first | (simp [entryFrame, mkF, argsToLocals, Value.category]; done) | rfl
  rw [ef]
  refine own_st (T' := T0) (g' := (mkF m 1 #[.val (.ref a_CONTRACTOR), .val (.ref a_ADMINISTRATOR)] [(.ref a_CONTRACTOR)])) (fun _ k => XS.aloadN X0.here hx rfl (hb hby own_d_prog_51_method_5_code_0) rfl rfl k) ?_
  obtain ⟨T1, X1, e1, st1⟩ := getS2 X0 hx hZ hown (host := "") (Or.inl (hw _ (List.mem_of_getElem? (i := 10) rfl))) Via.refl e0 S_ADMINISTRATOR (g := (mkF m 1 #[.val (.ref a_CONTRACTOR), .val (.ref a_ADMINISTRATOR)] [(.ref a_CONTRACTOR)])) rfl (hb hby own_d_prog_51_method_5_code_1)
  refine own_st (T' := T1) (g' := (mkF m 4 #[.val (.ref a_CONTRACTOR), .val (.ref a_ADMINISTRATOR)] [(.ref a_ADMINISTRATOR), (.ref a_CONTRACTOR)])) st1 ?_
  refine own_st (T' := T1) (g' := (mkF m 7 #[.val (.ref a_CONTRACTOR), .val (.ref a_ADMINISTRATOR)] [])) (fun _ k => Jvm.RoadKit.acmp (g := (mkF m 4 #[.val (.ref a_CONTRACTOR), .val (.ref a_ADMINISTRATOR)] [(.ref a_ADMINISTRATOR), (.ref a_CONTRACTOR)])) X1 hx rfl rfl rfl (pc0 := 4) (pc' := 7) (same := false) rfl (hb hby own_d_prog_51_method_5_code_4) rfl (decide_eq_false fun q => (Fld.ne F_CONTRACTOR_ordinal F_ADMINISTRATOR_ordinal (by decide)) (Value.ref.inj q)) (by decide) (by decide) k) ?_
  refine own_st (T' := T1) (g' := (mkF m 8 #[.val (.ref a_CONTRACTOR), .val (.ref a_ADMINISTRATOR)] [(.ref a_CONTRACTOR)])) (fun _ k => XS.aloadN X1.here hx rfl (hb hby own_d_prog_51_method_5_code_7) rfl rfl k) ?_
  refine own_st (T' := T1) (g' := (mkF m 9 #[.val (.ref a_CONTRACTOR), .val (.ref a_ADMINISTRATOR)] [(.ref a_ADMINISTRATOR), (.ref a_CONTRACTOR)])) (fun _ k => XS.aloadN X1.here hx rfl (hb hby own_d_prog_51_method_5_code_8) rfl rfl k) ?_
  refine own_st (T' := T1) (g' := (mkF m 16 #[.val (.ref a_CONTRACTOR), .val (.ref a_ADMINISTRATOR)] [])) (fun _ k => Jvm.RoadKit.acmp (g := (mkF m 9 #[.val (.ref a_CONTRACTOR), .val (.ref a_ADMINISTRATOR)] [(.ref a_ADMINISTRATOR), (.ref a_CONTRACTOR)])) X1 hx rfl rfl rfl (pc0 := 9) (pc' := 16) (same := false) rfl (hb hby own_d_prog_51_method_5_code_9) rfl (decide_eq_false fun q => (Fld.ne F_CONTRACTOR_ordinal F_ADMINISTRATOR_ordinal (by decide)) (Value.ref.inj q)) (by decide) (by decide) k) ?_
  refine own_st (T' := T1) (g' := (mkF m 17 #[.val (.ref a_CONTRACTOR), .val (.ref a_ADMINISTRATOR)] [(.int (0 : Int32))])) (fun _ k => XS.iconst X1.here hx rfl (hb hby own_d_prog_51_method_5_code_16) k) ?_
  exact own_ret X1 hx hlk hret rfl (Or.inl ⟨rfl, Or.inr (Or.inl rfl), _, rfl⟩) (hb hby own_d_prog_51_method_5_code_17) (by decide) (by decide) ⟨rfl, rfl, e1⟩
set_option maxRecDepth 65536 in
set_option maxHeartbeats 40000000 in
theorem own_includes_2 (l : Launch) (Z : State) (a0 : Array Value) (hw : ∀ d ∈ tables_1, d.before a0 Z = true) (h0 : Heap) (a_CONTRACTOR : Addr) (a_ADMINISTRATOR : Addr) (S_CONTRACTOR : Sta Z h0 "com/example/megablock/megablock/service/Credential$ERole" "CONTRACTOR" "Lcom/example/megablock/megablock/service/Credential$ERole;" (.ref a_CONTRACTOR)) (S_ADMINISTRATOR : Sta Z h0 "com/example/megablock/megablock/service/Credential$ERole" "ADMINISTRATOR" "Lcom/example/megablock/megablock/service/Credential$ERole;" (.ref a_ADMINISTRATOR)) (E_CONTRACTOR : Exa Z h0 a_CONTRACTOR "com/example/megablock/megablock/service/Credential$ERole") (E_ADMINISTRATOR : Exa Z h0 a_ADMINISTRATOR "com/example/megablock/megablock/service/Credential$ERole") (F_CONTRACTOR_ordinal : Fld Z h0 a_CONTRACTOR "java/lang/Enum" "ordinal" "I" (.int (0 : Int32))) (F_ADMINISTRATOR_ordinal : Fld Z h0 a_ADMINISTRATOR "java/lang/Enum" "ordinal" "I" (.int (1 : Int32))) :
    own_Pure l Z h0 [] ({ frames := 0, cells := 0, slots := 0, locals := 0 } : Room) (⟨"com/example/megablock/megablock/service/Credential$ERole", "includes", "(Lcom/example/megablock/megablock/service/Credential$ERole;)Z"⟩ : MethodName) prog_51_method_5_code 2 (some .boolean) #[(.ref a_ADMINISTRATOR), (.ref a_CONTRACTOR)] (some (.int (1 : Int32))) := by
  refine own_body (plainFor_of_name own_pn_0) ?_
  intro p e s m below meth c T0 X0 hx hby hml hown hZ e0 hret hlk hnm hnamed
  replace hown : s.vm.findClass "com/example/megablock/megablock/service/Credential$ERole" = some m.cls := hown
  replace hml : c.maxLocals = 2 := hml
  have ef : entryFrame m #[(.ref a_ADMINISTRATOR), (.ref a_CONTRACTOR)] 2 = mkF m 0 #[.val (.ref a_ADMINISTRATOR), .val (.ref a_CONTRACTOR)] [] := by first | (simp [entryFrame, mkF, argsToLocals, Value.category]; done) | rfl
  rw [ef]
  refine own_st (T' := T0) (g' := (mkF m 1 #[.val (.ref a_ADMINISTRATOR), .val (.ref a_CONTRACTOR)] [(.ref a_ADMINISTRATOR)])) (fun _ k => XS.aloadN X0.here hx rfl (hb hby own_d_prog_51_method_5_code_0) rfl rfl k) ?_
  obtain ⟨T1, X1, e1, st1⟩ := getS2 X0 hx hZ hown (host := "") (Or.inl (hw _ (List.mem_of_getElem? (i := 10) rfl))) Via.refl e0 S_ADMINISTRATOR (g := (mkF m 1 #[.val (.ref a_ADMINISTRATOR), .val (.ref a_CONTRACTOR)] [(.ref a_ADMINISTRATOR)])) rfl (hb hby own_d_prog_51_method_5_code_1)
  refine own_st (T' := T1) (g' := (mkF m 4 #[.val (.ref a_ADMINISTRATOR), .val (.ref a_CONTRACTOR)] [(.ref a_ADMINISTRATOR), (.ref a_ADMINISTRATOR)])) st1 ?_
  refine own_st (T' := T1) (g' := (mkF m 12 #[.val (.ref a_ADMINISTRATOR), .val (.ref a_CONTRACTOR)] [])) (fun _ k => Jvm.RoadKit.acmp (g := (mkF m 4 #[.val (.ref a_ADMINISTRATOR), .val (.ref a_CONTRACTOR)] [(.ref a_ADMINISTRATOR), (.ref a_ADMINISTRATOR)])) X1 hx rfl rfl rfl (pc0 := 4) (pc' := 12) (same := true) rfl (hb hby own_d_prog_51_method_5_code_4) rfl (decide_eq_true rfl) (by decide) (by decide) k) ?_
  refine own_st (T' := T1) (g' := (mkF m 13 #[.val (.ref a_ADMINISTRATOR), .val (.ref a_CONTRACTOR)] [(.int (1 : Int32))])) (fun _ k => XS.iconst X1.here hx rfl (hb hby own_d_prog_51_method_5_code_12) k) ?_
  refine own_st (T' := T1) (g' := (mkF m 17 #[.val (.ref a_ADMINISTRATOR), .val (.ref a_CONTRACTOR)] [(.int (1 : Int32))])) (fun _ k => XS.goto X1.here hx rfl (pc0 := 13) (pc' := 17) rfl (hb hby own_d_prog_51_method_5_code_13) (by decide) (by decide) k) ?_
  exact own_ret X1 hx hlk hret rfl (Or.inl ⟨rfl, Or.inr (Or.inl rfl), _, rfl⟩) (hb hby own_d_prog_51_method_5_code_17) (by decide) (by decide) ⟨rfl, rfl, e1⟩
set_option maxRecDepth 65536 in
set_option maxHeartbeats 40000000 in
theorem own_includes_3 (l : Launch) (Z : State) (a0 : Array Value) (hw : ∀ d ∈ tables_1, d.before a0 Z = true) (h0 : Heap) (a_CONTRACTOR : Addr) (a_ADMINISTRATOR : Addr) (S_CONTRACTOR : Sta Z h0 "com/example/megablock/megablock/service/Credential$ERole" "CONTRACTOR" "Lcom/example/megablock/megablock/service/Credential$ERole;" (.ref a_CONTRACTOR)) (S_ADMINISTRATOR : Sta Z h0 "com/example/megablock/megablock/service/Credential$ERole" "ADMINISTRATOR" "Lcom/example/megablock/megablock/service/Credential$ERole;" (.ref a_ADMINISTRATOR)) (E_CONTRACTOR : Exa Z h0 a_CONTRACTOR "com/example/megablock/megablock/service/Credential$ERole") (E_ADMINISTRATOR : Exa Z h0 a_ADMINISTRATOR "com/example/megablock/megablock/service/Credential$ERole") (F_CONTRACTOR_ordinal : Fld Z h0 a_CONTRACTOR "java/lang/Enum" "ordinal" "I" (.int (0 : Int32))) (F_ADMINISTRATOR_ordinal : Fld Z h0 a_ADMINISTRATOR "java/lang/Enum" "ordinal" "I" (.int (1 : Int32))) :
    own_Pure l Z h0 [] ({ frames := 0, cells := 0, slots := 0, locals := 0 } : Room) (⟨"com/example/megablock/megablock/service/Credential$ERole", "includes", "(Lcom/example/megablock/megablock/service/Credential$ERole;)Z"⟩ : MethodName) prog_51_method_5_code 2 (some .boolean) #[(.ref a_ADMINISTRATOR), (.ref a_ADMINISTRATOR)] (some (.int (1 : Int32))) := by
  refine own_body (plainFor_of_name own_pn_0) ?_
  intro p e s m below meth c T0 X0 hx hby hml hown hZ e0 hret hlk hnm hnamed
  replace hown : s.vm.findClass "com/example/megablock/megablock/service/Credential$ERole" = some m.cls := hown
  replace hml : c.maxLocals = 2 := hml
  have ef : entryFrame m #[(.ref a_ADMINISTRATOR), (.ref a_ADMINISTRATOR)] 2 = mkF m 0 #[.val (.ref a_ADMINISTRATOR), .val (.ref a_ADMINISTRATOR)] [] := by first | (simp [entryFrame, mkF, argsToLocals, Value.category]; done) | rfl
  rw [ef]
  refine own_st (T' := T0) (g' := (mkF m 1 #[.val (.ref a_ADMINISTRATOR), .val (.ref a_ADMINISTRATOR)] [(.ref a_ADMINISTRATOR)])) (fun _ k => XS.aloadN X0.here hx rfl (hb hby own_d_prog_51_method_5_code_0) rfl rfl k) ?_
  obtain ⟨T1, X1, e1, st1⟩ := getS2 X0 hx hZ hown (host := "") (Or.inl (hw _ (List.mem_of_getElem? (i := 10) rfl))) Via.refl e0 S_ADMINISTRATOR (g := (mkF m 1 #[.val (.ref a_ADMINISTRATOR), .val (.ref a_ADMINISTRATOR)] [(.ref a_ADMINISTRATOR)])) rfl (hb hby own_d_prog_51_method_5_code_1)
  refine own_st (T' := T1) (g' := (mkF m 4 #[.val (.ref a_ADMINISTRATOR), .val (.ref a_ADMINISTRATOR)] [(.ref a_ADMINISTRATOR), (.ref a_ADMINISTRATOR)])) st1 ?_
  refine own_st (T' := T1) (g' := (mkF m 12 #[.val (.ref a_ADMINISTRATOR), .val (.ref a_ADMINISTRATOR)] [])) (fun _ k => Jvm.RoadKit.acmp (g := (mkF m 4 #[.val (.ref a_ADMINISTRATOR), .val (.ref a_ADMINISTRATOR)] [(.ref a_ADMINISTRATOR), (.ref a_ADMINISTRATOR)])) X1 hx rfl rfl rfl (pc0 := 4) (pc' := 12) (same := true) rfl (hb hby own_d_prog_51_method_5_code_4) rfl (decide_eq_true rfl) (by decide) (by decide) k) ?_
  refine own_st (T' := T1) (g' := (mkF m 13 #[.val (.ref a_ADMINISTRATOR), .val (.ref a_ADMINISTRATOR)] [(.int (1 : Int32))])) (fun _ k => XS.iconst X1.here hx rfl (hb hby own_d_prog_51_method_5_code_12) k) ?_
  refine own_st (T' := T1) (g' := (mkF m 17 #[.val (.ref a_ADMINISTRATOR), .val (.ref a_ADMINISTRATOR)] [(.int (1 : Int32))])) (fun _ k => XS.goto X1.here hx rfl (pc0 := 13) (pc' := 17) rfl (hb hby own_d_prog_51_method_5_code_13) (by decide) (by decide) k) ?_
  exact own_ret X1 hx hlk hret rfl (Or.inl ⟨rfl, Or.inr (Or.inl rfl), _, rfl⟩) (hb hby own_d_prog_51_method_5_code_17) (by decide) (by decide) ⟨rfl, rfl, e1⟩
set_option maxRecDepth 65536 in
set_option maxHeartbeats 40000000 in
theorem own_lawP (l : Launch) (Z : State) (a0 : Array Value) (hw : ∀ d ∈ tables_1, d.before a0 Z = true) (h0 : Heap) (a_CONTRACTOR : Addr) (a_ADMINISTRATOR : Addr) (S_CONTRACTOR : Sta Z h0 "com/example/megablock/megablock/service/Credential$ERole" "CONTRACTOR" "Lcom/example/megablock/megablock/service/Credential$ERole;" (.ref a_CONTRACTOR)) (S_ADMINISTRATOR : Sta Z h0 "com/example/megablock/megablock/service/Credential$ERole" "ADMINISTRATOR" "Lcom/example/megablock/megablock/service/Credential$ERole;" (.ref a_ADMINISTRATOR)) (E_CONTRACTOR : Exa Z h0 a_CONTRACTOR "com/example/megablock/megablock/service/Credential$ERole") (E_ADMINISTRATOR : Exa Z h0 a_ADMINISTRATOR "com/example/megablock/megablock/service/Credential$ERole") (F_CONTRACTOR_ordinal : Fld Z h0 a_CONTRACTOR "java/lang/Enum" "ordinal" "I" (.int (0 : Int32))) (F_ADMINISTRATOR_ordinal : Fld Z h0 a_ADMINISTRATOR "java/lang/Enum" "ordinal" "I" (.int (1 : Int32))) (i : Int32) (j : Int32) :
    own_Pure l Z h0 tables_1 room_1 x code maxLocals ret #[(.int i), (.int j)] (some (.int (1 : Int32))) := by
  refine own_body (plainFor_of_name own_pn_1) ?_
  intro p e s m below meth c T0 X0 hx hby hml hown hZ e0 hret hlk hnm hnamed
  replace hown : s.vm.findClass "com/example/megablock/megablock/service/ERoleIncludesPinLaw" = some m.cls := hown
  replace hml : c.maxLocals = 7 := hml
  have ef : entryFrame m #[(.int i), (.int j)] maxLocals = mkF m 0 #[.val (.int i), .val (.int j), .unset, .unset, .unset, .unset, .unset] [] := by first | (simp [entryFrame, mkF, argsToLocals, Value.category, maxLocals]; done) | rfl
  rw [ef]
  refine own_st (T' := T0) (g' := (mkF m 1 #[.val (.int i), .val (.int j), .unset, .unset, .unset, .unset, .unset] [(.int i)])) (fun _ k => XS.iloadN X0.here hx rfl (hb hby at_0) rfl k) ?_
  refine own_st (T' := T0) (g' := (mkF m 2 #[.val (.int i), .val (.int j), .unset, .unset, .unset, .unset, .unset] [(.int (1 : Int32)), (.int i)])) (fun _ k => XS.iconst X0.here hx rfl (hb hby at_1) k) ?_
  refine own_st (T' := T0) (g' := (mkF m 3 #[.val (.int i), .val (.int j), .unset, .unset, .unset, .unset, .unset] [(.int (i &&& (1 : Int32)))])) (fun _ k => XS.iand X0.here hx rfl (hb hby at_2) rfl k) ?_
  by_cases hc3_1 : (i &&& (1 : Int32)) = (0 : Int32)
  ·
    refine own_st (T' := T0) (g' := (mkF m 10 #[.val (.int i), .val (.int j), .unset, .unset, .unset, .unset, .unset] [])) (fun _ k => XS.ifYes X0.here hx rfl (pc0 := 3) (pc' := 10) rfl (hb hby at_3) rfl ((if0 _ _).trans (teq hc3_1).1) (by decide) (by decide) k) ?_
    refine own_st (T' := T0) (g' := (mkF m 11 #[.val (.int i), .val (.int j), .unset, .unset, .unset, .unset, .unset] [(.int (0 : Int32))])) (fun _ k => XS.iconst X0.here hx rfl (hb hby at_10) k) ?_
    refine own_st (T' := T0) (g' := (mkF m 12 #[.val (.int i), .val (.int j), .val (.int (0 : Int32)), .unset, .unset, .unset, .unset] [])) (fun _ k => XS.istoreN X0.here hx rfl (hb hby at_11) rfl (l' := #[.val (.int i), .val (.int j), .val (.int (0 : Int32)), .unset, .unset, .unset, .unset]) rfl k) ?_
    refine own_st (T' := T0) (g' := (mkF m 13 #[.val (.int i), .val (.int j), .val (.int (0 : Int32)), .unset, .unset, .unset, .unset] [(.int j)])) (fun _ k => XS.iloadN X0.here hx rfl (hb hby at_12) rfl k) ?_
    refine own_st (T' := T0) (g' := (mkF m 14 #[.val (.int i), .val (.int j), .val (.int (0 : Int32)), .unset, .unset, .unset, .unset] [(.int (1 : Int32)), (.int j)])) (fun _ k => XS.iconst X0.here hx rfl (hb hby at_13) k) ?_
    refine own_st (T' := T0) (g' := (mkF m 15 #[.val (.int i), .val (.int j), .val (.int (0 : Int32)), .unset, .unset, .unset, .unset] [(.int (j &&& (1 : Int32)))])) (fun _ k => XS.iand X0.here hx rfl (hb hby at_14) rfl k) ?_
    by_cases hc15_2 : (j &&& (1 : Int32)) = (0 : Int32)
    ·
      refine own_st (T' := T0) (g' := (mkF m 22 #[.val (.int i), .val (.int j), .val (.int (0 : Int32)), .unset, .unset, .unset, .unset] [])) (fun _ k => XS.ifYes X0.here hx rfl (pc0 := 15) (pc' := 22) rfl (hb hby at_15) rfl ((if0 _ _).trans (teq hc15_2).1) (by decide) (by decide) k) ?_
      refine own_st (T' := T0) (g' := (mkF m 23 #[.val (.int i), .val (.int j), .val (.int (0 : Int32)), .unset, .unset, .unset, .unset] [(.int (0 : Int32))])) (fun _ k => XS.iconst X0.here hx rfl (hb hby at_22) k) ?_
      refine own_st (T' := T0) (g' := (mkF m 24 #[.val (.int i), .val (.int j), .val (.int (0 : Int32)), .val (.int (0 : Int32)), .unset, .unset, .unset] [])) (fun _ k => XS.istoreN X0.here hx rfl (hb hby at_23) rfl (l' := #[.val (.int i), .val (.int j), .val (.int (0 : Int32)), .val (.int (0 : Int32)), .unset, .unset, .unset]) rfl k) ?_
      refine own_st (T' := T0) (g' := (mkF m 25 #[.val (.int i), .val (.int j), .val (.int (0 : Int32)), .val (.int (0 : Int32)), .unset, .unset, .unset] [(.int (0 : Int32))])) (fun _ k => XS.iloadN X0.here hx rfl (hb hby at_24) rfl k) ?_
      refine own_st (T' := T0) (g' := (mkF m 34 #[.val (.int i), .val (.int j), .val (.int (0 : Int32)), .val (.int (0 : Int32)), .unset, .unset, .unset] [])) (fun _ k => XS.ifYes X0.here hx rfl (pc0 := 25) (pc' := 34) rfl (hb hby at_25) rfl (by decide) (by decide) (by decide) k) ?_
      obtain ⟨T3, X3, e3, st3⟩ := getS2 X0 hx hZ hown (host := "") (Or.inl (hw _ (List.mem_of_getElem? (i := 0) rfl))) Via.refl e0 S_CONTRACTOR (g := (mkF m 34 #[.val (.int i), .val (.int j), .val (.int (0 : Int32)), .val (.int (0 : Int32)), .unset, .unset, .unset] [])) rfl (hb hby at_34)
      refine own_st (T' := T3) (g' := (mkF m 37 #[.val (.int i), .val (.int j), .val (.int (0 : Int32)), .val (.int (0 : Int32)), .unset, .unset, .unset] [(.ref a_CONTRACTOR)])) st3 ?_
      refine own_st (T' := T3) (g' := (mkF m 39 #[.val (.int i), .val (.int j), .val (.int (0 : Int32)), .val (.int (0 : Int32)), .val (.ref a_CONTRACTOR), .unset, .unset] [])) (fun _ k => XS.astore X3.here hx rfl (hb hby at_37) rfl rfl (l' := #[.val (.int i), .val (.int j), .val (.int (0 : Int32)), .val (.int (0 : Int32)), .val (.ref a_CONTRACTOR), .unset, .unset]) rfl k) ?_
      refine own_st (T' := T3) (g' := (mkF m 40 #[.val (.int i), .val (.int j), .val (.int (0 : Int32)), .val (.int (0 : Int32)), .val (.ref a_CONTRACTOR), .unset, .unset] [(.int (0 : Int32))])) (fun _ k => XS.iloadN X3.here hx rfl (hb hby at_39) rfl k) ?_
      refine own_st (T' := T3) (g' := (mkF m 49 #[.val (.int i), .val (.int j), .val (.int (0 : Int32)), .val (.int (0 : Int32)), .val (.ref a_CONTRACTOR), .unset, .unset] [])) (fun _ k => XS.ifYes X3.here hx rfl (pc0 := 40) (pc' := 49) rfl (hb hby at_40) rfl (by decide) (by decide) (by decide) k) ?_
      obtain ⟨T4, X4, e4, st4⟩ := getS2 X3 hx hZ hown (host := "") (Or.inl (hw _ (List.mem_of_getElem? (i := 0) rfl))) Via.refl e3 S_CONTRACTOR (g := (mkF m 49 #[.val (.int i), .val (.int j), .val (.int (0 : Int32)), .val (.int (0 : Int32)), .val (.ref a_CONTRACTOR), .unset, .unset] [])) rfl (hb hby at_49)
      refine own_st (T' := T4) (g' := (mkF m 52 #[.val (.int i), .val (.int j), .val (.int (0 : Int32)), .val (.int (0 : Int32)), .val (.ref a_CONTRACTOR), .unset, .unset] [(.ref a_CONTRACTOR)])) st4 ?_
      refine own_st (T' := T4) (g' := (mkF m 54 #[.val (.int i), .val (.int j), .val (.int (0 : Int32)), .val (.int (0 : Int32)), .val (.ref a_CONTRACTOR), .val (.ref a_CONTRACTOR), .unset] [])) (fun _ k => XS.astore X4.here hx rfl (hb hby at_52) rfl rfl (l' := #[.val (.int i), .val (.int j), .val (.int (0 : Int32)), .val (.int (0 : Int32)), .val (.ref a_CONTRACTOR), .val (.ref a_CONTRACTOR), .unset]) rfl k) ?_
      refine own_st (T' := T4) (g' := (mkF m 55 #[.val (.int i), .val (.int j), .val (.int (0 : Int32)), .val (.int (0 : Int32)), .val (.ref a_CONTRACTOR), .val (.ref a_CONTRACTOR), .unset] [(.int (0 : Int32))])) (fun _ k => XS.iloadN X4.here hx rfl (hb hby at_54) rfl k) ?_
      refine own_st (T' := T4) (g' := (mkF m 64 #[.val (.int i), .val (.int j), .val (.int (0 : Int32)), .val (.int (0 : Int32)), .val (.ref a_CONTRACTOR), .val (.ref a_CONTRACTOR), .unset] [])) (fun _ k => XS.ifYes X4.here hx rfl (pc0 := 55) (pc' := 64) rfl (hb hby at_55) rfl (by decide) (by decide) (by decide) k) ?_
      refine own_st (T' := T4) (g' := (mkF m 65 #[.val (.int i), .val (.int j), .val (.int (0 : Int32)), .val (.int (0 : Int32)), .val (.ref a_CONTRACTOR), .val (.ref a_CONTRACTOR), .unset] [(.int (0 : Int32))])) (fun _ k => XS.iloadN X4.here hx rfl (hb hby at_64) rfl k) ?_
      refine own_st (T' := T4) (g' := (mkF m 68 #[.val (.int i), .val (.int j), .val (.int (0 : Int32)), .val (.int (0 : Int32)), .val (.ref a_CONTRACTOR), .val (.ref a_CONTRACTOR), .unset] [])) (fun _ k => XS.ifNo X4.here hx rfl (hb hby at_65) rfl (by decide) k) ?_
      refine own_st (T' := T4) (g' := (mkF m 69 #[.val (.int i), .val (.int j), .val (.int (0 : Int32)), .val (.int (0 : Int32)), .val (.ref a_CONTRACTOR), .val (.ref a_CONTRACTOR), .unset] [(.int (1 : Int32))])) (fun _ k => XS.iconst X4.here hx rfl (hb hby at_68) k) ?_
      refine own_st (T' := T4) (g' := (mkF m 73 #[.val (.int i), .val (.int j), .val (.int (0 : Int32)), .val (.int (0 : Int32)), .val (.ref a_CONTRACTOR), .val (.ref a_CONTRACTOR), .unset] [(.int (1 : Int32))])) (fun _ k => XS.goto X4.here hx rfl (pc0 := 69) (pc' := 73) rfl (hb hby at_69) (by decide) (by decide) k) ?_
      refine own_st (T' := T4) (g' := (mkF m 75 #[.val (.int i), .val (.int j), .val (.int (0 : Int32)), .val (.int (0 : Int32)), .val (.ref a_CONTRACTOR), .val (.ref a_CONTRACTOR), .val (.int (1 : Int32))] [])) (fun _ k => XS.istore X4.here hx rfl (hb hby at_73) rfl (l' := #[.val (.int i), .val (.int j), .val (.int (0 : Int32)), .val (.int (0 : Int32)), .val (.ref a_CONTRACTOR), .val (.ref a_CONTRACTOR), .val (.int (1 : Int32))]) rfl k) ?_
      refine own_st (T' := T4) (g' := (mkF m 77 #[.val (.int i), .val (.int j), .val (.int (0 : Int32)), .val (.int (0 : Int32)), .val (.ref a_CONTRACTOR), .val (.ref a_CONTRACTOR), .val (.int (1 : Int32))] [(.ref a_CONTRACTOR)])) (fun _ k => XS.aload X4.here hx rfl (hb hby at_75) rfl rfl k) ?_
      refine own_st (T' := T4) (g' := (mkF m 79 #[.val (.int i), .val (.int j), .val (.int (0 : Int32)), .val (.int (0 : Int32)), .val (.ref a_CONTRACTOR), .val (.ref a_CONTRACTOR), .val (.int (1 : Int32))] [(.ref a_CONTRACTOR), (.ref a_CONTRACTOR)])) (fun _ k => XS.aload X4.here hx rfl (hb hby at_77) rfl rfl k) ?_
      obtain ⟨T5, X5, e5, st5⟩ := own_pure (w := (.int (1 : Int32))) rfl rfl (own_gV X4 hx hZ hown (hw _ (List.mem_of_getElem? (i := 5) rfl)) (hw _ (List.mem_of_getElem? (i := 6) rfl)) (notFace_of_selects (args := #[]) (mvT hZ (hw _ (List.mem_of_getElem? (i := 8) rfl)))) (hw _ (List.mem_of_getElem? (i := 8) rfl)) (hw _ (List.mem_of_getElem? (i := 7) rfl)) (hw _ (List.mem_of_getElem? (i := 1) rfl)) (hw _ (List.mem_of_getElem? (i := 9) rfl)) (by decide) e4 E_CONTRACTOR (own_includes_0 l Z a0 hw h0 a_CONTRACTOR a_ADMINISTRATOR S_CONTRACTOR S_ADMINISTRATOR E_CONTRACTOR E_ADMINISTRATOR F_CONTRACTOR_ordinal F_ADMINISTRATOR_ordinal) (by decide) (by decide) (by decide) (by decide) (Q := fun v h L => v = some (.int (1 : Int32)) ∧ L = [] ∧ h = h0) (W := 0) (g := (mkF m 79 #[.val (.int i), .val (.int j), .val (.int (0 : Int32)), .val (.int (0 : Int32)), .val (.ref a_CONTRACTOR), .val (.ref a_CONTRACTOR), .val (.int (1 : Int32))] [(.ref a_CONTRACTOR), (.ref a_CONTRACTOR)])) (argsL := [(.ref a_CONTRACTOR)]) (rest := []) rfl (by rw [hml]; rfl) (lenOf own_pd_0 rfl) rfl (by show 2 * 0 + _ ≤ _; exact Nat.le_of_eq rfl) (hb hby at_79))
      refine own_st (T' := T5) (g' := (mkF m 82 #[.val (.int i), .val (.int j), .val (.int (0 : Int32)), .val (.int (0 : Int32)), .val (.ref a_CONTRACTOR), .val (.ref a_CONTRACTOR), .val (.int (1 : Int32))] [(.int (1 : Int32))])) st5 ?_
      refine own_st (T' := T5) (g' := (mkF m 84 #[.val (.int i), .val (.int j), .val (.int (0 : Int32)), .val (.int (0 : Int32)), .val (.ref a_CONTRACTOR), .val (.ref a_CONTRACTOR), .val (.int (1 : Int32))] [(.int (1 : Int32)), (.int (1 : Int32))])) (fun _ k => XS.iload X5.here hx rfl (hb hby at_82) rfl k) ?_
      refine own_st (T' := T5) (g' := (mkF m 87 #[.val (.int i), .val (.int j), .val (.int (0 : Int32)), .val (.int (0 : Int32)), .val (.ref a_CONTRACTOR), .val (.ref a_CONTRACTOR), .val (.int (1 : Int32))] [])) (fun _ k => XS.icmpNo X5.here hx rfl (hb hby at_84) rfl (by decide) k) ?_
      refine own_st (T' := T5) (g' := (mkF m 88 #[.val (.int i), .val (.int j), .val (.int (0 : Int32)), .val (.int (0 : Int32)), .val (.ref a_CONTRACTOR), .val (.ref a_CONTRACTOR), .val (.int (1 : Int32))] [(.int (1 : Int32))])) (fun _ k => XS.iconst X5.here hx rfl (hb hby at_87) k) ?_
      refine own_st (T' := T5) (g' := (mkF m 92 #[.val (.int i), .val (.int j), .val (.int (0 : Int32)), .val (.int (0 : Int32)), .val (.ref a_CONTRACTOR), .val (.ref a_CONTRACTOR), .val (.int (1 : Int32))] [(.int (1 : Int32))])) (fun _ k => XS.goto X5.here hx rfl (pc0 := 88) (pc' := 92) rfl (hb hby at_88) (by decide) (by decide) k) ?_
      exact own_ret X5 hx hlk hret rfl (Or.inl ⟨rfl, Or.inr (Or.inl rfl), _, rfl⟩) (hb hby at_92) (by decide) (by decide) ⟨rfl, rfl, e5⟩
    ·
      refine own_st (T' := T0) (g' := (mkF m 18 #[.val (.int i), .val (.int j), .val (.int (0 : Int32)), .unset, .unset, .unset, .unset] [])) (fun _ k => XS.ifNo X0.here hx rfl (hb hby at_15) rfl ((if0 _ _).trans (feq hc15_2).1) k) ?_
      refine own_st (T' := T0) (g' := (mkF m 19 #[.val (.int i), .val (.int j), .val (.int (0 : Int32)), .unset, .unset, .unset, .unset] [(.int (1 : Int32))])) (fun _ k => XS.iconst X0.here hx rfl (hb hby at_18) k) ?_
      refine own_st (T' := T0) (g' := (mkF m 23 #[.val (.int i), .val (.int j), .val (.int (0 : Int32)), .unset, .unset, .unset, .unset] [(.int (1 : Int32))])) (fun _ k => XS.goto X0.here hx rfl (pc0 := 19) (pc' := 23) rfl (hb hby at_19) (by decide) (by decide) k) ?_
      refine own_st (T' := T0) (g' := (mkF m 24 #[.val (.int i), .val (.int j), .val (.int (0 : Int32)), .val (.int (1 : Int32)), .unset, .unset, .unset] [])) (fun _ k => XS.istoreN X0.here hx rfl (hb hby at_23) rfl (l' := #[.val (.int i), .val (.int j), .val (.int (0 : Int32)), .val (.int (1 : Int32)), .unset, .unset, .unset]) rfl k) ?_
      refine own_st (T' := T0) (g' := (mkF m 25 #[.val (.int i), .val (.int j), .val (.int (0 : Int32)), .val (.int (1 : Int32)), .unset, .unset, .unset] [(.int (0 : Int32))])) (fun _ k => XS.iloadN X0.here hx rfl (hb hby at_24) rfl k) ?_
      refine own_st (T' := T0) (g' := (mkF m 34 #[.val (.int i), .val (.int j), .val (.int (0 : Int32)), .val (.int (1 : Int32)), .unset, .unset, .unset] [])) (fun _ k => XS.ifYes X0.here hx rfl (pc0 := 25) (pc' := 34) rfl (hb hby at_25) rfl (by decide) (by decide) (by decide) k) ?_
      obtain ⟨T6, X6, e6, st6⟩ := getS2 X0 hx hZ hown (host := "") (Or.inl (hw _ (List.mem_of_getElem? (i := 0) rfl))) Via.refl e0 S_CONTRACTOR (g := (mkF m 34 #[.val (.int i), .val (.int j), .val (.int (0 : Int32)), .val (.int (1 : Int32)), .unset, .unset, .unset] [])) rfl (hb hby at_34)
      refine own_st (T' := T6) (g' := (mkF m 37 #[.val (.int i), .val (.int j), .val (.int (0 : Int32)), .val (.int (1 : Int32)), .unset, .unset, .unset] [(.ref a_CONTRACTOR)])) st6 ?_
      refine own_st (T' := T6) (g' := (mkF m 39 #[.val (.int i), .val (.int j), .val (.int (0 : Int32)), .val (.int (1 : Int32)), .val (.ref a_CONTRACTOR), .unset, .unset] [])) (fun _ k => XS.astore X6.here hx rfl (hb hby at_37) rfl rfl (l' := #[.val (.int i), .val (.int j), .val (.int (0 : Int32)), .val (.int (1 : Int32)), .val (.ref a_CONTRACTOR), .unset, .unset]) rfl k) ?_
      refine own_st (T' := T6) (g' := (mkF m 40 #[.val (.int i), .val (.int j), .val (.int (0 : Int32)), .val (.int (1 : Int32)), .val (.ref a_CONTRACTOR), .unset, .unset] [(.int (1 : Int32))])) (fun _ k => XS.iloadN X6.here hx rfl (hb hby at_39) rfl k) ?_
      refine own_st (T' := T6) (g' := (mkF m 43 #[.val (.int i), .val (.int j), .val (.int (0 : Int32)), .val (.int (1 : Int32)), .val (.ref a_CONTRACTOR), .unset, .unset] [])) (fun _ k => XS.ifNo X6.here hx rfl (hb hby at_40) rfl (by decide) k) ?_
      obtain ⟨T7, X7, e7, st7⟩ := getS2 X6 hx hZ hown (host := "") (Or.inl (hw _ (List.mem_of_getElem? (i := 3) rfl))) Via.refl e6 S_ADMINISTRATOR (g := (mkF m 43 #[.val (.int i), .val (.int j), .val (.int (0 : Int32)), .val (.int (1 : Int32)), .val (.ref a_CONTRACTOR), .unset, .unset] [])) rfl (hb hby at_43)
      refine own_st (T' := T7) (g' := (mkF m 46 #[.val (.int i), .val (.int j), .val (.int (0 : Int32)), .val (.int (1 : Int32)), .val (.ref a_CONTRACTOR), .unset, .unset] [(.ref a_ADMINISTRATOR)])) st7 ?_
      refine own_st (T' := T7) (g' := (mkF m 52 #[.val (.int i), .val (.int j), .val (.int (0 : Int32)), .val (.int (1 : Int32)), .val (.ref a_CONTRACTOR), .unset, .unset] [(.ref a_ADMINISTRATOR)])) (fun _ k => XS.goto X7.here hx rfl (pc0 := 46) (pc' := 52) rfl (hb hby at_46) (by decide) (by decide) k) ?_
      refine own_st (T' := T7) (g' := (mkF m 54 #[.val (.int i), .val (.int j), .val (.int (0 : Int32)), .val (.int (1 : Int32)), .val (.ref a_CONTRACTOR), .val (.ref a_ADMINISTRATOR), .unset] [])) (fun _ k => XS.astore X7.here hx rfl (hb hby at_52) rfl rfl (l' := #[.val (.int i), .val (.int j), .val (.int (0 : Int32)), .val (.int (1 : Int32)), .val (.ref a_CONTRACTOR), .val (.ref a_ADMINISTRATOR), .unset]) rfl k) ?_
      refine own_st (T' := T7) (g' := (mkF m 55 #[.val (.int i), .val (.int j), .val (.int (0 : Int32)), .val (.int (1 : Int32)), .val (.ref a_CONTRACTOR), .val (.ref a_ADMINISTRATOR), .unset] [(.int (0 : Int32))])) (fun _ k => XS.iloadN X7.here hx rfl (hb hby at_54) rfl k) ?_
      refine own_st (T' := T7) (g' := (mkF m 64 #[.val (.int i), .val (.int j), .val (.int (0 : Int32)), .val (.int (1 : Int32)), .val (.ref a_CONTRACTOR), .val (.ref a_ADMINISTRATOR), .unset] [])) (fun _ k => XS.ifYes X7.here hx rfl (pc0 := 55) (pc' := 64) rfl (hb hby at_55) rfl (by decide) (by decide) (by decide) k) ?_
      refine own_st (T' := T7) (g' := (mkF m 65 #[.val (.int i), .val (.int j), .val (.int (0 : Int32)), .val (.int (1 : Int32)), .val (.ref a_CONTRACTOR), .val (.ref a_ADMINISTRATOR), .unset] [(.int (1 : Int32))])) (fun _ k => XS.iloadN X7.here hx rfl (hb hby at_64) rfl k) ?_
      refine own_st (T' := T7) (g' := (mkF m 72 #[.val (.int i), .val (.int j), .val (.int (0 : Int32)), .val (.int (1 : Int32)), .val (.ref a_CONTRACTOR), .val (.ref a_ADMINISTRATOR), .unset] [])) (fun _ k => XS.ifYes X7.here hx rfl (pc0 := 65) (pc' := 72) rfl (hb hby at_65) rfl (by decide) (by decide) (by decide) k) ?_
      refine own_st (T' := T7) (g' := (mkF m 73 #[.val (.int i), .val (.int j), .val (.int (0 : Int32)), .val (.int (1 : Int32)), .val (.ref a_CONTRACTOR), .val (.ref a_ADMINISTRATOR), .unset] [(.int (0 : Int32))])) (fun _ k => XS.iconst X7.here hx rfl (hb hby at_72) k) ?_
      refine own_st (T' := T7) (g' := (mkF m 75 #[.val (.int i), .val (.int j), .val (.int (0 : Int32)), .val (.int (1 : Int32)), .val (.ref a_CONTRACTOR), .val (.ref a_ADMINISTRATOR), .val (.int (0 : Int32))] [])) (fun _ k => XS.istore X7.here hx rfl (hb hby at_73) rfl (l' := #[.val (.int i), .val (.int j), .val (.int (0 : Int32)), .val (.int (1 : Int32)), .val (.ref a_CONTRACTOR), .val (.ref a_ADMINISTRATOR), .val (.int (0 : Int32))]) rfl k) ?_
      refine own_st (T' := T7) (g' := (mkF m 77 #[.val (.int i), .val (.int j), .val (.int (0 : Int32)), .val (.int (1 : Int32)), .val (.ref a_CONTRACTOR), .val (.ref a_ADMINISTRATOR), .val (.int (0 : Int32))] [(.ref a_CONTRACTOR)])) (fun _ k => XS.aload X7.here hx rfl (hb hby at_75) rfl rfl k) ?_
      refine own_st (T' := T7) (g' := (mkF m 79 #[.val (.int i), .val (.int j), .val (.int (0 : Int32)), .val (.int (1 : Int32)), .val (.ref a_CONTRACTOR), .val (.ref a_ADMINISTRATOR), .val (.int (0 : Int32))] [(.ref a_ADMINISTRATOR), (.ref a_CONTRACTOR)])) (fun _ k => XS.aload X7.here hx rfl (hb hby at_77) rfl rfl k) ?_
      obtain ⟨T8, X8, e8, st8⟩ := own_pure (w := (.int (0 : Int32))) rfl rfl (own_gV X7 hx hZ hown (hw _ (List.mem_of_getElem? (i := 5) rfl)) (hw _ (List.mem_of_getElem? (i := 6) rfl)) (notFace_of_selects (args := #[]) (mvT hZ (hw _ (List.mem_of_getElem? (i := 8) rfl)))) (hw _ (List.mem_of_getElem? (i := 8) rfl)) (hw _ (List.mem_of_getElem? (i := 7) rfl)) (hw _ (List.mem_of_getElem? (i := 1) rfl)) (hw _ (List.mem_of_getElem? (i := 9) rfl)) (by decide) e7 E_CONTRACTOR (own_includes_1 l Z a0 hw h0 a_CONTRACTOR a_ADMINISTRATOR S_CONTRACTOR S_ADMINISTRATOR E_CONTRACTOR E_ADMINISTRATOR F_CONTRACTOR_ordinal F_ADMINISTRATOR_ordinal) (by decide) (by decide) (by decide) (by decide) (Q := fun v h L => v = some (.int (0 : Int32)) ∧ L = [] ∧ h = h0) (W := 0) (g := (mkF m 79 #[.val (.int i), .val (.int j), .val (.int (0 : Int32)), .val (.int (1 : Int32)), .val (.ref a_CONTRACTOR), .val (.ref a_ADMINISTRATOR), .val (.int (0 : Int32))] [(.ref a_ADMINISTRATOR), (.ref a_CONTRACTOR)])) (argsL := [(.ref a_ADMINISTRATOR)]) (rest := []) rfl (by rw [hml]; rfl) (lenOf own_pd_0 rfl) rfl (by show 2 * 0 + _ ≤ _; exact Nat.le_of_eq rfl) (hb hby at_79))
      refine own_st (T' := T8) (g' := (mkF m 82 #[.val (.int i), .val (.int j), .val (.int (0 : Int32)), .val (.int (1 : Int32)), .val (.ref a_CONTRACTOR), .val (.ref a_ADMINISTRATOR), .val (.int (0 : Int32))] [(.int (0 : Int32))])) st8 ?_
      refine own_st (T' := T8) (g' := (mkF m 84 #[.val (.int i), .val (.int j), .val (.int (0 : Int32)), .val (.int (1 : Int32)), .val (.ref a_CONTRACTOR), .val (.ref a_ADMINISTRATOR), .val (.int (0 : Int32))] [(.int (0 : Int32)), (.int (0 : Int32))])) (fun _ k => XS.iload X8.here hx rfl (hb hby at_82) rfl k) ?_
      refine own_st (T' := T8) (g' := (mkF m 87 #[.val (.int i), .val (.int j), .val (.int (0 : Int32)), .val (.int (1 : Int32)), .val (.ref a_CONTRACTOR), .val (.ref a_ADMINISTRATOR), .val (.int (0 : Int32))] [])) (fun _ k => XS.icmpNo X8.here hx rfl (hb hby at_84) rfl (by decide) k) ?_
      refine own_st (T' := T8) (g' := (mkF m 88 #[.val (.int i), .val (.int j), .val (.int (0 : Int32)), .val (.int (1 : Int32)), .val (.ref a_CONTRACTOR), .val (.ref a_ADMINISTRATOR), .val (.int (0 : Int32))] [(.int (1 : Int32))])) (fun _ k => XS.iconst X8.here hx rfl (hb hby at_87) k) ?_
      refine own_st (T' := T8) (g' := (mkF m 92 #[.val (.int i), .val (.int j), .val (.int (0 : Int32)), .val (.int (1 : Int32)), .val (.ref a_CONTRACTOR), .val (.ref a_ADMINISTRATOR), .val (.int (0 : Int32))] [(.int (1 : Int32))])) (fun _ k => XS.goto X8.here hx rfl (pc0 := 88) (pc' := 92) rfl (hb hby at_88) (by decide) (by decide) k) ?_
      exact own_ret X8 hx hlk hret rfl (Or.inl ⟨rfl, Or.inr (Or.inl rfl), _, rfl⟩) (hb hby at_92) (by decide) (by decide) ⟨rfl, rfl, e8⟩
  ·
    refine own_st (T' := T0) (g' := (mkF m 6 #[.val (.int i), .val (.int j), .unset, .unset, .unset, .unset, .unset] [])) (fun _ k => XS.ifNo X0.here hx rfl (hb hby at_3) rfl ((if0 _ _).trans (feq hc3_1).1) k) ?_
    refine own_st (T' := T0) (g' := (mkF m 7 #[.val (.int i), .val (.int j), .unset, .unset, .unset, .unset, .unset] [(.int (1 : Int32))])) (fun _ k => XS.iconst X0.here hx rfl (hb hby at_6) k) ?_
    refine own_st (T' := T0) (g' := (mkF m 11 #[.val (.int i), .val (.int j), .unset, .unset, .unset, .unset, .unset] [(.int (1 : Int32))])) (fun _ k => XS.goto X0.here hx rfl (pc0 := 7) (pc' := 11) rfl (hb hby at_7) (by decide) (by decide) k) ?_
    refine own_st (T' := T0) (g' := (mkF m 12 #[.val (.int i), .val (.int j), .val (.int (1 : Int32)), .unset, .unset, .unset, .unset] [])) (fun _ k => XS.istoreN X0.here hx rfl (hb hby at_11) rfl (l' := #[.val (.int i), .val (.int j), .val (.int (1 : Int32)), .unset, .unset, .unset, .unset]) rfl k) ?_
    refine own_st (T' := T0) (g' := (mkF m 13 #[.val (.int i), .val (.int j), .val (.int (1 : Int32)), .unset, .unset, .unset, .unset] [(.int j)])) (fun _ k => XS.iloadN X0.here hx rfl (hb hby at_12) rfl k) ?_
    refine own_st (T' := T0) (g' := (mkF m 14 #[.val (.int i), .val (.int j), .val (.int (1 : Int32)), .unset, .unset, .unset, .unset] [(.int (1 : Int32)), (.int j)])) (fun _ k => XS.iconst X0.here hx rfl (hb hby at_13) k) ?_
    refine own_st (T' := T0) (g' := (mkF m 15 #[.val (.int i), .val (.int j), .val (.int (1 : Int32)), .unset, .unset, .unset, .unset] [(.int (j &&& (1 : Int32)))])) (fun _ k => XS.iand X0.here hx rfl (hb hby at_14) rfl k) ?_
    by_cases hc15_9 : (j &&& (1 : Int32)) = (0 : Int32)
    ·
      refine own_st (T' := T0) (g' := (mkF m 22 #[.val (.int i), .val (.int j), .val (.int (1 : Int32)), .unset, .unset, .unset, .unset] [])) (fun _ k => XS.ifYes X0.here hx rfl (pc0 := 15) (pc' := 22) rfl (hb hby at_15) rfl ((if0 _ _).trans (teq hc15_9).1) (by decide) (by decide) k) ?_
      refine own_st (T' := T0) (g' := (mkF m 23 #[.val (.int i), .val (.int j), .val (.int (1 : Int32)), .unset, .unset, .unset, .unset] [(.int (0 : Int32))])) (fun _ k => XS.iconst X0.here hx rfl (hb hby at_22) k) ?_
      refine own_st (T' := T0) (g' := (mkF m 24 #[.val (.int i), .val (.int j), .val (.int (1 : Int32)), .val (.int (0 : Int32)), .unset, .unset, .unset] [])) (fun _ k => XS.istoreN X0.here hx rfl (hb hby at_23) rfl (l' := #[.val (.int i), .val (.int j), .val (.int (1 : Int32)), .val (.int (0 : Int32)), .unset, .unset, .unset]) rfl k) ?_
      refine own_st (T' := T0) (g' := (mkF m 25 #[.val (.int i), .val (.int j), .val (.int (1 : Int32)), .val (.int (0 : Int32)), .unset, .unset, .unset] [(.int (1 : Int32))])) (fun _ k => XS.iloadN X0.here hx rfl (hb hby at_24) rfl k) ?_
      refine own_st (T' := T0) (g' := (mkF m 28 #[.val (.int i), .val (.int j), .val (.int (1 : Int32)), .val (.int (0 : Int32)), .unset, .unset, .unset] [])) (fun _ k => XS.ifNo X0.here hx rfl (hb hby at_25) rfl (by decide) k) ?_
      obtain ⟨T10, X10, e10, st10⟩ := getS2 X0 hx hZ hown (host := "") (Or.inl (hw _ (List.mem_of_getElem? (i := 3) rfl))) Via.refl e0 S_ADMINISTRATOR (g := (mkF m 28 #[.val (.int i), .val (.int j), .val (.int (1 : Int32)), .val (.int (0 : Int32)), .unset, .unset, .unset] [])) rfl (hb hby at_28)
      refine own_st (T' := T10) (g' := (mkF m 31 #[.val (.int i), .val (.int j), .val (.int (1 : Int32)), .val (.int (0 : Int32)), .unset, .unset, .unset] [(.ref a_ADMINISTRATOR)])) st10 ?_
      refine own_st (T' := T10) (g' := (mkF m 37 #[.val (.int i), .val (.int j), .val (.int (1 : Int32)), .val (.int (0 : Int32)), .unset, .unset, .unset] [(.ref a_ADMINISTRATOR)])) (fun _ k => XS.goto X10.here hx rfl (pc0 := 31) (pc' := 37) rfl (hb hby at_31) (by decide) (by decide) k) ?_
      refine own_st (T' := T10) (g' := (mkF m 39 #[.val (.int i), .val (.int j), .val (.int (1 : Int32)), .val (.int (0 : Int32)), .val (.ref a_ADMINISTRATOR), .unset, .unset] [])) (fun _ k => XS.astore X10.here hx rfl (hb hby at_37) rfl rfl (l' := #[.val (.int i), .val (.int j), .val (.int (1 : Int32)), .val (.int (0 : Int32)), .val (.ref a_ADMINISTRATOR), .unset, .unset]) rfl k) ?_
      refine own_st (T' := T10) (g' := (mkF m 40 #[.val (.int i), .val (.int j), .val (.int (1 : Int32)), .val (.int (0 : Int32)), .val (.ref a_ADMINISTRATOR), .unset, .unset] [(.int (0 : Int32))])) (fun _ k => XS.iloadN X10.here hx rfl (hb hby at_39) rfl k) ?_
      refine own_st (T' := T10) (g' := (mkF m 49 #[.val (.int i), .val (.int j), .val (.int (1 : Int32)), .val (.int (0 : Int32)), .val (.ref a_ADMINISTRATOR), .unset, .unset] [])) (fun _ k => XS.ifYes X10.here hx rfl (pc0 := 40) (pc' := 49) rfl (hb hby at_40) rfl (by decide) (by decide) (by decide) k) ?_
      obtain ⟨T11, X11, e11, st11⟩ := getS2 X10 hx hZ hown (host := "") (Or.inl (hw _ (List.mem_of_getElem? (i := 0) rfl))) Via.refl e10 S_CONTRACTOR (g := (mkF m 49 #[.val (.int i), .val (.int j), .val (.int (1 : Int32)), .val (.int (0 : Int32)), .val (.ref a_ADMINISTRATOR), .unset, .unset] [])) rfl (hb hby at_49)
      refine own_st (T' := T11) (g' := (mkF m 52 #[.val (.int i), .val (.int j), .val (.int (1 : Int32)), .val (.int (0 : Int32)), .val (.ref a_ADMINISTRATOR), .unset, .unset] [(.ref a_CONTRACTOR)])) st11 ?_
      refine own_st (T' := T11) (g' := (mkF m 54 #[.val (.int i), .val (.int j), .val (.int (1 : Int32)), .val (.int (0 : Int32)), .val (.ref a_ADMINISTRATOR), .val (.ref a_CONTRACTOR), .unset] [])) (fun _ k => XS.astore X11.here hx rfl (hb hby at_52) rfl rfl (l' := #[.val (.int i), .val (.int j), .val (.int (1 : Int32)), .val (.int (0 : Int32)), .val (.ref a_ADMINISTRATOR), .val (.ref a_CONTRACTOR), .unset]) rfl k) ?_
      refine own_st (T' := T11) (g' := (mkF m 55 #[.val (.int i), .val (.int j), .val (.int (1 : Int32)), .val (.int (0 : Int32)), .val (.ref a_ADMINISTRATOR), .val (.ref a_CONTRACTOR), .unset] [(.int (1 : Int32))])) (fun _ k => XS.iloadN X11.here hx rfl (hb hby at_54) rfl k) ?_
      refine own_st (T' := T11) (g' := (mkF m 58 #[.val (.int i), .val (.int j), .val (.int (1 : Int32)), .val (.int (0 : Int32)), .val (.ref a_ADMINISTRATOR), .val (.ref a_CONTRACTOR), .unset] [])) (fun _ k => XS.ifNo X11.here hx rfl (hb hby at_55) rfl (by decide) k) ?_
      refine own_st (T' := T11) (g' := (mkF m 59 #[.val (.int i), .val (.int j), .val (.int (1 : Int32)), .val (.int (0 : Int32)), .val (.ref a_ADMINISTRATOR), .val (.ref a_CONTRACTOR), .unset] [(.int (1 : Int32))])) (fun _ k => XS.iconst X11.here hx rfl (hb hby at_58) k) ?_
      refine own_st (T' := T11) (g' := (mkF m 61 #[.val (.int i), .val (.int j), .val (.int (1 : Int32)), .val (.int (0 : Int32)), .val (.ref a_ADMINISTRATOR), .val (.ref a_CONTRACTOR), .val (.int (1 : Int32))] [])) (fun _ k => XS.istore X11.here hx rfl (hb hby at_59) rfl (l' := #[.val (.int i), .val (.int j), .val (.int (1 : Int32)), .val (.int (0 : Int32)), .val (.ref a_ADMINISTRATOR), .val (.ref a_CONTRACTOR), .val (.int (1 : Int32))]) rfl k) ?_
      refine own_st (T' := T11) (g' := (mkF m 75 #[.val (.int i), .val (.int j), .val (.int (1 : Int32)), .val (.int (0 : Int32)), .val (.ref a_ADMINISTRATOR), .val (.ref a_CONTRACTOR), .val (.int (1 : Int32))] [])) (fun _ k => XS.goto X11.here hx rfl (pc0 := 61) (pc' := 75) rfl (hb hby at_61) (by decide) (by decide) k) ?_
      refine own_st (T' := T11) (g' := (mkF m 77 #[.val (.int i), .val (.int j), .val (.int (1 : Int32)), .val (.int (0 : Int32)), .val (.ref a_ADMINISTRATOR), .val (.ref a_CONTRACTOR), .val (.int (1 : Int32))] [(.ref a_ADMINISTRATOR)])) (fun _ k => XS.aload X11.here hx rfl (hb hby at_75) rfl rfl k) ?_
      refine own_st (T' := T11) (g' := (mkF m 79 #[.val (.int i), .val (.int j), .val (.int (1 : Int32)), .val (.int (0 : Int32)), .val (.ref a_ADMINISTRATOR), .val (.ref a_CONTRACTOR), .val (.int (1 : Int32))] [(.ref a_CONTRACTOR), (.ref a_ADMINISTRATOR)])) (fun _ k => XS.aload X11.here hx rfl (hb hby at_77) rfl rfl k) ?_
      obtain ⟨T12, X12, e12, st12⟩ := own_pure (w := (.int (1 : Int32))) rfl rfl (own_gV X11 hx hZ hown (hw _ (List.mem_of_getElem? (i := 5) rfl)) (hw _ (List.mem_of_getElem? (i := 6) rfl)) (notFace_of_selects (args := #[]) (mvT hZ (hw _ (List.mem_of_getElem? (i := 8) rfl)))) (hw _ (List.mem_of_getElem? (i := 8) rfl)) (hw _ (List.mem_of_getElem? (i := 7) rfl)) (hw _ (List.mem_of_getElem? (i := 1) rfl)) (hw _ (List.mem_of_getElem? (i := 9) rfl)) (by decide) e11 E_ADMINISTRATOR (own_includes_2 l Z a0 hw h0 a_CONTRACTOR a_ADMINISTRATOR S_CONTRACTOR S_ADMINISTRATOR E_CONTRACTOR E_ADMINISTRATOR F_CONTRACTOR_ordinal F_ADMINISTRATOR_ordinal) (by decide) (by decide) (by decide) (by decide) (Q := fun v h L => v = some (.int (1 : Int32)) ∧ L = [] ∧ h = h0) (W := 0) (g := (mkF m 79 #[.val (.int i), .val (.int j), .val (.int (1 : Int32)), .val (.int (0 : Int32)), .val (.ref a_ADMINISTRATOR), .val (.ref a_CONTRACTOR), .val (.int (1 : Int32))] [(.ref a_CONTRACTOR), (.ref a_ADMINISTRATOR)])) (argsL := [(.ref a_CONTRACTOR)]) (rest := []) rfl (by rw [hml]; rfl) (lenOf own_pd_0 rfl) rfl (by show 2 * 0 + _ ≤ _; exact Nat.le_of_eq rfl) (hb hby at_79))
      refine own_st (T' := T12) (g' := (mkF m 82 #[.val (.int i), .val (.int j), .val (.int (1 : Int32)), .val (.int (0 : Int32)), .val (.ref a_ADMINISTRATOR), .val (.ref a_CONTRACTOR), .val (.int (1 : Int32))] [(.int (1 : Int32))])) st12 ?_
      refine own_st (T' := T12) (g' := (mkF m 84 #[.val (.int i), .val (.int j), .val (.int (1 : Int32)), .val (.int (0 : Int32)), .val (.ref a_ADMINISTRATOR), .val (.ref a_CONTRACTOR), .val (.int (1 : Int32))] [(.int (1 : Int32)), (.int (1 : Int32))])) (fun _ k => XS.iload X12.here hx rfl (hb hby at_82) rfl k) ?_
      refine own_st (T' := T12) (g' := (mkF m 87 #[.val (.int i), .val (.int j), .val (.int (1 : Int32)), .val (.int (0 : Int32)), .val (.ref a_ADMINISTRATOR), .val (.ref a_CONTRACTOR), .val (.int (1 : Int32))] [])) (fun _ k => XS.icmpNo X12.here hx rfl (hb hby at_84) rfl (by decide) k) ?_
      refine own_st (T' := T12) (g' := (mkF m 88 #[.val (.int i), .val (.int j), .val (.int (1 : Int32)), .val (.int (0 : Int32)), .val (.ref a_ADMINISTRATOR), .val (.ref a_CONTRACTOR), .val (.int (1 : Int32))] [(.int (1 : Int32))])) (fun _ k => XS.iconst X12.here hx rfl (hb hby at_87) k) ?_
      refine own_st (T' := T12) (g' := (mkF m 92 #[.val (.int i), .val (.int j), .val (.int (1 : Int32)), .val (.int (0 : Int32)), .val (.ref a_ADMINISTRATOR), .val (.ref a_CONTRACTOR), .val (.int (1 : Int32))] [(.int (1 : Int32))])) (fun _ k => XS.goto X12.here hx rfl (pc0 := 88) (pc' := 92) rfl (hb hby at_88) (by decide) (by decide) k) ?_
      exact own_ret X12 hx hlk hret rfl (Or.inl ⟨rfl, Or.inr (Or.inl rfl), _, rfl⟩) (hb hby at_92) (by decide) (by decide) ⟨rfl, rfl, e12⟩
    ·
      refine own_st (T' := T0) (g' := (mkF m 18 #[.val (.int i), .val (.int j), .val (.int (1 : Int32)), .unset, .unset, .unset, .unset] [])) (fun _ k => XS.ifNo X0.here hx rfl (hb hby at_15) rfl ((if0 _ _).trans (feq hc15_9).1) k) ?_
      refine own_st (T' := T0) (g' := (mkF m 19 #[.val (.int i), .val (.int j), .val (.int (1 : Int32)), .unset, .unset, .unset, .unset] [(.int (1 : Int32))])) (fun _ k => XS.iconst X0.here hx rfl (hb hby at_18) k) ?_
      refine own_st (T' := T0) (g' := (mkF m 23 #[.val (.int i), .val (.int j), .val (.int (1 : Int32)), .unset, .unset, .unset, .unset] [(.int (1 : Int32))])) (fun _ k => XS.goto X0.here hx rfl (pc0 := 19) (pc' := 23) rfl (hb hby at_19) (by decide) (by decide) k) ?_
      refine own_st (T' := T0) (g' := (mkF m 24 #[.val (.int i), .val (.int j), .val (.int (1 : Int32)), .val (.int (1 : Int32)), .unset, .unset, .unset] [])) (fun _ k => XS.istoreN X0.here hx rfl (hb hby at_23) rfl (l' := #[.val (.int i), .val (.int j), .val (.int (1 : Int32)), .val (.int (1 : Int32)), .unset, .unset, .unset]) rfl k) ?_
      refine own_st (T' := T0) (g' := (mkF m 25 #[.val (.int i), .val (.int j), .val (.int (1 : Int32)), .val (.int (1 : Int32)), .unset, .unset, .unset] [(.int (1 : Int32))])) (fun _ k => XS.iloadN X0.here hx rfl (hb hby at_24) rfl k) ?_
      refine own_st (T' := T0) (g' := (mkF m 28 #[.val (.int i), .val (.int j), .val (.int (1 : Int32)), .val (.int (1 : Int32)), .unset, .unset, .unset] [])) (fun _ k => XS.ifNo X0.here hx rfl (hb hby at_25) rfl (by decide) k) ?_
      obtain ⟨T13, X13, e13, st13⟩ := getS2 X0 hx hZ hown (host := "") (Or.inl (hw _ (List.mem_of_getElem? (i := 3) rfl))) Via.refl e0 S_ADMINISTRATOR (g := (mkF m 28 #[.val (.int i), .val (.int j), .val (.int (1 : Int32)), .val (.int (1 : Int32)), .unset, .unset, .unset] [])) rfl (hb hby at_28)
      refine own_st (T' := T13) (g' := (mkF m 31 #[.val (.int i), .val (.int j), .val (.int (1 : Int32)), .val (.int (1 : Int32)), .unset, .unset, .unset] [(.ref a_ADMINISTRATOR)])) st13 ?_
      refine own_st (T' := T13) (g' := (mkF m 37 #[.val (.int i), .val (.int j), .val (.int (1 : Int32)), .val (.int (1 : Int32)), .unset, .unset, .unset] [(.ref a_ADMINISTRATOR)])) (fun _ k => XS.goto X13.here hx rfl (pc0 := 31) (pc' := 37) rfl (hb hby at_31) (by decide) (by decide) k) ?_
      refine own_st (T' := T13) (g' := (mkF m 39 #[.val (.int i), .val (.int j), .val (.int (1 : Int32)), .val (.int (1 : Int32)), .val (.ref a_ADMINISTRATOR), .unset, .unset] [])) (fun _ k => XS.astore X13.here hx rfl (hb hby at_37) rfl rfl (l' := #[.val (.int i), .val (.int j), .val (.int (1 : Int32)), .val (.int (1 : Int32)), .val (.ref a_ADMINISTRATOR), .unset, .unset]) rfl k) ?_
      refine own_st (T' := T13) (g' := (mkF m 40 #[.val (.int i), .val (.int j), .val (.int (1 : Int32)), .val (.int (1 : Int32)), .val (.ref a_ADMINISTRATOR), .unset, .unset] [(.int (1 : Int32))])) (fun _ k => XS.iloadN X13.here hx rfl (hb hby at_39) rfl k) ?_
      refine own_st (T' := T13) (g' := (mkF m 43 #[.val (.int i), .val (.int j), .val (.int (1 : Int32)), .val (.int (1 : Int32)), .val (.ref a_ADMINISTRATOR), .unset, .unset] [])) (fun _ k => XS.ifNo X13.here hx rfl (hb hby at_40) rfl (by decide) k) ?_
      obtain ⟨T14, X14, e14, st14⟩ := getS2 X13 hx hZ hown (host := "") (Or.inl (hw _ (List.mem_of_getElem? (i := 3) rfl))) Via.refl e13 S_ADMINISTRATOR (g := (mkF m 43 #[.val (.int i), .val (.int j), .val (.int (1 : Int32)), .val (.int (1 : Int32)), .val (.ref a_ADMINISTRATOR), .unset, .unset] [])) rfl (hb hby at_43)
      refine own_st (T' := T14) (g' := (mkF m 46 #[.val (.int i), .val (.int j), .val (.int (1 : Int32)), .val (.int (1 : Int32)), .val (.ref a_ADMINISTRATOR), .unset, .unset] [(.ref a_ADMINISTRATOR)])) st14 ?_
      refine own_st (T' := T14) (g' := (mkF m 52 #[.val (.int i), .val (.int j), .val (.int (1 : Int32)), .val (.int (1 : Int32)), .val (.ref a_ADMINISTRATOR), .unset, .unset] [(.ref a_ADMINISTRATOR)])) (fun _ k => XS.goto X14.here hx rfl (pc0 := 46) (pc' := 52) rfl (hb hby at_46) (by decide) (by decide) k) ?_
      refine own_st (T' := T14) (g' := (mkF m 54 #[.val (.int i), .val (.int j), .val (.int (1 : Int32)), .val (.int (1 : Int32)), .val (.ref a_ADMINISTRATOR), .val (.ref a_ADMINISTRATOR), .unset] [])) (fun _ k => XS.astore X14.here hx rfl (hb hby at_52) rfl rfl (l' := #[.val (.int i), .val (.int j), .val (.int (1 : Int32)), .val (.int (1 : Int32)), .val (.ref a_ADMINISTRATOR), .val (.ref a_ADMINISTRATOR), .unset]) rfl k) ?_
      refine own_st (T' := T14) (g' := (mkF m 55 #[.val (.int i), .val (.int j), .val (.int (1 : Int32)), .val (.int (1 : Int32)), .val (.ref a_ADMINISTRATOR), .val (.ref a_ADMINISTRATOR), .unset] [(.int (1 : Int32))])) (fun _ k => XS.iloadN X14.here hx rfl (hb hby at_54) rfl k) ?_
      refine own_st (T' := T14) (g' := (mkF m 58 #[.val (.int i), .val (.int j), .val (.int (1 : Int32)), .val (.int (1 : Int32)), .val (.ref a_ADMINISTRATOR), .val (.ref a_ADMINISTRATOR), .unset] [])) (fun _ k => XS.ifNo X14.here hx rfl (hb hby at_55) rfl (by decide) k) ?_
      refine own_st (T' := T14) (g' := (mkF m 59 #[.val (.int i), .val (.int j), .val (.int (1 : Int32)), .val (.int (1 : Int32)), .val (.ref a_ADMINISTRATOR), .val (.ref a_ADMINISTRATOR), .unset] [(.int (1 : Int32))])) (fun _ k => XS.iconst X14.here hx rfl (hb hby at_58) k) ?_
      refine own_st (T' := T14) (g' := (mkF m 61 #[.val (.int i), .val (.int j), .val (.int (1 : Int32)), .val (.int (1 : Int32)), .val (.ref a_ADMINISTRATOR), .val (.ref a_ADMINISTRATOR), .val (.int (1 : Int32))] [])) (fun _ k => XS.istore X14.here hx rfl (hb hby at_59) rfl (l' := #[.val (.int i), .val (.int j), .val (.int (1 : Int32)), .val (.int (1 : Int32)), .val (.ref a_ADMINISTRATOR), .val (.ref a_ADMINISTRATOR), .val (.int (1 : Int32))]) rfl k) ?_
      refine own_st (T' := T14) (g' := (mkF m 75 #[.val (.int i), .val (.int j), .val (.int (1 : Int32)), .val (.int (1 : Int32)), .val (.ref a_ADMINISTRATOR), .val (.ref a_ADMINISTRATOR), .val (.int (1 : Int32))] [])) (fun _ k => XS.goto X14.here hx rfl (pc0 := 61) (pc' := 75) rfl (hb hby at_61) (by decide) (by decide) k) ?_
      refine own_st (T' := T14) (g' := (mkF m 77 #[.val (.int i), .val (.int j), .val (.int (1 : Int32)), .val (.int (1 : Int32)), .val (.ref a_ADMINISTRATOR), .val (.ref a_ADMINISTRATOR), .val (.int (1 : Int32))] [(.ref a_ADMINISTRATOR)])) (fun _ k => XS.aload X14.here hx rfl (hb hby at_75) rfl rfl k) ?_
      refine own_st (T' := T14) (g' := (mkF m 79 #[.val (.int i), .val (.int j), .val (.int (1 : Int32)), .val (.int (1 : Int32)), .val (.ref a_ADMINISTRATOR), .val (.ref a_ADMINISTRATOR), .val (.int (1 : Int32))] [(.ref a_ADMINISTRATOR), (.ref a_ADMINISTRATOR)])) (fun _ k => XS.aload X14.here hx rfl (hb hby at_77) rfl rfl k) ?_
      obtain ⟨T15, X15, e15, st15⟩ := own_pure (w := (.int (1 : Int32))) rfl rfl (own_gV X14 hx hZ hown (hw _ (List.mem_of_getElem? (i := 5) rfl)) (hw _ (List.mem_of_getElem? (i := 6) rfl)) (notFace_of_selects (args := #[]) (mvT hZ (hw _ (List.mem_of_getElem? (i := 8) rfl)))) (hw _ (List.mem_of_getElem? (i := 8) rfl)) (hw _ (List.mem_of_getElem? (i := 7) rfl)) (hw _ (List.mem_of_getElem? (i := 1) rfl)) (hw _ (List.mem_of_getElem? (i := 9) rfl)) (by decide) e14 E_ADMINISTRATOR (own_includes_3 l Z a0 hw h0 a_CONTRACTOR a_ADMINISTRATOR S_CONTRACTOR S_ADMINISTRATOR E_CONTRACTOR E_ADMINISTRATOR F_CONTRACTOR_ordinal F_ADMINISTRATOR_ordinal) (by decide) (by decide) (by decide) (by decide) (Q := fun v h L => v = some (.int (1 : Int32)) ∧ L = [] ∧ h = h0) (W := 0) (g := (mkF m 79 #[.val (.int i), .val (.int j), .val (.int (1 : Int32)), .val (.int (1 : Int32)), .val (.ref a_ADMINISTRATOR), .val (.ref a_ADMINISTRATOR), .val (.int (1 : Int32))] [(.ref a_ADMINISTRATOR), (.ref a_ADMINISTRATOR)])) (argsL := [(.ref a_ADMINISTRATOR)]) (rest := []) rfl (by rw [hml]; rfl) (lenOf own_pd_0 rfl) rfl (by show 2 * 0 + _ ≤ _; exact Nat.le_of_eq rfl) (hb hby at_79))
      refine own_st (T' := T15) (g' := (mkF m 82 #[.val (.int i), .val (.int j), .val (.int (1 : Int32)), .val (.int (1 : Int32)), .val (.ref a_ADMINISTRATOR), .val (.ref a_ADMINISTRATOR), .val (.int (1 : Int32))] [(.int (1 : Int32))])) st15 ?_
      refine own_st (T' := T15) (g' := (mkF m 84 #[.val (.int i), .val (.int j), .val (.int (1 : Int32)), .val (.int (1 : Int32)), .val (.ref a_ADMINISTRATOR), .val (.ref a_ADMINISTRATOR), .val (.int (1 : Int32))] [(.int (1 : Int32)), (.int (1 : Int32))])) (fun _ k => XS.iload X15.here hx rfl (hb hby at_82) rfl k) ?_
      refine own_st (T' := T15) (g' := (mkF m 87 #[.val (.int i), .val (.int j), .val (.int (1 : Int32)), .val (.int (1 : Int32)), .val (.ref a_ADMINISTRATOR), .val (.ref a_ADMINISTRATOR), .val (.int (1 : Int32))] [])) (fun _ k => XS.icmpNo X15.here hx rfl (hb hby at_84) rfl (by decide) k) ?_
      refine own_st (T' := T15) (g' := (mkF m 88 #[.val (.int i), .val (.int j), .val (.int (1 : Int32)), .val (.int (1 : Int32)), .val (.ref a_ADMINISTRATOR), .val (.ref a_ADMINISTRATOR), .val (.int (1 : Int32))] [(.int (1 : Int32))])) (fun _ k => XS.iconst X15.here hx rfl (hb hby at_87) k) ?_
      refine own_st (T' := T15) (g' := (mkF m 92 #[.val (.int i), .val (.int j), .val (.int (1 : Int32)), .val (.int (1 : Int32)), .val (.ref a_ADMINISTRATOR), .val (.ref a_ADMINISTRATOR), .val (.int (1 : Int32))] [(.int (1 : Int32))])) (fun _ k => XS.goto X15.here hx rfl (pc0 := 88) (pc' := 92) rfl (hb hby at_88) (by decide) (by decide) k) ?_
      exact own_ret X15 hx hlk hret rfl (Or.inl ⟨rfl, Or.inr (Or.inl rfl), _, rfl⟩) (hb hby at_92) (by decide) (by decide) ⟨rfl, rfl, e15⟩
/-! ### from the case's words to the owed theorems -/
theorem own_comes (H : ∀ (l : Launch) (s : State) (args : Array Value), Fit s → (∀ d ∈ tables_1, d.before args s = true) → given_1.value args s none s [] = some true → narrow_1.value args s none s [] = some true → own_Met l s s.heap tables_1 room_1 x code maxLocals ret args (fun v h L => v = some (.int 1) ∧ Fr s.heap.size L))
    {Post : Tables → Env → Array Value → State → Outcome → State → Prop} (hpost : ∀ tb e args s v u, (limb_1_1.after args s (.returned v) u = true ∧ limb_1_2.after args s (.returned v) u = true) → FrameEnd s (.returned v) u (Jvm.fieldLocs frame_1_writes args s ++ Jvm.arrayLocs frame_1_arrays args s ++ Jvm.staticLocs frame_1_statics s) 0 0 → Post tb e args s (.returned v) u) :
    ArmFor flags0 classFile x code maxLocals ret World_1 tables_1 room_1 Calls_1 rest_1 Pre_1 Post := by
  intro l hfl _ _ p e ha hc hk s m args below hf hA hF happ hP
  obtain ⟨hcalls, hrest, hpre⟩ := hP
  obtain ⟨-, -, -, hnamed, -, -, -, hat⟩ := (Spec.applies_iff hf).mp happ
  obtain ⟨hg, hn⟩ := and_e (Cond.before_iff.mp (show (Jvm.Cond.and given_1 narrow_1).before args s = true from hpre))
  have hw := fun d (hd : d ∈ tables_1) => atoms_spec (ws := Jvm.Cond.code x code maxLocals ret :: tables_1) hat d (List.mem_cons_of_mem _ hd)
  have hfit : Fit s := fun {y c} hc i hi => by
    obtain ⟨ha, rfl⟩ := Array.getElem?_eq_some_iff.mp hc
    have q := List.all_eq_true.mp ((Array.all_eq_true_iff_forall_mem.mp hF) _ (Array.getElem_mem ha)) i (List.mem_range.mpr hi)
    simpa [Array.getElem?_eq_getElem hi] using q
  obtain ⟨n, o, h1, h2, h3, _, L, rfl, ⟨rfl, N⟩, hq⟩ := H l s args hfit hw hg hn p e ha hc hk s m args below hf ((Spec.applies_iff_loose hf).mp happ).1 ⟨rfl, State.Warmed39.refl s, rfl⟩ trivial
  exact ⟨n, _, h1, h2, h3, hpost _ _ _ _ _ _ ⟨Cond.after_iff.mpr rfl, Cond.after_iff.mpr (eq_i res_at (Term.int_eval (1)) rfl)⟩ ⟨hq.1, hq.2.1, (hq.2.2.sift fun y hy => Or.inr (N y hy)).mono (by decide) (by decide)⟩⟩
set_option maxRecDepth 65536 in
theorem own_law (l : Launch) (s : State) (args : Array Value) (hfit : Fit s) (hw : ∀ d ∈ tables_1, d.before args s = true) (hg : given_1.value args s none s [] = some true) (hn : narrow_1.value args s none s [] = some true) :
    own_Met l s s.heap tables_1 room_1 x code maxLocals ret args (fun v h L => v = some (.int 1) ∧ Fr s.heap.size L) := by
  obtain ⟨i, j, rfl⟩ := own_args2 (k := 0) hg
  obtain ⟨n0a, n0b⟩ := and_e hn
  obtain ⟨n1a, n1b⟩ := and_e n0b
  obtain ⟨n2a, n2b⟩ := and_e n1b
  obtain ⟨a_CONTRACTOR, V_CONTRACTOR, E_CONTRACTOR, S_CONTRACTOR⟩ := own_sx n0a (hw _ (List.mem_of_getElem? (i := 1) rfl)) (hw _ (List.mem_of_getElem? (i := 2) rfl))
  obtain ⟨a_ADMINISTRATOR, V_ADMINISTRATOR, E_ADMINISTRATOR, S_ADMINISTRATOR⟩ := own_sx n1a (hw _ (List.mem_of_getElem? (i := 1) rfl)) (hw _ (List.mem_of_getElem? (i := 4) rfl))
  have F_CONTRACTOR_ordinal := own_fi V_CONTRACTOR n2a
  have F_ADMINISTRATOR_ordinal := own_fi V_ADMINISTRATOR n2b
  exact own_weaken (own_lawP l s _ hw s.heap a_CONTRACTOR a_ADMINISTRATOR S_CONTRACTOR S_ADMINISTRATOR E_CONTRACTOR E_ADMINISTRATOR F_CONTRACTOR_ordinal F_ADMINISTRATOR_ordinal i j)
theorem main_1_1 : Claimed_1_1 := own_comes own_law fun _ _ _ _ _ _ h hF => ⟨h.1, hF⟩
theorem main_1_2 : Claimed_1_2 := own_comes own_law fun _ _ _ _ _ _ h hF => ⟨h.2, hF⟩
end Jvm.Pilot.@@N@@
namespace Jvm.Pilot.@@N@@
open Jvm Jvm.ClassFile Sem Op Lib Jvm.Free Jvm.Stand Jvm.Pilot.@@N@@.Jvm.D
/-! MADE BY PROGRAM (witnessworld.py) out of the Statement's table words and the real class files: 12 classes; the members and pool entries that the words name. The judged class is class 1, her method 1. -/
namespace start1
open Jvm.ClassFile
def u (s : String) : CpInfo := .utf8 (stringToUtf16 s)
/-- a pool by its gaps: so many unusable entries, then the entry; so many at the end -/
def gap : Nat → List CpInfo → List CpInfo
  | 0, r => r
  | n + 1, r => .unusable :: gap n r
def poolList (es : List (Nat × CpInfo)) (last : Nat) : List CpInfo := es.foldr (fun e r => gap e.1 (e.2 :: r)) (gap last [])
def pool (es : List (Nat × CpInfo)) (last : Nat) : Array CpInfo := ⟨poolList es last⟩
def fileOf (pool : Array CpInfo) (this : Nat) (attrs : Array Attribute := #[]) (ms : Array MethodInfo := #[]) (fl : Nat := 33) (sup : Nat := 0) (ifs : Array Nat := #[]) (fds : Array FieldInfo := #[]) : ClassFile where
  minorVersion := 0
  majorVersion := 65
  constantPool := pool
  accessFlags := fl
  thisClass := this
  superClass := sup
  interfaces := ifs
  fields := fds
  methods := ms
  attributes := attrs
def plain (name : String) (sup : Option ClassId) : Class where
  name := name
  kind := .ordinary
  loader := none
  accessFlags := 33
  super := sup
  interfaces := #[]
  cf := none
  fields := #[]
  methods := #[]
  instanceTypes := #[]
  staticTypes := #[]
  resolved := #[]
  callSites := []
  init := .initialized
  statics := none
  mirror := none

def pool0 : Array CpInfo := pool [(5, u "<init>"), (0, u "()V"), (1, .class_ 10), (1, u "java/lang/Object")] 113

def k0m0 : Method := { name := "<init>", desc := "()V", sig := { parameters := [], returnType := none }, accessFlags := 1, code := none }
/-- java/lang/Object -/
def k0 : Class := { plain "java/lang/Object" none with
  accessFlags := 33
  interfaces := #[]
  cf := some (fileOf pool0 8 #[] #[{ accessFlags := 1, nameIndex := 5, descriptorIndex := 6, attributes := #[] }] 33 0 #[] #[])
  fields := #[]
  methods := #[k0m0]
  instanceTypes := #[]
  staticTypes := #[]
  resolved := Array.replicate 124 none
  statics := none }

def pool1 : Array CpInfo := pool [(2, .class_ 4), (1, u "java/lang/Object"), (0, u "<init>"), (0, u "()V"), (0, .fieldref 8 9), (0, .class_ 10), (0, .nameAndType 11 12), (0, u "com/example/megablock/megablock/service/Credential$ERole"), (0, u "ADMINISTRATOR"), (0, u "Lcom/example/megablock/megablock/service/Credential$ERole;"), (0, .fieldref 8 14), (0, .nameAndType 15 12), (0, u "CONTRACTOR"), (0, .methodref 8 17), (0, .nameAndType 18 19), (0, u "includes"), (0, u "(Lcom/example/megablock/megablock/service/Credential$ERole;)Z"), (0, .class_ 21), (0, u "com/example/megablock/megablock/service/ERoleIncludesPinLaw"), (2, u "law"), (0, u "(II)Z")] 7

def k1m0 : Method := { name := "<init>", desc := "()V", sig := { parameters := [], returnType := none }, accessFlags := 1, code := none }
def k1c1 : Code := { maxStack := 2, maxLocals := 7, code := code, exceptionTable := #[], attributes := #[] }
def k1m1 : Method := { name := "law", desc := "(II)Z", sig := { parameters := [.int, .int], returnType := some .boolean }, accessFlags := 9, code := some k1c1 }
/-- com/example/megablock/megablock/service/ERoleIncludesPinLaw -/
def k1 : Class := { plain "com/example/megablock/megablock/service/ERoleIncludesPinLaw" (some 0) with
  accessFlags := 49
  interfaces := #[]
  cf := some (fileOf pool1 20 #[] #[{ accessFlags := 1, nameIndex := 5, descriptorIndex := 6, attributes := #[] }, { accessFlags := 9, nameIndex := 24, descriptorIndex := 25, attributes := #[] }] 49 2 #[] #[])
  fields := #[]
  methods := #[k1m0, k1m1]
  instanceTypes := #[]
  staticTypes := #[]
  resolved := Array.replicate 33 none
  statics := none }

def pool2 : Array CpInfo := pool [(1, .class_ 2), (0, u "java/lang/constant/Constable"), (0, .class_ 4), (0, u "java/lang/Object")] 6

/-- java/lang/constant/Constable -/
def k2 : Class := { plain "java/lang/constant/Constable" (some 0) with
  accessFlags := 1537
  interfaces := #[]
  cf := some (fileOf pool2 1 #[] #[] 1537 3 #[] #[])
  fields := #[]
  methods := #[]
  instanceTypes := #[]
  staticTypes := #[]
  resolved := Array.replicate 11 none
  statics := none }

def pool3 : Array CpInfo := pool [(1, .class_ 2), (0, u "java/lang/Comparable"), (0, .class_ 4), (0, u "java/lang/Object")] 7

/-- java/lang/Comparable -/
def k3 : Class := { plain "java/lang/Comparable" (some 0) with
  accessFlags := 1537
  interfaces := #[]
  cf := some (fileOf pool3 1 #[] #[] 1537 3 #[] #[])
  fields := #[]
  methods := #[]
  instanceTypes := #[]
  staticTypes := #[]
  resolved := Array.replicate 12 none
  statics := none }

def pool4 : Array CpInfo := pool [(1, .class_ 2), (0, u "java/io/Serializable"), (0, .class_ 4), (0, u "java/lang/Object")] 2

/-- java/io/Serializable -/
def k4 : Class := { plain "java/io/Serializable" (some 0) with
  accessFlags := 1537
  interfaces := #[]
  cf := some (fileOf pool4 1 #[] #[] 1537 3 #[] #[])
  fields := #[]
  methods := #[]
  instanceTypes := #[]
  staticTypes := #[]
  resolved := Array.replicate 7 none
  statics := none }

def pool5 : Array CpInfo := pool [(2, .class_ 4), (1, u "java/lang/Enum"), (0, u "name"), (0, u "Ljava/lang/String;"), (2, u "ordinal"), (0, u "I"), (1, .class_ 14), (1, u "java/lang/Object"), (4, u "hash"), (86, .class_ 108), (1, u "java/lang/Enum$EnumDesc"), (2, .class_ 112), (0, u "java/lang/constant/Constable"), (0, .class_ 114), (0, u "java/lang/Comparable"), (0, .class_ 116), (0, u "java/io/Serializable")] 87

/-- java/lang/Enum -/
def k5 : Class := { plain "java/lang/Enum" (some 0) with
  accessFlags := 1057
  interfaces := #[2, 3, 4]
  cf := some (fileOf pool5 2 #[.nestMembers #[106]] #[] 1057 12 #[111, 113, 115] #[{ accessFlags := 18, nameIndex := 5, descriptorIndex := 6, attributes := #[] }, { accessFlags := 18, nameIndex := 9, descriptorIndex := 10, attributes := #[] }, { accessFlags := 2, nameIndex := 19, descriptorIndex := 10, attributes := #[] }])
  fields := #[{ name := "name", type := (.object "java/lang/String"), accessFlags := 18, slot := 0, constantValue := 0 }, { name := "ordinal", type := .int, accessFlags := 18, slot := 1, constantValue := 0 }, { name := "hash", type := .int, accessFlags := 2, slot := 2, constantValue := 0 }]
  methods := #[]
  instanceTypes := #[(.object "java/lang/String"), .int, .int]
  staticTypes := #[]
  resolved := Array.replicate 204 none
  statics := none }

def pool6 : Array CpInfo := pool [(1, .class_ 2), (0, u "com/example/megablock/megablock/service/Credential$ERole"), (2, u "CONTRACTOR"), (0, u "Lcom/example/megablock/megablock/service/Credential$ERole;"), (0, .fieldref 1 8), (0, .nameAndType 9 6), (0, u "ADMINISTRATOR"), (2, u "$VALUES"), (0, u "[Lcom/example/megablock/megablock/service/Credential$ERole;"), (6, .class_ 22), (1, u "java/lang/Enum"), (8, u "m_sName"), (0, u "Ljava/lang/String;"), (91, u "includes"), (0, u "(Lcom/example/megablock/megablock/service/Credential$ERole;)Z"), (12, .class_ 139), (0, u "com/example/megablock/megablock/service/Credential")] 41

def k6c0 : Code := { maxStack := 2, maxLocals := 2, code := prog_51_method_5_code, exceptionTable := #[], attributes := #[] }
def k6m0 : Method := { name := "includes", desc := "(Lcom/example/megablock/megablock/service/Credential$ERole;)Z", sig := { parameters := [(.object "com/example/megablock/megablock/service/Credential$ERole")], returnType := some .boolean }, accessFlags := 1, code := some k6c0 }
/-- com/example/megablock/megablock/service/Credential$ERole -/
def k6 : Class := { plain "com/example/megablock/megablock/service/Credential$ERole" (some 5) with
  accessFlags := 16433
  interfaces := #[]
  cf := some (fileOf pool6 1 #[.nestHost 138] #[{ accessFlags := 1, nameIndex := 124, descriptorIndex := 125, attributes := #[] }] 16433 20 #[] #[{ accessFlags := 16409, nameIndex := 5, descriptorIndex := 6, attributes := #[] }, { accessFlags := 16409, nameIndex := 9, descriptorIndex := 6, attributes := #[] }, { accessFlags := 18, nameIndex := 31, descriptorIndex := 32, attributes := #[] }, { accessFlags := 4122, nameIndex := 12, descriptorIndex := 13, attributes := #[] }])
  fields := #[{ name := "CONTRACTOR", type := (.object "com/example/megablock/megablock/service/Credential$ERole"), accessFlags := 16409, slot := 0, constantValue := 0 }, { name := "ADMINISTRATOR", type := (.object "com/example/megablock/megablock/service/Credential$ERole"), accessFlags := 16409, slot := 1, constantValue := 0 }, { name := "m_sName", type := (.object "java/lang/String"), accessFlags := 18, slot := 3, constantValue := 0 }, { name := "$VALUES", type := (.array (.object "com/example/megablock/megablock/service/Credential$ERole")), accessFlags := 4122, slot := 2, constantValue := 0 }]
  methods := #[k6m0]
  instanceTypes := #[(.object "java/lang/String"), .int, .int, (.object "java/lang/String")]
  staticTypes := #[(.object "com/example/megablock/megablock/service/Credential$ERole"), (.object "com/example/megablock/megablock/service/Credential$ERole"), (.array (.object "com/example/megablock/megablock/service/Credential$ERole"))]
  resolved := Array.replicate 181 none
  statics := some 0 }

def pool7 : Array CpInfo := pool [(1, u "java/lang/Cloneable"), (0, .class_ 1), (0, u "java/lang/Object"), (0, .class_ 3)] 3

/-- java/lang/Cloneable -/
def k7 : Class := { plain "java/lang/Cloneable" (some 0) with
  accessFlags := 1537
  interfaces := #[]
  cf := some (fileOf pool7 2 #[] #[] 1537 4 #[] #[])
  fields := #[]
  methods := #[]
  instanceTypes := #[]
  staticTypes := #[]
  resolved := Array.replicate 8 none
  statics := none }

/-- the primitive byte -/
def k8 : Class := { plain "byte" none with kind := .primitive 'B', accessFlags := 0x411 }
/-- [B -/
def k9 : Class := { plain "[B" (some 0) with kind := .array 8 .byte, interfaces := #[7, 4], accessFlags := 1041 }

/-- the primitive int -/
def k10 : Class := { plain "int" none with kind := .primitive 'I', accessFlags := 0x411 }
/-- [I -/
def k11 : Class := { plain "[I" (some 0) with kind := .array 10 .int, interfaces := #[7, 4], accessFlags := 1041 }

def heap : Heap := #[{ cls := 6, slots := #[.ref 1, .ref 2, .null], vm := .statics 6 },
  { cls := 6, slots := #[.null, .int 0, .int 0, .null], vm := .none },
  { cls := 6, slots := #[.null, .int 1, .int 0, .null], vm := .none }]
def classes : Array Class := #[k0, k1, k2, k3, k4, k5, k6, k7, k8, k9, k10, k11]
def interned : List (Array UInt16 × Addr) := []
def slotsUsed : Nat := 11
def theMethod : MethodId := ⟨1, 1⟩
def args0 : Array Value := #[.int 5, .int 4]
def aboutOver (below : List Frame) : State where
  vm := { classes := classes, interned := interned.toArray }
  heap := heap
  slotsUsed := slotsUsed
  threads := #[{ frames := .invoking theMethod args0 :: below }]
def below0 : List Frame := [.native { method := ⟨0, 0⟩, args := #[] }]
def about1 : State := aboutOver below0
def p0 : Program := .bare "" "" ""
def e0 : Env := launch0.env 0 0 0
theorem w_frames : about1.frames = Frame.invoking theMethod args0 :: below0 := rfl
set_option maxRecDepth 65536 in
theorem w_args : argsFit about1.vm theMethod args0 = true := by decide +kernel
set_option maxRecDepth 65536 in
theorem w_heap : heapFits about1 = true := by decide +kernel
set_option maxRecDepth 65536 in
theorem w_runnable : about1.curStatus? = some .runnable := by decide +kernel
set_option maxRecDepth 65536 in
theorem w_alone : about1.alone = true := by decide +kernel
set_option maxRecDepth 65536 in
theorem w_named : about1.methodNamed? x = some theMethod := by decide +kernel
set_option maxRecDepth 65536 in
theorem w_hears : about1.hears theMethod below0 = true := by decide +kernel
set_option maxRecDepth 65536 in
theorem w_ripe : about1.ripe theMethod args0 below0 = true := by decide +kernel
theorem w_running : about1.status = .running := rfl
set_option maxRecDepth 65536 in
theorem w_room : about1.hasRoom e0.platform room_1 = true :=
  launch0.hasRoom_least _ room_1 (by decide +kernel) (by decide +kernel) (by decide +kernel) (by decide +kernel) (by decide +kernel) (by decide +kernel)
theorem allAtoms_all (ts : List Jvm.Cond) (a : Array Jvm.Value) (st : Jvm.State) : (allAtoms ts).before a st = ts.all (fun c => c.before a st) := by
  induction ts with
  | nil => rfl
  | cons c t ih =>
    show (Jvm.Cond.and c (allAtoms t)).before a st = _
    rw [Jvm.Cond.before_and, ih, List.all_cons]
def words1 : List Jvm.Cond := Jvm.Cond.code x code maxLocals ret :: tables_1
/-- a 'code' word, met by the world's own term for the bytes: nothing is compared byte by byte -/
theorem code_word {y : MethodName} {bytes : ByteArray} {mx : Nat} {rt : Option FieldType} {a : Array Value} {s : State} {m : MethodId} {meth : Method} {c : Code} (h1 : s.methodNamed? y = some m) (h2 : s.vm.method? m = some meth) (h3 : meth.code = some c) (h4 : c.code = bytes)
    (h5 : (c.maxLocals == mx && c.exceptionTable.isEmpty && decide (c.maxStack ≤ mostOperands) && decide (meth.sig.returnType = rt) && !meth.locks && decide (parseMethodDescriptor y.desc = some meth.sig)) = true) : (Jvm.Cond.code y bytes mx rt).before a s = true := by
  simp only [Bool.and_eq_true, beq_iff_eq, Bool.not_eq_true', decide_eq_true_eq] at h5
  obtain ⟨⟨⟨⟨⟨g1, g2⟩, g3⟩, g4⟩, g5⟩, g6⟩ := h5
  simp [Cond.before, Cond.holds, Cond.value, h1, h2, h3, h4, g1, g2, g3, g4, g5, g6]
def isCode : Jvm.Cond → Bool
  | .code _ _ _ _ => true
  | _ => false
theorem all_split {L : List Jvm.Cond} {P : Jvm.Cond → Bool} (h1 : L.all (fun c => isCode c || P c) = true) (h2 : ∀ c ∈ L.filter isCode, P c = true) : L.all P = true := by
  refine List.all_eq_true.mpr fun c hc => ?_
  have h := List.all_eq_true.mp h1 c hc
  rcases Bool.eq_false_or_eq_true (isCode c) with hi | hi
  · exact h2 c (List.mem_filter.mpr ⟨hc, hi⟩)
  · simpa [hi] using h
set_option maxRecDepth 65536 in
theorem w_c0 : (Jvm.Cond.code x code maxLocals ret).before args0 about1 = true := code_word (m := ⟨1, 1⟩) (meth := k1m1) (c := k1c1) (by decide +kernel) rfl rfl rfl (by decide +kernel)
set_option maxRecDepth 65536 in
theorem w_c1 : (Jvm.Cond.code ({ cls := "com/example/megablock/megablock/service/Credential$ERole", name := "includes", desc := "(Lcom/example/megablock/megablock/service/Credential$ERole;)Z" } : Jvm.MethodName) prog_51_method_5_code (2 : Nat) (Option.some Jvm.ClassFile.FieldType.boolean)).before args0 about1 = true := code_word (m := ⟨6, 0⟩) (meth := k6m0) (c := k6c0) (by decide +kernel) rfl rfl rfl (by decide +kernel)
def codes1 : List Jvm.Cond := [Jvm.Cond.code x code maxLocals ret, Jvm.Cond.code ({ cls := "com/example/megablock/megablock/service/Credential$ERole", name := "includes", desc := "(Lcom/example/megablock/megablock/service/Credential$ERole;)Z" } : Jvm.MethodName) prog_51_method_5_code (2 : Nat) (Option.some Jvm.ClassFile.FieldType.boolean)]
set_option maxRecDepth 65536 in
theorem codes_eq : words1.filter isCode = codes1 := rfl
theorem w_codes : ∀ c ∈ words1.filter isCode, c.before args0 about1 = true := by
  rw [codes_eq]
  intro c hc
  simp only [codes1, List.mem_cons, List.not_mem_nil, or_false] at hc
  rcases hc with rfl | rfl
  · exact w_c0
  · exact w_c1
set_option maxRecDepth 65536 in
theorem w_t1 : words1.all (fun c => isCode c || c.before args0 about1) = true := by decide +kernel
theorem w_tables : (allAtoms (Jvm.Cond.code x code maxLocals ret :: tables_1)).before args0 about1 = true := by
  rw [allAtoms_all]
  show words1.all (fun c => c.before args0 about1) = true
  refine all_split ?_ w_codes
  rw [w_t1]
set_option maxRecDepth 65536 in
theorem w_case : (Jvm.Cond.and given_1 narrow_1).before args0 about1 = true := by decide +kernel
theorem w_applies : (headSpec (Jvm.Cond.code x code maxLocals ret :: tables_1) room_1).applies x e0.platform about1 = true :=
  (Spec.applies_iff w_frames).mpr ⟨w_running, w_runnable, w_alone, w_named, w_hears, w_ripe, w_room, w_tables⟩
theorem atStart : AtStart classFile x code maxLocals ret World_1 tables_1 room_1 Calls_1 rest_1 Pre_1 launch0 p0 e0 about1 theMethod args0 below0 :=
  ⟨lists_1, trivial, launch0.admits_env _ _ _, launch0.least_env, fairChoices_fair.cas, fairChoices_fair.clock, w_frames, w_args, w_heap, w_applies, trivial, trivial, w_case⟩
end start1
theorem witness_1 : WitnessClaimed_1 := ⟨start1.p0, start1.e0, start1.about1, start1.theMethod, start1.args0, start1.below0, start1.atStart⟩
end Jvm.Pilot.@@N@@
