import JvmDerived
import JvmDerived.Pilot.@@N@@Statement
import JvmDerived.Pilot.@@N@@Code
set_option linter.unusedVariables false
set_option linter.unusedSimpArgs false
/- laws to paste: Road.backV, Road.eqW, Road.codOf (cut by pick.py; bodies as the Statement names them) -/
namespace Jvm.Pilot.@@N@@
namespace StrChars
open Jvm Sem ClassFile Op Lib Jvm.Stand Jvm.Free.XT Jvm.Free.ALB Jvm.Free.JM Jvm.Free
open Jvm.Lib.Cold (StaticIs)
/-- a char array whose places are chars -/
def Ch (a : Addr) (A : Cell) (U : State) : Prop := Arr .char a A U ∧ Typed .char A
theorem Ch.mv {a : Addr} {A : Cell} {U U' : State} (h : Ch a A U) (hal : U.vm.Alike U'.vm) (hh : U'.heap = U.heap) : Ch a A U' := ⟨h.1.mv hal hh, h.2⟩
theorem Ch.keep {a : Addr} {A : Cell} {U U' : State} (h : Ch a A U) (hal : U.vm.Alike U'.vm) (hk : U'.heap[a]? = some A) : Ch a A U' := ⟨h.1.keep hal hk, h.2⟩
/-- what place i of a char[]'s cell holds -/
def cv (A : Cell) (i : Nat) : Int32 := match A.slots[i]? with | some (.int x) => x | _ => 0
theorem Ch.get {a : Addr} {A : Cell} {U : State} (h : Ch a A U) {i : Nat} (hi : i < A.slots.size) : A.slots[i]? = some (.int (cv A i)) := by
  have e := Array.getElem?_eq_getElem hi
  have f := h.2 i _ e
  unfold cv; rw [e]
  generalize A.slots[i] = v at f
  cases v <;> simp [fits] at f ⊢
/-- the byte that i2b leaves of a char -/
def lo8 (x : Int32) : Int32 := x.toInt8.toInt32
theorem fits_lo8 (y : Int32) : fits .byte (.int (lo8 y)) = true := by
  have h1 := y.toInt8.le_toInt
  have h2 := y.toInt8.toInt_lt
  simp only [lo8, fits, Bool.and_eq_true, decide_eq_true_eq, Int32.le_iff_toInt_le, Int8.toInt_toInt32, show (-128 : Int32).toInt = -128 from by decide, show (127 : Int32).toInt = 127 from by decide]
  omega
/-- A' is A but that each place j of lo .. hi - 1 holds f j -/
def Laid (A A' : Cell) (lo hi : Nat) (f : Nat → Value) : Prop := A'.cls = A.cls ∧ A'.vm = A.vm ∧ A'.slots.size = A.slots.size ∧ ∀ i, A'.slots[i]? = if lo ≤ i ∧ i < hi then some (f i) else A.slots[i]?
theorem Laid.zero (A : Cell) (lo : Nat) (f : Nat → Value) : Laid A A lo (lo + 0) f := ⟨rfl, rfl, rfl, fun i => by rw [if_neg (by omega)]⟩
theorem Laid.step {A Ak : Cell} {lo k : Nat} {f : Nat → Value} {v : Value} (h : Laid A Ak lo k f) (hlo : lo ≤ k) (hk : k < Ak.slots.size) (hv : v = f k) : Laid A (Ak.setSlot k v) lo (k + 1) f := by
  refine ⟨h.1, h.2.1, by simpa [Cell.setSlot] using h.2.2.1, fun i => ?_⟩
  by_cases e : k = i
  · subst e; rw [Cell.slots_setSlot_self v hk, if_pos (by omega), hv]
  · rw [Cell.slots_setSlot_ne v e, h.2.2.2 i]
    by_cases q : lo ≤ i ∧ i < k
    · rw [if_pos q, if_pos (by omega)]
    · rw [if_neg q, if_neg (by omega)]
def U16 : String := "java/lang/StringUTF16"
namespace Cmp5
def yN : MethodName := ⟨"java/lang/StringUTF16", "compress", "([CI[BII)I"⟩
abbrev yB : ByteArray := jdk_52_method_21_code
theorem d0 : decode yB 0 = .ok (.iconst 0, 1) := by decide +kernel
theorem d1 : decode yB 1 = .ok (.istore 5, 2) := by decide +kernel
theorem d3 : decode yB 3 = .ok (.iload 5, 2) := by decide +kernel
theorem d5 : decode yB 5 = .ok (.iload 4, 2) := by decide +kernel
theorem d7 : decode yB 7 = .ok (.if_icmp (.ge) 37, 3) := by decide +kernel
theorem d10 : decode yB 10 = .ok (.aload_n 0, 1) := by decide +kernel
theorem d11 : decode yB 11 = .ok (.iload_n 1, 1) := by decide +kernel
theorem d12 : decode yB 12 = .ok (.caload, 1) := by decide +kernel
theorem d13 : decode yB 13 = .ok (.istore 6, 2) := by decide +kernel
theorem d15 : decode yB 15 = .ok (.iload 6, 2) := by decide +kernel
theorem d17 : decode yB 17 = .ok (.sipush 255, 3) := by decide +kernel
theorem d20 : decode yB 20 = .ok (.if_icmp (.le) 6, 3) := by decide +kernel
theorem d26 : decode yB 26 = .ok (.aload_n 2, 1) := by decide +kernel
theorem d27 : decode yB 27 = .ok (.iload_n 3, 1) := by decide +kernel
theorem d28 : decode yB 28 = .ok (.iload 6, 2) := by decide +kernel
theorem d30 : decode yB 30 = .ok (.i2b, 1) := by decide +kernel
theorem d31 : decode yB 31 = .ok (.bastore, 1) := by decide +kernel
theorem d32 : decode yB 32 = .ok (.iinc 1 1, 3) := by decide +kernel
theorem d35 : decode yB 35 = .ok (.iinc 3 1, 3) := by decide +kernel
theorem d38 : decode yB 38 = .ok (.iinc 5 1, 3) := by decide +kernel
theorem d41 : decode yB 41 = .ok (.goto (-38), 3) := by decide +kernel
theorem d44 : decode yB 44 = .ok (.iload 4, 2) := by decide +kernel
theorem d46 : decode yB 46 = .ok (.ireturn, 1) := by decide +kernel
def site : List Cond := []
def tab : Cond := tabOf yN yB 7 (some .int) site
def P (b : Addr) (A : Cell) (d : Addr) (B : Cell) (o q len : Nat) (args : Array Value) (s : State) : Prop := args = #[.ref b, .int (Int32.ofNat o), .ref d, .int (Int32.ofNat q), .int (Int32.ofNat len)] ∧ Ch b A s ∧ Arr .byte d B s ∧ b ≠ d ∧ o + len ≤ A.slots.size ∧ q + len ≤ B.slots.size ∧ ∀ i, i < len → ¬ 255 < cv A (o + i)
def E (b : Addr) (A : Cell) (d : Addr) (B : Cell) (o q len : Nat) (r : Option Value) (s u : State) : Prop := r = some (.int (Int32.ofNat len)) ∧ ∃ B', Put d B' s u ∧ Laid B B' q (q + len) (fun j => Value.int (lo8 (cv A (o + (j - q)))))
/-- no char of the range above 255: len; the places written hold each char's low byte -/
theorem law (l : Launch) (b : Addr) (A : Cell) (d : Addr) (B : Cell) (o q len : Nat) : Law l yN 5 5 0 0 yB 7 (some .int) site (P b A d B o q len) (E b A d B o q len) (copyLocs d q len) 0 0 := by
  refine Law.of_walk (plainFor_of_name (by decide +kernel)) (by decide +kernel) (by decide +kernel) (by decide) (fun _ _ h => by rw [h.1]; rfl) (fun _ U U' hal hh h => ⟨h.1, h.2.1.mv hal hh, h.2.2.1.mv hal hh, h.2.2.2⟩) (fun r U U' V V' h1 hal h2 h => ⟨h.1, h.2.elim fun B' q => ⟨B', q.1.mv h1 h2, q.2⟩⟩) ?_
  intro p e s m args below meth c s₁ X0 hexec hbytes hml hret hlk hnm hown hh0 W hP
  obtain ⟨rfl, hA, hB, hne, l1, l2, hp⟩ := hP
  have c1 : Steps p.tables e below (s₁.setTop (entryFrame m #[.ref b, .int (Int32.ofNat o), .ref d, .int (Int32.ofNat q), .int (Int32.ofNat len)] 7)) (s₁.setTop (mkF m 0 #[.val (.ref b), .val (.int (Int32.ofNat o)), .val (.ref d), .val (.int (Int32.ofNat q)), .val (.int (Int32.ofNat len)), .unset, .unset] [])) := entry rfl
  have hA0 := hA.1.mv X0.warmed.alike hh0
  have hB0 := hB.mv X0.warmed.alike hh0
  have a31 := hA.1.2.2.2
  have c2 : Steps p.tables e below (s₁.setTop (entryFrame m #[.ref b, .int (Int32.ofNat o), .ref d, .int (Int32.ofNat q), .int (Int32.ofNat len)] 7)) (s₁.setTop (mkF m 3 #[.val (.ref b), .val (.int (Int32.ofNat o)), .val (.ref d), .val (.int (Int32.ofNat q)), .val (.int (Int32.ofNat len)), .val (.int 0), .unset] [])) := c1.trans (by
    refine iconstV X0.here hexec rfl 0 (hb hbytes d0) (by decide) ?_
    refine XS.istore X0.here hexec rfl (hb hbytes d1) rfl rfl ?_
    exact Steps.refl _)
  have loop : ∀ (r i : Nat), i + r = len → ∀ (z : Slot), (z = .unset ∨ ∃ w, z = .val w ∧ w.category = 1) → ∀ (Tl : State) (Bk : Cell), Stand p l e { frames := 0, locals := 0, cells := 0, slots := 0 } s m #[.ref b, .int (Int32.ofNat o), .ref d, .int (Int32.ofNat q), .int (Int32.ofNat len)] below meth c Tl ([] ++ copyLocs d q i) 0 0 → Put d Bk s₁ Tl → Laid B Bk q (q + i) (fun j => Value.int (lo8 (cv A (o + (j - q))))) →
      Steps p.tables e below (s₁.setTop (entryFrame m #[.ref b, .int (Int32.ofNat o), .ref d, .int (Int32.ofNat q), .int (Int32.ofNat len)] 7)) (Tl.setTop (mkF m 3 #[.val (.ref b), .val (.int (Int32.ofNat (o + i))), .val (.ref d), .val (.int (Int32.ofNat (q + i))), .val (.int (Int32.ofNat len)), .val (.int (Int32.ofNat i)), z] [])) → ∃ (T' : State) (B' : Cell) (z' : Slot), Stand p l e { frames := 0, locals := 0, cells := 0, slots := 0 } s m #[.ref b, .int (Int32.ofNat o), .ref d, .int (Int32.ofNat q), .int (Int32.ofNat len)] below meth c T' ([] ++ copyLocs d q len) 0 0 ∧ Put d B' s₁ T' ∧ Laid B B' q (q + len) (fun j => Value.int (lo8 (cv A (o + (j - q))))) ∧
      Steps p.tables e below (s₁.setTop (entryFrame m #[.ref b, .int (Int32.ofNat o), .ref d, .int (Int32.ofNat q), .int (Int32.ofNat len)] 7)) (T'.setTop (mkF m 3 #[.val (.ref b), .val (.int (Int32.ofNat (o + len))), .val (.ref d), .val (.int (Int32.ofNat (q + len))), .val (.int (Int32.ofNat len)), .val (.int (Int32.ofNat len)), z'] [])) := by
    intro r
    induction r with
    | zero =>
      intro i hi z hz Tl Bk Xl pl fl cl
      have hil : i = len := by omega
      rw [hil] at Xl fl cl
      exact ⟨Tl, Bk, z, Xl, pl, fl, cl⟩
    | succ r ih =>
      intro i hi z hz Tl Bk Xl pl fl cl
      have all := X0.warmed.alike.symm.trans Xl.warmed.alike
      have hAl := hA0.keep all (pl.other hne hA0.1)
      have hBk := hB0.like all pl.1 fl.1 fl.2.1 fl.2.2.1
      have hlt : q + i < Bk.slots.size := by rw [fl.2.2.1]; omega
      have c3 : Steps p.tables e below (s₁.setTop (entryFrame m #[.ref b, .int (Int32.ofNat o), .ref d, .int (Int32.ofNat q), .int (Int32.ofNat len)] 7)) (Tl.setTop (mkF m 12 #[.val (.ref b), .val (.int (Int32.ofNat (o + i))), .val (.ref d), .val (.int (Int32.ofNat (q + i))), .val (.int (Int32.ofNat len)), .val (.int (Int32.ofNat i)), z] [.int (Int32.ofNat (o + i)), .ref b])) := cl.trans (by
        refine XS.iload Xl.here hexec rfl (hb hbytes d3) rfl ?_
        refine XS.iload Xl.here hexec rfl (hb hbytes d5) rfl ?_
        refine XS.icmpNo Xl.here hexec rfl (hb hbytes d7) rfl (ii_ge_f (lt32 (by omega) (by omega))) ?_
        refine XS.aloadN Xl.here hexec rfl (hb hbytes d10) rfl rfl ?_
        refine XS.iloadN Xl.here hexec rfl (hb hbytes d11) rfl ?_
        exact Steps.refl _)
      have c4 : Steps p.tables e below (s₁.setTop (entryFrame m #[.ref b, .int (Int32.ofNat o), .ref d, .int (Int32.ofNat q), .int (Int32.ofNat len)] 7)) (Tl.setTop (mkF m 13 #[.val (.ref b), .val (.int (Int32.ofNat (o + i))), .val (.ref d), .val (.int (Int32.ofNat (q + i))), .val (.int (Int32.ofNat len)), .val (.int (Int32.ofNat i)), z] [.int (cv A (o + i))])) := c3.trans (by
        refine Xl.aget hexec hAl rfl (hA.get (i := o + i) (by omega)) rfl rfl (hb hbytes d12) ?_
        exact Steps.refl _)
      have c5 : Steps p.tables e below (s₁.setTop (entryFrame m #[.ref b, .int (Int32.ofNat o), .ref d, .int (Int32.ofNat q), .int (Int32.ofNat len)] 7)) (Tl.setTop (mkF m 15 #[.val (.ref b), .val (.int (Int32.ofNat (o + i))), .val (.ref d), .val (.int (Int32.ofNat (q + i))), .val (.int (Int32.ofNat len)), .val (.int (Int32.ofNat i)), .val (.int (cv A (o + i)))] [])) := c4.trans (by
        refine XS.istoreS Xl.here hexec rfl (hb hbytes d13) rfl rfl hz ?_
        exact Steps.refl _)
      have c6 : Steps p.tables e below (s₁.setTop (entryFrame m #[.ref b, .int (Int32.ofNat o), .ref d, .int (Int32.ofNat q), .int (Int32.ofNat len)] 7)) (Tl.setTop (mkF m 31 #[.val (.ref b), .val (.int (Int32.ofNat (o + i))), .val (.ref d), .val (.int (Int32.ofNat (q + i))), .val (.int (Int32.ofNat len)), .val (.int (Int32.ofNat i)), .val (.int (cv A (o + i)))] [.int (lo8 (cv A (o + i))), .int (Int32.ofNat (q + i)), .ref d])) := c5.trans (by
        refine XS.iload Xl.here hexec rfl (hb hbytes d15) rfl ?_
        refine sipushV Xl.here hexec rfl 255 (hb hbytes d17) (by decide) ?_
        refine XS.icmpYes Xl.here hexec rfl (pc0 := 20) rfl (hb hbytes d20) rfl (ii_le_t (hp i (by omega))) (by decide) rfl ?_
        refine XS.aloadN Xl.here hexec rfl (hb hbytes d26) rfl rfl ?_
        refine XS.iloadN Xl.here hexec rfl (hb hbytes d27) rfl ?_
        refine XS.iload Xl.here hexec rfl (hb hbytes d28) rfl ?_
        refine i2b Xl.here hexec rfl (hb hbytes d30) rfl ?_
        exact Steps.refl _)
      obtain ⟨T7, X7, p7, st7⟩ := Xl.aput hexec hBk rfl hlt rfl (fits_lo8 (cv A (o + i))) (g := (mkF m 31 #[.val (.ref b), .val (.int (Int32.ofNat (o + i))), .val (.ref d), .val (.int (Int32.ofNat (q + i))), .val (.int (Int32.ofNat len)), .val (.int (Int32.ofNat i)), .val (.int (cv A (o + i)))] [.int (lo8 (cv A (o + i))), .int (Int32.ofNat (q + i)), .ref d])) rfl (rest := []) rfl (hb hbytes d31)
      have c8 : Steps p.tables e below (s₁.setTop (entryFrame m #[.ref b, .int (Int32.ofNat o), .ref d, .int (Int32.ofNat q), .int (Int32.ofNat len)] 7)) (T7.setTop (mkF m 32 #[.val (.ref b), .val (.int (Int32.ofNat (o + i))), .val (.ref d), .val (.int (Int32.ofNat (q + i))), .val (.int (Int32.ofNat len)), .val (.int (Int32.ofNat i)), .val (.int (cv A (o + i)))] [])) := c6.trans (st7 _ (Steps.refl _))
      have c9 : Steps p.tables e below (s₁.setTop (entryFrame m #[.ref b, .int (Int32.ofNat o), .ref d, .int (Int32.ofNat q), .int (Int32.ofNat len)] 7)) (T7.setTop (mkF m 3 #[.val (.ref b), .val (.int (Int32.ofNat (o + i) + 1)), .val (.ref d), .val (.int (Int32.ofNat (q + i) + 1)), .val (.int (Int32.ofNat len)), .val (.int (Int32.ofNat i + 1)), .val (.int (cv A (o + i)))] [])) := c8.trans (by
        refine iincV X7.here hexec rfl 1 (hb hbytes d32) (by decide) rfl rfl ?_
        refine iincV X7.here hexec rfl 1 (hb hbytes d35) (by decide) rfl rfl ?_
        refine iincV X7.here hexec rfl 1 (hb hbytes d38) (by decide) rfl rfl ?_
        refine XS.goto X7.here hexec rfl (pc0 := 41) rfl (hb hbytes d41) (by decide) rfl ?_
        exact Steps.refl _)
      have c10 : Steps p.tables e below (s₁.setTop (entryFrame m #[.ref b, .int (Int32.ofNat o), .ref d, .int (Int32.ofNat q), .int (Int32.ofNat len)] 7)) (T7.setTop (mkF m 3 #[.val (.ref b), .val (.int (Int32.ofNat (o + (i + 1)))), .val (.ref d), .val (.int (Int32.ofNat (q + (i + 1)))), .val (.int (Int32.ofNat len)), .val (.int (Int32.ofNat (i + 1))), .val (.int (cv A (o + i)))] [])) := by
        have := c9
        rw [succ32, succ32, succ32] at this
        exact this
      exact ih (i + 1) (by omega) _ (Or.inr ⟨_, rfl, rfl⟩) T7 _ (by rw [copyLocs_step, ← List.append_assoc]; exact X7) (pl.trans p7) (fl.step (by omega) hlt (by simp)) c10
  obtain ⟨T9, B9, z9, X9, p9, f9, g9⟩ := loop len 0 (by omega) .unset (Or.inl rfl) s₁ B (by simpa [copyLocs] using X0) ⟨hB0.1, fun _ _ => rfl, rfl⟩ (Laid.zero _ _ _) c2
  have c11 : Steps p.tables e below (s₁.setTop (entryFrame m #[.ref b, .int (Int32.ofNat o), .ref d, .int (Int32.ofNat q), .int (Int32.ofNat len)] 7)) (T9.setTop (mkF m 46 #[.val (.ref b), .val (.int (Int32.ofNat (o + len))), .val (.ref d), .val (.int (Int32.ofNat (q + len))), .val (.int (Int32.ofNat len)), .val (.int (Int32.ofNat len)), z9] [.int (Int32.ofNat len)])) := g9.trans (by
    refine XS.iload X9.here hexec rfl (hb hbytes d3) rfl ?_
    refine XS.iload X9.here hexec rfl (hb hbytes d5) rfl ?_
    refine XS.icmpYes X9.here hexec rfl (pc0 := 7) rfl (hb hbytes d7) rfl (ii_ge_t (nlt32 (by omega) (Nat.le_refl _))) (by decide) rfl ?_
    refine XS.iload X9.here hexec rfl (hb hbytes d44) rfl ?_
    exact Steps.refl _)
  exact ⟨T9, some (.int (Int32.ofNat len)), _, _, _, X9, by simp, rfl, rfl, (fun h => by cases h), ⟨rfl, B9, p9.from hh0, f9⟩, fun fs hl => c11.trans (X9.ireturnOut hexec hret rfl (Or.inl rfl) (hb hbytes d46) hl)⟩
end Cmp5
namespace Cmp3
def yN : MethodName := ⟨"java/lang/StringUTF16", "compress", "([CII)[B"⟩
abbrev yB : ByteArray := jdk_52_method_16_code
theorem d0 : decode yB 0 = .ok (.iload_n 2, 1) := by decide +kernel
theorem d1 : decode yB 1 = .ok (.newarray .byte, 2) := by decide +kernel
theorem d3 : decode yB 3 = .ok (.astore_n 3, 1) := by decide +kernel
theorem d4 : decode yB 4 = .ok (.aload_n 0, 1) := by decide +kernel
theorem d5 : decode yB 5 = .ok (.iload_n 1, 1) := by decide +kernel
theorem d6 : decode yB 6 = .ok (.aload_n 3, 1) := by decide +kernel
theorem d7 : decode yB 7 = .ok (.iconst 0, 1) := by decide +kernel
theorem d8 : decode yB 8 = .ok (.iload_n 2, 1) := by decide +kernel
theorem d9 : decode yB 9 = .ok (.invokestatic 115, 3) := by decide +kernel
theorem d12 : decode yB 12 = .ok (.istore 4, 2) := by decide +kernel
theorem d14 : decode yB 14 = .ok (.iload 4, 2) := by decide +kernel
theorem d16 : decode yB 16 = .ok (.iload_n 2, 1) := by decide +kernel
theorem d17 : decode yB 17 = .ok (.if_icmp (.eq) 40, 3) := by decide +kernel
theorem d57 : decode yB 57 = .ok (.aload_n 3, 1) := by decide +kernel
theorem d58 : decode yB 58 = .ok (.areturn, 1) := by decide +kernel
def site : List Cond := [.arrayClass .byte, Cmp5.tab] ++ staticW U16 115 Cmp5.yN
def tab : Cond := tabOf yN yB 6 (some (.array .byte)) site
def P (b : Addr) (A : Cell) (o len : Nat) (args : Array Value) (s : State) : Prop := args = #[.ref b, .int (Int32.ofNat o), .int (Int32.ofNat len)] ∧ Ch b A s ∧ o + len ≤ A.slots.size ∧ len ≤ 536870912 ∧ ∀ i, i < len → ¬ 255 < cv A (o + i)
def E (b : Addr) (A : Cell) (o len : Nat) (r : Option Value) (s u : State) : Prop := NewArr .byte "[B" len (fun j => .int (lo8 (cv A (o + j)))) r s u ∧ u.heap.size = s.heap.size + 1
/-- no char of the range above 255: a new byte[] of their low bytes -/
theorem law (l : Launch) (b : Addr) (A : Cell) (o len : Nat) : Law l yN 3 3 1 18 yB 6 (some (.array .byte)) site (P b A o len) (E b A o len) [] 1 len := by
  refine Law.of_walk (plainFor_of_name (by decide +kernel)) (by decide +kernel) (by decide +kernel) (by decide) (fun _ _ h => by rw [h.1]; rfl) (fun _ U U' hal hh h => ⟨h.1, h.2.1.mv hal hh, h.2.2⟩) (fun r U U' V V' h1 hal h2 h => ⟨NewArr.mv r U U' V V' h1 hal h2 h.1, by rw [h1, h2]; exact h.2⟩) ?_
  intro p e s m args below meth c s₁ X0 hexec hbytes hml hret hlk hnm hown hh0 W hP
  obtain ⟨rfl, hA, l1, l2, hp⟩ := hP
  have a31 := hA.1.2.2.2
  have c1 : Steps p.tables e below (s₁.setTop (entryFrame m #[.ref b, .int (Int32.ofNat o), .int (Int32.ofNat len)] 6)) (s₁.setTop (mkF m 0 #[.val (.ref b), .val (.int (Int32.ofNat o)), .val (.int (Int32.ofNat len)), .unset, .unset, .unset] [])) := entry rfl
  have c2 : Steps p.tables e below (s₁.setTop (entryFrame m #[.ref b, .int (Int32.ofNat o), .int (Int32.ofNat len)] 6)) (s₁.setTop (mkF m 1 #[.val (.ref b), .val (.int (Int32.ofNat o)), .val (.int (Int32.ofNat len)), .unset, .unset, .unset] [.int (Int32.ofNat len)])) := c1.trans (by
    refine XS.iloadN X0.here hexec rfl (hb hbytes d0) rfl ?_
    exact Steps.refl _)
  obtain ⟨T3, B3, X3, ba3, bs3, bv3, bh3, bf3, st3⟩ := X0.anew hexec (atype := .byte) (wk W (.arrayClass .byte)) rfl (by show len * 1 ≤ _; omega) (by omega) (g := (mkF m 1 #[.val (.ref b), .val (.int (Int32.ofNat o)), .val (.int (Int32.ofNat len)), .unset, .unset, .unset] [.int (Int32.ofNat len)])) rfl (hb hbytes d1) (rest := []) rfl (Nat.le_refl _) (by show 0 + len ≤ len; omega)
  rw [hh0] at ba3 st3
  have kp3 : XT.Kept s T3 := (XT.Kept.of_eq hh0).push bh3
  have hA3 := hA.keep X3.warmed.alike (kp3 _ _ hA.1.1)
  have hne : b ≠ s.heap.size := hA.1.ne
  have c4 : Steps p.tables e below (s₁.setTop (entryFrame m #[.ref b, .int (Int32.ofNat o), .int (Int32.ofNat len)] 6)) (T3.setTop (mkF m 3 #[.val (.ref b), .val (.int (Int32.ofNat o)), .val (.int (Int32.ofNat len)), .unset, .unset, .unset] [.ref s.heap.size])) := c2.trans (st3 _ (Steps.refl _))
  have c5 : Steps p.tables e below (s₁.setTop (entryFrame m #[.ref b, .int (Int32.ofNat o), .int (Int32.ofNat len)] 6)) (T3.setTop (mkF m 9 #[.val (.ref b), .val (.int (Int32.ofNat o)), .val (.int (Int32.ofNat len)), .val (.ref s.heap.size), .unset, .unset] [.int (Int32.ofNat len), .int 0, .ref s.heap.size, .int (Int32.ofNat o), .ref b])) := c4.trans (by
    refine XS.astoreN X3.here hexec rfl (hb hbytes d3) rfl rfl rfl ?_
    refine XS.aloadN X3.here hexec rfl (hb hbytes d4) rfl rfl ?_
    refine XS.iloadN X3.here hexec rfl (hb hbytes d5) rfl ?_
    refine XS.aloadN X3.here hexec rfl (hb hbytes d6) rfl rfl ?_
    refine iconstV X3.here hexec rfl 0 (hb hbytes d7) (by decide) ?_
    refine XS.iloadN X3.here hexec rfl (hb hbytes d8) rfl ?_
    exact Steps.refl _)
  obtain ⟨v6, T6, X6, E6, g6⟩ := X3.callS hexec (Cmp5.law l b A s.heap.size B3 o 0 len) hown (wks W (staticW U16 115 Cmp5.yN)) (wk W Cmp5.tab) (W := 0) (Nat.le_of_ble_eq_true rfl) (Nat.le_of_ble_eq_true rfl) (Nat.le_refl _) (by show 0 + len + 0 ≤ len; omega) (g := (mkF m 9 #[.val (.ref b), .val (.int (Int32.ofNat o)), .val (.int (Int32.ofNat len)), .val (.ref s.heap.size), .unset, .unset] [.int (Int32.ofNat len), .int (Int32.ofNat 0), .ref s.heap.size, .int (Int32.ofNat o), .ref b])) rfl (by rw [hml]; rfl) c5 (argsL := [.ref b, .int (Int32.ofNat o), .ref s.heap.size, .int (Int32.ofNat 0), .int (Int32.ofNat len)]) (rest := []) rfl rfl (by show 2 * 0 + 0 ≤ _; decide) (hb hbytes d9) (⟨rfl, hA3, ba3, hne, l1, by rw [bs3]; simp, hp⟩)
  obtain ⟨rfl, B6, p6, f6⟩ := E6
  have c7 : Steps p.tables e below (s₁.setTop (entryFrame m #[.ref b, .int (Int32.ofNat o), .int (Int32.ofNat len)] 6)) (T6.setTop (mkF m 12 #[.val (.ref b), .val (.int (Int32.ofNat o)), .val (.int (Int32.ofNat len)), .val (.ref s.heap.size), .unset, .unset] [.int (Int32.ofNat len)])) := g6
  have c8 : Steps p.tables e below (s₁.setTop (entryFrame m #[.ref b, .int (Int32.ofNat o), .int (Int32.ofNat len)] 6)) (T6.setTop (mkF m 58 #[.val (.ref b), .val (.int (Int32.ofNat o)), .val (.int (Int32.ofNat len)), .val (.ref s.heap.size), .val (.int (Int32.ofNat len)), .unset] [.ref s.heap.size])) := c7.trans (by
    refine XS.istore X6.here hexec rfl (hb hbytes d12) rfl rfl ?_
    refine XS.iload X6.here hexec rfl (hb hbytes d14) rfl ?_
    refine XS.iloadN X6.here hexec rfl (hb hbytes d16) rfl ?_
    refine XS.icmpYes X6.here hexec rfl (pc0 := 17) rfl (hb hbytes d17) rfl (ii_eq_t rfl) (by decide) rfl ?_
    refine XS.aloadN X6.here hexec rfl (hb hbytes d57) rfl rfl ?_
    exact Steps.refl _)
  have X8 := X6.wide (L' := []) (cells' := 1) (slots' := len) (fun x hx hlt => by
    simp only [List.nil_append, copyLocs, List.mem_map, List.mem_range] at hx
    obtain ⟨i, -, rfl⟩ := hx
    exact absurd hlt (Nat.lt_irrefl _)) (Nat.le_refl _) (by omega)
  exact ⟨T6, some (.ref s.heap.size), _, _, _, X8, rfl, rfl, rfl, (fun h => by cases h), ⟨⟨rfl, B6, ba3.like (X3.warmed.alike.symm.trans X6.warmed.alike) p6.1 f6.1 f6.2.1 f6.2.2.1, f6.2.1.trans bv3, by rw [X6.warmed.alike.findClass, f6.1]; exact bf3, by rw [f6.2.2.1, bs3]; simp, fun j hj => by rw [f6.2.2.2 j, if_pos (by omega)]; rfl, kp3.put p6 (Nat.le_refl _)⟩, by rw [p6.2.2, bh3, hh0]; simp⟩, fun fs hl => c8.trans (X8.areturnOut hexec rfl hret rfl (hb hbytes d58) hl)⟩
end Cmp3
namespace CodL
def yN : MethodName := ⟨"java/lang/StringUTF16", "coderFromArrayLen", "([BI)B"⟩
abbrev yB : ByteArray := jdk_52_method_15_code
theorem d0 : decode yB 0 = .ok (.iload_n 1, 1) := by decide +kernel
theorem d1 : decode yB 1 = .ok (.aload_n 0, 1) := by decide +kernel
theorem d2 : decode yB 2 = .ok (.arraylength, 1) := by decide +kernel
theorem d3 : decode yB 3 = .ok (.isub, 1) := by decide +kernel
theorem d4 : decode yB 4 = .ok (.bipush 31, 2) := by decide +kernel
theorem d6 : decode yB 6 = .ok (.iushr, 1) := by decide +kernel
theorem d7 : decode yB 7 = .ok (.i2b, 1) := by decide +kernel
theorem d8 : decode yB 8 = .ok (.ireturn, 1) := by decide +kernel
def site : List Cond := []
def tab : Cond := tabOf yN yB 2 (some .byte) site
def P (d : Addr) (B : Cell) (args : Array Value) (s : State) : Prop := args = #[.ref d, .int (Int32.ofNat B.slots.size)] ∧ Arr .byte d B s
def E (r : Option Value) (s u : State) : Prop := XT.PureE (some (.int 0)) r s u
/-- an array as long as the number of chars: LATIN1 -/
theorem law (l : Launch) (d : Addr) (B : Cell) : Law l yN 2 2 0 0 yB 2 (some .byte) site (P d B) E [] 0 0 := by
  refine Law.of_walk (plainFor_of_name (by decide +kernel)) (by decide +kernel) (by decide +kernel) (by decide) (fun _ _ h => by rw [h.1]; rfl) (fun _ U U' hal hh h => ⟨h.1, h.2.mv hal hh⟩) (fun r U U' V V' h1 hal h2 h => XT.PureE.mv r U U' V V' h1 hal h2 h) ?_
  intro p e s m args below meth c s₁ X0 hexec hbytes hml hret hlk hnm hown hh0 W hP
  obtain ⟨rfl, hB⟩ := hP
  have hB0 := hB.mv X0.warmed.alike hh0
  have c1 : Steps p.tables e below (s₁.setTop (entryFrame m #[.ref d, .int (Int32.ofNat B.slots.size)] 2)) (s₁.setTop (mkF m 0 #[.val (.ref d), .val (.int (Int32.ofNat B.slots.size))] [])) := entry rfl
  have c2 : Steps p.tables e below (s₁.setTop (entryFrame m #[.ref d, .int (Int32.ofNat B.slots.size)] 2)) (s₁.setTop (mkF m 2 #[.val (.ref d), .val (.int (Int32.ofNat B.slots.size))] [.ref d, .int (Int32.ofNat B.slots.size)])) := c1.trans (by
    refine XS.iloadN X0.here hexec rfl (hb hbytes d0) rfl ?_
    refine XS.aloadN X0.here hexec rfl (hb hbytes d1) rfl rfl ?_
    exact Steps.refl _)
  have c3 : Steps p.tables e below (s₁.setTop (entryFrame m #[.ref d, .int (Int32.ofNat B.slots.size)] 2)) (s₁.setTop (mkF m 8 #[.val (.ref d), .val (.int (Int32.ofNat B.slots.size))] [.int (lo8 (ushr (Int32.ofNat B.slots.size - Int32.ofNat B.slots.size) 31))])) := c2.trans (by
    refine X0.alen hexec hB0 rfl rfl (hb hbytes d2) ?_
    refine XS.isub X0.here hexec rfl (hb hbytes d3) rfl ?_
    refine bipushV X0.here hexec rfl 31 (hb hbytes d4) (by decide) ?_
    refine iushr X0.here hexec rfl (hb hbytes d6) rfl ?_
    refine i2b X0.here hexec rfl (hb hbytes d7) rfl ?_
    exact Steps.refl _)
  have e0 : lo8 (ushr (Int32.ofNat B.slots.size - Int32.ofNat B.slots.size) 31) = 0 := by rw [Int32.sub_self]; decide
  rw [e0] at c3
  exact ⟨s₁, some (.int 0), _, _, _, X0, rfl, rfl, rfl, (fun h => by cases h), ⟨rfl, hh0⟩, fun fs hl => c3.trans (X0.ireturnOut hexec hret rfl (Or.inr (Or.inr (Or.inl rfl))) (hb hbytes d8) hl)⟩
end CodL
/-- the String at a is Latin-1 over a new byte[] (the heap's one new cell): the low bytes of the len chars of A from o on; every cell but a is kept -/
def Got (a : Addr) (D : Cell) (fV fC : Field) (A : Cell) (o len : Nat) (r : Option Value) (s u : State) : Prop := r = none ∧ ∃ D' V : Cell, Blank "java/lang/String" a D' u ∧ Same D D' [fV.slot, fC.slot] ∧ D'.slots[fV.slot]? = some (.ref s.heap.size) ∧ D'.slots[fC.slot]? = some (.int 0) ∧ Arr .byte s.heap.size V u ∧ V.vm = .none ∧ u.vm.findClass "[B" = some V.cls ∧ V.slots.size = len ∧ (∀ j, j < len → V.slots[j]? = some (.int (lo8 (cv A (o + j))))) ∧ (∀ (y : Addr) (c : Cell), y ≠ a → s.heap[y]? = some c → u.heap[y]? = some c) ∧ u.heap.size = s.heap.size + 1
theorem Got.mv {a : Addr} {D A : Cell} {fV fC : Field} {o len : Nat} : ∀ r (U U' V V' : State), U'.heap = U.heap → V.vm.Alike V'.vm → V'.heap = V.heap → Got a D fV fC A o len r U V → Got a D fV fC A o len r U' V' :=
  fun r U U' V V' h1 hal h2 ⟨e0, D', X, a1, a2, a3, a4, a5, a6, a7, a8, a9, a10, a11⟩ => ⟨e0, D', X, a1.mv hal h2, a2, by rw [h1]; exact a3, a4, by rw [h1]; exact a5.mv hal h2, a6, by rw [hal.findClass]; exact a7, a8, a9, by rw [h1, h2]; exact a10, by rw [h1, h2]; exact a11⟩
namespace New4
def yN : MethodName := ⟨"java/lang/String", "<init>", "([CIILjava/lang/Void;)V"⟩
abbrev yB : ByteArray := jdk_42_method_149_code
theorem d0 : decode yB 0 = .ok (.aload_n 0, 1) := by decide +kernel
theorem d1 : decode yB 1 = .ok (.invokespecial 1, 3) := by decide +kernel
theorem d4 : decode yB 4 = .ok (.iload_n 3, 1) := by decide +kernel
theorem d5 : decode yB 5 = .ok (.ifCond (.ne) 22, 3) := by decide +kernel
theorem d27 : decode yB 27 = .ok (.getstatic 38, 3) := by decide +kernel
theorem d30 : decode yB 30 = .ok (.ifCond (.eq) 28, 3) := by decide +kernel
theorem d33 : decode yB 33 = .ok (.aload_n 1, 1) := by decide +kernel
theorem d34 : decode yB 34 = .ok (.iload_n 2, 1) := by decide +kernel
theorem d35 : decode yB 35 = .ok (.iload_n 3, 1) := by decide +kernel
theorem d36 : decode yB 36 = .ok (.invokestatic 177, 3) := by decide +kernel
theorem d39 : decode yB 39 = .ok (.astore 5, 2) := by decide +kernel
theorem d41 : decode yB 41 = .ok (.aload_n 0, 1) := by decide +kernel
theorem d42 : decode yB 42 = .ok (.aload 5, 2) := by decide +kernel
theorem d44 : decode yB 44 = .ok (.iload_n 3, 1) := by decide +kernel
theorem d45 : decode yB 45 = .ok (.invokestatic 47, 3) := by decide +kernel
theorem d48 : decode yB 48 = .ok (.putfield 15, 3) := by decide +kernel
theorem d51 : decode yB 51 = .ok (.aload_n 0, 1) := by decide +kernel
theorem d52 : decode yB 52 = .ok (.aload 5, 2) := by decide +kernel
theorem d54 : decode yB 54 = .ok (.putfield 9, 3) := by decide +kernel
theorem d57 : decode yB 57 = .ok (.return_, 1) := by decide +kernel
def site : List Cond := [.fieldLink "java/lang/String" 38 "java/lang/String" "COMPACT_STRINGS" "Z", Cmp3.tab, CodL.tab, .laysFinal "java/lang/String" "java/lang/String" "value" "[B", .fieldLink "java/lang/String" 9 "java/lang/String" "value" "[B", .laysFinal "java/lang/String" "java/lang/String" "coder" "B", .fieldLink "java/lang/String" 15 "java/lang/String" "coder" "B"] ++ objW "java/lang/String" 1 ++ staticW "java/lang/String" 177 Cmp3.yN ++ staticW "java/lang/String" 47 CodL.yN
def tab : Cond := tabOf yN yB 6 none site
def P (a : Addr) (D : Cell) (fV fC : Field) (b : Addr) (A : Cell) (z : Int32) (o len : Nat) (args : Array Value) (s : State) : Prop := args = #[.ref a, .ref b, .int (Int32.ofNat o), .int (Int32.ofNat len), .null] ∧ Blank "java/lang/String" a D s ∧ Found "java/lang/String" "value" "[B" fV s ∧ Found "java/lang/String" "coder" "B" fC s ∧ Ch b A s ∧ StaticIs s "java/lang/String" "COMPACT_STRINGS" "Z" (.int z) ∧ ¬ z = 0 ∧ 0 < len ∧ o + len ≤ A.slots.size ∧ len ≤ 536870912 ∧ ∀ i, i < len → ¬ 255 < cv A (o + i)
def E (a : Addr) (D : Cell) (fV fC : Field) (A : Cell) (o len : Nat) (r : Option Value) (s u : State) : Prop := Got a D fV fC A o len r s u
/-- len > 0, no char of the range above 255: a Latin-1 String of their low bytes -/
theorem law (l : Launch) (a : Addr) (D : Cell) (fV fC : Field) (b : Addr) (A : Cell) (z : Int32) (o len : Nat) : Law l yN 5 4 2 35 yB 6 none site (P a D fV fC b A z o len) (E a D fV fC A o len) [⟨a, fC.slot⟩, ⟨a, fV.slot⟩] 1 len := by
  refine Law.of_walk (plainFor_of_name (by decide +kernel)) (by decide +kernel) (by decide +kernel) (by decide) (fun _ _ h => by rw [h.1]; rfl) (fun _ U U' hal hh h => ⟨h.1, h.2.1.mv hal hh, h.2.2.1.al hal, h.2.2.2.1.al hal, h.2.2.2.2.1.mv hal hh, h.2.2.2.2.2.1.there hal hh, h.2.2.2.2.2.2⟩) (fun r U U' V V' h1 hal h2 h => Got.mv r U U' V V' h1 hal h2 h) ?_
  intro p e s m args below meth c s₁ X0 hexec hbytes hml hret hlk hnm hown hh0 W hP
  obtain ⟨rfl, hB, f1, f2, hA, s1, hz, l0, l1, l2, hp⟩ := hP
  have a31 := hA.1.2.2.2
  have c1 : Steps p.tables e below (s₁.setTop (entryFrame m #[.ref a, .ref b, .int (Int32.ofNat o), .int (Int32.ofNat len), .null] 6)) (s₁.setTop (mkF m 0 #[.val (.ref a), .val (.ref b), .val (.int (Int32.ofNat o)), .val (.int (Int32.ofNat len)), .val .null, .unset] [])) := entry rfl
  have c2 : Steps p.tables e below (s₁.setTop (entryFrame m #[.ref a, .ref b, .int (Int32.ofNat o), .int (Int32.ofNat len), .null] 6)) (s₁.setTop (mkF m 1 #[.val (.ref a), .val (.ref b), .val (.int (Int32.ofNat o)), .val (.int (Int32.ofNat len)), .val .null, .unset] [.ref a])) := c1.trans (by
    refine XS.aloadN X0.here hexec rfl (hb hbytes d0) rfl rfl ?_
    exact Steps.refl _)
  obtain ⟨T3, X3, q3, st3⟩ := X0.oinit hexec hown (wks W (objW "java/lang/String" 1)) (g := (mkF m 1 #[.val (.ref a), .val (.ref b), .val (.int (Int32.ofNat o)), .val (.int (Int32.ofNat len)), .val .null, .unset] [.ref a])) rfl (by rw [hml]; rfl) (rest := []) rfl (hb hbytes d1) (W := 0) (by show 2 * 0 + 0 ≤ _; decide) (Nat.le_of_ble_eq_true rfl) (Nat.le_of_ble_eq_true rfl)
  have hh3 := q3.trans hh0
  have c4 : Steps p.tables e below (s₁.setTop (entryFrame m #[.ref a, .ref b, .int (Int32.ofNat o), .int (Int32.ofNat len), .null] 6)) (T3.setTop (mkF m 27 #[.val (.ref a), .val (.ref b), .val (.int (Int32.ofNat o)), .val (.int (Int32.ofNat len)), .val .null, .unset] [])) := (c2.trans (st3 _ (Steps.refl _))).trans (by
    refine XS.iloadN X3.here hexec rfl (hb hbytes d4) rfl ?_
    refine XS.ifYes X3.here hexec rfl (pc0 := 5) rfl (hb hbytes d5) rfl (i0_ne_t (nz32 (by omega) l0)) (by decide) rfl ?_
    exact Steps.refl _)
  obtain ⟨T5, X5, q5, st5⟩ := X3.sget hexec hown (wk W (.fieldLink "java/lang/String" 38 "java/lang/String" "COMPACT_STRINGS" "Z")) s1 (fun _ _ h => by rw [hh3]; exact h) (g := (mkF m 27 #[.val (.ref a), .val (.ref b), .val (.int (Int32.ofNat o)), .val (.int (Int32.ofNat len)), .val .null, .unset] [])) rfl (hb hbytes d27)
  have hh5 := q5.trans hh3
  have c6 : Steps p.tables e below (s₁.setTop (entryFrame m #[.ref a, .ref b, .int (Int32.ofNat o), .int (Int32.ofNat len), .null] 6)) (T5.setTop (mkF m 30 #[.val (.ref a), .val (.ref b), .val (.int (Int32.ofNat o)), .val (.int (Int32.ofNat len)), .val .null, .unset] [.int z])) := c4.trans (st5 _ (Steps.refl _))
  have c7 : Steps p.tables e below (s₁.setTop (entryFrame m #[.ref a, .ref b, .int (Int32.ofNat o), .int (Int32.ofNat len), .null] 6)) (T5.setTop (mkF m 36 #[.val (.ref a), .val (.ref b), .val (.int (Int32.ofNat o)), .val (.int (Int32.ofNat len)), .val .null, .unset] [.int (Int32.ofNat len), .int (Int32.ofNat o), .ref b])) := c6.trans (by
    refine XS.ifNo X5.here hexec rfl (hb hbytes d30) rfl (i0_eq_f hz) ?_
    refine XS.aloadN X5.here hexec rfl (hb hbytes d33) rfl rfl ?_
    refine XS.iloadN X5.here hexec rfl (hb hbytes d34) rfl ?_
    refine XS.iloadN X5.here hexec rfl (hb hbytes d35) rfl ?_
    exact Steps.refl _)
  obtain ⟨v8, T8, X8, E8, g8⟩ := X5.callS hexec (Cmp3.law l b A o len) hown (wks W (staticW "java/lang/String" 177 Cmp3.yN)) (wk W Cmp3.tab) (W := 0) (Nat.le_of_ble_eq_true rfl) (Nat.le_of_ble_eq_true rfl) (Nat.le_refl _) (by show 0 + len ≤ len; omega) (g := (mkF m 36 #[.val (.ref a), .val (.ref b), .val (.int (Int32.ofNat o)), .val (.int (Int32.ofNat len)), .val .null, .unset] [.int (Int32.ofNat len), .int (Int32.ofNat o), .ref b])) rfl (by rw [hml]; rfl) c7 (argsL := [.ref b, .int (Int32.ofNat o), .int (Int32.ofNat len)]) (rest := []) rfl rfl (by show 2 * 0 + 0 ≤ _; decide) (hb hbytes d36) (⟨rfl, hA.mv X5.warmed.alike hh5, l1, l2, hp⟩)
  obtain ⟨e8, z8⟩ := E8
  obtain ⟨rfl, N, n1, n2, n3, n4, n5, n6⟩ := NewArr.mv _ T5 s _ _ hh5.symm (Vm.Alike.refl _) rfl e8
  rw [hh5] at z8
  have hB1 := hB.keep X8.warmed.alike (n6 _ _ hB.1)
  have hne : s.heap.size ≠ a := (Nat.ne_of_lt (Array.getElem?_eq_some_iff.mp hB.1).1).symm
  have c9 : Steps p.tables e below (s₁.setTop (entryFrame m #[.ref a, .ref b, .int (Int32.ofNat o), .int (Int32.ofNat len), .null] 6)) (T8.setTop (mkF m 39 #[.val (.ref a), .val (.ref b), .val (.int (Int32.ofNat o)), .val (.int (Int32.ofNat len)), .val .null, .unset] [.ref s.heap.size])) := g8
  have c10 : Steps p.tables e below (s₁.setTop (entryFrame m #[.ref a, .ref b, .int (Int32.ofNat o), .int (Int32.ofNat len), .null] 6)) (T8.setTop (mkF m 45 #[.val (.ref a), .val (.ref b), .val (.int (Int32.ofNat o)), .val (.int (Int32.ofNat len)), .val .null, .val (.ref s.heap.size)] [.int (Int32.ofNat N.slots.size), .ref s.heap.size, .ref a])) := by
    have hc : Steps p.tables e below (s₁.setTop (entryFrame m #[.ref a, .ref b, .int (Int32.ofNat o), .int (Int32.ofNat len), .null] 6)) (T8.setTop (mkF m 45 #[.val (.ref a), .val (.ref b), .val (.int (Int32.ofNat o)), .val (.int (Int32.ofNat len)), .val .null, .val (.ref s.heap.size)] [.int (Int32.ofNat len), .ref s.heap.size, .ref a])) := c9.trans (by
      refine XS.astore X8.here hexec rfl (hb hbytes d39) rfl rfl rfl ?_
      refine XS.aloadN X8.here hexec rfl (hb hbytes d41) rfl rfl ?_
      refine XS.aload X8.here hexec rfl (hb hbytes d42) rfl rfl ?_
      refine XS.iloadN X8.here hexec rfl (hb hbytes d44) rfl ?_
      exact Steps.refl _)
    rw [n4]; exact hc
  obtain ⟨v11, T11, X11, E11, g11⟩ := X8.callS hexec (CodL.law l s.heap.size N) hown (wks W (staticW "java/lang/String" 47 CodL.yN)) (wk W CodL.tab) (W := 1) (Nat.le_of_ble_eq_true rfl) (Nat.le_of_ble_eq_true rfl) (Nat.le_refl _) (by show 0 + len + 0 ≤ len; omega) (g := (mkF m 45 #[.val (.ref a), .val (.ref b), .val (.int (Int32.ofNat o)), .val (.int (Int32.ofNat len)), .val .null, .val (.ref s.heap.size)] [.int (Int32.ofNat N.slots.size), .ref s.heap.size, .ref a])) rfl (by rw [hml]; rfl) c10 (argsL := [.ref s.heap.size, .int (Int32.ofNat N.slots.size)]) (rest := [.ref a]) rfl rfl (by show 2 * 0 + (1 + 0) ≤ _; decide) (hb hbytes d45) (⟨rfl, n1⟩)
  obtain ⟨rfl, q11⟩ := E11
  have hB11 := hB1.mv (X8.warmed.alike.symm.trans X11.warmed.alike) q11
  have c12 : Steps p.tables e below (s₁.setTop (entryFrame m #[.ref a, .ref b, .int (Int32.ofNat o), .int (Int32.ofNat len), .null] 6)) (T11.setTop (mkF m 48 #[.val (.ref a), .val (.ref b), .val (.int (Int32.ofNat o)), .val (.int (Int32.ofNat len)), .val .null, .val (.ref s.heap.size)] [.int 0, .ref a])) := g11
  obtain ⟨T13, X13, p13, bl13, sl13, st13⟩ := X11.finit hexec hown (wk W (.fieldLink "java/lang/String" 15 "java/lang/String" "coder" "B")) (Or.inr ⟨_, (wk W (.laysFinal "java/lang/String" "java/lang/String" "coder" "B"))⟩) (Or.inl ⟨rfl, hnm⟩) f2 (Or.inl rfl) hB11 (t := .byte) (by decide +kernel) rfl (g := (mkF m 48 #[.val (.ref a), .val (.ref b), .val (.int (Int32.ofNat o)), .val (.int (Int32.ofNat len)), .val .null, .val (.ref s.heap.size)] [.int 0, .ref a])) rfl (rest := []) rfl (hb hbytes d48)
  have c14 : Steps p.tables e below (s₁.setTop (entryFrame m #[.ref a, .ref b, .int (Int32.ofNat o), .int (Int32.ofNat len), .null] 6)) (T13.setTop (mkF m 54 #[.val (.ref a), .val (.ref b), .val (.int (Int32.ofNat o)), .val (.int (Int32.ofNat len)), .val .null, .val (.ref s.heap.size)] [.ref s.heap.size, .ref a])) := (c12.trans (st13 _ (Steps.refl _))).trans (by
    refine XS.aloadN X13.here hexec rfl (hb hbytes d51) rfl rfl ?_
    refine XS.aload X13.here hexec rfl (hb hbytes d52) rfl rfl ?_
    exact Steps.refl _)
  obtain ⟨T15, X15, p15, bl15, sl15, st15⟩ := X13.finit hexec hown (wk W (.fieldLink "java/lang/String" 9 "java/lang/String" "value" "[B")) (Or.inr ⟨_, (wk W (.laysFinal "java/lang/String" "java/lang/String" "value" "[B"))⟩) (Or.inl ⟨rfl, hnm⟩) f1 (Or.inl rfl) bl13 (t := (.array .byte)) (by decide +kernel) rfl (g := (mkF m 54 #[.val (.ref a), .val (.ref b), .val (.int (Int32.ofNat o)), .val (.int (Int32.ofNat len)), .val .null, .val (.ref s.heap.size)] [.ref s.heap.size, .ref a])) rfl (rest := []) rfl (hb hbytes d54)
  have c16 : Steps p.tables e below (s₁.setTop (entryFrame m #[.ref a, .ref b, .int (Int32.ofNat o), .int (Int32.ofNat len), .null] 6)) (T15.setTop (mkF m 57 #[.val (.ref a), .val (.ref b), .val (.int (Int32.ofNat o)), .val (.int (Int32.ofNat len)), .val .null, .val (.ref s.heap.size)] [])) := c14.trans (st15 _ (Steps.refl _))
  have ap := apart (Or.inr ⟨_, (wk W (.laysFinal "java/lang/String" "java/lang/String" "value" "[B"))⟩) (Or.inr ⟨_, (wk W (.laysFinal "java/lang/String" "java/lang/String" "coder" "B"))⟩) f1 f2 (t₁ := .array .byte) (t₂ := .byte) (by decide +kernel) (by decide +kernel) (by decide)
  have al := X8.warmed.alike.symm.trans X15.warmed.alike
  have n7 : T11.heap[s.heap.size]? = some N := by rw [q11]; exact n1.1
  exact ⟨T15, none, _, _, _, X15, by simp, rfl, by omega, (fun _ => rfl), ⟨rfl, _, N, bl15, ((Same.refl D _).set _ (by simp)).set _ (by simp), sl15, (Cell.slots_setSlot_ne _ ap).trans sl13, n1.keep al (p15.other hne (p13.other hne n7)), n2, by rw [al.findClass]; exact n3, n4, n5, fun y c h1 h2 => p15.other h1 (p13.other h1 (by rw [q11]; exact n6 y c h2)), by rw [p15.2.2, p13.2.2, q11]; exact z8⟩, fun fs hl => c16.trans (X15.returnOut hexec hret (hb hbytes d57) hl)⟩
end New4
namespace New1
def yN : MethodName := ⟨"java/lang/String", "<init>", "([C)V"⟩
abbrev yB : ByteArray := jdk_42_method_3_code
theorem d0 : decode yB 0 = .ok (.aload_n 0, 1) := by decide +kernel
theorem d1 : decode yB 1 = .ok (.aload_n 1, 1) := by decide +kernel
theorem d2 : decode yB 2 = .ok (.iconst 0, 1) := by decide +kernel
theorem d3 : decode yB 3 = .ok (.aload_n 1, 1) := by decide +kernel
theorem d4 : decode yB 4 = .ok (.arraylength, 1) := by decide +kernel
theorem d5 : decode yB 5 = .ok (.aconst_null, 1) := by decide +kernel
theorem d6 : decode yB 6 = .ok (.invokespecial 27, 3) := by decide +kernel
theorem d9 : decode yB 9 = .ok (.return_, 1) := by decide +kernel
def site : List Cond := [New4.tab] ++ initW "java/lang/String" 27 New4.yN
def tab : Cond := tabOf yN yB 2 none site
def P (a : Addr) (D : Cell) (fV fC : Field) (b : Addr) (A : Cell) (z : Int32) (args : Array Value) (s : State) : Prop := args = #[.ref a, .ref b] ∧ Blank "java/lang/String" a D s ∧ Found "java/lang/String" "value" "[B" fV s ∧ Found "java/lang/String" "coder" "B" fC s ∧ Ch b A s ∧ StaticIs s "java/lang/String" "COMPACT_STRINGS" "Z" (.int z) ∧ ¬ z = 0 ∧ 0 < A.slots.size ∧ A.slots.size ≤ 536870912 ∧ ∀ i, i < A.slots.size → ¬ 255 < cv A i
def E (a : Addr) (D : Cell) (fV fC : Field) (A : Cell) (r : Option Value) (s u : State) : Prop := Got a D fV fC A 0 A.slots.size r s u
/-- new String(chars), not empty, no char above 255: a Latin-1 String of their low bytes -/
theorem law (l : Launch) (a : Addr) (D : Cell) (fV fC : Field) (b : Addr) (A : Cell) (z : Int32) : Law l yN 2 1 3 52 yB 2 none site (P a D fV fC b A z) (E a D fV fC A) [⟨a, fC.slot⟩, ⟨a, fV.slot⟩] 1 A.slots.size := by
  refine Law.of_walk (plainFor_of_name (by decide +kernel)) (by decide +kernel) (by decide +kernel) (by decide) (fun _ _ h => by rw [h.1]; rfl) (fun _ U U' hal hh h => ⟨h.1, h.2.1.mv hal hh, h.2.2.1.al hal, h.2.2.2.1.al hal, h.2.2.2.2.1.mv hal hh, h.2.2.2.2.2.1.there hal hh, h.2.2.2.2.2.2⟩) (fun r U U' V V' h1 hal h2 h => Got.mv r U U' V V' h1 hal h2 h) ?_
  intro p e s m args below meth c s₁ X0 hexec hbytes hml hret hlk hnm hown hh0 W hP
  obtain ⟨rfl, hB, f1, f2, hA, s1, hz, l0, l2, hp⟩ := hP
  have c1 : Steps p.tables e below (s₁.setTop (entryFrame m #[.ref a, .ref b] 2)) (s₁.setTop (mkF m 0 #[.val (.ref a), .val (.ref b)] [])) := entry rfl
  have c2 : Steps p.tables e below (s₁.setTop (entryFrame m #[.ref a, .ref b] 2)) (s₁.setTop (mkF m 6 #[.val (.ref a), .val (.ref b)] [.null, .int (Int32.ofNat A.slots.size), .int 0, .ref b, .ref a])) := c1.trans (by
    refine XS.aloadN X0.here hexec rfl (hb hbytes d0) rfl rfl ?_
    refine XS.aloadN X0.here hexec rfl (hb hbytes d1) rfl rfl ?_
    refine iconstV X0.here hexec rfl 0 (hb hbytes d2) (by decide) ?_
    refine XS.aloadN X0.here hexec rfl (hb hbytes d3) rfl rfl ?_
    refine X0.alen hexec (hA.1.mv X0.warmed.alike hh0) rfl rfl (hb hbytes d4) ?_
    refine XS.aconstNull X0.here hexec rfl (hb hbytes d5) ?_
    exact Steps.refl _)
  obtain ⟨v3, T3, X3, E3, g3⟩ := X0.callN hexec (New4.law l a D fV fC b A z 0 A.slots.size) rfl hown (wks W (initW "java/lang/String" 27 New4.yN)) (W New4.tab (by simp only [site, List.mem_cons, List.mem_append, true_or, or_true])) (W := 0) (Nat.le_of_ble_eq_true rfl) (Nat.le_of_ble_eq_true rfl) (Nat.le_refl _) (by show 0 + A.slots.size ≤ A.slots.size; omega) (g := (mkF m 6 #[.val (.ref a), .val (.ref b)] [.null, .int (Int32.ofNat A.slots.size), .int (Int32.ofNat 0), .ref b, .ref a])) rfl (by rw [hml]; rfl) c2 (argsL := [.ref b, .int (Int32.ofNat 0), .int (Int32.ofNat A.slots.size), .null]) (rest := []) rfl rfl (by show 2 * 0 + 0 ≤ _; decide) (hb hbytes d6) (⟨rfl, hB.mv X0.warmed.alike hh0, f1.al X0.warmed.alike, f2.al X0.warmed.alike, hA.mv X0.warmed.alike hh0, s1.there X0.warmed.alike hh0, hz, l0, by omega, l2, fun i hi => by rw [Nat.zero_add]; exact hp i hi⟩)
  have e0 := Got.mv _ s₁ s _ _ hh0.symm (Vm.Alike.refl _) rfl E3
  obtain rfl := e0.1
  have c4 : Steps p.tables e below (s₁.setTop (entryFrame m #[.ref a, .ref b] 2)) (T3.setTop (mkF m 9 #[.val (.ref a), .val (.ref b)] [])) := g3
  exact ⟨T3, none, _, _, _, X3, by simp, rfl, by omega, (fun _ => rfl), e0, fun fs hl => c4.trans (X3.returnOut hexec hret (hb hbytes d9) hl)⟩
theorem pays {l : Launch} {R : Room} {p : Program} {e : Env} {below : List Frame} {s : State} {sargs : Array Value} {len W : Nat} (a : Addr) (D : Cell) (fV fC : Field) (b : Addr) (A : Cell) (z : Int32) (htab : tab.before sargs s = true) (hfr : 4 ≤ R.frames) (hlo : W + 65 ≤ R.locals) :
    Back l R p e below s sargs yN len W (fun A₁ a₁ => A₁.cells + 1 ≤ R.cells ∧ A₁.slots + A.slots.size ≤ R.slots ∧ P a D fV fC b A z a₁ A₁.U) (fun A₁ _ v₁ B₁ => E a D fV fC A v₁ A₁.U B₁.U ∧ B₁.locs = A₁.locs ++ [⟨a, fC.slot⟩, ⟨a, fV.slot⟩] ∧ B₁.cells = A₁.cells + 1 ∧ B₁.slots = A₁.slots + A.slots.size) :=
  (law l a D fV fC b A z).pays htab hfr (by omega)
end New1
/-- the byte, read back as charAt reads it, is the char -/
theorem lo8_mask {x : Int32} (h0 : ¬ x < 0) (h1 : ¬ 255 < x) : lo8 x &&& 255 = x := by
  have t : ∀ k : Fin 256, lo8 (Int32.ofNat k.val) &&& 255 = Int32.ofNat k.val := by decide +kernel
  rw [Int32.lt_iff_toInt_lt] at h0 h1
  have e0 : (0 : Int32).toInt = 0 := rfl
  have e1 : (255 : Int32).toInt = 255 := rfl
  obtain ⟨k, hk⟩ : ∃ k : Nat, x.toInt = k := ⟨x.toInt.toNat, by omega⟩
  have hx : x = Int32.ofNat k := Int32.toInt_inj.mp (by rw [hk, Int32.toInt_ofNat_small (by omega)])
  rw [hx]
  exact t ⟨k, by omega⟩
end StrChars
namespace StrChars.Road
open Jvm Sem ClassFile Op Lib Jvm.Stand Jvm.Free Jvm.Free.XT
open Jvm.Lib.Cold (StaticIs)
abbrev ST : String := "java/lang/String"
/-- every table word that New1's law asks, flat -/
abbrev words : List Jvm.Cond := [.code New1.yN New1.yB 2 none, .initialized ST, .methodLink ST 27 New4.yN, .instanceMethod New4.yN,
  .code New4.yN New4.yB 6 none, .fieldLink ST 38 ST "COMPACT_STRINGS" "Z", .laysFinal ST ST "value" "[B", .fieldLink ST 9 ST "value" "[B", .laysFinal ST ST "coder" "B", .fieldLink ST 15 ST "coder" "B",
  .methodLink ST 1 Lib.objectInit, .instanceMethod Lib.objectInit, .code Lib.objectInit ⟨#[0xb1]⟩ 1 none, .methodLink ST 177 Cmp3.yN, .static Cmp3.yN, .methodLink ST 47 CodL.yN, .static CodL.yN,
  .code Cmp3.yN Cmp3.yB 6 (some (.array .byte)), .initialized U16, .arrayClass .byte, .methodLink U16 115 Cmp5.yN, .static Cmp5.yN, .code Cmp5.yN Cmp5.yB 7 (some .int), .code CodL.yN CodL.yB 2 (some .byte)]
theorem tab_of {a : Array Value} {s : State} (h : ∀ w ∈ words, w.before a s = true) : New1.tab.before a s = true := by
  have h5 : Cmp5.tab.before a s = true := unparts (wk h (.code Cmp5.yN Cmp5.yB 7 (some .int))) (wks h (.initialized Cmp5.yN.cls :: Cmp5.site))
  have hc : CodL.tab.before a s = true := unparts (wk h (.code CodL.yN CodL.yB 2 (some .byte))) (wks h (.initialized CodL.yN.cls :: CodL.site))
  have q5 : ∀ w ∈ Cmp5.tab :: words, w.before a s = true := fun w hw => (List.mem_cons.mp hw).elim (fun e => e ▸ h5) (h w)
  have h3 : Cmp3.tab.before a s = true := unparts (wk q5 (.code Cmp3.yN Cmp3.yB 6 (some (.array .byte)))) (wks q5 (.initialized Cmp3.yN.cls :: Cmp3.site))
  have q3 : ∀ w ∈ Cmp3.tab :: CodL.tab :: words, w.before a s = true := fun w hw => (List.mem_cons.mp hw).elim (fun e => e ▸ h3) fun hw => (List.mem_cons.mp hw).elim (fun e => e ▸ hc) (h w)
  have h4 : New4.tab.before a s = true := unparts (wk q3 (.code New4.yN New4.yB 6 none)) (wks q3 (.initialized New4.yN.cls :: New4.site))
  have q4 : ∀ w ∈ New4.tab :: words, w.before a s = true := fun w hw => (List.mem_cons.mp hw).elim (fun e => e ▸ h4) (h w)
  exact unparts (wk q4 (.code New1.yN New1.yB 2 none)) (wks q4 (.initialized New1.yN.cls :: New1.site))
/-- the words ride from the start Z to the walk's own state -/
theorem moved {Z s : State} {a0 args : Array Value} (hZ : Z.Warmed39 s.vm) (hw : ∀ d ∈ words, d.before a0 Z = true) : ∀ d ∈ words, d.before args s = true := fun d hd => by
  have q := hw d hd
  have t : ∀ d ∈ words, d = .arrayClass .byte ∨ (d.onTables && d.keepsFace) = true := by decide +kernel
  rcases t d hd with rfl | t
  · exact RoadKit.mvA hZ q
  · exact RoadKit.mv hZ q t
/-- WHAT COMES BACK, over the tables of the start Z: h the heap at the call, h' behind it -/
def Q (Z : State) (x : Addr) (A : Cell) (h : Heap) (v : Option Value) (h' : Heap) (L : List Loc) : Prop := v = none ∧ (∀ y ∈ L, y.base = x) ∧ RoadKit.Keep h h' [x] ∧ h'.size = h.size + 1 ∧ RoadKit.Exa Z h' x ST ∧ RoadKit.Fld Z h' x ST "value" "[B" (.ref h.size) ∧ RoadKit.Fld Z h' x ST "coder" "B" (.int 0) ∧
  (∃ V : Cell, RoadKit.Arr Z h' h.size V .byte ∧ V.vm = .none ∧ Z.vm.findClass "[B" = some V.cls ∧ V.slots.size = A.slots.size ∧ ∀ j, j < A.slots.size → V.slots[j]? = some (.int (lo8 (cv A j)))) ∧
  ∀ (O n d : String) (w : Value), RoadKit.Fld Z h x O n d w → RoadKit.slotOf Z O n d ≠ RoadKit.slotOf Z ST "value" "[B" → RoadKit.slotOf Z O n d ≠ RoadKit.slotOf Z ST "coder" "B" → RoadKit.Fld Z h' x O n d w
/-- **new String(chars) AT A CALL, IN THE ROAD'S FORM**: for specialBack behind newO: x the fresh String, b the char[] with the cell A -/
theorem back {p : Program} {l : Launch} {e : Env} {R : Room} {s : State} {args : Array Value} {below : List Frame} {len W : Nat} {Z : State} {a0 : Array Value} {h : Heap} (hZ : Z.Warmed39 s.vm) (hw : ∀ d ∈ words, d.before a0 Z = true) {kI : Nat} (wi : (Jvm.Cond.instantiable ST kI).before a0 Z = true)
    {x b : Addr} {A : Cell} {z : Int32} {v0 c0 : Value} (E : RoadKit.Exa Z h x ST) (V : RoadKit.Fld Z h x ST "value" "[B" v0) (C : RoadKit.Fld Z h x ST "coder" "B" c0) (K : RoadKit.Arr Z h b A .char) (hty : Typed .char A) (S : RoadKit.Sta Z h ST "COMPACT_STRINGS" "Z" (.int z)) (hz : ¬ z = 0)
    (l0 : 0 < A.slots.size) (l2 : A.slots.size ≤ 536870912) (hp : ∀ i, i < A.slots.size → ¬ 255 < cv A i) (hfr : 4 ≤ R.frames) (hlo : W + 65 ≤ R.locals) :
    Back l R p e below s args New1.yN len W (fun P a => a = #[.ref x, .ref b] ∧ P.U.heap = h ∧ P.cells + 1 ≤ R.cells ∧ P.slots + A.slots.size ≤ R.slots)
      (fun P _ v B => ∃ L, Q Z x A h v B.U.heap L ∧ B.locs = P.locs ++ L ∧ B.cells = P.cells + 1 ∧ B.slots = P.slots + A.slots.size) := by
  intro m meth c P g ig mk a X hg hsize hdg hW hn hp'
  obtain ⟨rfl, rfl, r1, r2⟩ := hp'
  have al : Z.vm.Alike P.U.vm := hZ.alike.trans X.warmed.alike
  obtain ⟨D, cfV, kV, iV, fV, hD, gV, stV, knV, obV, asV, slV⟩ := id V
  obtain ⟨D', cfC, kC, iC, fC, hD', gC, stC, -, -, asC, slC⟩ := id C
  cases hD.symm.trans hD'
  obtain ⟨D2, kD, e1, e2, e3, e4, e5⟩ := id E
  cases hD.symm.trans e1
  obtain ⟨c2, k2, i1, i2, i3, -⟩ := Cond.instantiable_spec wi
  cases e2.symm.trans i1
  cases e3.symm.trans i2
  obtain ⟨kU, u1, u2⟩ := al.2.2 _ _ e3
  have hB : Blank ST x D P.U := ⟨hD, ⟨knV, fun q hq => by rw [hq] at obV; cases obV⟩, by rw [al.findClass]; exact e2, kU, u1, by rw [u2]; exact i3, by rw [u2]; exact e5 i3⟩
  have F1 : Found ST "value" "[B" fV P.U := ⟨SBG.found_only al ⟨cfV, kV, iV, gV⟩, stV⟩
  have F2 : Found ST "coder" "B" fC P.U := ⟨SBG.found_only al ⟨cfC, kC, iC, gC⟩, stC⟩
  have hA : Ch b A P.U := ⟨⟨K.1, State.isArrayOf_alike al K.2.1, K.2.2, by omega⟩, hty⟩
  have hS : StaticIs P.U ST "COMPACT_STRINGS" "Z" (.int z) := by
    obtain ⟨cfS, iS, kS, fS, st, cS, t1, t2, t3, t4, t5, t6, t7⟩ := S
    exact StaticIs.there (s := { Z with heap := P.U.heap }) ⟨cfS, iS, kS, fS, st, cS, t1, t2, t3, t4, t5, (fun q => by rw [q] at t6; cases t6), t7⟩ al rfl
  obtain ⟨v, B, X', ⟨⟨hv, E', V', q1, q2, q3, q4, q5, q6, q7, q8, q9, q10, q11⟩, hl, hc, hs⟩, st⟩ := New1.pays x D fV fC b A z (tab_of (moved hZ hw)) hfr hlo m meth c P g ig mk _ X hg hsize hdg hW hn ⟨r1, r2, rfl, hB, F1, F2, hA, hS, hz, l0, l2, hp⟩
  have al' : Z.vm.Alike B.U.vm := hZ.alike.trans X'.warmed.alike
  have hsz : E'.slots.size = D.slots.size := by
    obtain ⟨-, -, -, kB, w1, w2, w3⟩ := q1
    obtain ⟨kB', y1, y2⟩ := al'.2.2 _ _ e3
    rw [q2.2.1] at w1
    cases w1.symm.trans y1
    rw [w3, e5 i3, y2]
  refine ⟨v, B, X', ⟨_, ⟨hv, ?_, ⟨by omega, fun y cy hy hn' => q10 y cy (by simpa using hn') hy, fun y cy hy => ?_⟩, q11, ⟨E', _, q1.1, by rw [q2.2.1]; exact e2, by rw [q2.2.1]; exact e3, by rw [q2.1]; exact obV, fun _ => by rw [hsz]; exact e5 i3⟩,
    ⟨E', cfV, kV, iV, fV, q1.1, gV, stV, by rw [q2.1]; exact knV, by rw [q2.1]; exact obV, by rw [q2.2.1]; exact asV, q3⟩, ⟨E', cfC, kC, iC, fC, q1.1, gC, stC, by rw [q2.1]; exact knV, by rw [q2.1]; exact obV, by rw [q2.2.1]; exact asC, q4⟩,
    ⟨V', ⟨q5.1, State.isArrayOf_alike al'.symm q5.2.1, q5.2.2.1⟩, q6, by rw [← al'.findClass]; exact q7, q8, fun j hj => by have := q9 j hj; rwa [Nat.zero_add] at this⟩, fun O n d w F n1 n2 => ?_⟩, hl, hc, hs⟩, st⟩
  · intro y hy
    simp only [List.mem_cons, List.not_mem_nil, or_false] at hy
    rcases hy with rfl | rfl <;> rfl
  · by_cases q : y = x
    · subst q
      cases hD.symm.trans hy
      exact ⟨E', q1.1, q2.2.1, q2.1, hsz⟩
    · exact ⟨cy, q10 y cy q hy, rfl, rfl, rfl⟩
  · obtain ⟨D3, cf, k, i, f, g1, g2, g3, g4, g5, g6, g7⟩ := F
    cases hD.symm.trans g1
    simp only [RoadKit.slotOf, g2, gV, gC, Option.map_some, Option.getD_some] at n1 n2
    exact ⟨E', cf, k, i, f, q1.1, g2, g3, by rw [q2.1]; exact g4, by rw [q2.1]; exact g5, by rw [q2.2.1]; exact g6, by rw [q2.2.2 f.slot (by simp [n1, n2])]; exact g7⟩
end StrChars.Road
namespace StrChars.Road
open Jvm Sem ClassFile Op Lib Jvm.Stand Jvm.Free Jvm.Free.XT
/-- WHAT COMES BACK, the byte[] as a list of values -/
def QA (Z : State) (x : Addr) (zn : Int32) (cs : List Int32) (h : Heap) (v : Option Value) (h' : Heap) (L : List Loc) : Prop := v = none ∧ (∀ y ∈ L, y.base = x) ∧ RoadKit.Keep h h' [x] ∧ h'.size = h.size + 1 ∧ RoadKit.Exa Z h' x ST ∧ RoadKit.Fld Z h' x ST "value" "[B" (.ref h.size) ∧ RoadKit.Fld Z h' x ST "coder" "B" (.int 0) ∧
  (∃ kb, Z.vm.findClass "[B" = some kb ∧ RoadKit.Arv Z h' h.size kb .byte zn (cs.map fun c => .int (lo8 c)) (.int 0)) ∧
  ∀ (O n d : String) (w : Value), RoadKit.Fld Z h x O n d w → RoadKit.slotOf Z O n d ≠ RoadKit.slotOf Z ST "value" "[B" → RoadKit.slotOf Z O n d ≠ RoadKit.slotOf Z ST "coder" "B" → RoadKit.Fld Z h' x O n d w
/-- **new String(chars) AT A CALL, THE ARRAYS AS LISTS**: the char[] at b holds cs, not empty, no char above 255 -/
theorem backArv {p : Program} {l : Launch} {e : Env} {R : Room} {s : State} {args : Array Value} {below : List Frame} {len W : Nat} {Z : State} {a0 : Array Value} {h : Heap} (hZ : Z.Warmed39 s.vm) (hw : ∀ d ∈ words, d.before a0 Z = true) {kI : Nat} (wi : (Jvm.Cond.instantiable ST kI).before a0 Z = true)
    {x b : Addr} {k : ClassId} {zn z : Int32} {cs : List Int32} {dv v0 c0 : Value} (E : RoadKit.Exa Z h x ST) (V : RoadKit.Fld Z h x ST "value" "[B" v0) (C : RoadKit.Fld Z h x ST "coder" "B" c0) (K : RoadKit.Arv Z h b k .char zn (cs.map Value.int) dv) (S : RoadKit.Sta Z h ST "COMPACT_STRINGS" "Z" (.int z)) (hz : ¬ z = 0)
    (hlen : zn.toNatClampNeg = cs.length) (h0 : 0 < cs.length) (hbig : cs.length ≤ 536870912) (hall : ∀ c ∈ cs, ¬ 255 < c) (hfr : 4 ≤ R.frames) (hlo : W + 65 ≤ R.locals) :
    Back l R p e below s args New1.yN len W (fun P a => a = #[.ref x, .ref b] ∧ P.U.heap = h ∧ P.cells + 1 ≤ R.cells ∧ P.slots + cs.length ≤ R.slots)
      (fun P _ v B => ∃ L, QA Z x zn cs h v B.U.heap L ∧ B.locs = P.locs ++ L ∧ B.cells = P.cells + 1 ∧ B.slots = P.slots + cs.length) := by
  obtain ⟨A, K1, K2, K3, K4, K5, K6⟩ := K
  have e : A.slots.size = cs.length := K3.trans hlen
  have hat : ∀ (i : Nat) (hi : i < cs.length), A.slots[i]? = some (.int cs[i]) := fun i hi => by rw [K5 i (by omega)]; simp [List.getD_eq_getElem?_getD, hi]
  have hcv : ∀ (i : Nat) (hi : i < cs.length), cv A i = cs[i] := fun i hi => by unfold cv; rw [hat i hi]
  have hty : Typed .char A := fun i v hv => by
    have hi : i < A.slots.size := (Array.getElem?_eq_some_iff.mp hv).1
    have q := K5 i hi
    rw [hv] at q
    rw [Option.some.inj q]
    exact K6 i hi
  refine Back.mono (back hZ hw wi E V C K1 hty S hz (by omega) (by omega) (fun i hi => by rw [hcv i (by omega)]; exact hall _ (List.getElem_mem _)) hfr hlo) (fun P a hp => ⟨hp.1, hp.2.1, hp.2.2.1, by rw [e]; exact hp.2.2.2⟩) (fun P a v B hp hq => ?_)
  obtain ⟨L, ⟨q1, q2, q3, q4, q5, q6, q7, ⟨V', v1, v2, v3, v4, v5⟩, q9⟩, hl, hc, hs⟩ := hq
  refine ⟨L, ⟨q1, q2, q3, q4, q5, q6, q7, ⟨V'.cls, v3, V', v1, rfl, by rw [v4, e, hlen], K4, fun i hi => ?_, fun i hi => ?_⟩, q9⟩, hl, hc, by rw [hs, e]⟩
  · have hi' : i < cs.length := by omega
    rw [v5 i (by omega), hcv i hi']; simp [List.getD_eq_getElem?_getD, hi']
  · have hi' : i < cs.length := by omega
    simp only [List.getD_eq_getElem?_getD, List.getElem?_map, List.getElem?_eq_getElem hi', Option.map_some, Option.getD_some]
    exact fits_lo8 _
end StrChars.Road
namespace StrChars.Road
open Jvm Sem ClassFile Op Lib Jvm.Stand Jvm.Free Jvm.Free.XT
/-- WHAT COMES BACK, in the writer's own shape -/
def QV (Z : State) (x : Addr) (N : Int32) (bs : List Int32) (h : Heap) (n0 : Nat) (v : Option Value) (h' : Heap) (L : List Loc) : Prop := v = none ∧ RoadKit.Fr n0 L ∧ RoadKit.Keep h h' [x] ∧ RoadKit.Exa Z h' x ST ∧ RoadKit.Fld Z h' x ST "coder" "B" (.int 0) ∧
  ∃ (t : Addr) (kb : ClassId), n0 ≤ t ∧ h.size ≤ t ∧ ¬ t = x ∧ RoadKit.Fld Z h' x ST "value" "[B" (.ref t) ∧ RoadKit.Arv Z h' t kb .byte N (bs.map Value.int) (.int 0)
/-- **new String(chars) AT A CALL, FOR THE WRITER**: a char[] of n known ints, each 0 to 255 -/
theorem backV {p : Program} {l : Launch} {e : Env} {R : Room} {s : State} {args : Array Value} {below : List Frame} {len W : Nat} {Z : State} {a0 : Array Value} {h : Heap} (hZ : Z.Warmed39 s.vm) (hw : ∀ d ∈ words, d.before a0 Z = true) {kI : Nat} (wi : (Jvm.Cond.instantiable ST kI).before a0 Z = true)
    {x b : Addr} {kC : ClassId} {cs bs : List Int32} {d v0 c0 : Value} {z N : Int32} {n n0 : Nat} (hx0 : n0 ≤ x) (hh0 : n0 ≤ h.size) (E : RoadKit.Exa Z h x ST) (V : RoadKit.Fld Z h x ST "value" "[B" v0) (C : RoadKit.Fld Z h x ST "coder" "B" c0) (K : RoadKit.Arv Z h b kC .char N (cs.map Value.int) d) (S : RoadKit.Sta Z h ST "COMPACT_STRINGS" "Z" (.int z)) (hz : ¬ z = 0)
    (hn : cs.length = n) (hN : N = Int32.ofNat n) (l0 : 0 < n) (l2 : n ≤ 4000) (hp : ∀ c ∈ cs, ¬ c < 0 ∧ ¬ (255 : Int32) < c) (hb : bs = cs.map (fun c => c.toInt8.toInt32)) (hfr : 4 ≤ R.frames) (hlo : W + 65 ≤ R.locals) :
    Back l R p e below s args (⟨"java/lang/String", "<init>", "([C)V"⟩ : MethodName) len W (fun P a => a = #[.ref x, .ref b] ∧ P.U.heap = h ∧ P.cells + 1 ≤ R.cells ∧ P.slots + n ≤ R.slots)
      (fun P _ v B => ∃ L, QV Z x N bs h n0 v B.U.heap L ∧ B.locs = P.locs ++ L ∧ B.cells = P.cells + 1 ∧ B.slots = P.slots + n) := by
  subst hn hN hb
  refine Back.mono (backArv hZ hw wi E V C K S hz (n32 (by omega)) l0 (by omega) (fun c hc => (hp c hc).2) hfr hlo) (fun P a hp => hp) (fun P a v B hp hq => ?_)
  obtain ⟨L, ⟨q1, q2, q3, q4, q5, q6, q7, ⟨kb, v1, v2⟩, q9⟩, hl, hc, hs⟩ := hq
  exact ⟨L, ⟨q1, fun y hy => by rw [q2 y hy]; exact hx0, q3, q5, q7, h.size, kb, hh0, Nat.le_refl _, Nat.ne_of_gt E.lt, q6, by rw [List.map_map]; exact v2⟩, hl, hc, hs⟩
end StrChars.Road
namespace StrChars
open Jvm Sem ClassFile Op Lib Jvm.Stand Jvm.Free.XT Jvm.Free.ALB Jvm.Free.JM Jvm.Free
open Jvm.Lib.Cold (StaticIs)
def hi8 (x : Int32) : Int32 := lo8 (x >>> ((8 : Int32) &&& 31))
/-- what StringUTF16.getChar makes of two bytes -/
def pairCh (u v : Int32) : Int32 := (((u &&& 255) <<< ((0 : Int32) &&& 31)) ||| ((v &&& 255) <<< ((8 : Int32) &&& 31))).toUInt32.toUInt16.toUInt32.toInt32
theorem lo8_and (x : Int32) : (lo8 x &&& 255).toBitVec.toNat = x.toBitVec.toNat % 256 := by
  have h : (lo8 x).toBitVec = (x.toBitVec.signExtend 8).signExtend 32 := by rw [lo8, Int8.toBitVec_toInt32, Int32.toBitVec_toInt8]
  rw [Int32.toBitVec_and, BitVec.toNat_and, h]
  have e : ((x.toBitVec.signExtend 8).signExtend 32).toNat % 256 = x.toBitVec.toNat % 256 := by
    rw [BitVec.toNat_signExtend]
    have hlt := x.toBitVec.isLt
    simp only [BitVec.toNat_setWidth, BitVec.toNat_signExtend]
    split <;> split <;> omega
  rw [← e]
  exact Nat.and_two_pow_sub_one_eq_mod _ 8
theorem pair_says {c : Int32} (h0 : ¬ c < 0) (h1 : ¬ 65535 < c) : pairCh (lo8 c) (hi8 c) = c := by
  rw [Int32.lt_iff_toInt_lt] at h0 h1
  have e0 : (0 : Int32).toInt = 0 := rfl
  have e1 : (65535 : Int32).toInt = 65535 := rfl
  have hc : c.toInt = c.toBitVec.toNat := by
    have := c.toBitVec.isLt
    have e : c.toInt = c.toBitVec.toInt := rfl
    rw [e] at h0 h1
    rw [e]
    rw [BitVec.toInt_eq_toNat_cond] at h0 h1 ⊢
    split at h0 <;> split <;> omega
  have hn : c.toBitVec.toNat < 65536 := by omega
  have a1 := lo8_and c
  have a2 : (hi8 c &&& 255).toBitVec.toNat = c.toBitVec.toNat / 256 := by
    rw [hi8, lo8_and]
    have e : ((8 : Int32) &&& 31) = 8 := by decide
    rw [e, Int32.toBitVec_shiftRight]
    have e2 : ((8 : Int32).toBitVec.smod 32) = 8#32 := by decide
    rw [e2, BitVec.sshiftRight_eq', BitVec.toNat_sshiftRight_of_msb_false (by rw [BitVec.msb_eq_false_iff_two_mul_lt]; omega)]
    show c.toBitVec.toNat >>> 8 % 256 = _
    rw [Nat.shiftRight_eq_div_pow]
    omega
  unfold pairCh
  apply Int32.toBitVec_inj.mp
  apply BitVec.eq_of_toNat_eq
  have f0 : ((0 : Int32) &&& 31) = 0 := by decide
  have f8 : ((8 : Int32) &&& 31) = 8 := by decide
  rw [f0, f8]
  have g : (((lo8 c &&& 255) <<< (0 : Int32)) ||| ((hi8 c &&& 255) <<< (8 : Int32))).toBitVec.toNat = c.toBitVec.toNat := by
    rw [Int32.toBitVec_or, Int32.toBitVec_shiftLeft, Int32.toBitVec_shiftLeft]
    have s0 : ((0 : Int32).toBitVec.smod 32) = 0#32 := by decide
    have s8 : ((8 : Int32).toBitVec.smod 32) = 8#32 := by decide
    rw [s0, s8, BitVec.toNat_or]
    simp only [BitVec.shiftLeft_eq', BitVec.toNat_shiftLeft, a1, a2]
    show (c.toBitVec.toNat % 256) <<< 0 % 2 ^ 32 ||| (c.toBitVec.toNat / 256) <<< 8 % 2 ^ 32 = _
    rw [Nat.shiftLeft_zero, Nat.mod_eq_of_lt (show c.toBitVec.toNat % 256 < 2 ^ 32 by omega), Nat.mod_eq_of_lt (show (c.toBitVec.toNat / 256) <<< 8 < 2 ^ 32 by rw [Nat.shiftLeft_eq]; omega), Nat.or_comm, ← Nat.shiftLeft_add_eq_or_of_lt (by omega), Nat.shiftLeft_eq]
    omega
  show BitVec.toNat (((((lo8 c &&& 255) <<< (0 : Int32)) ||| ((hi8 c &&& 255) <<< (8 : Int32))).toBitVec.setWidth 16).setWidth 32) = _
  rw [BitVec.toNat_setWidth, BitVec.toNat_setWidth, g]
  omega
end StrChars
namespace StrChars
open Jvm Sem ClassFile Op Lib Jvm.Stand Jvm.Free.XT Jvm.Free.ALB Jvm.Free.JM Jvm.Free
open Jvm.Lib.Cold (StaticIs)
/-- the array's cell V codes the n chars f 0 .. f (n - 1) by the coder cd, as the JDK does: coder 1 just where some char is above 255 -/
def Cod (cd : Int32) (n : Nat) (f : Nat → Int32) (V : Cell) : Prop := (cd = 0 ∧ V.slots.size = n ∧ ∀ j, j < n → V.slots[j]? = some (.int (lo8 (f j))) ∧ ¬ 255 < f j) ∨ (cd = 1 ∧ V.slots.size = 2 * n ∧ (∀ j, j < n → V.slots[2 * j]? = some (.int (lo8 (f j))) ∧ V.slots[2 * j + 1]? = some (.int (hi8 (f j)))) ∧ ∃ j, j < n ∧ 255 < f j)
/-- **x is a String of the n chars f 0 .. f (n - 1)**, Latin-1 or UTF-16; its array at t has the cell V -/
def Txt (x t : Addr) (V : Cell) (cd : Int32) (n : Nat) (f : Nat → Int32) (U : State) : Prop := Exact "java/lang/String" x U ∧ Has x "java/lang/String" "value" "[B" (.ref t) U ∧ Has x "java/lang/String" "coder" "B" (.int cd) U ∧ XT.Arr .byte t V U ∧ Cod cd n f V ∧ ∀ j, j < n → ¬ f j < 0 ∧ ¬ 65535 < f j
theorem Txt.mv {x t : Addr} {V : Cell} {cd : Int32} {n : Nat} {f : Nat → Int32} {U U' : State} (h : Txt x t V cd n f U) (hal : U.vm.Alike U'.vm) (hh : U'.heap = U.heap) : Txt x t V cd n f U' := ⟨h.1.mv hal hh, h.2.1.mv hal hh, h.2.2.1.mv hal hh, h.2.2.2.1.mv hal hh, h.2.2.2.2⟩
end StrChars
namespace StrChars.Road
open Jvm Sem ClassFile Op Lib Jvm.Stand Jvm.Free Jvm.Free.XT
open Jvm.Lib.Cold (StaticIs)
theorem consq {a : Array Value} {s : State} {c : Jvm.Cond} {L : List Jvm.Cond} (h0 : c.before a s = true) (h : ∀ w ∈ L, w.before a s = true) : ∀ w ∈ c :: L, w.before a s = true := fun w hw => (List.mem_cons.mp hw).elim (fun e => e ▸ h0) (h w)
/-- the bytes of the chars cs, low before high -/
def wideBytes : List Int32 → List Value
  | [] => []
  | c :: cs => .int (lo8 c) :: .int (hi8 c) :: wideBytes cs
theorem wide_lo (d : Value) : ∀ (cs : List Int32) (j : Nat), j < cs.length → (wideBytes cs).getD (2 * j) d = .int (lo8 (cs.getD j 0))
  | [], j, h => absurd h (Nat.not_lt_zero j)
  | c :: cs, 0, _ => rfl
  | c :: cs, j + 1, h => by
    have q := wide_lo d cs j (by simpa using h)
    rw [show 2 * (j + 1) = 2 * j + 1 + 1 from by omega]
    simpa [wideBytes] using q
theorem wide_hi (d : Value) : ∀ (cs : List Int32) (j : Nat), j < cs.length → (wideBytes cs).getD (2 * j + 1) d = .int (hi8 (cs.getD j 0))
  | [], j, h => absurd h (Nat.not_lt_zero j)
  | c :: cs, 0, _ => rfl
  | c :: cs, j + 1, h => by
    have q := wide_hi d cs j (by simpa using h)
    rw [show 2 * (j + 1) + 1 = 2 * j + 1 + 1 + 1 from by omega]
    simpa [wideBytes] using q
theorem low_at (d : Value) (cs : List Int32) (j : Nat) (h : j < cs.length) : (cs.map fun c => Value.int (lo8 c)).getD j d = .int (lo8 (cs.getD j 0)) := by
  simp [List.getD_eq_getElem?_getD, h]
/-- an array of N2 bytes vs codes the chars cs by the coder cd -/
def CodA (cs : List Int32) (cd N2 : Int32) (vs : List Value) : Prop := (cd = 0 ∧ N2 = Int32.ofNat cs.length ∧ vs = (cs.map fun c => Value.int (lo8 c)) ∧ ∀ c ∈ cs, ¬ 255 < c) ∨ (cd = 1 ∧ N2 = Int32.ofNat (2 * cs.length) ∧ vs = wideBytes cs ∧ ∃ c ∈ cs, 255 < c)
theorem CodA.cod {cs : List Int32} {cd N2 : Int32} {vs : List Value} {V : Cell} (h : CodA cs cd N2 vs) (hn : 2 * cs.length < 2 ^ 31) (hs : V.slots.size = N2.toNatClampNeg) (hv : RoadKit.Has V vs (.int 0)) : Cod cd cs.length (fun j => cs.getD j 0) V := by
  rcases h with ⟨rfl, rfl, rfl, h⟩ | ⟨rfl, rfl, rfl, c, hc, hw⟩
  · rw [n32 (by omega)] at hs
    exact Or.inl ⟨rfl, hs, fun j hj => ⟨by rw [hv j (by omega), low_at _ _ _ hj], by
      have e : cs.getD j 0 = cs[j] := by simp [List.getD_eq_getElem?_getD, hj]
      show ¬ 255 < cs.getD j 0
      rw [e]; exact h _ (List.getElem_mem _)⟩⟩
  · rw [n32 (by omega)] at hs
    obtain ⟨j, hj, rfl⟩ := List.getElem_of_mem hc
    exact Or.inr ⟨rfl, hs, fun j hj => ⟨by rw [hv _ (by omega), wide_lo _ _ _ hj], by rw [hv _ (by omega), wide_hi _ _ _ hj]⟩, j, hj, by
      have e : cs.getD j 0 = cs[j] := by simp [List.getD_eq_getElem?_getD, hj]
      show 255 < cs.getD j 0
      rw [e]; exact hw⟩
/-- an object of exactly java/lang/String, its two fields found: as the laws ask it -/
theorem strObj {Z U : State} {a0 : Array Value} {kI : Nat} (wi : (Jvm.Cond.instantiable ST kI).before a0 Z = true) (al : Z.vm.Alike U.vm) {x : Addr} {v0 c0 : Value} (E : RoadKit.Exa Z U.heap x ST) (V : RoadKit.Fld Z U.heap x ST "value" "[B" v0) (C : RoadKit.Fld Z U.heap x ST "coder" "B" c0) :
    ∃ (D : Cell) (fV fC : Field), Blank ST x D U ∧ Found ST "value" "[B" fV U ∧ Found ST "coder" "B" fC U ∧ D.slots[fV.slot]? = some v0 ∧ D.slots[fC.slot]? = some c0 ∧ RoadKit.slotOf Z ST "value" "[B" = fV.slot ∧ RoadKit.slotOf Z ST "coder" "B" = fC.slot := by
  obtain ⟨D, cfV, kV, iV, fV, hD, gV, stV, knV, obV, asV, slV⟩ := V
  obtain ⟨D', cfC, kC, iC, fC, hD', gC, stC, -, -, asC, slC⟩ := C
  cases hD.symm.trans hD'
  obtain ⟨D2, kD, e1, e2, e3, e4, e5⟩ := E
  cases hD.symm.trans e1
  obtain ⟨c2, k2, i1, i2, i3, -⟩ := Cond.instantiable_spec wi
  cases e2.symm.trans i1
  cases e3.symm.trans i2
  obtain ⟨kU, u1, u2⟩ := al.2.2 _ _ e3
  exact ⟨D, fV, fC, ⟨hD, ⟨knV, fun q hq => by rw [hq] at obV; cases obV⟩, by rw [al.findClass]; exact e2, kU, u1, by rw [u2]; exact i3, by rw [u2]; exact e5 i3⟩, ⟨SBG.found_only al ⟨cfV, kV, iV, gV⟩, stV⟩, ⟨SBG.found_only al ⟨cfC, kC, iC, gC⟩, stC⟩, slV, slC, by simp [RoadKit.slotOf, gV], by simp [RoadKit.slotOf, gC]⟩
theorem sta_is {Z U : State} (al : Z.vm.Alike U.vm) {C n d : String} {v : Value} (S : RoadKit.Sta Z U.heap C n d v) : StaticIs U C n d v := by
  obtain ⟨cfS, iS, kS, fS, st, cS, t1, t2, t3, t4, t5, t6, t7⟩ := S
  exact StaticIs.there (s := { Z with heap := U.heap }) ⟨cfS, iS, kS, fS, st, cS, t1, t2, t3, t4, t5, (fun q => by rw [q] at t6; cases t6), t7⟩ al rfl
end StrChars.Road
namespace StrChars
open Jvm Sem ClassFile Op Lib Jvm.Stand Jvm.Free.XT Jvm.Free.ALB Jvm.Free.JM Jvm.Free
open Jvm.Lib.Cold (StaticIs)
/-- what place i of a byte[]'s cell holds -/
def yv (A : Cell) (i : Nat) : Int32 := match A.slots[i]? with | some (.int x) => x | _ => 0
theorem yv_get {a : Addr} {A : Cell} {U : State} (h : XT.Arr .byte a A U) (ht : Typed .byte A) {i : Nat} (hi : i < A.slots.size) : A.slots[i]? = some (.int (yv A i)) := by
  have e := Array.getElem?_eq_getElem hi
  have f := ht i _ e
  unfold yv; rw [e]
  generalize A.slots[i] = v at f
  cases v <;> simp [fits] at f ⊢
/-- the two arrays are equal, place for place -/
def EqC (A B : Cell) : Prop := A.slots.size = B.slots.size ∧ ∀ i, i < A.slots.size → yv A i = yv B i
/-- a boolean that says whether p -/
def Says01 (q : Prop) (r : Option Value) (s u : State) : Prop := ∃ v : Int32, r = some (.int v) ∧ u.heap = s.heap ∧ ((v = 1 ∧ q) ∨ (v = 0 ∧ ¬ q))
theorem Says01.mv {q : Prop} : ∀ r (U U' V V' : State), U'.heap = U.heap → V.vm.Alike V'.vm → V'.heap = V.heap → Says01 q r U V → Says01 q r U' V' :=
  fun r U U' V V' h1 _ h2 ⟨v, a, b, c⟩ => ⟨v, a, by rw [h1, h2]; exact b, c⟩
namespace LEq
def yN : MethodName := ⟨"java/lang/StringLatin1", "equals", "([B[B)Z"⟩
abbrev yB : ByteArray := jdk_43_method_13_code
theorem d0 : decode yB 0 = .ok (.aload_n 0, 1) := by decide +kernel
theorem d1 : decode yB 1 = .ok (.arraylength, 1) := by decide +kernel
theorem d2 : decode yB 2 = .ok (.aload_n 1, 1) := by decide +kernel
theorem d3 : decode yB 3 = .ok (.arraylength, 1) := by decide +kernel
theorem d4 : decode yB 4 = .ok (.if_icmp (.ne) 30, 3) := by decide +kernel
theorem d7 : decode yB 7 = .ok (.iconst 0, 1) := by decide +kernel
theorem d8 : decode yB 8 = .ok (.istore_n 2, 1) := by decide +kernel
theorem d9 : decode yB 9 = .ok (.iload_n 2, 1) := by decide +kernel
theorem d10 : decode yB 10 = .ok (.aload_n 0, 1) := by decide +kernel
theorem d11 : decode yB 11 = .ok (.arraylength, 1) := by decide +kernel
theorem d12 : decode yB 12 = .ok (.if_icmp (.ge) 20, 3) := by decide +kernel
theorem d15 : decode yB 15 = .ok (.aload_n 0, 1) := by decide +kernel
theorem d16 : decode yB 16 = .ok (.iload_n 2, 1) := by decide +kernel
theorem d17 : decode yB 17 = .ok (.baload, 1) := by decide +kernel
theorem d18 : decode yB 18 = .ok (.aload_n 1, 1) := by decide +kernel
theorem d19 : decode yB 19 = .ok (.iload_n 2, 1) := by decide +kernel
theorem d20 : decode yB 20 = .ok (.baload, 1) := by decide +kernel
theorem d21 : decode yB 21 = .ok (.if_icmp (.eq) 5, 3) := by decide +kernel
theorem d24 : decode yB 24 = .ok (.iconst 0, 1) := by decide +kernel
theorem d25 : decode yB 25 = .ok (.ireturn, 1) := by decide +kernel
theorem d26 : decode yB 26 = .ok (.iinc 2 1, 3) := by decide +kernel
theorem d29 : decode yB 29 = .ok (.goto (-20), 3) := by decide +kernel
theorem d32 : decode yB 32 = .ok (.iconst 1, 1) := by decide +kernel
theorem d33 : decode yB 33 = .ok (.ireturn, 1) := by decide +kernel
theorem d34 : decode yB 34 = .ok (.iconst 0, 1) := by decide +kernel
theorem d35 : decode yB 35 = .ok (.ireturn, 1) := by decide +kernel
def site : List Cond := []
def tab : Cond := tabOf yN yB 3 (some .boolean) site
def P (a : Addr) (A : Cell) (b : Addr) (B : Cell) (args : Array Value) (s : State) : Prop := args = #[.ref a, .ref b] ∧ XT.Arr .byte a A s ∧ Typed .byte A ∧ XT.Arr .byte b B s ∧ Typed .byte B
/-- whether two byte[] are equal, place for place -/
theorem law (l : Launch) (a : Addr) (A : Cell) (b : Addr) (B : Cell) : Law l yN 2 2 0 0 yB 3 (some .boolean) site (P a A b B) (Says01 (EqC A B)) [] 0 0 := by
  refine Law.of_walk (plainFor_of_name (by decide +kernel)) (by decide +kernel) (by decide +kernel) (by decide) (fun _ _ h => by rw [h.1]; rfl) (fun _ U U' hal hh h => ⟨h.1, h.2.1.mv hal hh, h.2.2.1, h.2.2.2.1.mv hal hh, h.2.2.2.2⟩) (fun r U U' V V' h1 hal h2 h => Says01.mv r U U' V V' h1 hal h2 h) ?_
  intro p e s m args below meth c s₁ X0 hexec hbytes hml hret hlk hnm hown hh0 W hP
  obtain ⟨rfl, hA, tA, hB, tB⟩ := hP
  have a31 := hA.2.2.2
  have b31 := hB.2.2.2
  have hA0 := hA.mv X0.warmed.alike hh0
  have hB0 := hB.mv X0.warmed.alike hh0
  have c1 : Steps p.tables e below (s₁.setTop (entryFrame m #[.ref a, .ref b] 3)) (s₁.setTop (mkF m 0 #[.val (.ref a), .val (.ref b), .unset] [])) := entry rfl
  have c2 : Steps p.tables e below (s₁.setTop (entryFrame m #[.ref a, .ref b] 3)) (s₁.setTop (mkF m 4 #[.val (.ref a), .val (.ref b), .unset] [.int (Int32.ofNat B.slots.size), .int (Int32.ofNat A.slots.size)])) := c1.trans (by
    refine XS.aloadN X0.here hexec rfl (hb hbytes d0) rfl rfl ?_
    refine X0.alen hexec hA0 rfl rfl (hb hbytes d1) ?_
    refine XS.aloadN X0.here hexec rfl (hb hbytes d2) rfl rfl ?_
    refine X0.alen hexec hB0 rfl rfl (hb hbytes d3) ?_
    exact Steps.refl _)
  by_cases hs : A.slots.size = B.slots.size
  · have c3 : Steps p.tables e below (s₁.setTop (entryFrame m #[.ref a, .ref b] 3)) (s₁.setTop (mkF m 9 #[.val (.ref a), .val (.ref b), .val (.int 0)] [])) := c2.trans (by
      refine XS.icmpNo X0.here hexec rfl (hb hbytes d4) rfl (ii_ne_f (by rw [hs])) ?_
      refine iconstV X0.here hexec rfl 0 (hb hbytes d7) (by decide) ?_
      refine XS.istoreN X0.here hexec rfl (hb hbytes d8) rfl rfl ?_
      exact Steps.refl _)
    have loop : ∀ (r i : Nat), i + r = A.slots.size → (∀ j, j < i → yv A j = yv B j) → Steps p.tables e below (s₁.setTop (entryFrame m #[.ref a, .ref b] 3)) (s₁.setTop (mkF m 9 #[.val (.ref a), .val (.ref b), .val (.int (Int32.ofNat i))] [])) → ∃ (pc : Nat) (Ls : Array Slot) (v : Int32), (pc = 25 ∨ pc = 33) ∧ ((v = 1 ∧ EqC A B) ∨ (v = 0 ∧ ¬ EqC A B)) ∧ Steps p.tables e below (s₁.setTop (entryFrame m #[.ref a, .ref b] 3)) (s₁.setTop (mkF m pc Ls [.int v])) := by
      intro r
      induction r with
      | zero =>
        intro i hi he cl
        exact ⟨33, _, 1, Or.inr rfl, Or.inl ⟨rfl, hs, fun j hj => he j (by omega)⟩, cl.trans (by
          refine XS.iloadN X0.here hexec rfl (hb hbytes d9) rfl ?_
          refine XS.aloadN X0.here hexec rfl (hb hbytes d10) rfl rfl ?_
          refine X0.alen hexec hA0 rfl rfl (hb hbytes d11) ?_
          refine XS.icmpYes X0.here hexec rfl (pc0 := 12) rfl (hb hbytes d12) rfl (ii_ge_t (nlt32 (by omega) (by omega))) (by decide) rfl ?_
          refine iconstV X0.here hexec rfl 1 (hb hbytes d32) (by decide) ?_
          exact Steps.refl _)⟩
      | succ r ih =>
        intro i hi he cl
        have c4 : Steps p.tables e below (s₁.setTop (entryFrame m #[.ref a, .ref b] 3)) (s₁.setTop (mkF m 21 #[.val (.ref a), .val (.ref b), .val (.int (Int32.ofNat i))] [.int (yv B i), .int (yv A i)])) := cl.trans (by
          refine XS.iloadN X0.here hexec rfl (hb hbytes d9) rfl ?_
          refine XS.aloadN X0.here hexec rfl (hb hbytes d10) rfl rfl ?_
          refine X0.alen hexec hA0 rfl rfl (hb hbytes d11) ?_
          refine XS.icmpNo X0.here hexec rfl (hb hbytes d12) rfl (ii_ge_f (lt32 (by omega) (by omega))) ?_
          refine XS.aloadN X0.here hexec rfl (hb hbytes d15) rfl rfl ?_
          refine XS.iloadN X0.here hexec rfl (hb hbytes d16) rfl ?_
          refine X0.aget hexec hA0 rfl (yv_get hA tA (i := i) (by omega)) rfl rfl (hb hbytes d17) ?_
          refine XS.aloadN X0.here hexec rfl (hb hbytes d18) rfl rfl ?_
          refine XS.iloadN X0.here hexec rfl (hb hbytes d19) rfl ?_
          refine X0.aget hexec hB0 rfl (yv_get hB tB (i := i) (by omega)) rfl rfl (hb hbytes d20) ?_
          exact Steps.refl _)
        by_cases hv : yv A i = yv B i
        · have c5 : Steps p.tables e below (s₁.setTop (entryFrame m #[.ref a, .ref b] 3)) (s₁.setTop (mkF m 9 #[.val (.ref a), .val (.ref b), .val (.int (Int32.ofNat i + 1))] [])) := c4.trans (by
            refine XS.icmpYes X0.here hexec rfl (pc0 := 21) rfl (hb hbytes d21) rfl (ii_eq_t hv) (by decide) rfl ?_
            refine iincV X0.here hexec rfl 1 (hb hbytes d26) (by decide) rfl rfl ?_
            refine XS.goto X0.here hexec rfl (pc0 := 29) rfl (hb hbytes d29) (by decide) rfl ?_
            exact Steps.refl _)
          rw [succ32] at c5
          exact ih (i + 1) (by omega) (fun j hj => by
            by_cases e : j = i
            · rw [e]; exact hv
            · exact he j (by omega)) c5
        · exact ⟨25, _, 0, Or.inl rfl, Or.inr ⟨rfl, fun q => hv (q.2 i (by omega))⟩, c4.trans (by
            refine XS.icmpNo X0.here hexec rfl (hb hbytes d21) rfl (ii_eq_f hv) ?_
            refine iconstV X0.here hexec rfl 0 (hb hbytes d24) (by decide) ?_
            exact Steps.refl _)⟩
    obtain ⟨pc, Ls, v, hpc, hv, cz⟩ := loop A.slots.size 0 (by omega) (fun j hj => absurd hj (Nat.not_lt_zero j)) c3
    have nv : narrow .boolean (.int v) = .int v := by rcases hv with ⟨rfl, -⟩ | ⟨rfl, -⟩ <;> rfl
    rcases hpc with rfl | rfl
    · exact ⟨s₁, some (.int v), _, _, _, X0, rfl, rfl, rfl, (fun h => by cases h), ⟨v, rfl, hh0, hv⟩, fun fs hl => cz.trans (X0.ireturnOut hexec hret nv (Or.inr (Or.inl rfl)) (hb hbytes d25) hl)⟩
    · exact ⟨s₁, some (.int v), _, _, _, X0, rfl, rfl, rfl, (fun h => by cases h), ⟨v, rfl, hh0, hv⟩, fun fs hl => cz.trans (X0.ireturnOut hexec hret nv (Or.inr (Or.inl rfl)) (hb hbytes d33) hl)⟩
  · have c3 : Steps p.tables e below (s₁.setTop (entryFrame m #[.ref a, .ref b] 3)) (s₁.setTop (mkF m 35 #[.val (.ref a), .val (.ref b), .unset] [.int 0])) := c2.trans (by
      refine XS.icmpYes X0.here hexec rfl (pc0 := 4) rfl (hb hbytes d4) rfl (ii_ne_t (ne32 a31 b31 hs)) (by decide) rfl ?_
      refine iconstV X0.here hexec rfl 0 (hb hbytes d34) (by decide) ?_
      exact Steps.refl _)
    exact ⟨s₁, some (.int 0), _, _, _, X0, rfl, rfl, rfl, (fun h => by cases h), ⟨0, rfl, hh0, Or.inr ⟨rfl, fun q => hs q.1⟩⟩, fun fs hl => c3.trans (X0.ireturnOut hexec hret rfl (Or.inr (Or.inl rfl)) (hb hbytes d35) hl)⟩
end LEq
theorem Cod.ty {cd : Int32} {n : Nat} {f : Nat → Int32} {V : Cell} (h : Cod cd n f V) : Typed .byte V := fun i v hv => by
  have hi : i < V.slots.size := (Array.getElem?_eq_some_iff.mp hv).1
  rcases h with ⟨-, k1, k2⟩ | ⟨-, k1, k2, -⟩
  · rw [(k2 i (by omega)).1] at hv; cases hv; exact fits_lo8 _
  · rcases Nat.mod_two_eq_zero_or_one i with e | e
    · obtain ⟨j, rfl⟩ : ∃ j, i = 2 * j := ⟨i / 2, by omega⟩
      rw [(k2 j (by omega)).1] at hv; cases hv; exact fits_lo8 _
    · obtain ⟨j, rfl⟩ : ∃ j, i = 2 * j + 1 := ⟨i / 2, by omega⟩
      rw [(k2 j (by omega)).2] at hv; cases hv; exact fits_lo8 _
/-- the same text -/
def SameT (n : Nat) (f : Nat → Int32) (k : Nat) (g : Nat → Int32) : Prop := n = k ∧ ∀ j, j < n → f j = g j
theorem lo8_inj {x y : Int32} (h0 : ¬ x < 0) (h1 : ¬ 255 < x) (k0 : ¬ y < 0) (k1 : ¬ 255 < y) (h : lo8 x = lo8 y) : x = y := by
  rw [← lo8_mask h0 h1, ← lo8_mask k0 k1, h]
/-- arrays coded by one coder are equal just where the texts are -/
theorem Cod.eqv {cd : Int32} {n k : Nat} {f g : Nat → Int32} {V V' : Cell} (h : Cod cd n f V) (h' : Cod cd k g V') (hf : ∀ j, j < n → ¬ f j < 0 ∧ ¬ 65535 < f j) (hg : ∀ j, j < k → ¬ g j < 0 ∧ ¬ 65535 < g j) : EqC V V' ↔ SameT n f k g := by
  have yvv : ∀ {W : Cell} {i : Nat} {x : Int32}, W.slots[i]? = some (.int x) → yv W i = x := fun q => by unfold yv; rw [q]
  rcases h with ⟨rfl, k1, k2⟩ | ⟨rfl, k1, k2, -⟩
  · rcases h' with ⟨-, m1, m2⟩ | ⟨e, -⟩
    · constructor
      · rintro ⟨e1, e2⟩
        refine ⟨by omega, fun j hj => ?_⟩
        have q := e2 j (by omega)
        rw [yvv (k2 j hj).1, yvv (m2 j (by omega)).1] at q
        exact lo8_inj (hf j hj).1 (k2 j hj).2 (hg j (by omega)).1 (m2 j (by omega)).2 q
      · rintro ⟨rfl, e2⟩
        refine ⟨by omega, fun j hj => ?_⟩
        rw [yvv (k2 j (by omega)).1, yvv (m2 j (by omega)).1, e2 j (by omega)]
    · exact absurd e (by decide)
  · rcases h' with ⟨e, -⟩ | ⟨-, m1, m2, -⟩
    · exact absurd e (by decide)
    · constructor
      · rintro ⟨e1, e2⟩
        refine ⟨by omega, fun j hj => ?_⟩
        have q1 := e2 (2 * j) (by omega)
        have q2 := e2 (2 * j + 1) (by omega)
        rw [yvv (k2 j hj).1, yvv (m2 j (by omega)).1] at q1
        rw [yvv (k2 j hj).2, yvv (m2 j (by omega)).2] at q2
        rw [← pair_says (hf j hj).1 (hf j hj).2, ← pair_says (hg j (by omega)).1 (hg j (by omega)).2, q1, q2]
      · rintro ⟨rfl, e2⟩
        refine ⟨by omega, fun i hi => ?_⟩
        rcases Nat.mod_two_eq_zero_or_one i with e | e
        · obtain ⟨j, rfl⟩ : ∃ j, i = 2 * j := ⟨i / 2, by omega⟩
          rw [yvv (k2 j (by omega)).1, yvv (m2 j (by omega)).1, e2 j (by omega)]
        · obtain ⟨j, rfl⟩ : ∃ j, i = 2 * j + 1 := ⟨i / 2, by omega⟩
          rw [yvv (k2 j (by omega)).2, yvv (m2 j (by omega)).2, e2 j (by omega)]
/-- two codings differ: so do the texts -/
theorem Cod.dif {cd cd' : Int32} {n k : Nat} {f g : Nat → Int32} {V V' : Cell} (h : Cod cd n f V) (h' : Cod cd' k g V') (hne : ¬ cd = cd') : ¬ SameT n f k g := by
  rintro ⟨rfl, e⟩
  rcases h with ⟨rfl, -, k2⟩ | ⟨rfl, -, -, j, hj, hw⟩
  · rcases h' with ⟨rfl, -⟩ | ⟨-, -, -, j, hj, hw⟩
    · exact hne rfl
    · exact (k2 j hj).2 (by rw [e j hj]; exact hw)
  · rcases h' with ⟨-, -, m2⟩ | ⟨rfl, -⟩
    · exact (m2 j hj).2 (by rw [← e j hj]; exact hw)
    · exact hne rfl
/-- an object of exactly C is an instance of C -/
theorem cinst {p : Program} {l : Launch} {e : Env} {R : Room} {s : State} {m : MethodId} {args : Array Value} {below : List Frame} {meth : Method} {c : Code} {T : State} {locs : List Loc} {cells slots : Nat} (X : Stand p l e R s m args below meth c T locs cells slots) (hexec : p.tables.exec = Jvm.exec) {own C : String} {index : Nat} (hown : s.vm.findClass own = some m.cls) (hlink : (Cond.classLink own index C).before args s = true) {a : Addr} (hE : Exact C a T)
    {g : JFrame} (hg : g.method = m) {rest : List Value} (hstack : g.stack = .ref a :: rest) (hdg : decode c.code g.pc = .ok (.instanceof index, 3)) :
    ∃ T', Stand p l e R s m args below meth c T' locs cells slots ∧ T'.heap = T.heap ∧ ∀ target, Steps p.tables e below (T'.setTop { g with pc := g.pc + 3, stack := .int 1 :: rest }) target → Steps p.tables e below (T.setTop g) target := by
  obtain ⟨cB, h1, D, h2, h3, h4⟩ := hE
  have h1' : s.vm.findClass C = some cB := by rw [← X.warmed.alike.findClass]; exact h1
  obtain ⟨vm', X', st⟩ := X.instanceofYes hexec hown hlink h2 h4 h1' (by rw [h3]; exact Jvm.Free.SB.assignable_self _ _) hg hstack hdg
  exact ⟨_, X', rfl, st⟩
theorem cself {p : Program} {l : Launch} {e : Env} {R : Room} {s : State} {m : MethodId} {args : Array Value} {below : List Frame} {meth : Method} {c : Code} {T : State} {locs : List Loc} {cells slots : Nat} (X : Stand p l e R s m args below meth c T locs cells slots) (hexec : p.tables.exec = Jvm.exec) {own C : String} {index : Nat} (hown : s.vm.findClass own = some m.cls) (hlink : (Cond.classLink own index C).before args s = true) {a : Addr} (hE : Exact C a T)
    {g : JFrame} (hg : g.method = m) {rest : List Value} (hstack : g.stack = .ref a :: rest) (hdg : decode c.code g.pc = .ok (.checkcast index, 3)) :
    ∃ T', Stand p l e R s m args below meth c T' locs cells slots ∧ T'.heap = T.heap ∧ ∀ target, Steps p.tables e below (T'.setTop { g with pc := g.pc + 3, stack := .ref a :: rest }) target → Steps p.tables e below (T.setTop g) target := by
  obtain ⟨cB, h1, D, h2, h3, h4⟩ := hE
  have h1' : s.vm.findClass C = some cB := by rw [← X.warmed.alike.findClass]; exact h1
  obtain ⟨vm', X', st⟩ := X.checkcastYes hexec hown hlink h2 h4 h1' (by rw [h3]; exact Jvm.Free.SB.assignable_self _ _) hg hstack hdg
  exact ⟨_, X', rfl, fun t h => st t (by rw [← hstack] at h; exact h)⟩
namespace SEq
def yN : MethodName := ⟨"java/lang/String", "equals", "(Ljava/lang/Object;)Z"⟩
abbrev yB : ByteArray := jdk_42_method_66_code
theorem d0 : decode yB 0 = .ok (.aload_n 0, 1) := by decide +kernel
theorem d1 : decode yB 1 = .ok (.aload_n 1, 1) := by decide +kernel
theorem d2 : decode yB 2 = .ok (.if_acmp (.ne) 5, 3) := by decide +kernel
theorem d5 : decode yB 5 = .ok (.iconst 1, 1) := by decide +kernel
theorem d6 : decode yB 6 = .ok (.ireturn, 1) := by decide +kernel
theorem d7 : decode yB 7 = .ok (.aload_n 1, 1) := by decide +kernel
theorem d8 : decode yB 8 = .ok (.instanceof 10, 3) := by decide +kernel
theorem d11 : decode yB 11 = .ok (.ifCond (.eq) 43, 3) := by decide +kernel
theorem d14 : decode yB 14 = .ok (.aload_n 1, 1) := by decide +kernel
theorem d15 : decode yB 15 = .ok (.checkcast 10, 3) := by decide +kernel
theorem d18 : decode yB 18 = .ok (.astore_n 2, 1) := by decide +kernel
theorem d19 : decode yB 19 = .ok (.getstatic 38, 3) := by decide +kernel
theorem d22 : decode yB 22 = .ok (.ifCond (.eq) 14, 3) := by decide +kernel
theorem d25 : decode yB 25 = .ok (.aload_n 0, 1) := by decide +kernel
theorem d26 : decode yB 26 = .ok (.getfield 15, 3) := by decide +kernel
theorem d29 : decode yB 29 = .ok (.aload_n 2, 1) := by decide +kernel
theorem d30 : decode yB 30 = .ok (.getfield 15, 3) := by decide +kernel
theorem d33 : decode yB 33 = .ok (.if_icmp (.ne) 21, 3) := by decide +kernel
theorem d36 : decode yB 36 = .ok (.aload_n 0, 1) := by decide +kernel
theorem d37 : decode yB 37 = .ok (.getfield 9, 3) := by decide +kernel
theorem d40 : decode yB 40 = .ok (.aload_n 2, 1) := by decide +kernel
theorem d41 : decode yB 41 = .ok (.getfield 9, 3) := by decide +kernel
theorem d44 : decode yB 44 = .ok (.invokestatic 541, 3) := by decide +kernel
theorem d47 : decode yB 47 = .ok (.ifCond (.eq) 7, 3) := by decide +kernel
theorem d50 : decode yB 50 = .ok (.iconst 1, 1) := by decide +kernel
theorem d51 : decode yB 51 = .ok (.goto 4, 3) := by decide +kernel
theorem d54 : decode yB 54 = .ok (.iconst 0, 1) := by decide +kernel
theorem d55 : decode yB 55 = .ok (.ireturn, 1) := by decide +kernel
def site : List Cond := [.classLink "java/lang/String" 10 "java/lang/String", .fieldLink "java/lang/String" 38 "java/lang/String" "COMPACT_STRINGS" "Z", .fieldLink "java/lang/String" 15 "java/lang/String" "coder" "B", .fieldLink "java/lang/String" 9 "java/lang/String" "value" "[B", LEq.tab] ++ staticW "java/lang/String" 541 LEq.yN
def tab : Cond := tabOf yN yB 3 (some .boolean) site
def P (x t : Addr) (V : Cell) (cd : Int32) (n : Nat) (f : Nat → Int32) (y t' : Addr) (V' : Cell) (cd' : Int32) (k : Nat) (g : Nat → Int32) (z : Int32) (args : Array Value) (s : State) : Prop := args = #[.ref x, .ref y] ∧ Txt x t V cd n f s ∧ Txt y t' V' cd' k g s ∧ StaticIs s "java/lang/String" "COMPACT_STRINGS" "Z" (.int z) ∧ ¬ z = 0
/-- equals(Object) of two Strings: whether the texts are the same -/
theorem law (l : Launch) (x t : Addr) (V : Cell) (cd : Int32) (n : Nat) (f : Nat → Int32) (y t' : Addr) (V' : Cell) (cd' : Int32) (k : Nat) (g : Nat → Int32) (z : Int32) : Law l yN 2 1 1 14 yB 3 (some .boolean) site (P x t V cd n f y t' V' cd' k g z) (Says01 (SameT n f k g)) [] 0 0 := by
  refine Law.of_walk (plainFor_of_name (by decide +kernel)) (by decide +kernel) (by decide +kernel) (by decide) (fun _ _ h => by rw [h.1]; rfl) (fun _ U U' hal hh h => ⟨h.1, h.2.1.mv hal hh, h.2.2.1.mv hal hh, h.2.2.2.1.there hal hh, h.2.2.2.2⟩) (fun r U U' V V' h1 hal h2 h => Says01.mv r U U' V V' h1 hal h2 h) ?_
  intro p e s m args below meth c s₁ X0 hexec hbytes hml hret hlk hnm hown hh0 W hP
  obtain ⟨rfl, hx, hy, s1, hz⟩ := hP
  have c1 : Steps p.tables e below (s₁.setTop (entryFrame m #[.ref x, .ref y] 3)) (s₁.setTop (mkF m 2 #[.val (.ref x), .val (.ref y), .unset] [.ref y, .ref x])) := Steps.trans (entry rfl) (by
    show Steps p.tables e below (s₁.setTop (mkF m 0 #[.val (.ref x), .val (.ref y), .unset] [])) _
    refine XS.aloadN X0.here hexec rfl (hb hbytes d0) rfl rfl ?_
    refine XS.aloadN X0.here hexec rfl (hb hbytes d1) rfl rfl ?_
    exact Steps.refl _)
  by_cases hxy : x = y
  · have c2 : Steps p.tables e below (s₁.setTop (entryFrame m #[.ref x, .ref y] 3)) (s₁.setTop (mkF m 6 #[.val (.ref x), .val (.ref y), .unset] [.int 1])) := c1.trans (by
      refine acmpNo X0.here hexec rfl (hb hbytes d2) rfl rfl rfl (by simp [acmp, hxy]) ?_
      refine iconstV X0.here hexec rfl 1 (hb hbytes d5) (by decide) ?_
      exact Steps.refl _)
    subst hxy
    have ec : cd = cd' := by
      obtain ⟨D, fd, a1, a2, a3⟩ := hx.2.2.1
      obtain ⟨D', fd', b1, b2, b3⟩ := hy.2.2.1
      cases a1.symm.trans b1
      obtain ⟨q1, q2, q3, q4⟩ := a2.1
      obtain ⟨r1, r2, r3, r4⟩ := b2.1
      cases q4.symm.trans r4
      cases a3.symm.trans b3; rfl
    have et : t = t' := by
      obtain ⟨D, fd, a1, a2, a3⟩ := hx.2.1
      obtain ⟨D', fd', b1, b2, b3⟩ := hy.2.1
      cases a1.symm.trans b1
      obtain ⟨q1, q2, q3, q4⟩ := a2.1
      obtain ⟨r1, r2, r3, r4⟩ := b2.1
      cases q4.symm.trans r4
      cases a3.symm.trans b3; rfl
    subst ec et
    have ev : V = V' := by cases hx.2.2.2.1.1.symm.trans hy.2.2.2.1.1; rfl
    subst ev
    have hs : SameT n f k g := (Cod.eqv hx.2.2.2.2.1 hy.2.2.2.2.1 hx.2.2.2.2.2 hy.2.2.2.2.2).mp ⟨rfl, fun _ _ => rfl⟩
    exact ⟨s₁, some (.int 1), _, _, _, X0, rfl, rfl, rfl, (fun h => by cases h), ⟨1, rfl, hh0, Or.inl ⟨rfl, hs⟩⟩, fun fs hl => c2.trans (X0.ireturnOut hexec hret rfl (Or.inr (Or.inl rfl)) (hb hbytes d6) hl)⟩
  · have c2 : Steps p.tables e below (s₁.setTop (entryFrame m #[.ref x, .ref y] 3)) (s₁.setTop (mkF m 8 #[.val (.ref x), .val (.ref y), .unset] [.ref y])) := c1.trans (by
      refine acmpYes X0.here hexec rfl (pc0 := 2) rfl (hb hbytes d2) rfl rfl rfl (by simp [acmp, hxy]) (by decide) rfl ?_
      refine XS.aloadN X0.here hexec rfl (hb hbytes d7) rfl rfl ?_
      exact Steps.refl _)
    obtain ⟨T3, X3, q3, st3⟩ := cinst X0 hexec hown (wk W (.classLink "java/lang/String" 10 "java/lang/String")) (hy.mv X0.warmed.alike hh0).1 (g := (mkF m 8 #[.val (.ref x), .val (.ref y), .unset] [.ref y])) rfl (rest := []) rfl (hb hbytes d8)
    have hh3 := q3.trans hh0
    have c4 : Steps p.tables e below (s₁.setTop (entryFrame m #[.ref x, .ref y] 3)) (T3.setTop (mkF m 15 #[.val (.ref x), .val (.ref y), .unset] [.ref y])) := (c2.trans (st3 _ (Steps.refl _))).trans (by
      refine XS.ifNo X3.here hexec rfl (hb hbytes d11) rfl (i0_eq_f (by decide)) ?_
      refine XS.aloadN X3.here hexec rfl (hb hbytes d14) rfl rfl ?_
      exact Steps.refl _)
    obtain ⟨T5, X5, q5, st5⟩ := cself X3 hexec hown (wk W (.classLink "java/lang/String" 10 "java/lang/String")) (hy.mv X3.warmed.alike hh3).1 (g := (mkF m 15 #[.val (.ref x), .val (.ref y), .unset] [.ref y])) rfl (rest := []) rfl (hb hbytes d15)
    have hh5 := q5.trans hh3
    have c6 : Steps p.tables e below (s₁.setTop (entryFrame m #[.ref x, .ref y] 3)) (T5.setTop (mkF m 19 #[.val (.ref x), .val (.ref y), .val (.ref y)] [])) := (c4.trans (st5 _ (Steps.refl _))).trans (by
      refine XS.astoreN X5.here hexec rfl (hb hbytes d18) rfl rfl rfl ?_
      exact Steps.refl _)
    obtain ⟨T7, X7, q7, st7⟩ := X5.sget hexec hown (wk W (.fieldLink "java/lang/String" 38 "java/lang/String" "COMPACT_STRINGS" "Z")) s1 (fun _ _ h => by rw [hh5]; exact h) (g := (mkF m 19 #[.val (.ref x), .val (.ref y), .val (.ref y)] [])) rfl (hb hbytes d19)
    have hh7 := q7.trans hh5
    have c8 : Steps p.tables e below (s₁.setTop (entryFrame m #[.ref x, .ref y] 3)) (T7.setTop (mkF m 26 #[.val (.ref x), .val (.ref y), .val (.ref y)] [.ref x])) := (c6.trans (st7 _ (Steps.refl _))).trans (by
      refine XS.ifNo X7.here hexec rfl (hb hbytes d22) rfl (i0_eq_f hz) ?_
      refine XS.aloadN X7.here hexec rfl (hb hbytes d25) rfl rfl ?_
      exact Steps.refl _)
    obtain ⟨T9, X9, q9, st9⟩ := X7.hget hexec hown (wk W (.fieldLink "java/lang/String" 15 "java/lang/String" "coder" "B")) (hx.mv X7.warmed.alike hh7).2.2.1 (g := (mkF m 26 #[.val (.ref x), .val (.ref y), .val (.ref y)] [.ref x])) rfl (rest := []) rfl (hb hbytes d26)
    have hh9 := q9.trans hh7
    have c10 : Steps p.tables e below (s₁.setTop (entryFrame m #[.ref x, .ref y] 3)) (T9.setTop (mkF m 30 #[.val (.ref x), .val (.ref y), .val (.ref y)] [.ref y, .int cd])) := (c8.trans (st9 _ (Steps.refl _))).trans (by
      refine XS.aloadN X9.here hexec rfl (hb hbytes d29) rfl rfl ?_
      exact Steps.refl _)
    obtain ⟨T11, X11, q11, st11⟩ := X9.hget hexec hown (wk W (.fieldLink "java/lang/String" 15 "java/lang/String" "coder" "B")) (hy.mv X9.warmed.alike hh9).2.2.1 (g := (mkF m 30 #[.val (.ref x), .val (.ref y), .val (.ref y)] [.ref y, .int cd])) rfl (rest := [.int cd]) rfl (hb hbytes d30)
    have hh11 := q11.trans hh9
    have c12 : Steps p.tables e below (s₁.setTop (entryFrame m #[.ref x, .ref y] 3)) (T11.setTop (mkF m 33 #[.val (.ref x), .val (.ref y), .val (.ref y)] [.int cd', .int cd])) := c10.trans (st11 _ (Steps.refl _))
    by_cases hcd : cd = cd'
    · subst hcd
      have c13 : Steps p.tables e below (s₁.setTop (entryFrame m #[.ref x, .ref y] 3)) (T11.setTop (mkF m 37 #[.val (.ref x), .val (.ref y), .val (.ref y)] [.ref x])) := c12.trans (by
        refine XS.icmpNo X11.here hexec rfl (hb hbytes d33) rfl (ii_ne_f rfl) ?_
        refine XS.aloadN X11.here hexec rfl (hb hbytes d36) rfl rfl ?_
        exact Steps.refl _)
      obtain ⟨T14, X14, q14, st14⟩ := X11.hget hexec hown (wk W (.fieldLink "java/lang/String" 9 "java/lang/String" "value" "[B")) (hx.mv X11.warmed.alike hh11).2.1 (g := (mkF m 37 #[.val (.ref x), .val (.ref y), .val (.ref y)] [.ref x])) rfl (rest := []) rfl (hb hbytes d37)
      have hh14 := q14.trans hh11
      have c15 : Steps p.tables e below (s₁.setTop (entryFrame m #[.ref x, .ref y] 3)) (T14.setTop (mkF m 41 #[.val (.ref x), .val (.ref y), .val (.ref y)] [.ref y, .ref t])) := (c13.trans (st14 _ (Steps.refl _))).trans (by
        refine XS.aloadN X14.here hexec rfl (hb hbytes d40) rfl rfl ?_
        exact Steps.refl _)
      obtain ⟨T16, X16, q16, st16⟩ := X14.hget hexec hown (wk W (.fieldLink "java/lang/String" 9 "java/lang/String" "value" "[B")) (hy.mv X14.warmed.alike hh14).2.1 (g := (mkF m 41 #[.val (.ref x), .val (.ref y), .val (.ref y)] [.ref y, .ref t])) rfl (rest := [.ref t]) rfl (hb hbytes d41)
      have hh16 := q16.trans hh14
      have c17 : Steps p.tables e below (s₁.setTop (entryFrame m #[.ref x, .ref y] 3)) (T16.setTop (mkF m 44 #[.val (.ref x), .val (.ref y), .val (.ref y)] [.ref t', .ref t])) := c15.trans (st16 _ (Steps.refl _))
      obtain ⟨v18, T18, X18, E18, g18⟩ := X16.callS hexec (LEq.law l t V t' V') hown (wks W (staticW "java/lang/String" 541 LEq.yN)) (wk W LEq.tab) (W := 0) (Nat.le_of_ble_eq_true rfl) (Nat.le_of_ble_eq_true rfl) (Nat.le_refl _) (Nat.le_refl _) (g := (mkF m 44 #[.val (.ref x), .val (.ref y), .val (.ref y)] [.ref t', .ref t])) rfl (by rw [hml]; rfl) c17 (argsL := [.ref t, .ref t']) (rest := []) rfl rfl (by show 2 * 0 + 0 ≤ _; decide) (hb hbytes d44) (⟨rfl, hx.2.2.2.1.mv X16.warmed.alike hh16, hx.2.2.2.2.1.ty, hy.2.2.2.1.mv X16.warmed.alike hh16, hy.2.2.2.2.1.ty⟩)
      obtain ⟨v, rfl, q18, hv⟩ := E18
      have iff := Cod.eqv hx.2.2.2.2.1 hy.2.2.2.2.1 hx.2.2.2.2.2 hy.2.2.2.2.2
      rcases hv with ⟨rfl, he⟩ | ⟨rfl, he⟩
      · have c19 : Steps p.tables e below (s₁.setTop (entryFrame m #[.ref x, .ref y] 3)) (T18.setTop (mkF m 55 #[.val (.ref x), .val (.ref y), .val (.ref y)] [.int 1])) := Steps.trans g18 (by
          refine XS.ifNo X18.here hexec rfl (hb hbytes d47) rfl (i0_eq_f (by decide)) ?_
          refine iconstV X18.here hexec rfl 1 (hb hbytes d50) (by decide) ?_
          refine XS.goto X18.here hexec rfl (pc0 := 51) rfl (hb hbytes d51) (by decide) rfl ?_
          exact Steps.refl _)
        exact ⟨T18, some (.int 1), _, _, _, X18, rfl, rfl, rfl, (fun h => by cases h), ⟨1, rfl, q18.trans hh16, Or.inl ⟨rfl, iff.mp he⟩⟩, fun fs hl => c19.trans (X18.ireturnOut hexec hret rfl (Or.inr (Or.inl rfl)) (hb hbytes d55) hl)⟩
      · have c19 : Steps p.tables e below (s₁.setTop (entryFrame m #[.ref x, .ref y] 3)) (T18.setTop (mkF m 55 #[.val (.ref x), .val (.ref y), .val (.ref y)] [.int 0])) := Steps.trans g18 (by
          refine XS.ifYes X18.here hexec rfl (pc0 := 47) rfl (hb hbytes d47) rfl (i0_eq_t rfl) (by decide) rfl ?_
          refine iconstV X18.here hexec rfl 0 (hb hbytes d54) (by decide) ?_
          exact Steps.refl _)
        exact ⟨T18, some (.int 0), _, _, _, X18, rfl, rfl, rfl, (fun h => by cases h), ⟨0, rfl, q18.trans hh16, Or.inr ⟨rfl, fun q => he (iff.mpr q)⟩⟩, fun fs hl => c19.trans (X18.ireturnOut hexec hret rfl (Or.inr (Or.inl rfl)) (hb hbytes d55) hl)⟩
    · have c13 : Steps p.tables e below (s₁.setTop (entryFrame m #[.ref x, .ref y] 3)) (T11.setTop (mkF m 55 #[.val (.ref x), .val (.ref y), .val (.ref y)] [.int 0])) := c12.trans (by
        refine XS.icmpYes X11.here hexec rfl (pc0 := 33) rfl (hb hbytes d33) rfl (ii_ne_t hcd) (by decide) rfl ?_
        refine iconstV X11.here hexec rfl 0 (hb hbytes d54) (by decide) ?_
        exact Steps.refl _)
      exact ⟨T11, some (.int 0), _, _, _, X11, rfl, rfl, rfl, (fun h => by cases h), ⟨0, rfl, hh11, Or.inr ⟨rfl, Cod.dif hx.2.2.2.2.1 hy.2.2.2.2.1 hcd⟩⟩, fun fs hl => c13.trans (X11.ireturnOut hexec hret rfl (Or.inr (Or.inl rfl)) (hb hbytes d55) hl)⟩
theorem pays {l : Launch} {R : Room} {p : Program} {e : Env} {below : List Frame} {s : State} {sargs : Array Value} {len W : Nat} (x t : Addr) (V : Cell) (cd : Int32) (n : Nat) (f : Nat → Int32) (y t' : Addr) (V' : Cell) (cd' : Int32) (k : Nat) (g : Nat → Int32) (z : Int32) (htab : tab.before sargs s = true) (hfr : 2 ≤ R.frames) (hlo : W + 28 ≤ R.locals) :
    Back l R p e below s sargs yN len W (fun A₁ a₁ => A₁.cells + 0 ≤ R.cells ∧ A₁.slots + 0 ≤ R.slots ∧ P x t V cd n f y t' V' cd' k g z a₁ A₁.U) (fun A₁ _ v₁ B₁ => Says01 (SameT n f k g) v₁ A₁.U B₁.U ∧ B₁.locs = A₁.locs ++ [] ∧ B₁.cells = A₁.cells + 0 ∧ B₁.slots = A₁.slots + 0) :=
  (law l x t V cd n f y t' V' cd' k g z).pays htab hfr (by omega)
end SEq
end StrChars
namespace StrChars.Road
open Jvm Sem ClassFile Op Lib Jvm.Stand Jvm.Free Jvm.Free.XT
open Jvm.Lib.Cold (StaticIs)
/-- the words of String.equals(Object) -/
abbrev wordsEq : List Jvm.Cond := [.code SEq.yN SEq.yB 3 (some .boolean), .initialized ST, .classLink ST 10 ST, .fieldLink ST 38 ST "COMPACT_STRINGS" "Z", .fieldLink ST 15 ST "coder" "B", .fieldLink ST 9 ST "value" "[B", .methodLink ST 541 LEq.yN, .static LEq.yN, .code LEq.yN LEq.yB 3 (some .boolean), .initialized "java/lang/StringLatin1"]
theorem tabEq_of {a : Array Value} {s : State} (h : ∀ w ∈ wordsEq, w.before a s = true) : SEq.tab.before a s = true := by
  have hl : LEq.tab.before a s = true := unparts (wk h (.code LEq.yN LEq.yB 3 (some .boolean))) (wks h (.initialized LEq.yN.cls :: LEq.site))
  have q := consq hl h
  exact unparts (wk q (.code SEq.yN SEq.yB 3 (some .boolean))) (wks q (.initialized SEq.yN.cls :: SEq.site))
theorem movedEq {Z s : State} {a0 args : Array Value} (hZ : Z.Warmed39 s.vm) (hw : ∀ d ∈ wordsEq, d.before a0 Z = true) : ∀ d ∈ wordsEq, d.before args s = true := fun d hd => by
  have t : ∀ d ∈ wordsEq, (d.onTables && d.keepsFace) = true := by decide +kernel
  exact RoadKit.mv hZ (hw d hd) (t d hd)
/-- the road's facts of a String, as the laws ask it -/
theorem txt_of {Z U : State} {a0 : Array Value} {kI : Nat} (wi : (Jvm.Cond.instantiable ST kI).before a0 Z = true) (al : Z.vm.Alike U.vm) {x t : Addr} {kb : ClassId} {cs : List Int32} {cd N2 : Int32} {vs : List Value} (E : RoadKit.Exa Z U.heap x ST) (V : RoadKit.Fld Z U.heap x ST "value" "[B" (.ref t)) (C : RoadKit.Fld Z U.heap x ST "coder" "B" (.int cd)) (K : RoadKit.Arv Z U.heap t kb .byte N2 vs (.int 0)) (hc : CodA cs cd N2 vs) (hb : ∀ c ∈ cs, ¬ c < 0 ∧ ¬ (65535 : Int32) < c) (l2 : cs.length ≤ 4000) :
    ∃ A, Txt x t A cd cs.length (fun j => cs.getD j 0) U := by
  obtain ⟨A, K1, K2, K3, K4, K5, K6⟩ := K
  have hcod := hc.cod (by omega) K3 K5
  obtain ⟨D, fV, fC, hB, F1, F2, g1, g2, -, -⟩ := strObj wi al E V C
  exact ⟨A, ⟨_, hB.2.2.1, D, hB.1, rfl, by cases q : D.vm <;> first | rfl | exact absurd q (hB.2.1.2 _)⟩, Has.of hB F1 g1, Has.of hB F2 g2, ⟨K1.1, State.isArrayOf_alike al K1.2.1, K1.2.2, by rcases hcod with ⟨-, q, -⟩ | ⟨-, q, -⟩ <;> omega⟩, hcod, fun j hj => by
    have e : cs.getD j 0 = cs[j] := by simp [List.getD_eq_getElem?_getD, hj]
    show ¬ cs.getD j 0 < 0 ∧ ¬ 65535 < cs.getD j 0
    rw [e]; exact hb _ (List.getElem_mem _)⟩
theorem same_list (cs ds : List Int32) : SameT cs.length (fun j => cs.getD j 0) ds.length (fun j => ds.getD j 0) ↔ cs = ds := by
  constructor
  · rintro ⟨e, q⟩
    refine List.ext_getElem e fun j h1 h2 => ?_
    have := q j h1
    simpa [List.getD_eq_getElem?_getD, h1, h2] using this
  · rintro rfl
    exact ⟨rfl, fun _ _ => rfl⟩
/-- **equals(Object) OF TWO SUCH STRINGS**: 1 just where the chars are the same -/
theorem eqW {p : Program} {l : Launch} {e : Env} {R : Room} {s : State} {args : Array Value} {below : List Frame} {len W : Nat} {Z : State} {a0 : Array Value} {h : Heap} (hZ : Z.Warmed39 s.vm) (hw : ∀ d ∈ wordsEq, d.before a0 Z = true) {kI : Nat} (wi : (Jvm.Cond.instantiable ST kI).before a0 Z = true)
    {x t : Addr} {kb : ClassId} {cs : List Int32} {cd N2 : Int32} {vs : List Value} (E : RoadKit.Exa Z h x ST) (V : RoadKit.Fld Z h x ST "value" "[B" (.ref t)) (C : RoadKit.Fld Z h x ST "coder" "B" (.int cd)) (K : RoadKit.Arv Z h t kb .byte N2 vs (.int 0)) (hc : CodA cs cd N2 vs) (hb : ∀ c ∈ cs, ¬ c < 0 ∧ ¬ (65535 : Int32) < c) (l2 : cs.length ≤ 4000)
    {y t' : Addr} {kb' : ClassId} {ds : List Int32} {cd' N2' : Int32} {vs' : List Value} (E' : RoadKit.Exa Z h y ST) (V' : RoadKit.Fld Z h y ST "value" "[B" (.ref t')) (C' : RoadKit.Fld Z h y ST "coder" "B" (.int cd')) (K' : RoadKit.Arv Z h t' kb' .byte N2' vs' (.int 0)) (hc' : CodA ds cd' N2' vs') (hb' : ∀ c ∈ ds, ¬ c < 0 ∧ ¬ (65535 : Int32) < c) (l2' : ds.length ≤ 4000)
    {z : Int32} (S : RoadKit.Sta Z h ST "COMPACT_STRINGS" "Z" (.int z)) (hz : ¬ z = 0) (hfr : 2 ≤ R.frames) (hlo : W + 28 ≤ R.locals) :
    Back l R p e below s args (⟨"java/lang/String", "equals", "(Ljava/lang/Object;)Z"⟩ : MethodName) len W (fun P a => a = #[.ref x, .ref y] ∧ P.U.heap = h ∧ P.cells + 0 ≤ R.cells ∧ P.slots + 0 ≤ R.slots)
      (fun P _ v B => ∃ L, (((v = some (.int 1) ∧ cs = ds) ∨ (v = some (.int 0) ∧ ¬ cs = ds)) ∧ L = [] ∧ B.U.heap = h) ∧ B.locs = P.locs ++ L ∧ B.cells = P.cells + 0 ∧ B.slots = P.slots + 0) := by
  intro m meth c P g ig mk a X hg hsize hdg hW hn hp'
  obtain ⟨rfl, rfl, r1, r2⟩ := hp'
  have al : Z.vm.Alike P.U.vm := hZ.alike.trans X.warmed.alike
  obtain ⟨A, hx⟩ := txt_of wi al E V C K hc hb l2
  obtain ⟨A', hy⟩ := txt_of wi al E' V' C' K' hc' hb' l2'
  obtain ⟨v, B, X', ⟨⟨w, hv, hh, hq⟩, hl, hk, hs⟩, st⟩ := SEq.pays x t A cd cs.length (fun j => cs.getD j 0) y t' A' cd' ds.length (fun j => ds.getD j 0) z (tabEq_of (movedEq hZ hw)) hfr hlo m meth c P g ig mk _ X hg hsize hdg hW hn ⟨r1, r2, rfl, hx, hy, sta_is al S, hz⟩
  refine ⟨v, B, X', ⟨[], ⟨?_, rfl, hh⟩, hl, hk, hs⟩, st⟩
  rcases hq with ⟨rfl, q⟩ | ⟨rfl, q⟩
  · exact Or.inl ⟨hv, (same_list cs ds).mp q⟩
  · exact Or.inr ⟨hv, fun e => q ((same_list cs ds).mpr e)⟩
end StrChars.Road
namespace StrChars.Road
open Jvm Sem ClassFile Op Lib Jvm.Stand Jvm.Free Jvm.Free.XT
open Jvm.Lib.Cold (StaticIs)
/-- what backV says of its String, as the contracts of this text ask it: cs's low bytes, coder 0 -/
theorem codOf {cs : List Int32} {n : Nat} (hn : cs.length = n) (hb : ∀ c ∈ cs, ¬ 255 < c) : CodA cs 0 (Int32.ofNat n) ((cs.map lo8).map Value.int) := Or.inl ⟨rfl, by rw [hn], by simp [List.map_map, Function.comp_def], hb⟩
end StrChars.Road
end Jvm.Pilot.@@N@@

namespace Jvm.Pilot.@@N@@
open Jvm Jvm.ClassFile Sem Op Lib Jvm.Free Jvm.Stand Jvm.LawKit Jvm.RoadKit Bundle Jvm.Pilot.@@N@@.Jvm.D
/-! ### how a walk is told: 'own_Go' says that from here the body comes to its end, and what holds there -/
section OwnKit
variable {p : Program} {l : Launch} {e : Env} {R : Room} {s : State} {m : MethodId} {args : Array Value} {below : List Frame} {meth : Method} {c : Code} {T T' : State} {locs : List Loc} {cells slots kc ks : Nat} {F : Option Value → State → Prop} {Q : Option Value → Heap → List Loc → Prop} {g g' : JFrame} {Z : State} {a0 : Array Value} {h0 : Heap}
def own_Go (p : Program) (e : Env) (below : List Frame) (F : Option Value → State → Prop) (T : State) (g : JFrame) : Prop :=
  ∃ U v, Steps p.tables e below (T.setTop g) U ∧ U.status = .running ∧ Ended U below (.returned v) ∧ F v U
def own_N (s : State) (kc ks : Nat) (Q : Option Value → Heap → List Loc → Prop) : Option Value → State → Prop := fun v U => ∃ L, Q v U.heap L ∧ FrameEnd s (.returned v) U L kc ks
def own_W (s : State) (kc ks : Nat) (Q : Option Value → Heap → List Loc → Prop) : Option Value → State → Prop := fun v U => ∃ L, Q v U.heap L ∧ ReturnedEndW s (.returned v) U L kc ks
theorem own_st (h : ∀ t, Steps p.tables e below (T'.setTop g') t → Steps p.tables e below (T.setTop g) t) (G : own_Go p e below F T' g') : own_Go p e below F T g := by
  obtain ⟨U, v, h1, r⟩ := G
  exact ⟨U, v, h _ h1, r⟩
theorem own_ret (X : Stand p l e R s m args below meth c T locs cells slots) (hx : p.tables.exec = Jvm.exec) (hlk : meth.locks = false) {pc : Nat} {Ls : Array Slot} {w : Value} {t : FieldType} {i : Instr} {rest : List Value} (hret : meth.sig.returnType = some t) (hn : narrow t w = w)
    (hi : (i = .ireturn ∧ (t = .int ∨ t = .boolean ∨ t = .byte ∨ t = .char ∨ t = .short) ∧ ∃ z, w = .int z) ∨ (i = .lreturn ∧ t = .long ∧ ∃ z, w = .long z) ∨ (i = .dreturn ∧ t = .double ∧ ∃ z, w = .double z) ∨ (i = .freturn ∧ t = .float ∧ ∃ z, w = .float z) ∨ (i = .areturn ∧ t.isReference = true ∧ w.isRef = true))
    (hd : decode c.code pc = .ok (i, 1)) (hc : cells ≤ kc) (hs : slots ≤ ks) (q : Q (some w) T.heap locs) : own_Go p e below (own_N s kc ks Q) T (mkF m pc Ls (w :: rest)) := by
  obtain ⟨fs, hr, hrun, hended, hW, hsame⟩ := X.leave (v := some w) (fun h => by rw [hret] at h; cases h) hlk
  exact ⟨_, _, retOut X hx hret hn hi hd hr, hrun, hended, _, q, ⟨_, rfl⟩, hW, hsame.mono hc hs⟩
theorem own_retV (X : Stand p l e R s m args below meth c T locs cells slots) (hx : p.tables.exec = Jvm.exec) (hlk : meth.locks = false) {pc : Nat} {Ls : Array Slot} (hret : meth.sig.returnType = none) (hd : decode c.code pc = .ok (.return_, 1)) (hc : cells ≤ kc) (hs : slots ≤ ks) (q : Q none T.heap locs) : own_Go p e below (own_N s kc ks Q) T (mkF m pc Ls []) := by
  obtain ⟨fs, hr, hrun, hended, hW, hsame⟩ := X.leave (v := none) (fun _ => rfl) hlk
  exact ⟨_, _, X.returnOut hx hret hd hr, hrun, hended, _, q, ⟨_, rfl⟩, hW, hsame.mono hc hs⟩
theorem own_he {h h' : Heap} {a : Addr} {c : Cell} (e : h' = h) (q : h[a]? = some c) : h'[a]? = some c := by rw [e]; exact q
theorem own_cat1 {w : Value} (h : w.isRef = true) : w.category = 1 := by
  rcases ref_cases h with rfl | ⟨a, rfl⟩ <;> rfl
/-- what a body does, begun at the heap h0 with these arguments -/
def own_Met (l : Launch) (Z : State) (h0 : Heap) (ws : List Jvm.Cond) (rm : Room) (y : MethodName) (bytes : ByteArray) (maxL : Nat) (ret : Option FieldType) (as' : Array Value) (Q : Option Value → Heap → List Loc → Prop) : Prop :=
  MetFree l y (head1 (Jvm.Cond.code y bytes maxL ret :: ws) rm) (fun a U => a = as' ∧ Z.Warmed39 U.vm ∧ U.heap = h0) (fun _ _ _ _ _ => True) (fun _ U o U' => ∃ v L, o = .returned v ∧ Q v U'.heap L ∧ FrameEnd U o U' L rm.cells rm.slots)
/-- it returns w and writes nothing -/
def own_Pure (l : Launch) (Z : State) (h0 : Heap) (ws : List Jvm.Cond) (rm : Room) (y : MethodName) (bytes : ByteArray) (maxL : Nat) (ret : Option FieldType) (as' : Array Value) (w : Option Value) : Prop :=
  own_Met l Z h0 ws rm y bytes maxL ret as' (fun v h L => v = w ∧ L = [] ∧ h = h0)
theorem own_body {ws : List Jvm.Cond} {rm : Room} {y : MethodName} {bytes : ByteArray} {maxL : Nat} {ret : Option FieldType} {as' : Array Value} (hpl : plainFor y = true)
    (H : ∀ (p : Program) (e : Env) (s : State) (m : MethodId) (below : List Frame) (meth : Method) (c : Code) (T : State), Stand p l e rm s m as' below meth c T [] 0 0 → p.tables.exec = Jvm.exec → c.code = bytes → c.maxLocals = maxL → s.vm.findClass y.cls = some m.cls → Z.Warmed39 s.vm → T.heap = h0 → meth.sig.returnType = ret → meth.locks = false → meth.name = y.name → s.methodNamed? y = some m →
      own_Go p e below (own_N s rm.cells rm.slots Q) T (entryFrame m as' maxL)) : own_Met l Z h0 ws rm y bytes maxL ret as' Q := by
  refine MetFree.of_bodySF hpl hisR ?_
  intro p e s m args below meth c s₁ Bd hml0 hP hK
  obtain ⟨rfl, hZ, hh⟩ := hP
  obtain ⟨U, v, h1, h2, h3, L, h4, h5⟩ := H p e s m below meth c s₁ (Stand.of_body Bd) Bd.exec Bd.bytes hml0 (findClass_of_methodNamed Bd.named) hZ (by rw [← hh, Bd.state]; rfl) Bd.returns Bd.notSynchronized (name_of_methodNamed Bd.named Bd.method).1 Bd.named
  exact ⟨U, _, h1, h2, h3, v, L, rfl, h4, h5⟩
theorem own_gS {rm : Room} {y : MethodName} {bytes : ByteArray} {maxL W index : Nat} {ret : Option FieldType} {own : String} {argsL rest : List Value} (X : Stand p l e R s m args below meth c T locs cells slots) (hx : p.tables.exec = Jvm.exec) (hZ : Z.Warmed39 s.vm) (hown : s.vm.findClass own = some m.cls)
    (w1 : (Jvm.Cond.methodLink own index y).before a0 Z = true) (w2 : (Jvm.Cond.static y).before a0 Z = true) (w3 : (Jvm.Cond.initialized y.cls).before a0 Z = true) (w4 : (Jvm.Cond.code y bytes maxL ret).before a0 Z = true) (hy : y.cls ≠ "java/lang/invoke/MethodHandle" ∧ y.cls ≠ "java/lang/invoke/VarHandle") (eT : T.heap = h0)
    (hM : own_Met l Z h0 [] rm y bytes maxL ret argsL.toArray Q) (hf : rm.frames + 1 ≤ R.frames) (hl : W + (maxL + 11) + rm.locals ≤ R.locals) (hc1 : cells + rm.cells ≤ R.cells) (hs1 : slots + rm.slots ≤ R.slots)
    (hg : g.method = m) (hsize : g.locals.size = c.maxLocals) (hlen : ∀ sig, parseMethodDescriptor y.desc = some sig → argsL.length = sig.parameters.length) (hstack : g.stack = argsL.reverse ++ rest) (hW : 2 * g.monitorRoom + (rest.map fun v => v.category).sum ≤ W) (hdg : decode c.code g.pc = .ok (.invokestatic index, 3)) :
    ∃ (v : Option Value) (T' : State) (L : List Loc), Stand p l e R s m args below meth c T' (locs ++ L) (cells + rm.cells) (slots + rm.slots) ∧ Q v T'.heap L ∧ ∀ target, Steps p.tables e below (T'.setTop { g with pc := g.pc + 3, stack := v.toList ++ rest }) target → Steps p.tables e below (T.setTop g) target := by
  obtain ⟨v, _, ⟨T1, L1, k1, n1⟩, -, X1, ⟨Lc, hq, l1, y1, z1⟩, st⟩ := Jvm.LawKit.callS X hx (y := y) hown (mvT hZ w1) (mvT hZ w2) (mvT hZ w3) (mvT hZ w4) hy (backOf (W := W) (Q := Q) hM hZ w4 w3 hf hl) (g := g) hg hsize (argsL := argsL) (rest := rest) hlen hstack hW hdg (fun _ _ => ⟨rfl, eT, hc1, hs1⟩)
  dsimp only [Pt.U, Pt.locs, Pt.cells, Pt.slots] at X1 l1 y1 z1 st hq
  subst l1 y1 z1
  exact ⟨v, T1, Lc, X1, hq, st⟩
theorem own_gV {rm : Room} {y z : MethodName} {bytes : ByteArray} {maxL W index : Nat} {ret : Option FieldType} {own C : String} {argsL rest : List Value} {b : Addr} (X : Stand p l e R s m args below meth c T locs cells slots) (hx : p.tables.exec = Jvm.exec) (hZ : Z.Warmed39 s.vm) (hown : s.vm.findClass own = some m.cls)
    (w1 : (Jvm.Cond.methodLink own index y).before a0 Z = true) (w2 : (Jvm.Cond.declares y).before a0 Z = true) (hnf : NotFace s y) (w5 : (Jvm.Cond.selects C y z).before a0 Z = true) (w6 : (Jvm.Cond.instanceMethod z).before a0 Z = true) (w3 : (Jvm.Cond.initialized z.cls).before a0 Z = true) (w4 : (Jvm.Cond.code z bytes maxL ret).before a0 Z = true) (hy : y.cls ≠ "java/lang/invoke/MethodHandle" ∧ y.cls ≠ "java/lang/invoke/VarHandle") (eT : T.heap = h0) (E : Exa Z h0 b C)
    (hM : own_Met l Z h0 [] rm z bytes maxL ret (.ref b :: argsL).toArray Q) (hf : rm.frames + 1 ≤ R.frames) (hl : W + (maxL + 11) + rm.locals ≤ R.locals) (hc1 : cells + rm.cells ≤ R.cells) (hs1 : slots + rm.slots ≤ R.slots)
    (hg : g.method = m) (hsize : g.locals.size = c.maxLocals) (hlen : ∀ sig, parseMethodDescriptor y.desc = some sig → argsL.length = sig.parameters.length) (hstack : g.stack = argsL.reverse ++ .ref b :: rest) (hW : 2 * g.monitorRoom + (rest.map fun v => v.category).sum ≤ W) (hdg : decode c.code g.pc = .ok (.invokevirtual index, 3)) :
    ∃ (v : Option Value) (T' : State) (L : List Loc), Stand p l e R s m args below meth c T' (locs ++ L) (cells + rm.cells) (slots + rm.slots) ∧ Q v T'.heap L ∧ ∀ target, Steps p.tables e below (T'.setTop { g with pc := g.pc + 3, stack := v.toList ++ rest }) target → Steps p.tables e below (T.setTop g) target := by
  obtain ⟨cq, kq, qa, qb, qc⟩ := isOf hZ eT E
  obtain ⟨v, _, ⟨T1, L1, k1, n1⟩, -, X1, ⟨Lc, hq, l1, y1, z1⟩, st⟩ := X.virtualBack hx (y := y) (z := z) hown (mvT hZ w1) (mvT hZ w2) hnf (mvT hZ w5) (mvT hZ w6) hy (backOf (W := W) (Q := Q) hM hZ w4 w3 hf hl) qa qc (g := g) hg hsize (Steps.refl _) (argsL := argsL) (rest := rest) hlen hstack hW hdg (fun _ _ => ⟨rfl, eT, hc1, hs1⟩)
  dsimp only [Pt.U, Pt.locs, Pt.cells, Pt.slots] at X1 l1 y1 z1 st hq
  subst l1 y1 z1
  exact ⟨v, T1, Lc, X1, hq, fun _ k => st.trans k⟩
theorem own_gVU {rm : Room} {y z : MethodName} {owner : String} {bytes : ByteArray} {maxL W index : Nat} {ret : Option FieldType} {own C : String} {argsL rest : List Value} {b : Addr} (X : Stand p l e R s m args below meth c T locs cells slots) (hx : p.tables.exec = Jvm.exec) (hZ : Z.Warmed39 s.vm) (hown : s.vm.findClass own = some m.cls)
    (w1 : (Jvm.Cond.methodLink own index y).before a0 Z = true) (wsm : (Jvm.Cond.sameMethod y.cls owner y.name y.desc).before a0 Z = true) (w2 : (Jvm.Cond.declares ⟨owner, y.name, y.desc⟩).before a0 Z = true) (ho : owner ≠ "java/lang/invoke/MethodHandle" ∧ owner ≠ "java/lang/invoke/VarHandle") (w5 : (Jvm.Cond.selects C y z).before a0 Z = true) (w6 : (Jvm.Cond.instanceMethod z).before a0 Z = true) (w3 : (Jvm.Cond.initialized z.cls).before a0 Z = true) (w4 : (Jvm.Cond.code z bytes maxL ret).before a0 Z = true) (eT : T.heap = h0) (E : Exa Z h0 b C)
    (hM : own_Met l Z h0 [] rm z bytes maxL ret (.ref b :: argsL).toArray Q) (hf : rm.frames + 1 ≤ R.frames) (hl : W + (maxL + 11) + rm.locals ≤ R.locals) (hc1 : cells + rm.cells ≤ R.cells) (hs1 : slots + rm.slots ≤ R.slots)
    (hg : g.method = m) (hsize : g.locals.size = c.maxLocals) (hlen : ∀ sig, parseMethodDescriptor y.desc = some sig → argsL.length = sig.parameters.length) (hstack : g.stack = argsL.reverse ++ .ref b :: rest) (hW : 2 * g.monitorRoom + (rest.map fun v => v.category).sum ≤ W) (hdg : decode c.code g.pc = .ok (.invokevirtual index, 3)) :
    ∃ (v : Option Value) (T' : State) (L : List Loc), Stand p l e R s m args below meth c T' (locs ++ L) (cells + rm.cells) (slots + rm.slots) ∧ Q v T'.heap L ∧ ∀ target, Steps p.tables e below (T'.setTop { g with pc := g.pc + 3, stack := v.toList ++ rest }) target → Steps p.tables e below (T.setTop g) target := by
  obtain ⟨cq, kq, qa, qb, qc⟩ := isOf hZ eT E
  obtain ⟨v, _, ⟨T1, L1, k1, n1⟩, -, X1, ⟨Lc, hq, l1, y1, z1⟩, st⟩ := X.virtualBackUp hx (x := y) (y := z) (owner := owner) hown (mvT hZ w1) (mvT hZ wsm) (mvT hZ w2) ho (mvT hZ w5) (mvT hZ w6) (backOf (W := W) (Q := Q) hM hZ w4 w3 hf hl) qa qc (g := g) hg hsize (Steps.refl _) (argsL := argsL) (rest := rest) hlen hstack hW hdg (fun _ _ => ⟨rfl, eT, hc1, hs1⟩)
  dsimp only [Pt.U, Pt.locs, Pt.cells, Pt.slots] at X1 l1 y1 z1 st hq
  subst l1 y1 z1
  exact ⟨v, T1, Lc, X1, hq, fun _ k => st.trans k⟩
/-- behind a call that writes nothing -/
theorem own_pure {w : Value} {rm : Room} {rest : List Value} (hc0 : rm.cells = 0) (hs0 : rm.slots = 0)
    (H : ∃ (v : Option Value) (T' : State) (L : List Loc), Stand p l e R s m args below meth c T' (locs ++ L) (cells + rm.cells) (slots + rm.slots) ∧ (v = some w ∧ L = [] ∧ T'.heap = h0) ∧ ∀ target, Steps p.tables e below (T'.setTop { g with pc := g.pc + 3, stack := v.toList ++ rest }) target → Steps p.tables e below (T.setTop g) target) :
    ∃ T', Stand p l e R s m args below meth c T' locs cells slots ∧ T'.heap = h0 ∧ ∀ target, Steps p.tables e below (T'.setTop { g with pc := g.pc + 3, stack := w :: rest }) target → Steps p.tables e below (T.setTop g) target := by
  obtain ⟨_, T', _, X', ⟨rfl, rfl, hh⟩, st⟩ := H
  rw [hc0, hs0, List.append_nil] at X'
  exact ⟨T', X', hh, st⟩
/-- what the case says of statics and fields, as facts of the start -/
theorem own_sx {C n d K : String} (h : (Jvm.Cond.exactly (Term.static C n d) K).value args s none s [] = some true) (wi : (Jvm.Cond.initialized C).before args s = true) (wl : (Jvm.Cond.laysStatic C n d).before args s = true) :
    ∃ a, (Term.static C n d).eval args s none [] s = some (.ref a) ∧ Exa s s.heap a K ∧ Sta s s.heap C n d (.ref a) := by
  obtain ⟨a, ev⟩ := exa_v h
  exact ⟨a, ev, Exa.start ev h, Sta.start ev (Or.inr ⟨wi, wl⟩)⟩
theorem own_fi {t : Term} {a : Addr} {C n d : String} {k : Int32} (ev : t.eval args s none [] s = some (.ref a)) (h : (Jvm.Cond.eq (Term.field t C n d) (Term.int k)).value args s none s [] = some true) : Fld s s.heap a C n d (.int k) := by
  have q := eqv_i (Term.int_eval k) h
  rw [fld_at ev] at q
  exact Fld.start q
theorem own_fn {t : Term} {a : Addr} {C n d : String} (ev : t.eval args s none [] s = some (.ref a)) (h : (Jvm.Cond.eq (Term.field t C n d) Term.null).value args s none s [] = some true) : Fld s s.heap a C n d .null := by
  have q := null_v h
  rw [fld_at ev] at q
  exact Fld.start q
theorem own_fx {t : Term} {a : Addr} {C n d K : String} (ev : t.eval args s none [] s = some (.ref a)) (h : (Jvm.Cond.exactly (Term.field t C n d) K).value args s none s [] = some true) : ∃ b, Fld s s.heap a C n d (.ref b) ∧ Exa s s.heap b K := by
  obtain ⟨b, q⟩ := exa_v h
  have E := Exa.start q h
  rw [fld_at ev] at q
  exact ⟨b, Fld.start q, E⟩
theorem own_eqr {t u : Term} {b : Addr} (eu : u.eval args s none [] s = some (.ref b)) (h : (Jvm.Cond.eq t u).value args s none s [] = some true) : t.eval args s none [] s = some (.ref b) := by
  obtain ⟨x, y, h1, h2, -⟩ := cmp_v (Or.inl h)
  rw [eu] at h2
  cases h2
  simp only [Cond.value, h1, eu] at h
  cases x <;> simp_all
theorem own_fs {t u : Term} {a b : Addr} {C n d : String} (ev : t.eval args s none [] s = some (.ref a)) (eu : u.eval args s none [] s = some (.ref b)) (h : (Jvm.Cond.eq (Term.field t C n d) u).value args s none s [] = some true) : Fld s s.heap a C n d (.ref b) := by
  have q := own_eqr eu h
  rw [fld_at ev] at q
  exact Fld.start q
theorem own_ax {C n d : String} {ty : FieldType} (h : (Jvm.Cond.arrayOf (Term.static C n d) ty).value args s none s [] = some true) (wi : (Jvm.Cond.initialized C).before args s = true) (wl : (Jvm.Cond.laysStatic C n d).before args s = true) :
    ∃ b cl, (Term.static C n d).eval args s none [] s = some (.ref b) ∧ Arr s s.heap b cl ty ∧ Sta s s.heap C n d (.ref b) := by
  obtain ⟨b, ev⟩ := arr_v h
  obtain ⟨cl, A⟩ := Arr.start ev h
  exact ⟨b, cl, ev, A, Sta.start ev (Or.inr ⟨wi, wl⟩)⟩
theorem own_len {t : Term} {b : Addr} {cl : Cell} {ty : FieldType} {k : Int32} (ev : t.eval args s none [] s = some (.ref b)) (A : Arr s s.heap b cl ty) (h : (Jvm.Cond.eq (Term.length t) (Term.int k)).value args s none s [] = some true) : cl.slots.size = k.toNatClampNeg := by
  have q := eqv_i (Term.int_eval k) h
  have ha : s.arrayAt? b = some cl := A.fin (Vm.Alike.refl _)
  by_cases hl : cl.slots.size < 2 ^ 31
  · rw [len_f ev ha hl] at q
    have e : cl.slots.size.toInt32 = k := Value.int.inj (Option.some.inj q)
    have e1 := len_toInt hl
    rw [← e]
    simp only [Int32.toNatClampNeg, e1]
    rfl
  · simp [Term.eval, ev, ha, hl] at q
theorem own_elr {t u : Term} {b x : Addr} {cl : Cell} {ty : FieldType} {k : Int32} (ev : t.eval args s none [] s = some (.ref b)) (A : Arr s s.heap b cl ty) (eu : u.eval args s none [] s = some (.ref x)) (h : (Jvm.Cond.eq (Term.elem t (Term.int k)) u).value args s none s [] = some true) : cl.slots[k.toNatClampNeg]? = some (.ref x) :=
  (elem_in (own_eqr eu h) ev (Term.int_eval k) A.1).2
theorem own_eln {t : Term} {b : Addr} {cl : Cell} {ty : FieldType} {k : Int32} (ev : t.eval args s none [] s = some (.ref b)) (A : Arr s s.heap b cl ty) (h : (Jvm.Cond.eq (Term.elem t (Term.int k)) Term.null).value args s none s [] = some true) : cl.slots[k.toNatClampNeg]? = some .null :=
  (elem_in (null_v h) ev (Term.int_eval k) A.1).2
theorem own_eli {t : Term} {b : Addr} {cl : Cell} {ty : FieldType} {k v : Int32} (ev : t.eval args s none [] s = some (.ref b)) (A : Arr s s.heap b cl ty) (h : (Jvm.Cond.eq (Term.elem t (Term.int k)) (Term.int v)).value args s none s [] = some true) : cl.slots[k.toNatClampNeg]? = some (.int v) :=
  (elem_in (eqv_i (Term.int_eval v) h) ev (Term.int_eval k) A.1).2
theorem own_args1 {k : Nat} (h : (Jvm.Cond.and (Jvm.Cond.count 1) (Jvm.Cond.isInt (Term.arg 0))).value args s none s [] = some true) : ∃ a : Int32, args = #[.int a] := by
  obtain ⟨h1, h2⟩ := and_e h
  have hs : args.size = 1 := by simpa [Cond.value] using h1
  obtain ⟨L⟩ := args
  match L, hs with
  | [w0], _ =>
    obtain ⟨i, e0⟩ := is_v h2
    obtain rfl : w0 = (.int i) := Option.some.inj e0
    exact ⟨i, rfl⟩
theorem own_args2 {k : Nat} (h : (Jvm.Cond.and (Jvm.Cond.count 2) (Jvm.Cond.and (Jvm.Cond.isInt (Term.arg 0)) (Jvm.Cond.isInt (Term.arg 1)))).value args s none s [] = some true) : ∃ a b : Int32, args = #[.int a, .int b] := by
  obtain ⟨h1, h2⟩ := and_e h
  obtain ⟨h2, h3⟩ := and_e h2
  have hs : args.size = 2 := by simpa [Cond.value] using h1
  obtain ⟨L⟩ := args
  match L, hs with
  | [w0, w1], _ =>
    obtain ⟨i, e0⟩ := is_v h2
    obtain ⟨j, e1⟩ := is_v h3
    obtain rfl : w0 = (.int i) := Option.some.inj e0
    obtain rfl : w1 = (.int j) := Option.some.inj e1
    exact ⟨i, j, rfl⟩
theorem own_weaken {ws : List Jvm.Cond} {rm : Room} {y : MethodName} {bytes : ByteArray} {maxL : Nat} {ret : Option FieldType} {as' : Array Value} {w : Value} {n0 : Nat} (M : own_Pure l Z h0 ws rm y bytes maxL ret as' (some w)) : own_Met l Z h0 ws rm y bytes maxL ret as' (fun v h L => v = some w ∧ Fr n0 L) := by
  intro p e ha hc hk s m args below hf happ hP hK
  obtain ⟨n, o, h1, h2, h3, v, L, h4, ⟨h5, h6, h7⟩, h8⟩ := M p e ha hc hk s m args below hf happ hP hK
  exact ⟨n, o, h1, h2, h3, v, L, h4, ⟨h5, by rw [h6]; exact Fr.nil n0⟩, h8⟩
end OwnKit
section OwnWide
variable {p : Program} {l : Launch} {e : Env} {R : Room} {s : State} {m : MethodId} {args : Array Value} {below : List Frame} {meth : Method} {c : Code} {T T' : State} {locs : List Loc} {cells slots kc ks k0 : Nat} {F : Option Value → State → Prop} {Q : Option Value → Heap → List Loc → Prop} {g g' : JFrame} {Z : State} {a0 : Array Value} {h0 : Heap} {vm0 : Vm}
theorem own_retW (X : Stand p l e R (s.setVm vm0) m args below meth c T locs cells slots) (hx : p.tables.exec = Jvm.exec) (hlk : meth.locks = false) (hS : s.Since vm0 k0) (hk : k0 ≤ T.heap.size) {pc : Nat} {Ls : Array Slot} {w : Value} {t : FieldType} {i : Instr} {rest : List Value} (hret : meth.sig.returnType = some t) (hn : narrow t w = w)
    (hi : (i = .ireturn ∧ (t = .int ∨ t = .boolean ∨ t = .byte ∨ t = .char ∨ t = .short) ∧ ∃ z, w = .int z) ∨ (i = .lreturn ∧ t = .long ∧ ∃ z, w = .long z) ∨ (i = .dreturn ∧ t = .double ∧ ∃ z, w = .double z) ∨ (i = .freturn ∧ t = .float ∧ ∃ z, w = .float z) ∨ (i = .areturn ∧ t.isReference = true ∧ w.isRef = true))
    (hd : decode c.code pc = .ok (i, 1)) (hc : cells ≤ kc) (hs : slots ≤ ks) (q : Q (some w) T.heap locs) : own_Go p e below (own_W s kc ks Q) T (mkF m pc Ls (w :: rest)) := by
  obtain ⟨fs, hr, hrun, hended, h1, h2, h3, h4⟩ := X.leaveW hS hk (v := some w) (fun h => by rw [hret] at h; cases h) hlk
  exact ⟨_, _, retOut X hx hret hn hi hd hr, hrun, hended, _, q, h1, h2, h3, h4.mono hc hs⟩
theorem own_retVW (X : Stand p l e R (s.setVm vm0) m args below meth c T locs cells slots) (hx : p.tables.exec = Jvm.exec) (hlk : meth.locks = false) (hS : s.Since vm0 k0) (hk : k0 ≤ T.heap.size) {pc : Nat} {Ls : Array Slot} (hret : meth.sig.returnType = none) (hd : decode c.code pc = .ok (.return_, 1)) (hc : cells ≤ kc) (hs : slots ≤ ks) (q : Q none T.heap locs) : own_Go p e below (own_W s kc ks Q) T (mkF m pc Ls []) := by
  obtain ⟨fs, hr, hrun, hended, h1, h2, h3, h4⟩ := X.leaveW hS hk (v := none) (fun _ => rfl) hlk
  exact ⟨_, _, X.returnOut hx hret hd hr, hrun, hended, _, q, h1, h2, h3, h4.mono hc hs⟩
def own_MetW (l : Launch) (Z : State) (h0 : Heap) (ws : List Jvm.Cond) (rm : Room) (y : MethodName) (bytes : ByteArray) (maxL : Nat) (ret : Option FieldType) (as' : Array Value) (Q : Option Value → Heap → List Loc → Prop) : Prop :=
  MetFree l y (head1 (Jvm.Cond.code y bytes maxL ret :: ws) rm) (fun a U => a = as' ∧ Z.Warmed39 U.vm ∧ U.heap = h0) (fun _ _ _ _ _ => True) (fun _ U o U' => ∃ v L, o = .returned v ∧ Q v U'.heap L ∧ ReturnedEndW U o U' L rm.cells rm.slots)
theorem own_bodyW {ws : List Jvm.Cond} {rm : Room} {y : MethodName} {bytes : ByteArray} {maxL : Nat} {ret : Option FieldType} {as' : Array Value} (hpl : plainFor y = true)
    (H : ∀ (p : Program) (e : Env) (s : State) (m : MethodId) (below : List Frame) (meth : Method) (c : Code) (T : State) (vm0 : Vm) (k0 : Nat), Stand p l e rm (s.setVm vm0) m as' below meth c T [] 0 0 → s.Since vm0 k0 → k0 ≤ h0.size → p.tables.exec = Jvm.exec → c.code = bytes → c.maxLocals = maxL → (s.setVm vm0).vm.findClass y.cls = some m.cls → Z.Warmed39 (s.setVm vm0).vm → T.heap = h0 → meth.sig.returnType = ret → meth.locks = false → meth.name = y.name → s.methodNamed? y = some m →
      own_Go p e below (own_W s rm.cells rm.slots Q) T (entryFrame m as' maxL)) : own_MetW l Z h0 ws rm y bytes maxL ret as' Q := by
  refine MetFree.of_bodySF hpl hisR ?_
  intro p e s m args below meth c s₁ Bd hml0 hP hK
  obtain ⟨rfl, hZ, hh⟩ := hP
  obtain ⟨U, v, h1, h2, h3, L, h4, h5⟩ := H p e s m below meth c s₁ s.vm 0 (Stand.of_body Bd) ((State.WarmedH.refl s).since 0) (Nat.zero_le _) Bd.exec Bd.bytes hml0 (findClass_of_methodNamed Bd.named) hZ (by rw [← hh, Bd.state]; rfl) Bd.returns Bd.notSynchronized (name_of_methodNamed Bd.named Bd.method).1 Bd.named
  exact ⟨U, _, h1, h2, h3, v, L, rfl, h4, h5⟩
theorem own_gSW {rm : Room} {y : MethodName} {bytes : ByteArray} {maxL W index : Nat} {ret : Option FieldType} {own : String} {argsL rest : List Value} (X : Stand p l e R (s.setVm vm0) m args below meth c T locs cells slots) (hS : s.Since vm0 k0) (hk : k0 ≤ h0.size) (hx : p.tables.exec = Jvm.exec) (hZ : Z.Warmed39 (s.setVm vm0).vm) (hown : (s.setVm vm0).vm.findClass own = some m.cls)
    (w1 : (Jvm.Cond.methodLink own index y).before a0 Z = true) (w2 : (Jvm.Cond.static y).before a0 Z = true) (w3 : (Jvm.Cond.initialized y.cls).before a0 Z = true) (w4 : (Jvm.Cond.code y bytes maxL ret).before a0 Z = true) (hy : y.cls ≠ "java/lang/invoke/MethodHandle" ∧ y.cls ≠ "java/lang/invoke/VarHandle") (eT : T.heap = h0)
    (hM : own_MetW l Z h0 [] rm y bytes maxL ret argsL.toArray Q) (hf : rm.frames + 1 ≤ R.frames) (hl : W + (maxL + 11) + rm.locals ≤ R.locals) (hc1 : cells + rm.cells ≤ R.cells) (hs1 : slots + rm.slots ≤ R.slots)
    (hg : g.method = m) (hsize : g.locals.size = c.maxLocals) (hlen : ∀ sig, parseMethodDescriptor y.desc = some sig → argsL.length = sig.parameters.length) (hstack : g.stack = argsL.reverse ++ rest) (hW : 2 * g.monitorRoom + (rest.map fun v => v.category).sum ≤ W) (hdg : decode c.code g.pc = .ok (.invokestatic index, 3)) :
    ∃ (v : Option Value) (T' : State) (L : List Loc) (k1 : Nat), Stand p l e R (s.setVm T'.vm) m args below meth c T' (locs ++ L) (cells + rm.cells) (slots + rm.slots) ∧ Q v T'.heap L ∧ s.Since T'.vm k1 ∧ k1 ≤ T'.heap.size ∧ Z.Warmed39 (s.setVm T'.vm).vm ∧ (s.setVm T'.vm).vm.findClass own = some m.cls ∧
      ∀ target, Steps p.tables e below (T'.setTop { g with pc := g.pc + 3, stack := v.toList ++ rest }) target → Steps p.tables e below (T.setTop g) target := by
  obtain ⟨v, _, ⟨T1, L1, n1, n2⟩, -, X1, hS1, hgr, ⟨Lc, hq, l1, y1, z1⟩, st⟩ := callSS X hx (y := y) hown (mvT hZ w1) (mvT hZ w2) (mvT hZ w3) (mvT hZ w4) hy (backOfS (W := W) (Q := Q) hM hZ w4 w3 hf hl) (g := g) hg hsize (argsL := argsL) (rest := rest) hlen hstack hW hdg (fun _ _ => ⟨rfl, eT, hc1, hs1⟩)
  dsimp only [Pt.U, Pt.locs, Pt.cells, Pt.slots] at X1 l1 y1 z1 st hq hS1 hgr
  subst l1 y1 z1
  exact ⟨v, T1, Lc, T1.heap.size, X1, hq, hS.trans hS1 (Nat.le_trans hk (by rw [← eT]; exact hgr)), Nat.le_refl _, State.Warmed39.trans (t := s.setVm vm0) hZ hS1.1, by rw [show (s.setVm T1.vm).vm = T1.vm from rfl, hS1.1.alike.findClass]; exact hown, fun _ k => st.trans k⟩
theorem own_gI {rm : Room} {y : MethodName} {bytes : ByteArray} {maxL W index : Nat} {own : String} {argsL rest : List Value} {b : Addr} (X : Stand p l e R s m args below meth c T locs cells slots) (hx : p.tables.exec = Jvm.exec) (hZ : Z.Warmed39 s.vm) (hy1 : y.name = "<init>") (hown : s.vm.findClass own = some m.cls)
    (w1 : (Jvm.Cond.methodLink own index y).before a0 Z = true) (w2 : (Jvm.Cond.instanceMethod y).before a0 Z = true) (w3 : (Jvm.Cond.initialized y.cls).before a0 Z = true) (w4 : (Jvm.Cond.code y bytes maxL none).before a0 Z = true) (hy : y.cls ≠ "java/lang/invoke/MethodHandle" ∧ y.cls ≠ "java/lang/invoke/VarHandle") (eT : T.heap = h0)
    (hM : own_Met l Z h0 [] rm y bytes maxL none (.ref b :: argsL).toArray Q) (hf : rm.frames + 1 ≤ R.frames) (hl : W + (maxL + 11) + rm.locals ≤ R.locals) (hc1 : cells + rm.cells ≤ R.cells) (hs1 : slots + rm.slots ≤ R.slots)
    (hg : g.method = m) (hsize : g.locals.size = c.maxLocals) (hlen : ∀ sig, parseMethodDescriptor y.desc = some sig → argsL.length = sig.parameters.length) (hstack : g.stack = argsL.reverse ++ .ref b :: rest) (hW : 2 * g.monitorRoom + (rest.map fun v => v.category).sum ≤ W) (hdg : decode c.code g.pc = .ok (.invokespecial index, 3)) :
    ∃ (v : Option Value) (T' : State) (L : List Loc), Stand p l e R s m args below meth c T' (locs ++ L) (cells + rm.cells) (slots + rm.slots) ∧ Q v T'.heap L ∧ ∀ target, Steps p.tables e below (T'.setTop { g with pc := g.pc + 3, stack := v.toList ++ rest }) target → Steps p.tables e below (T.setTop g) target := by
  obtain ⟨v, _, ⟨T1, L1, k1, n1⟩, -, X1, ⟨Lc, hq, l1, y1, z1⟩, st⟩ := X.specialBack hx (y := y) hy1 hown (mvT hZ w1) (mvT hZ w2) (mvT hZ w4) hy (backOf (W := W) (Q := Q) hM hZ w4 w3 hf hl) (g := g) hg hsize (Steps.refl _) (a := b) (argsL := argsL) (rest := rest) hlen hstack hW hdg (fun _ _ => ⟨rfl, eT, hc1, hs1⟩)
  dsimp only [Pt.U, Pt.locs, Pt.cells, Pt.slots] at X1 l1 y1 z1 st hq
  subst l1 y1 z1
  exact ⟨v, T1, Lc, X1, hq, fun _ k => st.trans k⟩
theorem own_gIW {rm : Room} {y : MethodName} {bytes : ByteArray} {maxL W index : Nat} {own : String} {argsL rest : List Value} {b : Addr} (X : Stand p l e R (s.setVm vm0) m args below meth c T locs cells slots) (hS : s.Since vm0 k0) (hk : k0 ≤ h0.size) (hx : p.tables.exec = Jvm.exec) (hZ : Z.Warmed39 (s.setVm vm0).vm) (hy1 : y.name = "<init>") (hown : (s.setVm vm0).vm.findClass own = some m.cls)
    (w1 : (Jvm.Cond.methodLink own index y).before a0 Z = true) (w2 : (Jvm.Cond.instanceMethod y).before a0 Z = true) (w3 : (Jvm.Cond.initialized y.cls).before a0 Z = true) (w4 : (Jvm.Cond.code y bytes maxL none).before a0 Z = true) (hy : y.cls ≠ "java/lang/invoke/MethodHandle" ∧ y.cls ≠ "java/lang/invoke/VarHandle") (eT : T.heap = h0)
    (hM : own_MetW l Z h0 [] rm y bytes maxL none (.ref b :: argsL).toArray Q) (hf : rm.frames + 1 ≤ R.frames) (hl : W + (maxL + 11) + rm.locals ≤ R.locals) (hc1 : cells + rm.cells ≤ R.cells) (hs1 : slots + rm.slots ≤ R.slots)
    (hg : g.method = m) (hsize : g.locals.size = c.maxLocals) (hlen : ∀ sig, parseMethodDescriptor y.desc = some sig → argsL.length = sig.parameters.length) (hstack : g.stack = argsL.reverse ++ .ref b :: rest) (hW : 2 * g.monitorRoom + (rest.map fun v => v.category).sum ≤ W) (hdg : decode c.code g.pc = .ok (.invokespecial index, 3)) :
    ∃ (v : Option Value) (T' : State) (L : List Loc) (k1 : Nat), Stand p l e R (s.setVm T'.vm) m args below meth c T' (locs ++ L) (cells + rm.cells) (slots + rm.slots) ∧ Q v T'.heap L ∧ s.Since T'.vm k1 ∧ k1 ≤ T'.heap.size ∧ Z.Warmed39 (s.setVm T'.vm).vm ∧ (s.setVm T'.vm).vm.findClass own = some m.cls ∧
      ∀ target, Steps p.tables e below (T'.setTop { g with pc := g.pc + 3, stack := v.toList ++ rest }) target → Steps p.tables e below (T.setTop g) target := by
  obtain ⟨v, _, ⟨T1, L1, n1, n2⟩, -, X1, hS1, hgr, ⟨Lc, hq, l1, y1, z1⟩, st⟩ := X.specialBackS hx (y := y) hy1 hown (mvT hZ w1) (mvT hZ w2) (mvT hZ w4) hy (backOfS (W := W) (Q := Q) hM hZ w4 w3 hf hl) (g := g) hg hsize (Steps.refl _) (a := b) (argsL := argsL) (rest := rest) hlen hstack hW hdg (fun _ _ => ⟨rfl, eT, hc1, hs1⟩)
  dsimp only [Pt.U, Pt.locs, Pt.cells, Pt.slots] at X1 l1 y1 z1 st hq hS1 hgr
  subst l1 y1 z1
  exact ⟨v, T1, Lc, T1.heap.size, X1, hq, hS.trans hS1 (Nat.le_trans hk (by rw [← eT]; exact hgr)), Nat.le_refl _, State.Warmed39.trans (t := s.setVm vm0) hZ hS1.1, by rw [show (s.setVm T1.vm).vm = T1.vm from rfl, hS1.1.alike.findClass]; exact hown, fun _ k => st.trans k⟩
theorem own_ext_wr {h h' h1 : Heap} {a : Addr} {sl : Nat} {v : Value} (E : Ext h h1) (W : Wr h1 h' a sl v) (q : h.size ≤ a) : Ext h h' := by
  obtain ⟨cell, c1, -, -, rfl⟩ := W
  refine ⟨by simpa using E.1, fun x c hx => ?_⟩
  have hlt : x < h.size := (Array.getElem?_eq_some_iff.mp hx).1
  have hne : a ≠ x := Nat.ne_of_gt (Nat.lt_of_lt_of_le hlt q)
  rw [Array.getElem?_setIfInBounds_ne hne]
  exact E.2 _ _ hx
theorem own_ext_keep {h h' h1 : Heap} {ws : List Addr} (E : Ext h h1) (K : Keep h1 h' ws) (q : ∀ x ∈ ws, h.size ≤ x) : Ext h h' :=
  ⟨Nat.le_trans E.1 K.1, fun x c hx => K.2.1 x c (E.2 _ _ hx) fun z => absurd (Array.getElem?_eq_some_iff.mp hx).1 (Nat.not_lt.mpr (q x z))⟩
theorem own_ext_tr {h h1 h2 : Heap} (E : Ext h h1) (E' : Ext h1 h2) : Ext h h2 := ⟨Nat.le_trans E.1 E'.1, fun x c hx => E'.2 _ _ (E.2 _ _ hx)⟩
theorem own_ext_rf (h : Heap) : Ext h h := ⟨Nat.le_refl _, fun _ _ q => q⟩
theorem own_fr_mono {n0 k : Nat} {L : List Loc} (h : n0 ≤ k) (N : Fr k L) : Fr n0 L := fun y hy => Nat.le_trans h (N y hy)
theorem own_i8 (x : Int32) : x.toInt8.toInt32.toInt8.toInt32 = x.toInt8.toInt32 := by simp
end OwnWide

theorem own_pn_0 : plainName "com/example/staleguard/staleguard/LockMode" = true := by first | (simp [plainName, overriddenIn]; done) | decide +kernel
theorem own_pn_1 : plainName "com/example/staleguard/staleguard/LockModeOfPinLaw" = true := by first | (simp [plainName, overriddenIn]; done) | decide +kernel
theorem own_pd_0 : parseMethodDescriptor "()[Lcom/example/staleguard/staleguard/LockMode;" = some ⟨[], some (.array (.object "com/example/staleguard/staleguard/LockMode"))⟩ := by decide +kernel
theorem own_pd_1 : parseMethodDescriptor "(Ljava/lang/Object;)Z" = some ⟨[(.object "java/lang/Object")], some .boolean⟩ := by decide +kernel
theorem own_pd_2 : parseMethodDescriptor "([C)V" = some ⟨[(.array .char)], none⟩ := by decide +kernel
theorem own_pd_3 : parseMethodDescriptor "(Ljava/lang/String;)Lcom/example/staleguard/staleguard/LockMode;" = some ⟨[(.object "java/lang/String")], some (.object "com/example/staleguard/staleguard/LockMode")⟩ := by decide +kernel
theorem own_pd_4 : parseMethodDescriptor "()Ljava/lang/String;" = some ⟨[], some (.object "java/lang/String")⟩ := by decide +kernel
theorem own_d_prog_15_method_1_code_0 : decode prog_15_method_1_code 0 = .ok (.getstatic 10, 3) := by decide +kernel
theorem own_d_prog_15_method_1_code_3 : decode prog_15_method_1_code 3 = .ok (.invokevirtual 14, 3) := by decide +kernel
theorem own_d_prog_15_method_1_code_6 : decode prog_15_method_1_code 6 = .ok (.checkcast 15, 3) := by decide +kernel
theorem own_d_prog_15_method_1_code_9 : decode prog_15_method_1_code 9 = .ok (.areturn, 1) := by decide +kernel
theorem own_d_prog_15_method_7_code_0 : decode prog_15_method_7_code 0 = .ok (.invokestatic 33, 3) := by decide +kernel
theorem own_d_prog_15_method_7_code_3 : decode prog_15_method_7_code 3 = .ok (.astore_n 1, 1) := by decide +kernel
theorem own_d_prog_15_method_7_code_4 : decode prog_15_method_7_code 4 = .ok (.aload_n 1, 1) := by decide +kernel
theorem own_d_prog_15_method_7_code_5 : decode prog_15_method_7_code 5 = .ok (.arraylength, 1) := by decide +kernel
theorem own_d_prog_15_method_7_code_6 : decode prog_15_method_7_code 6 = .ok (.istore_n 2, 1) := by decide +kernel
theorem own_d_prog_15_method_7_code_7 : decode prog_15_method_7_code 7 = .ok (.iconst 0, 1) := by decide +kernel
theorem own_d_prog_15_method_7_code_8 : decode prog_15_method_7_code 8 = .ok (.istore_n 3, 1) := by decide +kernel
theorem own_d_prog_15_method_7_code_9 : decode prog_15_method_7_code 9 = .ok (.iload_n 3, 1) := by decide +kernel
theorem own_d_prog_15_method_7_code_10 : decode prog_15_method_7_code 10 = .ok (.iload_n 2, 1) := by decide +kernel
theorem own_d_prog_15_method_7_code_11 : decode prog_15_method_7_code 11 = .ok (.if_icmp .ge 29, 3) := by decide +kernel
theorem own_d_prog_15_method_7_code_14 : decode prog_15_method_7_code 14 = .ok (.aload_n 1, 1) := by decide +kernel
theorem own_d_prog_15_method_7_code_15 : decode prog_15_method_7_code 15 = .ok (.iload_n 3, 1) := by decide +kernel
theorem own_d_prog_15_method_7_code_16 : decode prog_15_method_7_code 16 = .ok (.aaload, 1) := by decide +kernel
theorem own_d_prog_15_method_7_code_17 : decode prog_15_method_7_code 17 = .ok (.astore 4, 2) := by decide +kernel
theorem own_d_prog_15_method_7_code_19 : decode prog_15_method_7_code 19 = .ok (.aload 4, 2) := by decide +kernel
theorem own_d_prog_15_method_7_code_21 : decode prog_15_method_7_code 21 = .ok (.getfield 29, 3) := by decide +kernel
theorem own_d_prog_15_method_7_code_24 : decode prog_15_method_7_code 24 = .ok (.aload_n 0, 1) := by decide +kernel
theorem own_d_prog_15_method_7_code_25 : decode prog_15_method_7_code 25 = .ok (.invokevirtual 37, 3) := by decide +kernel
theorem own_d_prog_15_method_7_code_28 : decode prog_15_method_7_code 28 = .ok (.ifCond .eq 6, 3) := by decide +kernel
theorem own_d_prog_15_method_7_code_31 : decode prog_15_method_7_code 31 = .ok (.aload 4, 2) := by decide +kernel
theorem own_d_prog_15_method_7_code_33 : decode prog_15_method_7_code 33 = .ok (.areturn, 1) := by decide +kernel
theorem own_d_prog_15_method_6_code_0 : decode prog_15_method_6_code 0 = .ok (.aload_n 0, 1) := by decide +kernel
theorem own_d_prog_15_method_6_code_1 : decode prog_15_method_6_code 1 = .ok (.getfield 29, 3) := by decide +kernel
theorem own_d_prog_15_method_6_code_4 : decode prog_15_method_6_code 4 = .ok (.areturn, 1) := by decide +kernel
theorem own_d_prog_15_method_7_code_34 : decode prog_15_method_7_code 34 = .ok (.iinc 3 1, 3) := by decide +kernel
theorem own_d_prog_15_method_7_code_37 : decode prog_15_method_7_code 37 = .ok (.goto (-28), 3) := by decide +kernel
section OwnStr
variable {p : Program} {l : Launch} {e : Env} {R : Room} {s : State} {m : MethodId} {args : Array Value} {below : List Frame} {meth : Method} {c : Code} {T T' : State} {locs : List Loc} {cells slots kc ks : Nat} {F : Option Value → State → Prop} {Q : Option Value → Heap → List Loc → Prop} {g g' : JFrame} {Z : State} {a0 : Array Value} {h0 : Heap}
theorem own_kI {y : MethodName} {bytes : ByteArray} {maxL W index : Nat} {own : String} {argsL rest : List Value} {b : Addr} (X : Stand p l e R s m args below meth c T locs cells slots) (hx : p.tables.exec = Jvm.exec) (hZ : Z.Warmed39 s.vm) (hy1 : y.name = "<init>") (hown : s.vm.findClass own = some m.cls)
    (w1 : (Jvm.Cond.methodLink own index y).before a0 Z = true) (w2 : (Jvm.Cond.instanceMethod y).before a0 Z = true) (w4 : (Jvm.Cond.code y bytes maxL none).before a0 Z = true) (hy : y.cls ≠ "java/lang/invoke/MethodHandle" ∧ y.cls ≠ "java/lang/invoke/VarHandle") (eT : T.heap = h0)
    (hB : Back l R p e below s args y 3 W (fun P a => a = (.ref b :: argsL).toArray ∧ P.U.heap = h0 ∧ P.cells + kc ≤ R.cells ∧ P.slots + ks ≤ R.slots) (fun P _ v B => ∃ L, Q v B.U.heap L ∧ B.locs = P.locs ++ L ∧ B.cells = P.cells + kc ∧ B.slots = P.slots + ks)) (hc1 : cells + kc ≤ R.cells) (hs1 : slots + ks ≤ R.slots)
    (hg : g.method = m) (hsize : g.locals.size = c.maxLocals) (hlen : ∀ sig, parseMethodDescriptor y.desc = some sig → argsL.length = sig.parameters.length) (hstack : g.stack = argsL.reverse ++ .ref b :: rest) (hW : 2 * g.monitorRoom + (rest.map fun v => v.category).sum ≤ W) (hdg : decode c.code g.pc = .ok (.invokespecial index, 3)) :
    ∃ (v : Option Value) (T' : State) (L : List Loc), Stand p l e R s m args below meth c T' (locs ++ L) (cells + kc) (slots + ks) ∧ Q v T'.heap L ∧ ∀ target, Steps p.tables e below (T'.setTop { g with pc := g.pc + 3, stack := v.toList ++ rest }) target → Steps p.tables e below (T.setTop g) target := by
  obtain ⟨v, _, ⟨T1, L1, k1, n1⟩, -, X1, ⟨Lc, hq, l1, y1, z1⟩, st⟩ := X.specialBack hx (y := y) hy1 hown (mvT hZ w1) (mvT hZ w2) (mvT hZ w4) hy hB (g := g) hg hsize (Steps.refl _) (a := b) (argsL := argsL) (rest := rest) hlen hstack hW hdg (fun _ _ => ⟨rfl, eT, hc1, hs1⟩)
  dsimp only [Pt.U, Pt.locs, Pt.cells, Pt.slots] at X1 l1 y1 z1 st hq
  subst l1 y1 z1
  exact ⟨v, T1, Lc, X1, hq, fun _ k => st.trans k⟩
theorem own_kV {y z : MethodName} {W index : Nat} {own C : String} {argsL rest : List Value} {b : Addr} (X : Stand p l e R s m args below meth c T locs cells slots) (hx : p.tables.exec = Jvm.exec) (hZ : Z.Warmed39 s.vm) (hown : s.vm.findClass own = some m.cls)
    (w1 : (Jvm.Cond.methodLink own index y).before a0 Z = true) (w2 : (Jvm.Cond.declares y).before a0 Z = true) (hnf : NotFace s y) (w5 : (Jvm.Cond.selects C y z).before a0 Z = true) (w6 : (Jvm.Cond.instanceMethod z).before a0 Z = true) (hy : y.cls ≠ "java/lang/invoke/MethodHandle" ∧ y.cls ≠ "java/lang/invoke/VarHandle") (eT : T.heap = h0) (E : Exa Z h0 b C)
    (hB : Back l R p e below s args z 3 W (fun P a => a = (.ref b :: argsL).toArray ∧ P.U.heap = h0 ∧ P.cells + kc ≤ R.cells ∧ P.slots + ks ≤ R.slots) (fun P _ v B => ∃ L, Q v B.U.heap L ∧ B.locs = P.locs ++ L ∧ B.cells = P.cells + kc ∧ B.slots = P.slots + ks)) (hc1 : cells + kc ≤ R.cells) (hs1 : slots + ks ≤ R.slots)
    (hg : g.method = m) (hsize : g.locals.size = c.maxLocals) (hlen : ∀ sig, parseMethodDescriptor y.desc = some sig → argsL.length = sig.parameters.length) (hstack : g.stack = argsL.reverse ++ .ref b :: rest) (hW : 2 * g.monitorRoom + (rest.map fun v => v.category).sum ≤ W) (hdg : decode c.code g.pc = .ok (.invokevirtual index, 3)) :
    ∃ (v : Option Value) (T' : State) (L : List Loc), Stand p l e R s m args below meth c T' (locs ++ L) (cells + kc) (slots + ks) ∧ Q v T'.heap L ∧ ∀ target, Steps p.tables e below (T'.setTop { g with pc := g.pc + 3, stack := v.toList ++ rest }) target → Steps p.tables e below (T.setTop g) target := by
  obtain ⟨cq, kq, qa, qb, qc⟩ := isOf hZ eT E
  obtain ⟨v, _, ⟨T1, L1, k1, n1⟩, -, X1, ⟨Lc, hq, l1, y1, z1⟩, st⟩ := X.virtualBack hx (y := y) (z := z) hown (mvT hZ w1) (mvT hZ w2) hnf (mvT hZ w5) (mvT hZ w6) hy hB qa qc (g := g) hg hsize (Steps.refl _) (argsL := argsL) (rest := rest) hlen hstack hW hdg (fun _ _ => ⟨rfl, eT, hc1, hs1⟩)
  dsimp only [Pt.U, Pt.locs, Pt.cells, Pt.slots] at X1 l1 y1 z1 st hq
  subst l1 y1 z1
  exact ⟨v, T1, Lc, X1, hq, fun _ k => st.trans k⟩
end OwnStr
abbrev own_csS : List Int32 := [115, 104, 97, 114, 101, 100]
theorem own_eS : ((own_csS.map fun c => c.toInt8.toInt32).map Value.int) = [.int (115 : Int32), .int (104 : Int32), .int (97 : Int32), .int (114 : Int32), .int (101 : Int32), .int (100 : Int32)] := by first | rfl | decide +kernel
theorem own_hpS : ∀ c ∈ own_csS, ¬ c < 0 ∧ ¬ (255 : Int32) < c := by decide
theorem own_hbS : ∀ c ∈ own_csS, ¬ c < 0 ∧ ¬ (65535 : Int32) < c := by decide
theorem own_hcS : StrChars.Road.CodA own_csS 0 (6 : Int32) ((own_csS.map fun c => c.toInt8.toInt32).map Value.int) := StrChars.Road.codOf (n := 6) rfl (fun c hc => (own_hpS c hc).2)
abbrev own_csX : List Int32 := [101, 120, 99, 108, 117, 115, 105, 118, 101]
theorem own_eX : ((own_csX.map fun c => c.toInt8.toInt32).map Value.int) = [.int (101 : Int32), .int (120 : Int32), .int (99 : Int32), .int (108 : Int32), .int (117 : Int32), .int (115 : Int32), .int (105 : Int32), .int (118 : Int32), .int (101 : Int32)] := by first | rfl | decide +kernel
theorem own_hpX : ∀ c ∈ own_csX, ¬ c < 0 ∧ ¬ (255 : Int32) < c := by decide
theorem own_hbX : ∀ c ∈ own_csX, ¬ c < 0 ∧ ¬ (65535 : Int32) < c := by decide
theorem own_hcX : StrChars.Road.CodA own_csX 0 (9 : Int32) ((own_csX.map fun c => c.toInt8.toInt32).map Value.int) := StrChars.Road.codOf (n := 9) rfl (fun c hc => (own_hpX c hc).2)
theorem own_hws {Z : State} {a0 : Array Value} (hw : ∀ d ∈ tables_1, d.before a0 Z = true) : ∀ d ∈ StrChars.Road.words, d.before a0 Z = true := fun d hd => hw d ((by decide +kernel : ∀ d ∈ StrChars.Road.words, d ∈ tables_1) d hd)
theorem own_heq {Z : State} {a0 : Array Value} (hw : ∀ d ∈ tables_1, d.before a0 Z = true) : ∀ d ∈ StrChars.Road.wordsEq, d.before a0 Z = true := fun d hd => hw d ((by decide +kernel : ∀ d ∈ StrChars.Road.wordsEq, d ∈ tables_1) d hd)
theorem own_nz {args : Array Value} {s : State} {t : Term} {k : Int32} (ev : t.eval args s none [] s = some (.int k)) (h : (Jvm.Cond.not (Jvm.Cond.eq t (Term.int 0))).value args s none s [] = some true) : ¬ k = 0 := by
  intro q
  have u := not_v h
  rw [eq_i ev (Term.int_eval 0) (congrArg Value.int q)] at u
  cases u
def own_E (Z : State) (h0 : Heap) (a_SHARED : Addr) (a_EXCLUSIVE : Addr) (a_VALUES : Addr) (k_VALUES : ClassId) (b_S : Addr) (t_S : Addr) (k_S : ClassId) (b_X : Addr) (t_X : Addr) (k_X : ClassId) (zc : Int32) : Prop :=
  (Sta Z h0 "com/example/staleguard/staleguard/LockMode" "SHARED" "Lcom/example/staleguard/staleguard/LockMode;" (.ref a_SHARED)) ∧
  (Exa Z h0 a_SHARED "com/example/staleguard/staleguard/LockMode") ∧
  (Sta Z h0 "com/example/staleguard/staleguard/LockMode" "EXCLUSIVE" "Lcom/example/staleguard/staleguard/LockMode;" (.ref a_EXCLUSIVE)) ∧
  (Exa Z h0 a_EXCLUSIVE "com/example/staleguard/staleguard/LockMode") ∧
  (Sta Z h0 "com/example/staleguard/staleguard/LockMode" "$VALUES" "[Lcom/example/staleguard/staleguard/LockMode;" (.ref a_VALUES)) ∧
  (Exa Z h0 a_VALUES "[Lcom/example/staleguard/staleguard/LockMode;") ∧
  (Arh Z h0 a_VALUES k_VALUES (.object "com/example/staleguard/staleguard/LockMode") (2 : Int32) [] [(.ref a_SHARED), (.ref a_EXCLUSIVE)] .null) ∧
  (Fld Z h0 a_SHARED "com/example/staleguard/staleguard/LockMode" "text" "Ljava/lang/String;" (.ref b_S)) ∧
  (Exa Z h0 b_S "java/lang/String") ∧
  (Fld Z h0 b_S "java/lang/String" "value" "[B" (.ref t_S)) ∧
  (Fld Z h0 b_S "java/lang/String" "coder" "B" (.int (0 : Int32))) ∧
  (Arv Z h0 t_S k_S .byte (6 : Int32) ((own_csS.map fun c => c.toInt8.toInt32).map Value.int) (.int (0 : Int32))) ∧
  (Fld Z h0 a_EXCLUSIVE "com/example/staleguard/staleguard/LockMode" "text" "Ljava/lang/String;" (.ref b_X)) ∧
  (Exa Z h0 b_X "java/lang/String") ∧
  (Fld Z h0 b_X "java/lang/String" "value" "[B" (.ref t_X)) ∧
  (Fld Z h0 b_X "java/lang/String" "coder" "B" (.int (0 : Int32))) ∧
  (Arv Z h0 t_X k_X .byte (9 : Int32) ((own_csX.map fun c => c.toInt8.toInt32).map Value.int) (.int (0 : Int32))) ∧
  (Sta Z h0 "java/lang/String" "COMPACT_STRINGS" "Z" (.int zc)) ∧
  (¬ zc = 0) ∧ True
theorem own_p_S_SHARED {Z : State} {h0 : Heap} {a_SHARED : Addr} {a_EXCLUSIVE : Addr} {a_VALUES : Addr} {k_VALUES : ClassId} {b_S : Addr} {t_S : Addr} {k_S : ClassId} {b_X : Addr} {t_X : Addr} {k_X : ClassId} {zc : Int32} (hE : own_E Z h0 a_SHARED a_EXCLUSIVE a_VALUES k_VALUES b_S t_S k_S b_X t_X k_X zc) : Sta Z h0 "com/example/staleguard/staleguard/LockMode" "SHARED" "Lcom/example/staleguard/staleguard/LockMode;" (.ref a_SHARED) := hE.1
theorem own_p_E_a_SHARED {Z : State} {h0 : Heap} {a_SHARED : Addr} {a_EXCLUSIVE : Addr} {a_VALUES : Addr} {k_VALUES : ClassId} {b_S : Addr} {t_S : Addr} {k_S : ClassId} {b_X : Addr} {t_X : Addr} {k_X : ClassId} {zc : Int32} (hE : own_E Z h0 a_SHARED a_EXCLUSIVE a_VALUES k_VALUES b_S t_S k_S b_X t_X k_X zc) : Exa Z h0 a_SHARED "com/example/staleguard/staleguard/LockMode" := hE.2.1
theorem own_p_S_EXCLUSIVE {Z : State} {h0 : Heap} {a_SHARED : Addr} {a_EXCLUSIVE : Addr} {a_VALUES : Addr} {k_VALUES : ClassId} {b_S : Addr} {t_S : Addr} {k_S : ClassId} {b_X : Addr} {t_X : Addr} {k_X : ClassId} {zc : Int32} (hE : own_E Z h0 a_SHARED a_EXCLUSIVE a_VALUES k_VALUES b_S t_S k_S b_X t_X k_X zc) : Sta Z h0 "com/example/staleguard/staleguard/LockMode" "EXCLUSIVE" "Lcom/example/staleguard/staleguard/LockMode;" (.ref a_EXCLUSIVE) := hE.2.2.1
theorem own_p_E_a_EXCLUSIVE {Z : State} {h0 : Heap} {a_SHARED : Addr} {a_EXCLUSIVE : Addr} {a_VALUES : Addr} {k_VALUES : ClassId} {b_S : Addr} {t_S : Addr} {k_S : ClassId} {b_X : Addr} {t_X : Addr} {k_X : ClassId} {zc : Int32} (hE : own_E Z h0 a_SHARED a_EXCLUSIVE a_VALUES k_VALUES b_S t_S k_S b_X t_X k_X zc) : Exa Z h0 a_EXCLUSIVE "com/example/staleguard/staleguard/LockMode" := hE.2.2.2.1
theorem own_p_S_VALUES {Z : State} {h0 : Heap} {a_SHARED : Addr} {a_EXCLUSIVE : Addr} {a_VALUES : Addr} {k_VALUES : ClassId} {b_S : Addr} {t_S : Addr} {k_S : ClassId} {b_X : Addr} {t_X : Addr} {k_X : ClassId} {zc : Int32} (hE : own_E Z h0 a_SHARED a_EXCLUSIVE a_VALUES k_VALUES b_S t_S k_S b_X t_X k_X zc) : Sta Z h0 "com/example/staleguard/staleguard/LockMode" "$VALUES" "[Lcom/example/staleguard/staleguard/LockMode;" (.ref a_VALUES) := hE.2.2.2.2.1
theorem own_p_E_a_VALUES {Z : State} {h0 : Heap} {a_SHARED : Addr} {a_EXCLUSIVE : Addr} {a_VALUES : Addr} {k_VALUES : ClassId} {b_S : Addr} {t_S : Addr} {k_S : ClassId} {b_X : Addr} {t_X : Addr} {k_X : ClassId} {zc : Int32} (hE : own_E Z h0 a_SHARED a_EXCLUSIVE a_VALUES k_VALUES b_S t_S k_S b_X t_X k_X zc) : Exa Z h0 a_VALUES "[Lcom/example/staleguard/staleguard/LockMode;" := hE.2.2.2.2.2.1
theorem own_p_V_a_VALUES {Z : State} {h0 : Heap} {a_SHARED : Addr} {a_EXCLUSIVE : Addr} {a_VALUES : Addr} {k_VALUES : ClassId} {b_S : Addr} {t_S : Addr} {k_S : ClassId} {b_X : Addr} {t_X : Addr} {k_X : ClassId} {zc : Int32} (hE : own_E Z h0 a_SHARED a_EXCLUSIVE a_VALUES k_VALUES b_S t_S k_S b_X t_X k_X zc) : Arh Z h0 a_VALUES k_VALUES (.object "com/example/staleguard/staleguard/LockMode") (2 : Int32) [] [(.ref a_SHARED), (.ref a_EXCLUSIVE)] .null := hE.2.2.2.2.2.2.1
theorem own_p_F_text_a_SHARED {Z : State} {h0 : Heap} {a_SHARED : Addr} {a_EXCLUSIVE : Addr} {a_VALUES : Addr} {k_VALUES : ClassId} {b_S : Addr} {t_S : Addr} {k_S : ClassId} {b_X : Addr} {t_X : Addr} {k_X : ClassId} {zc : Int32} (hE : own_E Z h0 a_SHARED a_EXCLUSIVE a_VALUES k_VALUES b_S t_S k_S b_X t_X k_X zc) : Fld Z h0 a_SHARED "com/example/staleguard/staleguard/LockMode" "text" "Ljava/lang/String;" (.ref b_S) := hE.2.2.2.2.2.2.2.1
theorem own_p_E_b_S {Z : State} {h0 : Heap} {a_SHARED : Addr} {a_EXCLUSIVE : Addr} {a_VALUES : Addr} {k_VALUES : ClassId} {b_S : Addr} {t_S : Addr} {k_S : ClassId} {b_X : Addr} {t_X : Addr} {k_X : ClassId} {zc : Int32} (hE : own_E Z h0 a_SHARED a_EXCLUSIVE a_VALUES k_VALUES b_S t_S k_S b_X t_X k_X zc) : Exa Z h0 b_S "java/lang/String" := hE.2.2.2.2.2.2.2.2.1
theorem own_p_F_value_b_S {Z : State} {h0 : Heap} {a_SHARED : Addr} {a_EXCLUSIVE : Addr} {a_VALUES : Addr} {k_VALUES : ClassId} {b_S : Addr} {t_S : Addr} {k_S : ClassId} {b_X : Addr} {t_X : Addr} {k_X : ClassId} {zc : Int32} (hE : own_E Z h0 a_SHARED a_EXCLUSIVE a_VALUES k_VALUES b_S t_S k_S b_X t_X k_X zc) : Fld Z h0 b_S "java/lang/String" "value" "[B" (.ref t_S) := hE.2.2.2.2.2.2.2.2.2.1
theorem own_p_F_coder_b_S {Z : State} {h0 : Heap} {a_SHARED : Addr} {a_EXCLUSIVE : Addr} {a_VALUES : Addr} {k_VALUES : ClassId} {b_S : Addr} {t_S : Addr} {k_S : ClassId} {b_X : Addr} {t_X : Addr} {k_X : ClassId} {zc : Int32} (hE : own_E Z h0 a_SHARED a_EXCLUSIVE a_VALUES k_VALUES b_S t_S k_S b_X t_X k_X zc) : Fld Z h0 b_S "java/lang/String" "coder" "B" (.int (0 : Int32)) := hE.2.2.2.2.2.2.2.2.2.2.1
theorem own_p_K_b_S {Z : State} {h0 : Heap} {a_SHARED : Addr} {a_EXCLUSIVE : Addr} {a_VALUES : Addr} {k_VALUES : ClassId} {b_S : Addr} {t_S : Addr} {k_S : ClassId} {b_X : Addr} {t_X : Addr} {k_X : ClassId} {zc : Int32} (hE : own_E Z h0 a_SHARED a_EXCLUSIVE a_VALUES k_VALUES b_S t_S k_S b_X t_X k_X zc) : Arv Z h0 t_S k_S .byte (6 : Int32) ((own_csS.map fun c => c.toInt8.toInt32).map Value.int) (.int (0 : Int32)) := hE.2.2.2.2.2.2.2.2.2.2.2.1
theorem own_p_F_text_a_EXCLUSIVE {Z : State} {h0 : Heap} {a_SHARED : Addr} {a_EXCLUSIVE : Addr} {a_VALUES : Addr} {k_VALUES : ClassId} {b_S : Addr} {t_S : Addr} {k_S : ClassId} {b_X : Addr} {t_X : Addr} {k_X : ClassId} {zc : Int32} (hE : own_E Z h0 a_SHARED a_EXCLUSIVE a_VALUES k_VALUES b_S t_S k_S b_X t_X k_X zc) : Fld Z h0 a_EXCLUSIVE "com/example/staleguard/staleguard/LockMode" "text" "Ljava/lang/String;" (.ref b_X) := hE.2.2.2.2.2.2.2.2.2.2.2.2.1
theorem own_p_E_b_X {Z : State} {h0 : Heap} {a_SHARED : Addr} {a_EXCLUSIVE : Addr} {a_VALUES : Addr} {k_VALUES : ClassId} {b_S : Addr} {t_S : Addr} {k_S : ClassId} {b_X : Addr} {t_X : Addr} {k_X : ClassId} {zc : Int32} (hE : own_E Z h0 a_SHARED a_EXCLUSIVE a_VALUES k_VALUES b_S t_S k_S b_X t_X k_X zc) : Exa Z h0 b_X "java/lang/String" := hE.2.2.2.2.2.2.2.2.2.2.2.2.2.1
theorem own_p_F_value_b_X {Z : State} {h0 : Heap} {a_SHARED : Addr} {a_EXCLUSIVE : Addr} {a_VALUES : Addr} {k_VALUES : ClassId} {b_S : Addr} {t_S : Addr} {k_S : ClassId} {b_X : Addr} {t_X : Addr} {k_X : ClassId} {zc : Int32} (hE : own_E Z h0 a_SHARED a_EXCLUSIVE a_VALUES k_VALUES b_S t_S k_S b_X t_X k_X zc) : Fld Z h0 b_X "java/lang/String" "value" "[B" (.ref t_X) := hE.2.2.2.2.2.2.2.2.2.2.2.2.2.2.1
theorem own_p_F_coder_b_X {Z : State} {h0 : Heap} {a_SHARED : Addr} {a_EXCLUSIVE : Addr} {a_VALUES : Addr} {k_VALUES : ClassId} {b_S : Addr} {t_S : Addr} {k_S : ClassId} {b_X : Addr} {t_X : Addr} {k_X : ClassId} {zc : Int32} (hE : own_E Z h0 a_SHARED a_EXCLUSIVE a_VALUES k_VALUES b_S t_S k_S b_X t_X k_X zc) : Fld Z h0 b_X "java/lang/String" "coder" "B" (.int (0 : Int32)) := hE.2.2.2.2.2.2.2.2.2.2.2.2.2.2.2.1
theorem own_p_K_b_X {Z : State} {h0 : Heap} {a_SHARED : Addr} {a_EXCLUSIVE : Addr} {a_VALUES : Addr} {k_VALUES : ClassId} {b_S : Addr} {t_S : Addr} {k_S : ClassId} {b_X : Addr} {t_X : Addr} {k_X : ClassId} {zc : Int32} (hE : own_E Z h0 a_SHARED a_EXCLUSIVE a_VALUES k_VALUES b_S t_S k_S b_X t_X k_X zc) : Arv Z h0 t_X k_X .byte (9 : Int32) ((own_csX.map fun c => c.toInt8.toInt32).map Value.int) (.int (0 : Int32)) := hE.2.2.2.2.2.2.2.2.2.2.2.2.2.2.2.2.1
theorem own_p_S_CS {Z : State} {h0 : Heap} {a_SHARED : Addr} {a_EXCLUSIVE : Addr} {a_VALUES : Addr} {k_VALUES : ClassId} {b_S : Addr} {t_S : Addr} {k_S : ClassId} {b_X : Addr} {t_X : Addr} {k_X : ClassId} {zc : Int32} (hE : own_E Z h0 a_SHARED a_EXCLUSIVE a_VALUES k_VALUES b_S t_S k_S b_X t_X k_X zc) : Sta Z h0 "java/lang/String" "COMPACT_STRINGS" "Z" (.int zc) := hE.2.2.2.2.2.2.2.2.2.2.2.2.2.2.2.2.2.1
theorem own_p_hz {Z : State} {h0 : Heap} {a_SHARED : Addr} {a_EXCLUSIVE : Addr} {a_VALUES : Addr} {k_VALUES : ClassId} {b_S : Addr} {t_S : Addr} {k_S : ClassId} {b_X : Addr} {t_X : Addr} {k_X : ClassId} {zc : Int32} (hE : own_E Z h0 a_SHARED a_EXCLUSIVE a_VALUES k_VALUES b_S t_S k_S b_X t_X k_X zc) : ¬ zc = 0 := hE.2.2.2.2.2.2.2.2.2.2.2.2.2.2.2.2.2.2.1
theorem own_E_ext {Z : State} {h0 h' : Heap} {a_SHARED : Addr} {a_EXCLUSIVE : Addr} {a_VALUES : Addr} {k_VALUES : ClassId} {b_S : Addr} {t_S : Addr} {k_S : ClassId} {b_X : Addr} {t_X : Addr} {k_X : ClassId} {zc : Int32} (hE : own_E Z h0 a_SHARED a_EXCLUSIVE a_VALUES k_VALUES b_S t_S k_S b_X t_X k_X zc) (E : Ext h0 h') : own_E Z h' a_SHARED a_EXCLUSIVE a_VALUES k_VALUES b_S t_S k_S b_X t_X k_X zc := ⟨(own_p_S_SHARED hE).ext E, (own_p_E_a_SHARED hE).ext E, (own_p_S_EXCLUSIVE hE).ext E, (own_p_E_a_EXCLUSIVE hE).ext E, (own_p_S_VALUES hE).ext E, (own_p_E_a_VALUES hE).ext E, (own_p_V_a_VALUES hE).ext E, (own_p_F_text_a_SHARED hE).ext E, (own_p_E_b_S hE).ext E, (own_p_F_value_b_S hE).ext E, (own_p_F_coder_b_S hE).ext E, (own_p_K_b_S hE).ext E, (own_p_F_text_a_EXCLUSIVE hE).ext E, (own_p_E_b_X hE).ext E, (own_p_F_value_b_X hE).ext E, (own_p_F_coder_b_X hE).ext E, (own_p_K_b_X hE).ext E, (own_p_S_CS hE).ext E, own_p_hz hE, trivial⟩
set_option maxRecDepth 65536 in
set_option maxHeartbeats 40000000 in
theorem own_values (l : Launch) (Z : State) (a0 : Array Value) (hw : ∀ d ∈ tables_1, d.before a0 Z = true) (h0 : Heap) (a_SHARED : Addr) (a_EXCLUSIVE : Addr) (a_VALUES : Addr) (k_VALUES : ClassId) (b_S : Addr) (t_S : Addr) (k_S : ClassId) (b_X : Addr) (t_X : Addr) (k_X : ClassId) (zc : Int32) (hE : own_E Z h0 a_SHARED a_EXCLUSIVE a_VALUES k_VALUES b_S t_S k_S b_X t_X k_X zc)  :
    own_Met l Z h0 [] ({ frames := 1, cells := 1, slots := 2, locals := 14 } : Room) (⟨"com/example/staleguard/staleguard/LockMode", "values", "()[Lcom/example/staleguard/staleguard/LockMode;"⟩ : MethodName) prog_15_method_1_code 0 (some (.array (.object "com/example/staleguard/staleguard/LockMode"))) #[] (fun v h L => ∃ b k, v = some (.ref b) ∧ Fr h0.size L ∧ Ext h0 h ∧ Arh Z h b k (.object "com/example/staleguard/staleguard/LockMode") (2 : Int32) [] [(.ref a_SHARED), (.ref a_EXCLUSIVE)] .null) := by
  refine own_body (plainFor_of_name own_pn_0) ?_
  intro p e s m below meth c T0 X0 hx hby hml hown hZ e0 hret hlk hnm hnamed
  replace hown : s.vm.findClass "com/example/staleguard/staleguard/LockMode" = some m.cls := hown
  replace hml : c.maxLocals = 0 := hml
  have ef : entryFrame m #[] 0 = mkF m 0 #[] [] := by first | (simp [entryFrame, mkF, argsToLocals, Value.category]; done) | rfl
  rw [ef]
  have S_VALUES := own_p_S_VALUES hE
  have E_a_VALUES := own_p_E_a_VALUES hE
  have V_a_VALUES := own_p_V_a_VALUES hE
  have E0 := own_ext_rf h0
  have Nf := Fr.nil h0.size
  obtain ⟨T1, X1, e1, st1⟩ := getS2 X0 hx hZ hown (host := "") (Or.inl (hw _ (List.mem_of_getElem? (i := 39) rfl))) Via.refl e0 S_VALUES (g := (mkF m 0 #[] [])) rfl (hb hby own_d_prog_15_method_1_code_0)
  refine own_st (T' := T1) (g' := (mkF m 3 #[] [(.ref a_VALUES)])) st1 ?_
  obtain ⟨T2, h2, X2, e2, E2, V2, Q2, st2⟩ := cloneH X1 hx hZ hown (hw _ (List.mem_of_getElem? (i := 41) rfl)) (hw _ (List.mem_of_getElem? (i := 42) rfl)) (hw _ (List.mem_of_getElem? (i := 46) rfl)) (hw _ (List.mem_of_getElem? (i := 44) rfl)) (hw _ (List.mem_of_getElem? (i := 45) rfl)) (hw _ (List.mem_of_getElem? (i := 47) rfl)) e1 V_a_VALUES E_a_VALUES (g := (mkF m 3 #[] [(.ref a_VALUES)])) rfl (by rw [hml]; rfl) rfl (hb hby own_d_prog_15_method_1_code_3) (by decide) (W := 0) (cap := 2) (by show 2 * 0 + _ ≤ _; exact Nat.le_of_eq rfl) (by decide) (by decide) (by decide) (by decide)
  obtain ⟨b2, gb_b2⟩ : ∃ z, z = h0.size := ⟨_, rfl⟩
  rw [← gb_b2] at V2 Q2 st2
  have g_b2 : h0.size ≤ b2 := Nat.le_trans E0.1 (Nat.le_of_eq gb_b2.symm)
  have V_a_VALUES := V_a_VALUES.ext E2
  have E_a_VALUES := E_a_VALUES.ext E2
  have E0 := own_ext_tr E0 E2
  have V_b2 := V2
  have E_b2 := Q2
  refine own_st (T' := T2) (g' := (mkF m 6 #[] [(.ref b2)])) st2 ?_
  obtain ⟨T3, X3, e3, st3⟩ := castY X2 hx hZ hown (hw _ (List.mem_of_getElem? (i := 50) rfl)) e2 (Ins.self E_b2) (g := (mkF m 6 #[] [(.ref b2)])) rfl rfl (hb hby own_d_prog_15_method_1_code_6)
  refine own_st (T' := T3) (g' := (mkF m 9 #[] [(.ref b2)])) st3 ?_
  exact own_ret X3 hx hlk hret rfl (Or.inr (Or.inr (Or.inr (Or.inr ⟨rfl, rfl, rfl⟩)))) (hb hby own_d_prog_15_method_1_code_9) (by decide) (by decide) (by rw [e3]; exact ⟨b2, k_VALUES, rfl, Nf, E0, V_b2⟩)
set_option maxRecDepth 65536 in
set_option maxHeartbeats 40000000 in
theorem own_of_S (l : Launch) (Z : State) (a0 : Array Value) (hw : ∀ d ∈ tables_1, d.before a0 Z = true) (h0 : Heap) (a_SHARED : Addr) (a_EXCLUSIVE : Addr) (a_VALUES : Addr) (k_VALUES : ClassId) (b_S : Addr) (t_S : Addr) (k_S : ClassId) (b_X : Addr) (t_X : Addr) (k_X : ClassId) (zc : Int32) (hE : own_E Z h0 a_SHARED a_EXCLUSIVE a_VALUES k_VALUES b_S t_S k_S b_X t_X k_X zc) (o to : Addr) (ko : ClassId) (E_o : Exa Z h0 o "java/lang/String") (F_value_o : Fld Z h0 o "java/lang/String" "value" "[B" (.ref to)) (F_coder_o : Fld Z h0 o "java/lang/String" "coder" "B" (.int (0 : Int32))) (K_o : Arv Z h0 to ko .byte (6 : Int32) ((own_csS.map fun c => c.toInt8.toInt32).map Value.int) (.int (0 : Int32))) :
    own_Met l Z h0 [] ({ frames := 2, cells := 1, slots := 2, locals := 28 } : Room) (⟨"com/example/staleguard/staleguard/LockMode", "of", "(Ljava/lang/String;)Lcom/example/staleguard/staleguard/LockMode;"⟩ : MethodName) prog_15_method_7_code 5 (some (.object "com/example/staleguard/staleguard/LockMode")) #[(.ref o)] (fun v h L => v = some (.ref a_SHARED) ∧ Fr h0.size L ∧ Ext h0 h) := by
  refine own_body (plainFor_of_name own_pn_0) ?_
  intro p e s m below meth c T0 X0 hx hby hml hown hZ e0 hret hlk hnm hnamed
  replace hown : s.vm.findClass "com/example/staleguard/staleguard/LockMode" = some m.cls := hown
  replace hml : c.maxLocals = 5 := hml
  have ef : entryFrame m #[(.ref o)] 5 = mkF m 0 #[.val (.ref o), .unset, .unset, .unset, .unset] [] := by first | (simp [entryFrame, mkF, argsToLocals, Value.category]; done) | rfl
  rw [ef]
  have F_text_a_SHARED := own_p_F_text_a_SHARED hE
  have F_text_a_EXCLUSIVE := own_p_F_text_a_EXCLUSIVE hE
  have S_CS := own_p_S_CS hE
  have hz := own_p_hz hE
  have E_b_S := own_p_E_b_S hE
  have F_value_b_S := own_p_F_value_b_S hE
  have F_coder_b_S := own_p_F_coder_b_S hE
  have K_b_S := own_p_K_b_S hE
  have E_b_X := own_p_E_b_X hE
  have F_value_b_X := own_p_F_value_b_X hE
  have F_coder_b_X := own_p_F_coder_b_X hE
  have K_b_X := own_p_K_b_X hE
  have E0 := own_ext_rf h0
  have Nf := Fr.nil h0.size
  obtain ⟨v1, T1, L1, X1, hQ1, st1⟩ := own_gS X0  hx hZ hown (hw _ (List.mem_of_getElem? (i := 36) rfl)) (hw _ (List.mem_of_getElem? (i := 37) rfl)) (hw _ (List.mem_of_getElem? (i := 1) rfl)) (hw _ (List.mem_of_getElem? (i := 38) rfl)) (by decide) e0 (own_values l Z a0 hw h0 a_SHARED a_EXCLUSIVE a_VALUES k_VALUES b_S t_S k_S b_X t_X k_X zc hE) (by decide) (by decide) (by decide) (by decide) (Q := (fun v h L => ∃ b k, v = some (.ref b) ∧ Fr h0.size L ∧ Ext h0 h ∧ Arh Z h b k (.object "com/example/staleguard/staleguard/LockMode") (2 : Int32) [] [(.ref a_SHARED), (.ref a_EXCLUSIVE)] .null)) (W := 0) (g := (mkF m 0 #[.val (.ref o), .unset, .unset, .unset, .unset] [])) (argsL := []) (rest := []) rfl (by rw [hml]; rfl) (lenOf own_pd_0 rfl) rfl (by show 2 * 0 + _ ≤ _; exact Nat.le_of_eq rfl) (hb hby own_d_prog_15_method_7_code_0)
  obtain ⟨b1, k1, rfl, NL1, EX1, VV1⟩ := hQ1
  have Nf := Fr.app Nf NL1
  have F_text_a_SHARED := F_text_a_SHARED.ext EX1
  have E_b_S := E_b_S.ext EX1
  have F_value_b_S := F_value_b_S.ext EX1
  have F_coder_b_S := F_coder_b_S.ext EX1
  have K_b_S := K_b_S.ext EX1
  have F_text_a_EXCLUSIVE := F_text_a_EXCLUSIVE.ext EX1
  have E_b_X := E_b_X.ext EX1
  have F_value_b_X := F_value_b_X.ext EX1
  have F_coder_b_X := F_coder_b_X.ext EX1
  have K_b_X := K_b_X.ext EX1
  have E_o := E_o.ext EX1
  have F_value_o := F_value_o.ext EX1
  have F_coder_o := F_coder_o.ext EX1
  have K_o := K_o.ext EX1
  have S_CS := S_CS.ext EX1
  have E0 := own_ext_tr E0 EX1
  have V_b1 := VV1
  refine own_st (T' := T1) (g' := (mkF m 3 #[.val (.ref o), .unset, .unset, .unset, .unset] [(.ref b1)])) st1 ?_
  refine own_st (T' := T1) (g' := (mkF m 4 #[.val (.ref o), .val (.ref b1), .unset, .unset, .unset] [])) (fun _ k => XS.astoreN X1.here hx rfl (hb hby own_d_prog_15_method_7_code_3) rfl rfl (l' := #[.val (.ref o), .val (.ref b1), .unset, .unset, .unset]) rfl k) ?_
  refine own_st (T' := T1) (g' := (mkF m 5 #[.val (.ref o), .val (.ref b1), .unset, .unset, .unset] [(.ref b1)])) (fun _ k => XS.aloadN X1.here hx rfl (hb hby own_d_prog_15_method_7_code_4) rfl rfl k) ?_
  have V2 := V_b1
  obtain ⟨cl2, Ar2, qk2, Sz2, Nn2, Hh2, Gg2⟩ := V2
  refine own_st (T' := T1) (g' := (mkF m 6 #[.val (.ref o), .val (.ref b1), .unset, .unset, .unset] [(.int cl2.slots.size.toInt32)])) (fun _ k => X1.arraylength hx (own_he rfl Ar2.1) (State.isArrayOf_alike hZ.alike Ar2.2.1) (g := (mkF m 5 #[.val (.ref o), .val (.ref b1), .unset, .unset, .unset] [(.ref b1)])) rfl rfl (hb hby own_d_prog_15_method_7_code_5) _ k) ?_
  rw [len_of Sz2 Nn2]
  refine own_st (T' := T1) (g' := (mkF m 7 #[.val (.ref o), .val (.ref b1), .val (.int (2 : Int32)), .unset, .unset] [])) (fun _ k => XS.istoreN X1.here hx rfl (hb hby own_d_prog_15_method_7_code_6) rfl (l' := #[.val (.ref o), .val (.ref b1), .val (.int (2 : Int32)), .unset, .unset]) rfl k) ?_
  refine own_st (T' := T1) (g' := (mkF m 8 #[.val (.ref o), .val (.ref b1), .val (.int (2 : Int32)), .unset, .unset] [(.int (0 : Int32))])) (fun _ k => XS.iconst X1.here hx rfl (hb hby own_d_prog_15_method_7_code_7) k) ?_
  refine own_st (T' := T1) (g' := (mkF m 9 #[.val (.ref o), .val (.ref b1), .val (.int (2 : Int32)), .val (.int (0 : Int32)), .unset] [])) (fun _ k => XS.istoreN X1.here hx rfl (hb hby own_d_prog_15_method_7_code_8) rfl (l' := #[.val (.ref o), .val (.ref b1), .val (.int (2 : Int32)), .val (.int (0 : Int32)), .unset]) rfl k) ?_
  refine own_st (T' := T1) (g' := (mkF m 10 #[.val (.ref o), .val (.ref b1), .val (.int (2 : Int32)), .val (.int (0 : Int32)), .unset] [(.int (0 : Int32))])) (fun _ k => XS.iloadN X1.here hx rfl (hb hby own_d_prog_15_method_7_code_9) rfl k) ?_
  refine own_st (T' := T1) (g' := (mkF m 11 #[.val (.ref o), .val (.ref b1), .val (.int (2 : Int32)), .val (.int (0 : Int32)), .unset] [(.int (2 : Int32)), (.int (0 : Int32))])) (fun _ k => XS.iloadN X1.here hx rfl (hb hby own_d_prog_15_method_7_code_10) rfl k) ?_
  refine own_st (T' := T1) (g' := (mkF m 14 #[.val (.ref o), .val (.ref b1), .val (.int (2 : Int32)), .val (.int (0 : Int32)), .unset] [])) (fun _ k => XS.icmpNo X1.here hx rfl (hb hby own_d_prog_15_method_7_code_11) rfl (by decide) k) ?_
  refine own_st (T' := T1) (g' := (mkF m 15 #[.val (.ref o), .val (.ref b1), .val (.int (2 : Int32)), .val (.int (0 : Int32)), .unset] [(.ref b1)])) (fun _ k => XS.aloadN X1.here hx rfl (hb hby own_d_prog_15_method_7_code_14) rfl rfl k) ?_
  refine own_st (T' := T1) (g' := (mkF m 16 #[.val (.ref o), .val (.ref b1), .val (.int (2 : Int32)), .val (.int (0 : Int32)), .unset] [(.int (0 : Int32)), (.ref b1)])) (fun _ k => XS.iloadN X1.here hx rfl (hb hby own_d_prog_15_method_7_code_15) rfl k) ?_
  have V3 := V_b1
  obtain ⟨cl3, Ar3, qk3, Sz3, Nn3, Hh3, Gg3⟩ := V3
  have hin4 : ¬ ((0 : Int32) < 0 ∨ cl3.slots.size ≤ ((0 : Int32)).toNatClampNeg) := inb_of Sz3 ⟨by decide, by decide⟩
  refine own_st (T' := T1) (g' := (mkF m 17 #[.val (.ref o), .val (.ref b1), .val (.int (2 : Int32)), .val (.int (0 : Int32)), .unset] [(.ref a_SHARED)])) (fun _ k => X1.aaload hx (j := (0 : Int32)) (v := (.ref a_SHARED)) (own_he rfl Ar3.1) (State.isArrayOf_alike hZ.alike Ar3.2.1) rfl Ar3.2.2 hin4 (atH Hh3 hin4 rfl) (g := (mkF m 16 #[.val (.ref o), .val (.ref b1), .val (.int (2 : Int32)), .val (.int (0 : Int32)), .unset] [(.int (0 : Int32)), (.ref b1)])) rfl rfl (hb hby own_d_prog_15_method_7_code_16) _ k) ?_
  refine own_st (T' := T1) (g' := (mkF m 19 #[.val (.ref o), .val (.ref b1), .val (.int (2 : Int32)), .val (.int (0 : Int32)), .val (.ref a_SHARED)] [])) (fun _ k => XS.astore X1.here hx rfl (hb hby own_d_prog_15_method_7_code_17) rfl rfl (l' := #[.val (.ref o), .val (.ref b1), .val (.int (2 : Int32)), .val (.int (0 : Int32)), .val (.ref a_SHARED)]) rfl k) ?_
  refine own_st (T' := T1) (g' := (mkF m 21 #[.val (.ref o), .val (.ref b1), .val (.int (2 : Int32)), .val (.int (0 : Int32)), .val (.ref a_SHARED)] [(.ref a_SHARED)])) (fun _ k => XS.aload X1.here hx rfl (hb hby own_d_prog_15_method_7_code_19) rfl rfl k) ?_
  obtain ⟨T5, X5, e5, st5⟩ := getF X1 hx hZ hown (host := "") (Or.inl (hw _ (List.mem_of_getElem? (i := 52) rfl))) Via.refl rfl F_text_a_SHARED (g := (mkF m 21 #[.val (.ref o), .val (.ref b1), .val (.int (2 : Int32)), .val (.int (0 : Int32)), .val (.ref a_SHARED)] [(.ref a_SHARED)])) rfl rfl (hb hby own_d_prog_15_method_7_code_21)
  refine own_st (T' := T5) (g' := (mkF m 24 #[.val (.ref o), .val (.ref b1), .val (.int (2 : Int32)), .val (.int (0 : Int32)), .val (.ref a_SHARED)] [(.ref b_S)])) st5 ?_
  refine own_st (T' := T5) (g' := (mkF m 25 #[.val (.ref o), .val (.ref b1), .val (.int (2 : Int32)), .val (.int (0 : Int32)), .val (.ref a_SHARED)] [(.ref o), (.ref b_S)])) (fun _ k => XS.aloadN X5.here hx rfl (hb hby own_d_prog_15_method_7_code_24) rfl rfl k) ?_
  obtain ⟨v6, T6, L6, X6, hQ6, st6⟩ := own_kV X5 hx hZ hown (hw _ (List.mem_of_getElem? (i := 54) rfl)) (hw _ (List.mem_of_getElem? (i := 55) rfl)) (notFace_of_selects (args := #[]) (mvT hZ (hw _ (List.mem_of_getElem? (i := 57) rfl)))) (hw _ (List.mem_of_getElem? (i := 57) rfl)) (hw _ (List.mem_of_getElem? (i := 56) rfl)) (by decide) e5 E_b_S (StrChars.Road.eqW (W := 0) hZ (own_heq hw) (kI := 4) (hw _ (List.mem_of_getElem? (i := 4) rfl)) E_b_S F_value_b_S F_coder_b_S K_b_S own_hcS own_hbS (by decide) E_o F_value_o F_coder_o K_o own_hcS own_hbS (by decide) S_CS hz (by decide) (by decide)) (by decide) (by decide) (kc := 0) (ks := 0) (Q := (fun v h L => ((v = some (.int 1) ∧ own_csS = own_csS) ∨ (v = some (.int 0) ∧ ¬ own_csS = own_csS)) ∧ L = [] ∧ h = T1.heap)) (g := (mkF m 25 #[.val (.ref o), .val (.ref b1), .val (.int (2 : Int32)), .val (.int (0 : Int32)), .val (.ref a_SHARED)] [(.ref o), (.ref b_S)])) (argsL := [(.ref o)]) (rest := []) rfl (by rw [hml]; rfl) (lenOf own_pd_1 rfl) rfl (by show 2 * 0 + _ ≤ _; exact Nat.le_of_eq rfl) (hb hby own_d_prog_15_method_7_code_25)
  obtain ⟨hq6, rfl, e6⟩ := hQ6
  rw [List.append_nil] at X6
  obtain rfl : v6 = some (.int (1 : Int32)) := hq6.elim (fun q => q.1) (fun q => absurd rfl q.2)
  refine own_st (T' := T6) (g' := (mkF m 28 #[.val (.ref o), .val (.ref b1), .val (.int (2 : Int32)), .val (.int (0 : Int32)), .val (.ref a_SHARED)] [(.int (1 : Int32))])) st6 ?_
  refine own_st (T' := T6) (g' := (mkF m 31 #[.val (.ref o), .val (.ref b1), .val (.int (2 : Int32)), .val (.int (0 : Int32)), .val (.ref a_SHARED)] [])) (fun _ k => XS.ifNo X6.here hx rfl (hb hby own_d_prog_15_method_7_code_28) rfl (by decide) k) ?_
  refine own_st (T' := T6) (g' := (mkF m 33 #[.val (.ref o), .val (.ref b1), .val (.int (2 : Int32)), .val (.int (0 : Int32)), .val (.ref a_SHARED)] [(.ref a_SHARED)])) (fun _ k => XS.aload X6.here hx rfl (hb hby own_d_prog_15_method_7_code_31) rfl rfl k) ?_
  exact own_ret X6 hx hlk hret rfl (Or.inr (Or.inr (Or.inr (Or.inr ⟨rfl, rfl, rfl⟩)))) (hb hby own_d_prog_15_method_7_code_33) (by decide) (by decide) (by rw [e6]; exact ⟨rfl, Nf, E0⟩)
set_option maxRecDepth 65536 in
set_option maxHeartbeats 40000000 in
theorem own_text_S (l : Launch) (Z : State) (a0 : Array Value) (hw : ∀ d ∈ tables_1, d.before a0 Z = true) (h0 : Heap) (a_SHARED : Addr) (a_EXCLUSIVE : Addr) (a_VALUES : Addr) (k_VALUES : ClassId) (b_S : Addr) (t_S : Addr) (k_S : ClassId) (b_X : Addr) (t_X : Addr) (k_X : ClassId) (zc : Int32) (hE : own_E Z h0 a_SHARED a_EXCLUSIVE a_VALUES k_VALUES b_S t_S k_S b_X t_X k_X zc)  :
    own_Met l Z h0 [] ({ frames := 0, cells := 0, slots := 0, locals := 0 } : Room) (⟨"com/example/staleguard/staleguard/LockMode", "text", "()Ljava/lang/String;"⟩ : MethodName) prog_15_method_6_code 1 (some (.object "java/lang/String")) #[(.ref a_SHARED)] (fun v h L => v = some (.ref b_S) ∧ L = [] ∧ h = h0) := by
  refine own_body (plainFor_of_name own_pn_0) ?_
  intro p e s m below meth c T0 X0 hx hby hml hown hZ e0 hret hlk hnm hnamed
  replace hown : s.vm.findClass "com/example/staleguard/staleguard/LockMode" = some m.cls := hown
  replace hml : c.maxLocals = 1 := hml
  have ef : entryFrame m #[(.ref a_SHARED)] 1 = mkF m 0 #[.val (.ref a_SHARED)] [] := by first | (simp [entryFrame, mkF, argsToLocals, Value.category]; done) | rfl
  rw [ef]
  have F_text_a_SHARED := own_p_F_text_a_SHARED hE
  have Nf := Fr.nil 0
  refine own_st (T' := T0) (g' := (mkF m 1 #[.val (.ref a_SHARED)] [(.ref a_SHARED)])) (fun _ k => XS.aloadN X0.here hx rfl (hb hby own_d_prog_15_method_6_code_0) rfl rfl k) ?_
  obtain ⟨T1, X1, e1, st1⟩ := getF X0 hx hZ hown (host := "") (Or.inl (hw _ (List.mem_of_getElem? (i := 52) rfl))) Via.refl e0 F_text_a_SHARED (g := (mkF m 1 #[.val (.ref a_SHARED)] [(.ref a_SHARED)])) rfl rfl (hb hby own_d_prog_15_method_6_code_1)
  refine own_st (T' := T1) (g' := (mkF m 4 #[.val (.ref a_SHARED)] [(.ref b_S)])) st1 ?_
  exact own_ret X1 hx hlk hret rfl (Or.inr (Or.inr (Or.inr (Or.inr ⟨rfl, rfl, rfl⟩)))) (hb hby own_d_prog_15_method_6_code_4) (by decide) (by decide) ⟨rfl, rfl, e1⟩
set_option maxRecDepth 65536 in
set_option maxHeartbeats 40000000 in
theorem own_of_X (l : Launch) (Z : State) (a0 : Array Value) (hw : ∀ d ∈ tables_1, d.before a0 Z = true) (h0 : Heap) (a_SHARED : Addr) (a_EXCLUSIVE : Addr) (a_VALUES : Addr) (k_VALUES : ClassId) (b_S : Addr) (t_S : Addr) (k_S : ClassId) (b_X : Addr) (t_X : Addr) (k_X : ClassId) (zc : Int32) (hE : own_E Z h0 a_SHARED a_EXCLUSIVE a_VALUES k_VALUES b_S t_S k_S b_X t_X k_X zc) (o to : Addr) (ko : ClassId) (E_o : Exa Z h0 o "java/lang/String") (F_value_o : Fld Z h0 o "java/lang/String" "value" "[B" (.ref to)) (F_coder_o : Fld Z h0 o "java/lang/String" "coder" "B" (.int (0 : Int32))) (K_o : Arv Z h0 to ko .byte (9 : Int32) ((own_csX.map fun c => c.toInt8.toInt32).map Value.int) (.int (0 : Int32))) :
    own_Met l Z h0 [] ({ frames := 2, cells := 1, slots := 2, locals := 28 } : Room) (⟨"com/example/staleguard/staleguard/LockMode", "of", "(Ljava/lang/String;)Lcom/example/staleguard/staleguard/LockMode;"⟩ : MethodName) prog_15_method_7_code 5 (some (.object "com/example/staleguard/staleguard/LockMode")) #[(.ref o)] (fun v h L => v = some (.ref a_EXCLUSIVE) ∧ Fr h0.size L ∧ Ext h0 h) := by
  refine own_body (plainFor_of_name own_pn_0) ?_
  intro p e s m below meth c T0 X0 hx hby hml hown hZ e0 hret hlk hnm hnamed
  replace hown : s.vm.findClass "com/example/staleguard/staleguard/LockMode" = some m.cls := hown
  replace hml : c.maxLocals = 5 := hml
  have ef : entryFrame m #[(.ref o)] 5 = mkF m 0 #[.val (.ref o), .unset, .unset, .unset, .unset] [] := by first | (simp [entryFrame, mkF, argsToLocals, Value.category]; done) | rfl
  rw [ef]
  have F_text_a_SHARED := own_p_F_text_a_SHARED hE
  have F_text_a_EXCLUSIVE := own_p_F_text_a_EXCLUSIVE hE
  have S_CS := own_p_S_CS hE
  have hz := own_p_hz hE
  have E_b_S := own_p_E_b_S hE
  have F_value_b_S := own_p_F_value_b_S hE
  have F_coder_b_S := own_p_F_coder_b_S hE
  have K_b_S := own_p_K_b_S hE
  have E_b_X := own_p_E_b_X hE
  have F_value_b_X := own_p_F_value_b_X hE
  have F_coder_b_X := own_p_F_coder_b_X hE
  have K_b_X := own_p_K_b_X hE
  have E0 := own_ext_rf h0
  have Nf := Fr.nil h0.size
  obtain ⟨v1, T1, L1, X1, hQ1, st1⟩ := own_gS X0  hx hZ hown (hw _ (List.mem_of_getElem? (i := 36) rfl)) (hw _ (List.mem_of_getElem? (i := 37) rfl)) (hw _ (List.mem_of_getElem? (i := 1) rfl)) (hw _ (List.mem_of_getElem? (i := 38) rfl)) (by decide) e0 (own_values l Z a0 hw h0 a_SHARED a_EXCLUSIVE a_VALUES k_VALUES b_S t_S k_S b_X t_X k_X zc hE) (by decide) (by decide) (by decide) (by decide) (Q := (fun v h L => ∃ b k, v = some (.ref b) ∧ Fr h0.size L ∧ Ext h0 h ∧ Arh Z h b k (.object "com/example/staleguard/staleguard/LockMode") (2 : Int32) [] [(.ref a_SHARED), (.ref a_EXCLUSIVE)] .null)) (W := 0) (g := (mkF m 0 #[.val (.ref o), .unset, .unset, .unset, .unset] [])) (argsL := []) (rest := []) rfl (by rw [hml]; rfl) (lenOf own_pd_0 rfl) rfl (by show 2 * 0 + _ ≤ _; exact Nat.le_of_eq rfl) (hb hby own_d_prog_15_method_7_code_0)
  obtain ⟨b1, k1, rfl, NL1, EX1, VV1⟩ := hQ1
  have Nf := Fr.app Nf NL1
  have F_text_a_SHARED := F_text_a_SHARED.ext EX1
  have E_b_S := E_b_S.ext EX1
  have F_value_b_S := F_value_b_S.ext EX1
  have F_coder_b_S := F_coder_b_S.ext EX1
  have K_b_S := K_b_S.ext EX1
  have F_text_a_EXCLUSIVE := F_text_a_EXCLUSIVE.ext EX1
  have E_b_X := E_b_X.ext EX1
  have F_value_b_X := F_value_b_X.ext EX1
  have F_coder_b_X := F_coder_b_X.ext EX1
  have K_b_X := K_b_X.ext EX1
  have E_o := E_o.ext EX1
  have F_value_o := F_value_o.ext EX1
  have F_coder_o := F_coder_o.ext EX1
  have K_o := K_o.ext EX1
  have S_CS := S_CS.ext EX1
  have E0 := own_ext_tr E0 EX1
  have V_b1 := VV1
  refine own_st (T' := T1) (g' := (mkF m 3 #[.val (.ref o), .unset, .unset, .unset, .unset] [(.ref b1)])) st1 ?_
  refine own_st (T' := T1) (g' := (mkF m 4 #[.val (.ref o), .val (.ref b1), .unset, .unset, .unset] [])) (fun _ k => XS.astoreN X1.here hx rfl (hb hby own_d_prog_15_method_7_code_3) rfl rfl (l' := #[.val (.ref o), .val (.ref b1), .unset, .unset, .unset]) rfl k) ?_
  refine own_st (T' := T1) (g' := (mkF m 5 #[.val (.ref o), .val (.ref b1), .unset, .unset, .unset] [(.ref b1)])) (fun _ k => XS.aloadN X1.here hx rfl (hb hby own_d_prog_15_method_7_code_4) rfl rfl k) ?_
  have V2 := V_b1
  obtain ⟨cl2, Ar2, qk2, Sz2, Nn2, Hh2, Gg2⟩ := V2
  refine own_st (T' := T1) (g' := (mkF m 6 #[.val (.ref o), .val (.ref b1), .unset, .unset, .unset] [(.int cl2.slots.size.toInt32)])) (fun _ k => X1.arraylength hx (own_he rfl Ar2.1) (State.isArrayOf_alike hZ.alike Ar2.2.1) (g := (mkF m 5 #[.val (.ref o), .val (.ref b1), .unset, .unset, .unset] [(.ref b1)])) rfl rfl (hb hby own_d_prog_15_method_7_code_5) _ k) ?_
  rw [len_of Sz2 Nn2]
  refine own_st (T' := T1) (g' := (mkF m 7 #[.val (.ref o), .val (.ref b1), .val (.int (2 : Int32)), .unset, .unset] [])) (fun _ k => XS.istoreN X1.here hx rfl (hb hby own_d_prog_15_method_7_code_6) rfl (l' := #[.val (.ref o), .val (.ref b1), .val (.int (2 : Int32)), .unset, .unset]) rfl k) ?_
  refine own_st (T' := T1) (g' := (mkF m 8 #[.val (.ref o), .val (.ref b1), .val (.int (2 : Int32)), .unset, .unset] [(.int (0 : Int32))])) (fun _ k => XS.iconst X1.here hx rfl (hb hby own_d_prog_15_method_7_code_7) k) ?_
  refine own_st (T' := T1) (g' := (mkF m 9 #[.val (.ref o), .val (.ref b1), .val (.int (2 : Int32)), .val (.int (0 : Int32)), .unset] [])) (fun _ k => XS.istoreN X1.here hx rfl (hb hby own_d_prog_15_method_7_code_8) rfl (l' := #[.val (.ref o), .val (.ref b1), .val (.int (2 : Int32)), .val (.int (0 : Int32)), .unset]) rfl k) ?_
  refine own_st (T' := T1) (g' := (mkF m 10 #[.val (.ref o), .val (.ref b1), .val (.int (2 : Int32)), .val (.int (0 : Int32)), .unset] [(.int (0 : Int32))])) (fun _ k => XS.iloadN X1.here hx rfl (hb hby own_d_prog_15_method_7_code_9) rfl k) ?_
  refine own_st (T' := T1) (g' := (mkF m 11 #[.val (.ref o), .val (.ref b1), .val (.int (2 : Int32)), .val (.int (0 : Int32)), .unset] [(.int (2 : Int32)), (.int (0 : Int32))])) (fun _ k => XS.iloadN X1.here hx rfl (hb hby own_d_prog_15_method_7_code_10) rfl k) ?_
  refine own_st (T' := T1) (g' := (mkF m 14 #[.val (.ref o), .val (.ref b1), .val (.int (2 : Int32)), .val (.int (0 : Int32)), .unset] [])) (fun _ k => XS.icmpNo X1.here hx rfl (hb hby own_d_prog_15_method_7_code_11) rfl (by decide) k) ?_
  refine own_st (T' := T1) (g' := (mkF m 15 #[.val (.ref o), .val (.ref b1), .val (.int (2 : Int32)), .val (.int (0 : Int32)), .unset] [(.ref b1)])) (fun _ k => XS.aloadN X1.here hx rfl (hb hby own_d_prog_15_method_7_code_14) rfl rfl k) ?_
  refine own_st (T' := T1) (g' := (mkF m 16 #[.val (.ref o), .val (.ref b1), .val (.int (2 : Int32)), .val (.int (0 : Int32)), .unset] [(.int (0 : Int32)), (.ref b1)])) (fun _ k => XS.iloadN X1.here hx rfl (hb hby own_d_prog_15_method_7_code_15) rfl k) ?_
  have V3 := V_b1
  obtain ⟨cl3, Ar3, qk3, Sz3, Nn3, Hh3, Gg3⟩ := V3
  have hin4 : ¬ ((0 : Int32) < 0 ∨ cl3.slots.size ≤ ((0 : Int32)).toNatClampNeg) := inb_of Sz3 ⟨by decide, by decide⟩
  refine own_st (T' := T1) (g' := (mkF m 17 #[.val (.ref o), .val (.ref b1), .val (.int (2 : Int32)), .val (.int (0 : Int32)), .unset] [(.ref a_SHARED)])) (fun _ k => X1.aaload hx (j := (0 : Int32)) (v := (.ref a_SHARED)) (own_he rfl Ar3.1) (State.isArrayOf_alike hZ.alike Ar3.2.1) rfl Ar3.2.2 hin4 (atH Hh3 hin4 rfl) (g := (mkF m 16 #[.val (.ref o), .val (.ref b1), .val (.int (2 : Int32)), .val (.int (0 : Int32)), .unset] [(.int (0 : Int32)), (.ref b1)])) rfl rfl (hb hby own_d_prog_15_method_7_code_16) _ k) ?_
  refine own_st (T' := T1) (g' := (mkF m 19 #[.val (.ref o), .val (.ref b1), .val (.int (2 : Int32)), .val (.int (0 : Int32)), .val (.ref a_SHARED)] [])) (fun _ k => XS.astore X1.here hx rfl (hb hby own_d_prog_15_method_7_code_17) rfl rfl (l' := #[.val (.ref o), .val (.ref b1), .val (.int (2 : Int32)), .val (.int (0 : Int32)), .val (.ref a_SHARED)]) rfl k) ?_
  refine own_st (T' := T1) (g' := (mkF m 21 #[.val (.ref o), .val (.ref b1), .val (.int (2 : Int32)), .val (.int (0 : Int32)), .val (.ref a_SHARED)] [(.ref a_SHARED)])) (fun _ k => XS.aload X1.here hx rfl (hb hby own_d_prog_15_method_7_code_19) rfl rfl k) ?_
  obtain ⟨T5, X5, e5, st5⟩ := getF X1 hx hZ hown (host := "") (Or.inl (hw _ (List.mem_of_getElem? (i := 52) rfl))) Via.refl rfl F_text_a_SHARED (g := (mkF m 21 #[.val (.ref o), .val (.ref b1), .val (.int (2 : Int32)), .val (.int (0 : Int32)), .val (.ref a_SHARED)] [(.ref a_SHARED)])) rfl rfl (hb hby own_d_prog_15_method_7_code_21)
  refine own_st (T' := T5) (g' := (mkF m 24 #[.val (.ref o), .val (.ref b1), .val (.int (2 : Int32)), .val (.int (0 : Int32)), .val (.ref a_SHARED)] [(.ref b_S)])) st5 ?_
  refine own_st (T' := T5) (g' := (mkF m 25 #[.val (.ref o), .val (.ref b1), .val (.int (2 : Int32)), .val (.int (0 : Int32)), .val (.ref a_SHARED)] [(.ref o), (.ref b_S)])) (fun _ k => XS.aloadN X5.here hx rfl (hb hby own_d_prog_15_method_7_code_24) rfl rfl k) ?_
  obtain ⟨v6, T6, L6, X6, hQ6, st6⟩ := own_kV X5 hx hZ hown (hw _ (List.mem_of_getElem? (i := 54) rfl)) (hw _ (List.mem_of_getElem? (i := 55) rfl)) (notFace_of_selects (args := #[]) (mvT hZ (hw _ (List.mem_of_getElem? (i := 57) rfl)))) (hw _ (List.mem_of_getElem? (i := 57) rfl)) (hw _ (List.mem_of_getElem? (i := 56) rfl)) (by decide) e5 E_b_S (StrChars.Road.eqW (W := 0) hZ (own_heq hw) (kI := 4) (hw _ (List.mem_of_getElem? (i := 4) rfl)) E_b_S F_value_b_S F_coder_b_S K_b_S own_hcS own_hbS (by decide) E_o F_value_o F_coder_o K_o own_hcX own_hbX (by decide) S_CS hz (by decide) (by decide)) (by decide) (by decide) (kc := 0) (ks := 0) (Q := (fun v h L => ((v = some (.int 1) ∧ own_csS = own_csX) ∨ (v = some (.int 0) ∧ ¬ own_csS = own_csX)) ∧ L = [] ∧ h = T1.heap)) (g := (mkF m 25 #[.val (.ref o), .val (.ref b1), .val (.int (2 : Int32)), .val (.int (0 : Int32)), .val (.ref a_SHARED)] [(.ref o), (.ref b_S)])) (argsL := [(.ref o)]) (rest := []) rfl (by rw [hml]; rfl) (lenOf own_pd_1 rfl) rfl (by show 2 * 0 + _ ≤ _; exact Nat.le_of_eq rfl) (hb hby own_d_prog_15_method_7_code_25)
  obtain ⟨hq6, rfl, e6⟩ := hQ6
  rw [List.append_nil] at X6
  obtain rfl : v6 = some (.int (0 : Int32)) := hq6.elim (fun q => absurd q.2 (by decide)) (fun q => q.1)
  refine own_st (T' := T6) (g' := (mkF m 28 #[.val (.ref o), .val (.ref b1), .val (.int (2 : Int32)), .val (.int (0 : Int32)), .val (.ref a_SHARED)] [(.int (0 : Int32))])) st6 ?_
  refine own_st (T' := T6) (g' := (mkF m 34 #[.val (.ref o), .val (.ref b1), .val (.int (2 : Int32)), .val (.int (0 : Int32)), .val (.ref a_SHARED)] [])) (fun _ k => XS.ifYes X6.here hx rfl (pc0 := 28) (pc' := 34) rfl (hb hby own_d_prog_15_method_7_code_28) rfl (by decide) (by decide) (by decide) k) ?_
  refine own_st (T' := T6) (g' := (mkF m 37 #[.val (.ref o), .val (.ref b1), .val (.int (2 : Int32)), .val (.int (1 : Int32)), .val (.ref a_SHARED)] [])) (fun _ k => XS.iinc X6.here hx rfl (hb hby own_d_prog_15_method_7_code_34) rfl (l' := #[.val (.ref o), .val (.ref b1), .val (.int (2 : Int32)), .val (.int (1 : Int32)), .val (.ref a_SHARED)]) rfl k) ?_
  refine own_st (T' := T6) (g' := (mkF m 9 #[.val (.ref o), .val (.ref b1), .val (.int (2 : Int32)), .val (.int (1 : Int32)), .val (.ref a_SHARED)] [])) (fun _ k => XS.goto X6.here hx rfl (pc0 := 37) (pc' := 9) rfl (hb hby own_d_prog_15_method_7_code_37) (by decide) (by decide) k) ?_
  refine own_st (T' := T6) (g' := (mkF m 10 #[.val (.ref o), .val (.ref b1), .val (.int (2 : Int32)), .val (.int (1 : Int32)), .val (.ref a_SHARED)] [(.int (1 : Int32))])) (fun _ k => XS.iloadN X6.here hx rfl (hb hby own_d_prog_15_method_7_code_9) rfl k) ?_
  refine own_st (T' := T6) (g' := (mkF m 11 #[.val (.ref o), .val (.ref b1), .val (.int (2 : Int32)), .val (.int (1 : Int32)), .val (.ref a_SHARED)] [(.int (2 : Int32)), (.int (1 : Int32))])) (fun _ k => XS.iloadN X6.here hx rfl (hb hby own_d_prog_15_method_7_code_10) rfl k) ?_
  refine own_st (T' := T6) (g' := (mkF m 14 #[.val (.ref o), .val (.ref b1), .val (.int (2 : Int32)), .val (.int (1 : Int32)), .val (.ref a_SHARED)] [])) (fun _ k => XS.icmpNo X6.here hx rfl (hb hby own_d_prog_15_method_7_code_11) rfl (by decide) k) ?_
  refine own_st (T' := T6) (g' := (mkF m 15 #[.val (.ref o), .val (.ref b1), .val (.int (2 : Int32)), .val (.int (1 : Int32)), .val (.ref a_SHARED)] [(.ref b1)])) (fun _ k => XS.aloadN X6.here hx rfl (hb hby own_d_prog_15_method_7_code_14) rfl rfl k) ?_
  refine own_st (T' := T6) (g' := (mkF m 16 #[.val (.ref o), .val (.ref b1), .val (.int (2 : Int32)), .val (.int (1 : Int32)), .val (.ref a_SHARED)] [(.int (1 : Int32)), (.ref b1)])) (fun _ k => XS.iloadN X6.here hx rfl (hb hby own_d_prog_15_method_7_code_15) rfl k) ?_
  have V7 := V_b1
  obtain ⟨cl7, Ar7, qk7, Sz7, Nn7, Hh7, Gg7⟩ := V7
  have hin8 : ¬ ((1 : Int32) < 0 ∨ cl7.slots.size ≤ ((1 : Int32)).toNatClampNeg) := inb_of Sz7 ⟨by decide, by decide⟩
  refine own_st (T' := T6) (g' := (mkF m 17 #[.val (.ref o), .val (.ref b1), .val (.int (2 : Int32)), .val (.int (1 : Int32)), .val (.ref a_SHARED)] [(.ref a_EXCLUSIVE)])) (fun _ k => X6.aaload hx (j := (1 : Int32)) (v := (.ref a_EXCLUSIVE)) (own_he e6 Ar7.1) (State.isArrayOf_alike hZ.alike Ar7.2.1) rfl Ar7.2.2 hin8 (atH Hh7 hin8 rfl) (g := (mkF m 16 #[.val (.ref o), .val (.ref b1), .val (.int (2 : Int32)), .val (.int (1 : Int32)), .val (.ref a_SHARED)] [(.int (1 : Int32)), (.ref b1)])) rfl rfl (hb hby own_d_prog_15_method_7_code_16) _ k) ?_
  refine own_st (T' := T6) (g' := (mkF m 19 #[.val (.ref o), .val (.ref b1), .val (.int (2 : Int32)), .val (.int (1 : Int32)), .val (.ref a_EXCLUSIVE)] [])) (fun _ k => XS.astore X6.here hx rfl (hb hby own_d_prog_15_method_7_code_17) rfl rfl (l' := #[.val (.ref o), .val (.ref b1), .val (.int (2 : Int32)), .val (.int (1 : Int32)), .val (.ref a_EXCLUSIVE)]) rfl k) ?_
  refine own_st (T' := T6) (g' := (mkF m 21 #[.val (.ref o), .val (.ref b1), .val (.int (2 : Int32)), .val (.int (1 : Int32)), .val (.ref a_EXCLUSIVE)] [(.ref a_EXCLUSIVE)])) (fun _ k => XS.aload X6.here hx rfl (hb hby own_d_prog_15_method_7_code_19) rfl rfl k) ?_
  obtain ⟨T9, X9, e9, st9⟩ := getF X6 hx hZ hown (host := "") (Or.inl (hw _ (List.mem_of_getElem? (i := 52) rfl))) Via.refl e6 F_text_a_EXCLUSIVE (g := (mkF m 21 #[.val (.ref o), .val (.ref b1), .val (.int (2 : Int32)), .val (.int (1 : Int32)), .val (.ref a_EXCLUSIVE)] [(.ref a_EXCLUSIVE)])) rfl rfl (hb hby own_d_prog_15_method_7_code_21)
  refine own_st (T' := T9) (g' := (mkF m 24 #[.val (.ref o), .val (.ref b1), .val (.int (2 : Int32)), .val (.int (1 : Int32)), .val (.ref a_EXCLUSIVE)] [(.ref b_X)])) st9 ?_
  refine own_st (T' := T9) (g' := (mkF m 25 #[.val (.ref o), .val (.ref b1), .val (.int (2 : Int32)), .val (.int (1 : Int32)), .val (.ref a_EXCLUSIVE)] [(.ref o), (.ref b_X)])) (fun _ k => XS.aloadN X9.here hx rfl (hb hby own_d_prog_15_method_7_code_24) rfl rfl k) ?_
  obtain ⟨v10, T10, L10, X10, hQ10, st10⟩ := own_kV X9 hx hZ hown (hw _ (List.mem_of_getElem? (i := 54) rfl)) (hw _ (List.mem_of_getElem? (i := 55) rfl)) (notFace_of_selects (args := #[]) (mvT hZ (hw _ (List.mem_of_getElem? (i := 57) rfl)))) (hw _ (List.mem_of_getElem? (i := 57) rfl)) (hw _ (List.mem_of_getElem? (i := 56) rfl)) (by decide) e9 E_b_X (StrChars.Road.eqW (W := 0) hZ (own_heq hw) (kI := 4) (hw _ (List.mem_of_getElem? (i := 4) rfl)) E_b_X F_value_b_X F_coder_b_X K_b_X own_hcX own_hbX (by decide) E_o F_value_o F_coder_o K_o own_hcX own_hbX (by decide) S_CS hz (by decide) (by decide)) (by decide) (by decide) (kc := 0) (ks := 0) (Q := (fun v h L => ((v = some (.int 1) ∧ own_csX = own_csX) ∨ (v = some (.int 0) ∧ ¬ own_csX = own_csX)) ∧ L = [] ∧ h = T1.heap)) (g := (mkF m 25 #[.val (.ref o), .val (.ref b1), .val (.int (2 : Int32)), .val (.int (1 : Int32)), .val (.ref a_EXCLUSIVE)] [(.ref o), (.ref b_X)])) (argsL := [(.ref o)]) (rest := []) rfl (by rw [hml]; rfl) (lenOf own_pd_1 rfl) rfl (by show 2 * 0 + _ ≤ _; exact Nat.le_of_eq rfl) (hb hby own_d_prog_15_method_7_code_25)
  obtain ⟨hq10, rfl, e10⟩ := hQ10
  rw [List.append_nil] at X10
  obtain rfl : v10 = some (.int (1 : Int32)) := hq10.elim (fun q => q.1) (fun q => absurd rfl q.2)
  refine own_st (T' := T10) (g' := (mkF m 28 #[.val (.ref o), .val (.ref b1), .val (.int (2 : Int32)), .val (.int (1 : Int32)), .val (.ref a_EXCLUSIVE)] [(.int (1 : Int32))])) st10 ?_
  refine own_st (T' := T10) (g' := (mkF m 31 #[.val (.ref o), .val (.ref b1), .val (.int (2 : Int32)), .val (.int (1 : Int32)), .val (.ref a_EXCLUSIVE)] [])) (fun _ k => XS.ifNo X10.here hx rfl (hb hby own_d_prog_15_method_7_code_28) rfl (by decide) k) ?_
  refine own_st (T' := T10) (g' := (mkF m 33 #[.val (.ref o), .val (.ref b1), .val (.int (2 : Int32)), .val (.int (1 : Int32)), .val (.ref a_EXCLUSIVE)] [(.ref a_EXCLUSIVE)])) (fun _ k => XS.aload X10.here hx rfl (hb hby own_d_prog_15_method_7_code_31) rfl rfl k) ?_
  exact own_ret X10 hx hlk hret rfl (Or.inr (Or.inr (Or.inr (Or.inr ⟨rfl, rfl, rfl⟩)))) (hb hby own_d_prog_15_method_7_code_33) (by decide) (by decide) (by rw [e10]; exact ⟨rfl, Nf, E0⟩)
set_option maxRecDepth 65536 in
set_option maxHeartbeats 40000000 in
theorem own_text_X (l : Launch) (Z : State) (a0 : Array Value) (hw : ∀ d ∈ tables_1, d.before a0 Z = true) (h0 : Heap) (a_SHARED : Addr) (a_EXCLUSIVE : Addr) (a_VALUES : Addr) (k_VALUES : ClassId) (b_S : Addr) (t_S : Addr) (k_S : ClassId) (b_X : Addr) (t_X : Addr) (k_X : ClassId) (zc : Int32) (hE : own_E Z h0 a_SHARED a_EXCLUSIVE a_VALUES k_VALUES b_S t_S k_S b_X t_X k_X zc)  :
    own_Met l Z h0 [] ({ frames := 0, cells := 0, slots := 0, locals := 0 } : Room) (⟨"com/example/staleguard/staleguard/LockMode", "text", "()Ljava/lang/String;"⟩ : MethodName) prog_15_method_6_code 1 (some (.object "java/lang/String")) #[(.ref a_EXCLUSIVE)] (fun v h L => v = some (.ref b_X) ∧ L = [] ∧ h = h0) := by
  refine own_body (plainFor_of_name own_pn_0) ?_
  intro p e s m below meth c T0 X0 hx hby hml hown hZ e0 hret hlk hnm hnamed
  replace hown : s.vm.findClass "com/example/staleguard/staleguard/LockMode" = some m.cls := hown
  replace hml : c.maxLocals = 1 := hml
  have ef : entryFrame m #[(.ref a_EXCLUSIVE)] 1 = mkF m 0 #[.val (.ref a_EXCLUSIVE)] [] := by first | (simp [entryFrame, mkF, argsToLocals, Value.category]; done) | rfl
  rw [ef]
  have F_text_a_EXCLUSIVE := own_p_F_text_a_EXCLUSIVE hE
  have Nf := Fr.nil 0
  refine own_st (T' := T0) (g' := (mkF m 1 #[.val (.ref a_EXCLUSIVE)] [(.ref a_EXCLUSIVE)])) (fun _ k => XS.aloadN X0.here hx rfl (hb hby own_d_prog_15_method_6_code_0) rfl rfl k) ?_
  obtain ⟨T1, X1, e1, st1⟩ := getF X0 hx hZ hown (host := "") (Or.inl (hw _ (List.mem_of_getElem? (i := 52) rfl))) Via.refl e0 F_text_a_EXCLUSIVE (g := (mkF m 1 #[.val (.ref a_EXCLUSIVE)] [(.ref a_EXCLUSIVE)])) rfl rfl (hb hby own_d_prog_15_method_6_code_1)
  refine own_st (T' := T1) (g' := (mkF m 4 #[.val (.ref a_EXCLUSIVE)] [(.ref b_X)])) st1 ?_
  exact own_ret X1 hx hlk hret rfl (Or.inr (Or.inr (Or.inr (Or.inr ⟨rfl, rfl, rfl⟩)))) (hb hby own_d_prog_15_method_6_code_4) (by decide) (by decide) ⟨rfl, rfl, e1⟩
set_option maxRecDepth 65536 in
set_option maxHeartbeats 40000000 in
theorem own_lawP (l : Launch) (Z : State) (a0 : Array Value) (hw : ∀ d ∈ tables_1, d.before a0 Z = true) (h0 : Heap) (a_SHARED : Addr) (a_EXCLUSIVE : Addr) (a_VALUES : Addr) (k_VALUES : ClassId) (b_S : Addr) (t_S : Addr) (k_S : ClassId) (b_X : Addr) (t_X : Addr) (k_X : ClassId) (zc : Int32) (hE : own_E Z h0 a_SHARED a_EXCLUSIVE a_VALUES k_VALUES b_S t_S k_S b_X t_X k_X zc) (i : Int32)  :
    own_Met l Z h0 tables_1 room_1 x code maxLocals ret #[(.int i)] (fun v h L => v = some (.int (1 : Int32)) ∧ Fr h0.size L) := by
  refine own_body (plainFor_of_name own_pn_1) ?_
  intro p e s m below meth c T0 X0 hx hby hml hown hZ e0 hret hlk hnm hnamed
  replace hown : s.vm.findClass "com/example/staleguard/staleguard/LockModeOfPinLaw" = some m.cls := hown
  replace hml : c.maxLocals = 5 := hml
  have ef : entryFrame m #[(.int i)] maxLocals = mkF m 0 #[.val (.int i), .unset, .unset, .unset, .unset] [] := by first | (simp [entryFrame, mkF, argsToLocals, Value.category, maxLocals]; done) | rfl
  rw [ef]
  have S_SHARED := own_p_S_SHARED hE
  have S_EXCLUSIVE := own_p_S_EXCLUSIVE hE
  have hE0 := hE
  have E0 := own_ext_rf h0
  have Nf := Fr.nil h0.size
  refine own_st (T' := T0) (g' := (mkF m 1 #[.val (.int i), .unset, .unset, .unset, .unset] [(.int i)])) (fun _ k => XS.iloadN X0.here hx rfl (hb hby at_0) rfl k) ?_
  refine own_st (T' := T0) (g' := (mkF m 2 #[.val (.int i), .unset, .unset, .unset, .unset] [(.int (1 : Int32)), (.int i)])) (fun _ k => XS.iconst X0.here hx rfl (hb hby at_1) k) ?_
  refine own_st (T' := T0) (g' := (mkF m 3 #[.val (.int i), .unset, .unset, .unset, .unset] [(.int (i &&& (1 : Int32)))])) (fun _ k => XS.iand X0.here hx rfl (hb hby at_2) rfl k) ?_
  by_cases hc3_1 : (i &&& (1 : Int32)) = (0 : Int32)
  ·
    refine own_st (T' := T0) (g' := (mkF m 10 #[.val (.int i), .unset, .unset, .unset, .unset] [])) (fun _ k => XS.ifYes X0.here hx rfl (pc0 := 3) (pc' := 10) rfl (hb hby at_3) rfl ((if0 _ _).trans (teq hc3_1).1) (by decide) (by decide) k) ?_
    refine own_st (T' := T0) (g' := (mkF m 11 #[.val (.int i), .unset, .unset, .unset, .unset] [(.int (0 : Int32))])) (fun _ k => XS.iconst X0.here hx rfl (hb hby at_10) k) ?_
    refine own_st (T' := T0) (g' := (mkF m 12 #[.val (.int i), .val (.int (0 : Int32)), .unset, .unset, .unset] [])) (fun _ k => XS.istoreN X0.here hx rfl (hb hby at_11) rfl (l' := #[.val (.int i), .val (.int (0 : Int32)), .unset, .unset, .unset]) rfl k) ?_
    refine own_st (T' := T0) (g' := (mkF m 13 #[.val (.int i), .val (.int (0 : Int32)), .unset, .unset, .unset] [(.int (0 : Int32))])) (fun _ k => XS.iloadN X0.here hx rfl (hb hby at_12) rfl k) ?_
    refine own_st (T' := T0) (g' := (mkF m 22 #[.val (.int i), .val (.int (0 : Int32)), .unset, .unset, .unset] [])) (fun _ k => XS.ifYes X0.here hx rfl (pc0 := 13) (pc' := 22) rfl (hb hby at_13) rfl (by decide) (by decide) (by decide) k) ?_
    obtain ⟨T2, X2, e2, st2⟩ := getS2 X0 hx hZ hown (host := "") (Or.inl (hw _ (List.mem_of_getElem? (i := 0) rfl))) Via.refl e0 S_SHARED (g := (mkF m 22 #[.val (.int i), .val (.int (0 : Int32)), .unset, .unset, .unset] [])) rfl (hb hby at_22)
    refine own_st (T' := T2) (g' := (mkF m 25 #[.val (.int i), .val (.int (0 : Int32)), .unset, .unset, .unset] [(.ref a_SHARED)])) st2 ?_
    refine own_st (T' := T2) (g' := (mkF m 26 #[.val (.int i), .val (.int (0 : Int32)), .val (.ref a_SHARED), .unset, .unset] [])) (fun _ k => XS.astoreN X2.here hx rfl (hb hby at_25) rfl rfl (l' := #[.val (.int i), .val (.int (0 : Int32)), .val (.ref a_SHARED), .unset, .unset]) rfl k) ?_
    refine own_st (T' := T2) (g' := (mkF m 27 #[.val (.int i), .val (.int (0 : Int32)), .val (.ref a_SHARED), .unset, .unset] [(.int (0 : Int32))])) (fun _ k => XS.iloadN X2.here hx rfl (hb hby at_26) rfl k) ?_
    refine own_st (T' := T2) (g' := (mkF m 93 #[.val (.int i), .val (.int (0 : Int32)), .val (.ref a_SHARED), .unset, .unset] [])) (fun _ k => XS.ifYes X2.here hx rfl (pc0 := 27) (pc' := 93) rfl (hb hby at_27) rfl (by decide) (by decide) (by decide) k) ?_
    obtain ⟨T3, h3, X3, e3, E3, A3, D3, -, st3⟩ := newO X2 hx hZ hown (hw _ (List.mem_of_getElem? (i := 3) rfl)) (hw _ (List.mem_of_getElem? (i := 4) rfl)) (hw _ (List.mem_of_getElem? (i := 5) rfl)) e2 (g := (mkF m 93 #[.val (.int i), .val (.int (0 : Int32)), .val (.ref a_SHARED), .unset, .unset] [])) rfl (hb hby at_93) (by decide) (by decide)
    obtain ⟨b3, gb_b3⟩ : ∃ z, z = h0.size := ⟨_, rfl⟩
    rw [← gb_b3] at A3 D3 st3
    have g_b3 : h0.size ≤ b3 := Nat.le_trans E0.1 (Nat.le_of_eq gb_b3.symm)
    have E0 := own_ext_tr E0 E3
    have E_b3 := A3
    have F_coder_b3 : Fld Z h3 b3 "java/lang/String" "coder" "B" (.int (0 : Int32)) := D3 (Or.inr (hw _ (List.mem_of_getElem? (i := 30) rfl))) (ty := .byte) (by decide)
    have F_value_b3 : Fld Z h3 b3 "java/lang/String" "value" "[B" .null := D3 (Or.inr (hw _ (List.mem_of_getElem? (i := 32) rfl))) (ty := (.array .byte)) (by decide)
    refine own_st (T' := T3) (g' := (mkF m 96 #[.val (.int i), .val (.int (0 : Int32)), .val (.ref a_SHARED), .unset, .unset] [(.ref b3)])) st3 ?_
    refine own_st (T' := T3) (g' := (mkF m 97 #[.val (.int i), .val (.int (0 : Int32)), .val (.ref a_SHARED), .unset, .unset] [(.ref b3), (.ref b3)])) (fun _ k => XS.dup X3.here hx rfl (hb hby at_96) rfl rfl k) ?_
    refine own_st (T' := T3) (g' := (mkF m 99 #[.val (.int i), .val (.int (0 : Int32)), .val (.ref a_SHARED), .unset, .unset] [(.int (6 : Int32)), (.ref b3), (.ref b3)])) (fun _ k => XS.bipush X3.here hx rfl (hb hby at_97) k) ?_
    obtain ⟨T4, h4, k4, X4, e4, E4, A4, Q4, st4⟩ := newPE X3 hx hZ (hw _ (List.mem_of_getElem? (i := 6) rfl)) e3 (g := (mkF m 99 #[.val (.int i), .val (.int (0 : Int32)), .val (.ref a_SHARED), .unset, .unset] [(.int (6 : Int32)), (.ref b3), (.ref b3)])) rfl (hb hby at_99) rfl (by decide) (cap := 6) (by decide) (by decide) (by decide) (by decide) (ad := "[C") rfl
    obtain ⟨b4, gb_b4⟩ : ∃ z, z = h3.size := ⟨_, rfl⟩
    rw [← gb_b4] at A4 Q4 st4
    have ne_b3_b4 : b3 ≠ b4 := Nat.ne_of_lt (Nat.lt_of_lt_of_le E_b3.lt (Nat.le_of_eq gb_b4.symm))
    have g_b4 : h0.size ≤ b4 := Nat.le_trans E0.1 (Nat.le_of_eq gb_b4.symm)
    have E_b3 := E_b3.ext E4
    have F_coder_b3 := F_coder_b3.ext E4
    have F_value_b3 := F_value_b3.ext E4
    have E0 := own_ext_tr E0 E4
    have V_b4 : Arh Z h4 b4 k4 .char (6 : Int32) [] [] (.int (0 : Int32)) := Arv.arh (Arv.new A4 (by decide))
    have E_b4 := Q4
    refine own_st (T' := T4) (g' := (mkF m 101 #[.val (.int i), .val (.int (0 : Int32)), .val (.ref a_SHARED), .unset, .unset] [(.ref b4), (.ref b3), (.ref b3)])) st4 ?_
    have V_b4 : Arv Z h4 b4 k4 .char (6 : Int32) [(.int (0 : Int32)), (.int (0 : Int32)), (.int (0 : Int32)), (.int (0 : Int32)), (.int (0 : Int32)), (.int (0 : Int32))] (.int (0 : Int32)) := Arv.pad (show Arv Z h4 b4 k4 .char (6 : Int32) [] (.int (0 : Int32)) from V_b4) (pad_rep [] (.int (0 : Int32)) 6)
    refine own_st (T' := T4) (g' := (mkF m 102 #[.val (.int i), .val (.int (0 : Int32)), .val (.ref a_SHARED), .unset, .unset] [(.ref b4), (.ref b4), (.ref b3), (.ref b3)])) (fun _ k => XS.dup X4.here hx rfl (hb hby at_101) rfl rfl k) ?_
    refine own_st (T' := T4) (g' := (mkF m 103 #[.val (.int i), .val (.int (0 : Int32)), .val (.ref a_SHARED), .unset, .unset] [(.int (0 : Int32)), (.ref b4), (.ref b4), (.ref b3), (.ref b3)])) (fun _ k => XS.iconst X4.here hx rfl (hb hby at_102) k) ?_
    refine own_st (T' := T4) (g' := (mkF m 105 #[.val (.int i), .val (.int (0 : Int32)), .val (.ref a_SHARED), .unset, .unset] [(.int (115 : Int32)), (.int (0 : Int32)), (.ref b4), (.ref b4), (.ref b3), (.ref b3)])) (fun _ k => XS.bipush X4.here hx rfl (hb hby at_103) k) ?_
    have V5 := V_b4
    obtain ⟨cl5, Ar5, qk5, Sz5, Nn5, Hh5, Gg5⟩ := V5
    obtain ⟨T6, h6, X6, e6, W6, st6⟩ := stC X4 hx hZ e4 Ar5 (j := (0 : Int32)) (inb_of Sz5 ⟨by decide, by decide⟩) (g := (mkF m 105 #[.val (.int i), .val (.int (0 : Int32)), .val (.ref a_SHARED), .unset, .unset] [(.int (115 : Int32)), (.int (0 : Int32)), (.ref b4), (.ref b4), (.ref b3), (.ref b3)])) rfl rfl (hb hby at_105)
    have E_b3 := E_b3.wr W6
    have F_coder_b3 := F_coder_b3.other W6 (Or.inl ne_b3_b4)
    have F_value_b3 := F_value_b3.other W6 (Or.inl ne_b3_b4)
    have E_b4 := E_b4.wr W6
    have E0 := own_ext_wr E0 W6 g_b4
    have V_b4 : Arv Z h6 b4 k4 .char (6 : Int32) [(.int (115 : Int32)), (.int (0 : Int32)), (.int (0 : Int32)), (.int (0 : Int32)), (.int (0 : Int32)), (.int (0 : Int32))] (.int (0 : Int32)) := Arv.set Ar5 qk5 Sz5 Nn5 Hh5 Gg5 rfl W6 0 rfl (Nat.le_of_ble_eq_true rfl)
    have Nf := Fr.snoc X6 Nf g_b4
    refine own_st (T' := T6) (g' := (mkF m 106 #[.val (.int i), .val (.int (0 : Int32)), .val (.ref a_SHARED), .unset, .unset] [(.ref b4), (.ref b3), (.ref b3)])) st6 ?_
    refine own_st (T' := T6) (g' := (mkF m 107 #[.val (.int i), .val (.int (0 : Int32)), .val (.ref a_SHARED), .unset, .unset] [(.ref b4), (.ref b4), (.ref b3), (.ref b3)])) (fun _ k => XS.dup X6.here hx rfl (hb hby at_106) rfl rfl k) ?_
    refine own_st (T' := T6) (g' := (mkF m 108 #[.val (.int i), .val (.int (0 : Int32)), .val (.ref a_SHARED), .unset, .unset] [(.int (1 : Int32)), (.ref b4), (.ref b4), (.ref b3), (.ref b3)])) (fun _ k => XS.iconst X6.here hx rfl (hb hby at_107) k) ?_
    refine own_st (T' := T6) (g' := (mkF m 110 #[.val (.int i), .val (.int (0 : Int32)), .val (.ref a_SHARED), .unset, .unset] [(.int (104 : Int32)), (.int (1 : Int32)), (.ref b4), (.ref b4), (.ref b3), (.ref b3)])) (fun _ k => XS.bipush X6.here hx rfl (hb hby at_108) k) ?_
    have V7 := V_b4
    obtain ⟨cl7, Ar7, qk7, Sz7, Nn7, Hh7, Gg7⟩ := V7
    obtain ⟨T8, h8, X8, e8, W8, st8⟩ := stC X6 hx hZ e6 Ar7 (j := (1 : Int32)) (inb_of Sz7 ⟨by decide, by decide⟩) (g := (mkF m 110 #[.val (.int i), .val (.int (0 : Int32)), .val (.ref a_SHARED), .unset, .unset] [(.int (104 : Int32)), (.int (1 : Int32)), (.ref b4), (.ref b4), (.ref b3), (.ref b3)])) rfl rfl (hb hby at_110)
    have E_b3 := E_b3.wr W8
    have F_coder_b3 := F_coder_b3.other W8 (Or.inl ne_b3_b4)
    have F_value_b3 := F_value_b3.other W8 (Or.inl ne_b3_b4)
    have E_b4 := E_b4.wr W8
    have E0 := own_ext_wr E0 W8 g_b4
    have V_b4 : Arv Z h8 b4 k4 .char (6 : Int32) [(.int (115 : Int32)), (.int (104 : Int32)), (.int (0 : Int32)), (.int (0 : Int32)), (.int (0 : Int32)), (.int (0 : Int32))] (.int (0 : Int32)) := Arv.set Ar7 qk7 Sz7 Nn7 Hh7 Gg7 rfl W8 1 rfl (Nat.le_of_ble_eq_true rfl)
    have Nf := Fr.snoc X8 Nf g_b4
    refine own_st (T' := T8) (g' := (mkF m 111 #[.val (.int i), .val (.int (0 : Int32)), .val (.ref a_SHARED), .unset, .unset] [(.ref b4), (.ref b3), (.ref b3)])) st8 ?_
    refine own_st (T' := T8) (g' := (mkF m 112 #[.val (.int i), .val (.int (0 : Int32)), .val (.ref a_SHARED), .unset, .unset] [(.ref b4), (.ref b4), (.ref b3), (.ref b3)])) (fun _ k => XS.dup X8.here hx rfl (hb hby at_111) rfl rfl k) ?_
    refine own_st (T' := T8) (g' := (mkF m 113 #[.val (.int i), .val (.int (0 : Int32)), .val (.ref a_SHARED), .unset, .unset] [(.int (2 : Int32)), (.ref b4), (.ref b4), (.ref b3), (.ref b3)])) (fun _ k => XS.iconst X8.here hx rfl (hb hby at_112) k) ?_
    refine own_st (T' := T8) (g' := (mkF m 115 #[.val (.int i), .val (.int (0 : Int32)), .val (.ref a_SHARED), .unset, .unset] [(.int (97 : Int32)), (.int (2 : Int32)), (.ref b4), (.ref b4), (.ref b3), (.ref b3)])) (fun _ k => XS.bipush X8.here hx rfl (hb hby at_113) k) ?_
    have V9 := V_b4
    obtain ⟨cl9, Ar9, qk9, Sz9, Nn9, Hh9, Gg9⟩ := V9
    obtain ⟨T10, h10, X10, e10, W10, st10⟩ := stC X8 hx hZ e8 Ar9 (j := (2 : Int32)) (inb_of Sz9 ⟨by decide, by decide⟩) (g := (mkF m 115 #[.val (.int i), .val (.int (0 : Int32)), .val (.ref a_SHARED), .unset, .unset] [(.int (97 : Int32)), (.int (2 : Int32)), (.ref b4), (.ref b4), (.ref b3), (.ref b3)])) rfl rfl (hb hby at_115)
    have E_b3 := E_b3.wr W10
    have F_coder_b3 := F_coder_b3.other W10 (Or.inl ne_b3_b4)
    have F_value_b3 := F_value_b3.other W10 (Or.inl ne_b3_b4)
    have E_b4 := E_b4.wr W10
    have E0 := own_ext_wr E0 W10 g_b4
    have V_b4 : Arv Z h10 b4 k4 .char (6 : Int32) [(.int (115 : Int32)), (.int (104 : Int32)), (.int (97 : Int32)), (.int (0 : Int32)), (.int (0 : Int32)), (.int (0 : Int32))] (.int (0 : Int32)) := Arv.set Ar9 qk9 Sz9 Nn9 Hh9 Gg9 rfl W10 2 rfl (Nat.le_of_ble_eq_true rfl)
    have Nf := Fr.snoc X10 Nf g_b4
    refine own_st (T' := T10) (g' := (mkF m 116 #[.val (.int i), .val (.int (0 : Int32)), .val (.ref a_SHARED), .unset, .unset] [(.ref b4), (.ref b3), (.ref b3)])) st10 ?_
    refine own_st (T' := T10) (g' := (mkF m 117 #[.val (.int i), .val (.int (0 : Int32)), .val (.ref a_SHARED), .unset, .unset] [(.ref b4), (.ref b4), (.ref b3), (.ref b3)])) (fun _ k => XS.dup X10.here hx rfl (hb hby at_116) rfl rfl k) ?_
    refine own_st (T' := T10) (g' := (mkF m 118 #[.val (.int i), .val (.int (0 : Int32)), .val (.ref a_SHARED), .unset, .unset] [(.int (3 : Int32)), (.ref b4), (.ref b4), (.ref b3), (.ref b3)])) (fun _ k => XS.iconst X10.here hx rfl (hb hby at_117) k) ?_
    refine own_st (T' := T10) (g' := (mkF m 120 #[.val (.int i), .val (.int (0 : Int32)), .val (.ref a_SHARED), .unset, .unset] [(.int (114 : Int32)), (.int (3 : Int32)), (.ref b4), (.ref b4), (.ref b3), (.ref b3)])) (fun _ k => XS.bipush X10.here hx rfl (hb hby at_118) k) ?_
    have V11 := V_b4
    obtain ⟨cl11, Ar11, qk11, Sz11, Nn11, Hh11, Gg11⟩ := V11
    obtain ⟨T12, h12, X12, e12, W12, st12⟩ := stC X10 hx hZ e10 Ar11 (j := (3 : Int32)) (inb_of Sz11 ⟨by decide, by decide⟩) (g := (mkF m 120 #[.val (.int i), .val (.int (0 : Int32)), .val (.ref a_SHARED), .unset, .unset] [(.int (114 : Int32)), (.int (3 : Int32)), (.ref b4), (.ref b4), (.ref b3), (.ref b3)])) rfl rfl (hb hby at_120)
    have E_b3 := E_b3.wr W12
    have F_coder_b3 := F_coder_b3.other W12 (Or.inl ne_b3_b4)
    have F_value_b3 := F_value_b3.other W12 (Or.inl ne_b3_b4)
    have E_b4 := E_b4.wr W12
    have E0 := own_ext_wr E0 W12 g_b4
    have V_b4 : Arv Z h12 b4 k4 .char (6 : Int32) [(.int (115 : Int32)), (.int (104 : Int32)), (.int (97 : Int32)), (.int (114 : Int32)), (.int (0 : Int32)), (.int (0 : Int32))] (.int (0 : Int32)) := Arv.set Ar11 qk11 Sz11 Nn11 Hh11 Gg11 rfl W12 3 rfl (Nat.le_of_ble_eq_true rfl)
    have Nf := Fr.snoc X12 Nf g_b4
    refine own_st (T' := T12) (g' := (mkF m 121 #[.val (.int i), .val (.int (0 : Int32)), .val (.ref a_SHARED), .unset, .unset] [(.ref b4), (.ref b3), (.ref b3)])) st12 ?_
    refine own_st (T' := T12) (g' := (mkF m 122 #[.val (.int i), .val (.int (0 : Int32)), .val (.ref a_SHARED), .unset, .unset] [(.ref b4), (.ref b4), (.ref b3), (.ref b3)])) (fun _ k => XS.dup X12.here hx rfl (hb hby at_121) rfl rfl k) ?_
    refine own_st (T' := T12) (g' := (mkF m 123 #[.val (.int i), .val (.int (0 : Int32)), .val (.ref a_SHARED), .unset, .unset] [(.int (4 : Int32)), (.ref b4), (.ref b4), (.ref b3), (.ref b3)])) (fun _ k => XS.iconst X12.here hx rfl (hb hby at_122) k) ?_
    refine own_st (T' := T12) (g' := (mkF m 125 #[.val (.int i), .val (.int (0 : Int32)), .val (.ref a_SHARED), .unset, .unset] [(.int (101 : Int32)), (.int (4 : Int32)), (.ref b4), (.ref b4), (.ref b3), (.ref b3)])) (fun _ k => XS.bipush X12.here hx rfl (hb hby at_123) k) ?_
    have V13 := V_b4
    obtain ⟨cl13, Ar13, qk13, Sz13, Nn13, Hh13, Gg13⟩ := V13
    obtain ⟨T14, h14, X14, e14, W14, st14⟩ := stC X12 hx hZ e12 Ar13 (j := (4 : Int32)) (inb_of Sz13 ⟨by decide, by decide⟩) (g := (mkF m 125 #[.val (.int i), .val (.int (0 : Int32)), .val (.ref a_SHARED), .unset, .unset] [(.int (101 : Int32)), (.int (4 : Int32)), (.ref b4), (.ref b4), (.ref b3), (.ref b3)])) rfl rfl (hb hby at_125)
    have E_b3 := E_b3.wr W14
    have F_coder_b3 := F_coder_b3.other W14 (Or.inl ne_b3_b4)
    have F_value_b3 := F_value_b3.other W14 (Or.inl ne_b3_b4)
    have E_b4 := E_b4.wr W14
    have E0 := own_ext_wr E0 W14 g_b4
    have V_b4 : Arv Z h14 b4 k4 .char (6 : Int32) [(.int (115 : Int32)), (.int (104 : Int32)), (.int (97 : Int32)), (.int (114 : Int32)), (.int (101 : Int32)), (.int (0 : Int32))] (.int (0 : Int32)) := Arv.set Ar13 qk13 Sz13 Nn13 Hh13 Gg13 rfl W14 4 rfl (Nat.le_of_ble_eq_true rfl)
    have Nf := Fr.snoc X14 Nf g_b4
    refine own_st (T' := T14) (g' := (mkF m 126 #[.val (.int i), .val (.int (0 : Int32)), .val (.ref a_SHARED), .unset, .unset] [(.ref b4), (.ref b3), (.ref b3)])) st14 ?_
    refine own_st (T' := T14) (g' := (mkF m 127 #[.val (.int i), .val (.int (0 : Int32)), .val (.ref a_SHARED), .unset, .unset] [(.ref b4), (.ref b4), (.ref b3), (.ref b3)])) (fun _ k => XS.dup X14.here hx rfl (hb hby at_126) rfl rfl k) ?_
    refine own_st (T' := T14) (g' := (mkF m 128 #[.val (.int i), .val (.int (0 : Int32)), .val (.ref a_SHARED), .unset, .unset] [(.int (5 : Int32)), (.ref b4), (.ref b4), (.ref b3), (.ref b3)])) (fun _ k => XS.iconst X14.here hx rfl (hb hby at_127) k) ?_
    refine own_st (T' := T14) (g' := (mkF m 130 #[.val (.int i), .val (.int (0 : Int32)), .val (.ref a_SHARED), .unset, .unset] [(.int (100 : Int32)), (.int (5 : Int32)), (.ref b4), (.ref b4), (.ref b3), (.ref b3)])) (fun _ k => XS.bipush X14.here hx rfl (hb hby at_128) k) ?_
    have V15 := V_b4
    obtain ⟨cl15, Ar15, qk15, Sz15, Nn15, Hh15, Gg15⟩ := V15
    obtain ⟨T16, h16, X16, e16, W16, st16⟩ := stC X14 hx hZ e14 Ar15 (j := (5 : Int32)) (inb_of Sz15 ⟨by decide, by decide⟩) (g := (mkF m 130 #[.val (.int i), .val (.int (0 : Int32)), .val (.ref a_SHARED), .unset, .unset] [(.int (100 : Int32)), (.int (5 : Int32)), (.ref b4), (.ref b4), (.ref b3), (.ref b3)])) rfl rfl (hb hby at_130)
    have E_b3 := E_b3.wr W16
    have F_coder_b3 := F_coder_b3.other W16 (Or.inl ne_b3_b4)
    have F_value_b3 := F_value_b3.other W16 (Or.inl ne_b3_b4)
    have E_b4 := E_b4.wr W16
    have E0 := own_ext_wr E0 W16 g_b4
    have V_b4 : Arv Z h16 b4 k4 .char (6 : Int32) [(.int (115 : Int32)), (.int (104 : Int32)), (.int (97 : Int32)), (.int (114 : Int32)), (.int (101 : Int32)), (.int (100 : Int32))] (.int (0 : Int32)) := Arv.set Ar15 qk15 Sz15 Nn15 Hh15 Gg15 rfl W16 5 rfl (Nat.le_of_ble_eq_true rfl)
    have Nf := Fr.snoc X16 Nf g_b4
    refine own_st (T' := T16) (g' := (mkF m 131 #[.val (.int i), .val (.int (0 : Int32)), .val (.ref a_SHARED), .unset, .unset] [(.ref b4), (.ref b3), (.ref b3)])) st16 ?_
    have hE := own_E_ext hE0 E0
    obtain ⟨v17, T17, L17, X17, hQ17, st17⟩ := own_kI X16 hx hZ rfl hown (hw _ (List.mem_of_getElem? (i := 7) rfl)) (hw _ (List.mem_of_getElem? (i := 8) rfl)) (hw _ (List.mem_of_getElem? (i := 9) rfl)) (by decide) e16 (StrChars.Road.backV (W := 1) hZ (own_hws hw) (kI := 4) (hw _ (List.mem_of_getElem? (i := 4) rfl)) (cs := own_csS) (bs := (own_csS.map fun c => c.toInt8.toInt32)) (n := 6) (n0 := h0.size) g_b3 E0.1 E_b3 F_value_b3 F_coder_b3 V_b4 (own_p_S_CS hE) (own_p_hz hE) rfl rfl (by decide) (by decide) own_hpS rfl (by decide) (by decide)) (by decide) (by decide) (kc := 1) (ks := 6) (Q := StrChars.Road.QV Z b3 (6 : Int32) (own_csS.map fun c => c.toInt8.toInt32) h16 h0.size) (g := (mkF m 131 #[.val (.int i), .val (.int (0 : Int32)), .val (.ref a_SHARED), .unset, .unset] [(.ref b4), (.ref b3), (.ref b3)])) (argsL := [(.ref b4)]) (rest := [(.ref b3)]) rfl (by rw [hml]; rfl) (lenOf own_pd_2 rfl) rfl (by show 2 * 0 + _ ≤ _; exact Nat.le_of_eq rfl) (hb hby at_131)
    obtain ⟨rfl, NL17, K17, EE17, FC17, to, ko, -, -, -, FV17, KV17⟩ := hQ17
    have Nf := Fr.app Nf NL17
    have E0 := own_ext_keep E0 K17 (allS g_b3 all0)
    have E_b3 := EE17
    have F_value_b3 := FV17
    have F_coder_b3 := FC17
    have K_b3 := KV17
    refine own_st (T' := T17) (g' := (mkF m 134 #[.val (.int i), .val (.int (0 : Int32)), .val (.ref a_SHARED), .unset, .unset] [(.ref b3)])) st17 ?_
    refine own_st (T' := T17) (g' := (mkF m 135 #[.val (.int i), .val (.int (0 : Int32)), .val (.ref a_SHARED), .val (.ref b3), .unset] [])) (fun _ k => XS.astoreN X17.here hx rfl (hb hby at_134) rfl rfl (l' := #[.val (.int i), .val (.int (0 : Int32)), .val (.ref a_SHARED), .val (.ref b3), .unset]) rfl k) ?_
    refine own_st (T' := T17) (g' := (mkF m 136 #[.val (.int i), .val (.int (0 : Int32)), .val (.ref a_SHARED), .val (.ref b3), .unset] [(.ref b3)])) (fun _ k => XS.aloadN X17.here hx rfl (hb hby at_135) rfl rfl k) ?_
    have hE := own_E_ext hE0 E0
    obtain ⟨v18, T18, L18, X18, hQ18, st18⟩ := own_gS X17  hx hZ hown (hw _ (List.mem_of_getElem? (i := 33) rfl)) (hw _ (List.mem_of_getElem? (i := 34) rfl)) (hw _ (List.mem_of_getElem? (i := 1) rfl)) (hw _ (List.mem_of_getElem? (i := 35) rfl)) (by decide) rfl (own_of_S l Z a0 hw T17.heap a_SHARED a_EXCLUSIVE a_VALUES k_VALUES b_S t_S k_S b_X t_X k_X zc hE b3 to ko E_b3 F_value_b3 F_coder_b3 K_b3) (by decide) (by decide) (by decide) (by decide) (Q := (fun v h L => v = some (.ref a_SHARED) ∧ Fr T17.heap.size L ∧ Ext T17.heap h)) (W := 0) (g := (mkF m 136 #[.val (.int i), .val (.int (0 : Int32)), .val (.ref a_SHARED), .val (.ref b3), .unset] [(.ref b3)])) (argsL := [(.ref b3)]) (rest := []) rfl (by rw [hml]; rfl) (lenOf own_pd_3 rfl) rfl (by show 2 * 0 + _ ≤ _; exact Nat.le_of_eq rfl) (hb hby at_136)
    obtain ⟨rfl, NL18, EX18⟩ := hQ18
    have Nf := Fr.app Nf (own_fr_mono E0.1 NL18)
    have E_b3 := E_b3.ext EX18
    have F_value_b3 := F_value_b3.ext EX18
    have F_coder_b3 := F_coder_b3.ext EX18
    have K_b3 := K_b3.ext EX18
    have E0 := own_ext_tr E0 EX18
    refine own_st (T' := T18) (g' := (mkF m 139 #[.val (.int i), .val (.int (0 : Int32)), .val (.ref a_SHARED), .val (.ref b3), .unset] [(.ref a_SHARED)])) st18 ?_
    refine own_st (T' := T18) (g' := (mkF m 141 #[.val (.int i), .val (.int (0 : Int32)), .val (.ref a_SHARED), .val (.ref b3), .val (.ref a_SHARED)] [])) (fun _ k => XS.astore X18.here hx rfl (hb hby at_139) rfl rfl (l' := #[.val (.int i), .val (.int (0 : Int32)), .val (.ref a_SHARED), .val (.ref b3), .val (.ref a_SHARED)]) rfl k) ?_
    refine own_st (T' := T18) (g' := (mkF m 143 #[.val (.int i), .val (.int (0 : Int32)), .val (.ref a_SHARED), .val (.ref b3), .val (.ref a_SHARED)] [(.ref a_SHARED)])) (fun _ k => XS.aload X18.here hx rfl (hb hby at_141) rfl rfl k) ?_
    refine own_st (T' := T18) (g' := (mkF m 144 #[.val (.int i), .val (.int (0 : Int32)), .val (.ref a_SHARED), .val (.ref b3), .val (.ref a_SHARED)] [(.ref a_SHARED), (.ref a_SHARED)])) (fun _ k => XS.aloadN X18.here hx rfl (hb hby at_143) rfl rfl k) ?_
    refine own_st (T' := T18) (g' := (mkF m 147 #[.val (.int i), .val (.int (0 : Int32)), .val (.ref a_SHARED), .val (.ref b3), .val (.ref a_SHARED)] [])) (fun _ k => Jvm.RoadKit.acmp (g := (mkF m 144 #[.val (.int i), .val (.int (0 : Int32)), .val (.ref a_SHARED), .val (.ref b3), .val (.ref a_SHARED)] [(.ref a_SHARED), (.ref a_SHARED)])) X18 hx rfl rfl rfl (pc0 := 144) (pc' := 147) (same := true) rfl (hb hby at_144) rfl (decide_eq_true rfl) (by decide) (by decide) k) ?_
    refine own_st (T' := T18) (g' := (mkF m 148 #[.val (.int i), .val (.int (0 : Int32)), .val (.ref a_SHARED), .val (.ref b3), .val (.ref a_SHARED)] [(.ref a_SHARED)])) (fun _ k => XS.aloadN X18.here hx rfl (hb hby at_147) rfl rfl k) ?_
    have hE := own_E_ext hE0 E0
    obtain ⟨T19, X19, e19, st19⟩ := own_pure (w := (.ref b_S)) rfl rfl (own_gV X18 hx hZ hown (hw _ (List.mem_of_getElem? (i := 64) rfl)) (hw _ (List.mem_of_getElem? (i := 65) rfl)) (notFace_of_selects (args := #[]) (mvT hZ (hw _ (List.mem_of_getElem? (i := 67) rfl)))) (hw _ (List.mem_of_getElem? (i := 67) rfl)) (hw _ (List.mem_of_getElem? (i := 66) rfl)) (hw _ (List.mem_of_getElem? (i := 1) rfl)) (hw _ (List.mem_of_getElem? (i := 68) rfl)) (by decide) rfl (own_p_E_a_SHARED hE) (own_text_S l Z a0 hw T18.heap a_SHARED a_EXCLUSIVE a_VALUES k_VALUES b_S t_S k_S b_X t_X k_X zc hE) (by decide) (by decide) (by decide) (by decide) (Q := fun v h L => v = some (.ref b_S) ∧ L = [] ∧ h = T18.heap) (W := 0) (g := (mkF m 148 #[.val (.int i), .val (.int (0 : Int32)), .val (.ref a_SHARED), .val (.ref b3), .val (.ref a_SHARED)] [(.ref a_SHARED)])) (argsL := []) (rest := []) rfl (by rw [hml]; rfl) (lenOf own_pd_4 rfl) rfl (by show 2 * 0 + _ ≤ _; exact Nat.le_of_eq rfl) (hb hby at_148))
    refine own_st (T' := T19) (g' := (mkF m 151 #[.val (.int i), .val (.int (0 : Int32)), .val (.ref a_SHARED), .val (.ref b3), .val (.ref a_SHARED)] [(.ref b_S)])) st19 ?_
    refine own_st (T' := T19) (g' := (mkF m 152 #[.val (.int i), .val (.int (0 : Int32)), .val (.ref a_SHARED), .val (.ref b3), .val (.ref a_SHARED)] [(.ref b3), (.ref b_S)])) (fun _ k => XS.aloadN X19.here hx rfl (hb hby at_151) rfl rfl k) ?_
    have hE := own_E_ext hE0 E0
    obtain ⟨v20, T20, L20, X20, hQ20, st20⟩ := own_kV X19 hx hZ hown (hw _ (List.mem_of_getElem? (i := 69) rfl)) (hw _ (List.mem_of_getElem? (i := 55) rfl)) (notFace_of_selects (args := #[]) (mvT hZ (hw _ (List.mem_of_getElem? (i := 57) rfl)))) (hw _ (List.mem_of_getElem? (i := 57) rfl)) (hw _ (List.mem_of_getElem? (i := 56) rfl)) (by decide) e19 (own_p_E_b_S hE) (StrChars.Road.eqW (W := 0) hZ (own_heq hw) (kI := 4) (hw _ (List.mem_of_getElem? (i := 4) rfl)) (own_p_E_b_S hE) (own_p_F_value_b_S hE) (own_p_F_coder_b_S hE) (own_p_K_b_S hE) own_hcS own_hbS (by decide) E_b3 F_value_b3 F_coder_b3 K_b3 own_hcS own_hbS (by decide) (own_p_S_CS hE) (own_p_hz hE) (by decide) (by decide)) (by decide) (by decide) (kc := 0) (ks := 0) (Q := (fun v h L => ((v = some (.int 1) ∧ own_csS = own_csS) ∨ (v = some (.int 0) ∧ ¬ own_csS = own_csS)) ∧ L = [] ∧ h = T18.heap)) (g := (mkF m 152 #[.val (.int i), .val (.int (0 : Int32)), .val (.ref a_SHARED), .val (.ref b3), .val (.ref a_SHARED)] [(.ref b3), (.ref b_S)])) (argsL := [(.ref b3)]) (rest := []) rfl (by rw [hml]; rfl) (lenOf own_pd_1 rfl) rfl (by show 2 * 0 + _ ≤ _; exact Nat.le_of_eq rfl) (hb hby at_152)
    obtain ⟨hq20, rfl, e20⟩ := hQ20
    rw [List.append_nil] at X20
    obtain rfl : v20 = some (.int (1 : Int32)) := hq20.elim (fun q => q.1) (fun q => absurd rfl q.2)
    refine own_st (T' := T20) (g' := (mkF m 155 #[.val (.int i), .val (.int (0 : Int32)), .val (.ref a_SHARED), .val (.ref b3), .val (.ref a_SHARED)] [(.int (1 : Int32))])) st20 ?_
    refine own_st (T' := T20) (g' := (mkF m 158 #[.val (.int i), .val (.int (0 : Int32)), .val (.ref a_SHARED), .val (.ref b3), .val (.ref a_SHARED)] [])) (fun _ k => XS.ifNo X20.here hx rfl (hb hby at_155) rfl (by decide) k) ?_
    refine own_st (T' := T20) (g' := (mkF m 159 #[.val (.int i), .val (.int (0 : Int32)), .val (.ref a_SHARED), .val (.ref b3), .val (.ref a_SHARED)] [(.int (1 : Int32))])) (fun _ k => XS.iconst X20.here hx rfl (hb hby at_158) k) ?_
    refine own_st (T' := T20) (g' := (mkF m 163 #[.val (.int i), .val (.int (0 : Int32)), .val (.ref a_SHARED), .val (.ref b3), .val (.ref a_SHARED)] [(.int (1 : Int32))])) (fun _ k => XS.goto X20.here hx rfl (pc0 := 159) (pc' := 163) rfl (hb hby at_159) (by decide) (by decide) k) ?_
    exact own_ret X20 hx hlk hret rfl (Or.inl ⟨rfl, Or.inr (Or.inl rfl), _, rfl⟩) (hb hby at_163) (by decide) (by decide) ⟨rfl, Nf⟩
  ·
    refine own_st (T' := T0) (g' := (mkF m 6 #[.val (.int i), .unset, .unset, .unset, .unset] [])) (fun _ k => XS.ifNo X0.here hx rfl (hb hby at_3) rfl ((if0 _ _).trans (feq hc3_1).1) k) ?_
    refine own_st (T' := T0) (g' := (mkF m 7 #[.val (.int i), .unset, .unset, .unset, .unset] [(.int (1 : Int32))])) (fun _ k => XS.iconst X0.here hx rfl (hb hby at_6) k) ?_
    refine own_st (T' := T0) (g' := (mkF m 11 #[.val (.int i), .unset, .unset, .unset, .unset] [(.int (1 : Int32))])) (fun _ k => XS.goto X0.here hx rfl (pc0 := 7) (pc' := 11) rfl (hb hby at_7) (by decide) (by decide) k) ?_
    refine own_st (T' := T0) (g' := (mkF m 12 #[.val (.int i), .val (.int (1 : Int32)), .unset, .unset, .unset] [])) (fun _ k => XS.istoreN X0.here hx rfl (hb hby at_11) rfl (l' := #[.val (.int i), .val (.int (1 : Int32)), .unset, .unset, .unset]) rfl k) ?_
    refine own_st (T' := T0) (g' := (mkF m 13 #[.val (.int i), .val (.int (1 : Int32)), .unset, .unset, .unset] [(.int (1 : Int32))])) (fun _ k => XS.iloadN X0.here hx rfl (hb hby at_12) rfl k) ?_
    refine own_st (T' := T0) (g' := (mkF m 16 #[.val (.int i), .val (.int (1 : Int32)), .unset, .unset, .unset] [])) (fun _ k => XS.ifNo X0.here hx rfl (hb hby at_13) rfl (by decide) k) ?_
    obtain ⟨T21, X21, e21, st21⟩ := getS2 X0 hx hZ hown (host := "") (Or.inl (hw _ (List.mem_of_getElem? (i := 70) rfl))) Via.refl e0 S_EXCLUSIVE (g := (mkF m 16 #[.val (.int i), .val (.int (1 : Int32)), .unset, .unset, .unset] [])) rfl (hb hby at_16)
    refine own_st (T' := T21) (g' := (mkF m 19 #[.val (.int i), .val (.int (1 : Int32)), .unset, .unset, .unset] [(.ref a_EXCLUSIVE)])) st21 ?_
    refine own_st (T' := T21) (g' := (mkF m 25 #[.val (.int i), .val (.int (1 : Int32)), .unset, .unset, .unset] [(.ref a_EXCLUSIVE)])) (fun _ k => XS.goto X21.here hx rfl (pc0 := 19) (pc' := 25) rfl (hb hby at_19) (by decide) (by decide) k) ?_
    refine own_st (T' := T21) (g' := (mkF m 26 #[.val (.int i), .val (.int (1 : Int32)), .val (.ref a_EXCLUSIVE), .unset, .unset] [])) (fun _ k => XS.astoreN X21.here hx rfl (hb hby at_25) rfl rfl (l' := #[.val (.int i), .val (.int (1 : Int32)), .val (.ref a_EXCLUSIVE), .unset, .unset]) rfl k) ?_
    refine own_st (T' := T21) (g' := (mkF m 27 #[.val (.int i), .val (.int (1 : Int32)), .val (.ref a_EXCLUSIVE), .unset, .unset] [(.int (1 : Int32))])) (fun _ k => XS.iloadN X21.here hx rfl (hb hby at_26) rfl k) ?_
    refine own_st (T' := T21) (g' := (mkF m 30 #[.val (.int i), .val (.int (1 : Int32)), .val (.ref a_EXCLUSIVE), .unset, .unset] [])) (fun _ k => XS.ifNo X21.here hx rfl (hb hby at_27) rfl (by decide) k) ?_
    obtain ⟨T22, h22, X22, e22, E22, A22, D22, -, st22⟩ := newO X21 hx hZ hown (hw _ (List.mem_of_getElem? (i := 3) rfl)) (hw _ (List.mem_of_getElem? (i := 4) rfl)) (hw _ (List.mem_of_getElem? (i := 5) rfl)) e21 (g := (mkF m 30 #[.val (.int i), .val (.int (1 : Int32)), .val (.ref a_EXCLUSIVE), .unset, .unset] [])) rfl (hb hby at_30) (by decide) (by decide)
    obtain ⟨b22, gb_b22⟩ : ∃ z, z = h0.size := ⟨_, rfl⟩
    rw [← gb_b22] at A22 D22 st22
    have g_b22 : h0.size ≤ b22 := Nat.le_trans E0.1 (Nat.le_of_eq gb_b22.symm)
    have E0 := own_ext_tr E0 E22
    have E_b22 := A22
    have F_coder_b22 : Fld Z h22 b22 "java/lang/String" "coder" "B" (.int (0 : Int32)) := D22 (Or.inr (hw _ (List.mem_of_getElem? (i := 30) rfl))) (ty := .byte) (by decide)
    have F_value_b22 : Fld Z h22 b22 "java/lang/String" "value" "[B" .null := D22 (Or.inr (hw _ (List.mem_of_getElem? (i := 32) rfl))) (ty := (.array .byte)) (by decide)
    refine own_st (T' := T22) (g' := (mkF m 33 #[.val (.int i), .val (.int (1 : Int32)), .val (.ref a_EXCLUSIVE), .unset, .unset] [(.ref b22)])) st22 ?_
    refine own_st (T' := T22) (g' := (mkF m 34 #[.val (.int i), .val (.int (1 : Int32)), .val (.ref a_EXCLUSIVE), .unset, .unset] [(.ref b22), (.ref b22)])) (fun _ k => XS.dup X22.here hx rfl (hb hby at_33) rfl rfl k) ?_
    refine own_st (T' := T22) (g' := (mkF m 36 #[.val (.int i), .val (.int (1 : Int32)), .val (.ref a_EXCLUSIVE), .unset, .unset] [(.int (9 : Int32)), (.ref b22), (.ref b22)])) (fun _ k => XS.bipush X22.here hx rfl (hb hby at_34) k) ?_
    obtain ⟨T23, h23, k23, X23, e23, E23, A23, Q23, st23⟩ := newPE X22 hx hZ (hw _ (List.mem_of_getElem? (i := 6) rfl)) e22 (g := (mkF m 36 #[.val (.int i), .val (.int (1 : Int32)), .val (.ref a_EXCLUSIVE), .unset, .unset] [(.int (9 : Int32)), (.ref b22), (.ref b22)])) rfl (hb hby at_36) rfl (by decide) (cap := 9) (by decide) (by decide) (by decide) (by decide) (ad := "[C") rfl
    obtain ⟨b23, gb_b23⟩ : ∃ z, z = h22.size := ⟨_, rfl⟩
    rw [← gb_b23] at A23 Q23 st23
    have ne_b22_b23 : b22 ≠ b23 := Nat.ne_of_lt (Nat.lt_of_lt_of_le E_b22.lt (Nat.le_of_eq gb_b23.symm))
    have g_b23 : h0.size ≤ b23 := Nat.le_trans E0.1 (Nat.le_of_eq gb_b23.symm)
    have E_b22 := E_b22.ext E23
    have F_coder_b22 := F_coder_b22.ext E23
    have F_value_b22 := F_value_b22.ext E23
    have E0 := own_ext_tr E0 E23
    have V_b23 : Arh Z h23 b23 k23 .char (9 : Int32) [] [] (.int (0 : Int32)) := Arv.arh (Arv.new A23 (by decide))
    have E_b23 := Q23
    refine own_st (T' := T23) (g' := (mkF m 38 #[.val (.int i), .val (.int (1 : Int32)), .val (.ref a_EXCLUSIVE), .unset, .unset] [(.ref b23), (.ref b22), (.ref b22)])) st23 ?_
    have V_b23 : Arv Z h23 b23 k23 .char (9 : Int32) [(.int (0 : Int32)), (.int (0 : Int32)), (.int (0 : Int32)), (.int (0 : Int32)), (.int (0 : Int32)), (.int (0 : Int32)), (.int (0 : Int32)), (.int (0 : Int32)), (.int (0 : Int32))] (.int (0 : Int32)) := Arv.pad (show Arv Z h23 b23 k23 .char (9 : Int32) [] (.int (0 : Int32)) from V_b23) (pad_rep [] (.int (0 : Int32)) 9)
    refine own_st (T' := T23) (g' := (mkF m 39 #[.val (.int i), .val (.int (1 : Int32)), .val (.ref a_EXCLUSIVE), .unset, .unset] [(.ref b23), (.ref b23), (.ref b22), (.ref b22)])) (fun _ k => XS.dup X23.here hx rfl (hb hby at_38) rfl rfl k) ?_
    refine own_st (T' := T23) (g' := (mkF m 40 #[.val (.int i), .val (.int (1 : Int32)), .val (.ref a_EXCLUSIVE), .unset, .unset] [(.int (0 : Int32)), (.ref b23), (.ref b23), (.ref b22), (.ref b22)])) (fun _ k => XS.iconst X23.here hx rfl (hb hby at_39) k) ?_
    refine own_st (T' := T23) (g' := (mkF m 42 #[.val (.int i), .val (.int (1 : Int32)), .val (.ref a_EXCLUSIVE), .unset, .unset] [(.int (101 : Int32)), (.int (0 : Int32)), (.ref b23), (.ref b23), (.ref b22), (.ref b22)])) (fun _ k => XS.bipush X23.here hx rfl (hb hby at_40) k) ?_
    have V24 := V_b23
    obtain ⟨cl24, Ar24, qk24, Sz24, Nn24, Hh24, Gg24⟩ := V24
    obtain ⟨T25, h25, X25, e25, W25, st25⟩ := stC X23 hx hZ e23 Ar24 (j := (0 : Int32)) (inb_of Sz24 ⟨by decide, by decide⟩) (g := (mkF m 42 #[.val (.int i), .val (.int (1 : Int32)), .val (.ref a_EXCLUSIVE), .unset, .unset] [(.int (101 : Int32)), (.int (0 : Int32)), (.ref b23), (.ref b23), (.ref b22), (.ref b22)])) rfl rfl (hb hby at_42)
    have E_b22 := E_b22.wr W25
    have F_coder_b22 := F_coder_b22.other W25 (Or.inl ne_b22_b23)
    have F_value_b22 := F_value_b22.other W25 (Or.inl ne_b22_b23)
    have E_b23 := E_b23.wr W25
    have E0 := own_ext_wr E0 W25 g_b23
    have V_b23 : Arv Z h25 b23 k23 .char (9 : Int32) [(.int (101 : Int32)), (.int (0 : Int32)), (.int (0 : Int32)), (.int (0 : Int32)), (.int (0 : Int32)), (.int (0 : Int32)), (.int (0 : Int32)), (.int (0 : Int32)), (.int (0 : Int32))] (.int (0 : Int32)) := Arv.set Ar24 qk24 Sz24 Nn24 Hh24 Gg24 rfl W25 0 rfl (Nat.le_of_ble_eq_true rfl)
    have Nf := Fr.snoc X25 Nf g_b23
    refine own_st (T' := T25) (g' := (mkF m 43 #[.val (.int i), .val (.int (1 : Int32)), .val (.ref a_EXCLUSIVE), .unset, .unset] [(.ref b23), (.ref b22), (.ref b22)])) st25 ?_
    refine own_st (T' := T25) (g' := (mkF m 44 #[.val (.int i), .val (.int (1 : Int32)), .val (.ref a_EXCLUSIVE), .unset, .unset] [(.ref b23), (.ref b23), (.ref b22), (.ref b22)])) (fun _ k => XS.dup X25.here hx rfl (hb hby at_43) rfl rfl k) ?_
    refine own_st (T' := T25) (g' := (mkF m 45 #[.val (.int i), .val (.int (1 : Int32)), .val (.ref a_EXCLUSIVE), .unset, .unset] [(.int (1 : Int32)), (.ref b23), (.ref b23), (.ref b22), (.ref b22)])) (fun _ k => XS.iconst X25.here hx rfl (hb hby at_44) k) ?_
    refine own_st (T' := T25) (g' := (mkF m 47 #[.val (.int i), .val (.int (1 : Int32)), .val (.ref a_EXCLUSIVE), .unset, .unset] [(.int (120 : Int32)), (.int (1 : Int32)), (.ref b23), (.ref b23), (.ref b22), (.ref b22)])) (fun _ k => XS.bipush X25.here hx rfl (hb hby at_45) k) ?_
    have V26 := V_b23
    obtain ⟨cl26, Ar26, qk26, Sz26, Nn26, Hh26, Gg26⟩ := V26
    obtain ⟨T27, h27, X27, e27, W27, st27⟩ := stC X25 hx hZ e25 Ar26 (j := (1 : Int32)) (inb_of Sz26 ⟨by decide, by decide⟩) (g := (mkF m 47 #[.val (.int i), .val (.int (1 : Int32)), .val (.ref a_EXCLUSIVE), .unset, .unset] [(.int (120 : Int32)), (.int (1 : Int32)), (.ref b23), (.ref b23), (.ref b22), (.ref b22)])) rfl rfl (hb hby at_47)
    have E_b22 := E_b22.wr W27
    have F_coder_b22 := F_coder_b22.other W27 (Or.inl ne_b22_b23)
    have F_value_b22 := F_value_b22.other W27 (Or.inl ne_b22_b23)
    have E_b23 := E_b23.wr W27
    have E0 := own_ext_wr E0 W27 g_b23
    have V_b23 : Arv Z h27 b23 k23 .char (9 : Int32) [(.int (101 : Int32)), (.int (120 : Int32)), (.int (0 : Int32)), (.int (0 : Int32)), (.int (0 : Int32)), (.int (0 : Int32)), (.int (0 : Int32)), (.int (0 : Int32)), (.int (0 : Int32))] (.int (0 : Int32)) := Arv.set Ar26 qk26 Sz26 Nn26 Hh26 Gg26 rfl W27 1 rfl (Nat.le_of_ble_eq_true rfl)
    have Nf := Fr.snoc X27 Nf g_b23
    refine own_st (T' := T27) (g' := (mkF m 48 #[.val (.int i), .val (.int (1 : Int32)), .val (.ref a_EXCLUSIVE), .unset, .unset] [(.ref b23), (.ref b22), (.ref b22)])) st27 ?_
    refine own_st (T' := T27) (g' := (mkF m 49 #[.val (.int i), .val (.int (1 : Int32)), .val (.ref a_EXCLUSIVE), .unset, .unset] [(.ref b23), (.ref b23), (.ref b22), (.ref b22)])) (fun _ k => XS.dup X27.here hx rfl (hb hby at_48) rfl rfl k) ?_
    refine own_st (T' := T27) (g' := (mkF m 50 #[.val (.int i), .val (.int (1 : Int32)), .val (.ref a_EXCLUSIVE), .unset, .unset] [(.int (2 : Int32)), (.ref b23), (.ref b23), (.ref b22), (.ref b22)])) (fun _ k => XS.iconst X27.here hx rfl (hb hby at_49) k) ?_
    refine own_st (T' := T27) (g' := (mkF m 52 #[.val (.int i), .val (.int (1 : Int32)), .val (.ref a_EXCLUSIVE), .unset, .unset] [(.int (99 : Int32)), (.int (2 : Int32)), (.ref b23), (.ref b23), (.ref b22), (.ref b22)])) (fun _ k => XS.bipush X27.here hx rfl (hb hby at_50) k) ?_
    have V28 := V_b23
    obtain ⟨cl28, Ar28, qk28, Sz28, Nn28, Hh28, Gg28⟩ := V28
    obtain ⟨T29, h29, X29, e29, W29, st29⟩ := stC X27 hx hZ e27 Ar28 (j := (2 : Int32)) (inb_of Sz28 ⟨by decide, by decide⟩) (g := (mkF m 52 #[.val (.int i), .val (.int (1 : Int32)), .val (.ref a_EXCLUSIVE), .unset, .unset] [(.int (99 : Int32)), (.int (2 : Int32)), (.ref b23), (.ref b23), (.ref b22), (.ref b22)])) rfl rfl (hb hby at_52)
    have E_b22 := E_b22.wr W29
    have F_coder_b22 := F_coder_b22.other W29 (Or.inl ne_b22_b23)
    have F_value_b22 := F_value_b22.other W29 (Or.inl ne_b22_b23)
    have E_b23 := E_b23.wr W29
    have E0 := own_ext_wr E0 W29 g_b23
    have V_b23 : Arv Z h29 b23 k23 .char (9 : Int32) [(.int (101 : Int32)), (.int (120 : Int32)), (.int (99 : Int32)), (.int (0 : Int32)), (.int (0 : Int32)), (.int (0 : Int32)), (.int (0 : Int32)), (.int (0 : Int32)), (.int (0 : Int32))] (.int (0 : Int32)) := Arv.set Ar28 qk28 Sz28 Nn28 Hh28 Gg28 rfl W29 2 rfl (Nat.le_of_ble_eq_true rfl)
    have Nf := Fr.snoc X29 Nf g_b23
    refine own_st (T' := T29) (g' := (mkF m 53 #[.val (.int i), .val (.int (1 : Int32)), .val (.ref a_EXCLUSIVE), .unset, .unset] [(.ref b23), (.ref b22), (.ref b22)])) st29 ?_
    refine own_st (T' := T29) (g' := (mkF m 54 #[.val (.int i), .val (.int (1 : Int32)), .val (.ref a_EXCLUSIVE), .unset, .unset] [(.ref b23), (.ref b23), (.ref b22), (.ref b22)])) (fun _ k => XS.dup X29.here hx rfl (hb hby at_53) rfl rfl k) ?_
    refine own_st (T' := T29) (g' := (mkF m 55 #[.val (.int i), .val (.int (1 : Int32)), .val (.ref a_EXCLUSIVE), .unset, .unset] [(.int (3 : Int32)), (.ref b23), (.ref b23), (.ref b22), (.ref b22)])) (fun _ k => XS.iconst X29.here hx rfl (hb hby at_54) k) ?_
    refine own_st (T' := T29) (g' := (mkF m 57 #[.val (.int i), .val (.int (1 : Int32)), .val (.ref a_EXCLUSIVE), .unset, .unset] [(.int (108 : Int32)), (.int (3 : Int32)), (.ref b23), (.ref b23), (.ref b22), (.ref b22)])) (fun _ k => XS.bipush X29.here hx rfl (hb hby at_55) k) ?_
    have V30 := V_b23
    obtain ⟨cl30, Ar30, qk30, Sz30, Nn30, Hh30, Gg30⟩ := V30
    obtain ⟨T31, h31, X31, e31, W31, st31⟩ := stC X29 hx hZ e29 Ar30 (j := (3 : Int32)) (inb_of Sz30 ⟨by decide, by decide⟩) (g := (mkF m 57 #[.val (.int i), .val (.int (1 : Int32)), .val (.ref a_EXCLUSIVE), .unset, .unset] [(.int (108 : Int32)), (.int (3 : Int32)), (.ref b23), (.ref b23), (.ref b22), (.ref b22)])) rfl rfl (hb hby at_57)
    have E_b22 := E_b22.wr W31
    have F_coder_b22 := F_coder_b22.other W31 (Or.inl ne_b22_b23)
    have F_value_b22 := F_value_b22.other W31 (Or.inl ne_b22_b23)
    have E_b23 := E_b23.wr W31
    have E0 := own_ext_wr E0 W31 g_b23
    have V_b23 : Arv Z h31 b23 k23 .char (9 : Int32) [(.int (101 : Int32)), (.int (120 : Int32)), (.int (99 : Int32)), (.int (108 : Int32)), (.int (0 : Int32)), (.int (0 : Int32)), (.int (0 : Int32)), (.int (0 : Int32)), (.int (0 : Int32))] (.int (0 : Int32)) := Arv.set Ar30 qk30 Sz30 Nn30 Hh30 Gg30 rfl W31 3 rfl (Nat.le_of_ble_eq_true rfl)
    have Nf := Fr.snoc X31 Nf g_b23
    refine own_st (T' := T31) (g' := (mkF m 58 #[.val (.int i), .val (.int (1 : Int32)), .val (.ref a_EXCLUSIVE), .unset, .unset] [(.ref b23), (.ref b22), (.ref b22)])) st31 ?_
    refine own_st (T' := T31) (g' := (mkF m 59 #[.val (.int i), .val (.int (1 : Int32)), .val (.ref a_EXCLUSIVE), .unset, .unset] [(.ref b23), (.ref b23), (.ref b22), (.ref b22)])) (fun _ k => XS.dup X31.here hx rfl (hb hby at_58) rfl rfl k) ?_
    refine own_st (T' := T31) (g' := (mkF m 60 #[.val (.int i), .val (.int (1 : Int32)), .val (.ref a_EXCLUSIVE), .unset, .unset] [(.int (4 : Int32)), (.ref b23), (.ref b23), (.ref b22), (.ref b22)])) (fun _ k => XS.iconst X31.here hx rfl (hb hby at_59) k) ?_
    refine own_st (T' := T31) (g' := (mkF m 62 #[.val (.int i), .val (.int (1 : Int32)), .val (.ref a_EXCLUSIVE), .unset, .unset] [(.int (117 : Int32)), (.int (4 : Int32)), (.ref b23), (.ref b23), (.ref b22), (.ref b22)])) (fun _ k => XS.bipush X31.here hx rfl (hb hby at_60) k) ?_
    have V32 := V_b23
    obtain ⟨cl32, Ar32, qk32, Sz32, Nn32, Hh32, Gg32⟩ := V32
    obtain ⟨T33, h33, X33, e33, W33, st33⟩ := stC X31 hx hZ e31 Ar32 (j := (4 : Int32)) (inb_of Sz32 ⟨by decide, by decide⟩) (g := (mkF m 62 #[.val (.int i), .val (.int (1 : Int32)), .val (.ref a_EXCLUSIVE), .unset, .unset] [(.int (117 : Int32)), (.int (4 : Int32)), (.ref b23), (.ref b23), (.ref b22), (.ref b22)])) rfl rfl (hb hby at_62)
    have E_b22 := E_b22.wr W33
    have F_coder_b22 := F_coder_b22.other W33 (Or.inl ne_b22_b23)
    have F_value_b22 := F_value_b22.other W33 (Or.inl ne_b22_b23)
    have E_b23 := E_b23.wr W33
    have E0 := own_ext_wr E0 W33 g_b23
    have V_b23 : Arv Z h33 b23 k23 .char (9 : Int32) [(.int (101 : Int32)), (.int (120 : Int32)), (.int (99 : Int32)), (.int (108 : Int32)), (.int (117 : Int32)), (.int (0 : Int32)), (.int (0 : Int32)), (.int (0 : Int32)), (.int (0 : Int32))] (.int (0 : Int32)) := Arv.set Ar32 qk32 Sz32 Nn32 Hh32 Gg32 rfl W33 4 rfl (Nat.le_of_ble_eq_true rfl)
    have Nf := Fr.snoc X33 Nf g_b23
    refine own_st (T' := T33) (g' := (mkF m 63 #[.val (.int i), .val (.int (1 : Int32)), .val (.ref a_EXCLUSIVE), .unset, .unset] [(.ref b23), (.ref b22), (.ref b22)])) st33 ?_
    refine own_st (T' := T33) (g' := (mkF m 64 #[.val (.int i), .val (.int (1 : Int32)), .val (.ref a_EXCLUSIVE), .unset, .unset] [(.ref b23), (.ref b23), (.ref b22), (.ref b22)])) (fun _ k => XS.dup X33.here hx rfl (hb hby at_63) rfl rfl k) ?_
    refine own_st (T' := T33) (g' := (mkF m 65 #[.val (.int i), .val (.int (1 : Int32)), .val (.ref a_EXCLUSIVE), .unset, .unset] [(.int (5 : Int32)), (.ref b23), (.ref b23), (.ref b22), (.ref b22)])) (fun _ k => XS.iconst X33.here hx rfl (hb hby at_64) k) ?_
    refine own_st (T' := T33) (g' := (mkF m 67 #[.val (.int i), .val (.int (1 : Int32)), .val (.ref a_EXCLUSIVE), .unset, .unset] [(.int (115 : Int32)), (.int (5 : Int32)), (.ref b23), (.ref b23), (.ref b22), (.ref b22)])) (fun _ k => XS.bipush X33.here hx rfl (hb hby at_65) k) ?_
    have V34 := V_b23
    obtain ⟨cl34, Ar34, qk34, Sz34, Nn34, Hh34, Gg34⟩ := V34
    obtain ⟨T35, h35, X35, e35, W35, st35⟩ := stC X33 hx hZ e33 Ar34 (j := (5 : Int32)) (inb_of Sz34 ⟨by decide, by decide⟩) (g := (mkF m 67 #[.val (.int i), .val (.int (1 : Int32)), .val (.ref a_EXCLUSIVE), .unset, .unset] [(.int (115 : Int32)), (.int (5 : Int32)), (.ref b23), (.ref b23), (.ref b22), (.ref b22)])) rfl rfl (hb hby at_67)
    have E_b22 := E_b22.wr W35
    have F_coder_b22 := F_coder_b22.other W35 (Or.inl ne_b22_b23)
    have F_value_b22 := F_value_b22.other W35 (Or.inl ne_b22_b23)
    have E_b23 := E_b23.wr W35
    have E0 := own_ext_wr E0 W35 g_b23
    have V_b23 : Arv Z h35 b23 k23 .char (9 : Int32) [(.int (101 : Int32)), (.int (120 : Int32)), (.int (99 : Int32)), (.int (108 : Int32)), (.int (117 : Int32)), (.int (115 : Int32)), (.int (0 : Int32)), (.int (0 : Int32)), (.int (0 : Int32))] (.int (0 : Int32)) := Arv.set Ar34 qk34 Sz34 Nn34 Hh34 Gg34 rfl W35 5 rfl (Nat.le_of_ble_eq_true rfl)
    have Nf := Fr.snoc X35 Nf g_b23
    refine own_st (T' := T35) (g' := (mkF m 68 #[.val (.int i), .val (.int (1 : Int32)), .val (.ref a_EXCLUSIVE), .unset, .unset] [(.ref b23), (.ref b22), (.ref b22)])) st35 ?_
    refine own_st (T' := T35) (g' := (mkF m 69 #[.val (.int i), .val (.int (1 : Int32)), .val (.ref a_EXCLUSIVE), .unset, .unset] [(.ref b23), (.ref b23), (.ref b22), (.ref b22)])) (fun _ k => XS.dup X35.here hx rfl (hb hby at_68) rfl rfl k) ?_
    refine own_st (T' := T35) (g' := (mkF m 71 #[.val (.int i), .val (.int (1 : Int32)), .val (.ref a_EXCLUSIVE), .unset, .unset] [(.int (6 : Int32)), (.ref b23), (.ref b23), (.ref b22), (.ref b22)])) (fun _ k => XS.bipush X35.here hx rfl (hb hby at_69) k) ?_
    refine own_st (T' := T35) (g' := (mkF m 73 #[.val (.int i), .val (.int (1 : Int32)), .val (.ref a_EXCLUSIVE), .unset, .unset] [(.int (105 : Int32)), (.int (6 : Int32)), (.ref b23), (.ref b23), (.ref b22), (.ref b22)])) (fun _ k => XS.bipush X35.here hx rfl (hb hby at_71) k) ?_
    have V36 := V_b23
    obtain ⟨cl36, Ar36, qk36, Sz36, Nn36, Hh36, Gg36⟩ := V36
    obtain ⟨T37, h37, X37, e37, W37, st37⟩ := stC X35 hx hZ e35 Ar36 (j := (6 : Int32)) (inb_of Sz36 ⟨by decide, by decide⟩) (g := (mkF m 73 #[.val (.int i), .val (.int (1 : Int32)), .val (.ref a_EXCLUSIVE), .unset, .unset] [(.int (105 : Int32)), (.int (6 : Int32)), (.ref b23), (.ref b23), (.ref b22), (.ref b22)])) rfl rfl (hb hby at_73)
    have E_b22 := E_b22.wr W37
    have F_coder_b22 := F_coder_b22.other W37 (Or.inl ne_b22_b23)
    have F_value_b22 := F_value_b22.other W37 (Or.inl ne_b22_b23)
    have E_b23 := E_b23.wr W37
    have E0 := own_ext_wr E0 W37 g_b23
    have V_b23 : Arv Z h37 b23 k23 .char (9 : Int32) [(.int (101 : Int32)), (.int (120 : Int32)), (.int (99 : Int32)), (.int (108 : Int32)), (.int (117 : Int32)), (.int (115 : Int32)), (.int (105 : Int32)), (.int (0 : Int32)), (.int (0 : Int32))] (.int (0 : Int32)) := Arv.set Ar36 qk36 Sz36 Nn36 Hh36 Gg36 rfl W37 6 rfl (Nat.le_of_ble_eq_true rfl)
    have Nf := Fr.snoc X37 Nf g_b23
    refine own_st (T' := T37) (g' := (mkF m 74 #[.val (.int i), .val (.int (1 : Int32)), .val (.ref a_EXCLUSIVE), .unset, .unset] [(.ref b23), (.ref b22), (.ref b22)])) st37 ?_
    refine own_st (T' := T37) (g' := (mkF m 75 #[.val (.int i), .val (.int (1 : Int32)), .val (.ref a_EXCLUSIVE), .unset, .unset] [(.ref b23), (.ref b23), (.ref b22), (.ref b22)])) (fun _ k => XS.dup X37.here hx rfl (hb hby at_74) rfl rfl k) ?_
    refine own_st (T' := T37) (g' := (mkF m 77 #[.val (.int i), .val (.int (1 : Int32)), .val (.ref a_EXCLUSIVE), .unset, .unset] [(.int (7 : Int32)), (.ref b23), (.ref b23), (.ref b22), (.ref b22)])) (fun _ k => XS.bipush X37.here hx rfl (hb hby at_75) k) ?_
    refine own_st (T' := T37) (g' := (mkF m 79 #[.val (.int i), .val (.int (1 : Int32)), .val (.ref a_EXCLUSIVE), .unset, .unset] [(.int (118 : Int32)), (.int (7 : Int32)), (.ref b23), (.ref b23), (.ref b22), (.ref b22)])) (fun _ k => XS.bipush X37.here hx rfl (hb hby at_77) k) ?_
    have V38 := V_b23
    obtain ⟨cl38, Ar38, qk38, Sz38, Nn38, Hh38, Gg38⟩ := V38
    obtain ⟨T39, h39, X39, e39, W39, st39⟩ := stC X37 hx hZ e37 Ar38 (j := (7 : Int32)) (inb_of Sz38 ⟨by decide, by decide⟩) (g := (mkF m 79 #[.val (.int i), .val (.int (1 : Int32)), .val (.ref a_EXCLUSIVE), .unset, .unset] [(.int (118 : Int32)), (.int (7 : Int32)), (.ref b23), (.ref b23), (.ref b22), (.ref b22)])) rfl rfl (hb hby at_79)
    have E_b22 := E_b22.wr W39
    have F_coder_b22 := F_coder_b22.other W39 (Or.inl ne_b22_b23)
    have F_value_b22 := F_value_b22.other W39 (Or.inl ne_b22_b23)
    have E_b23 := E_b23.wr W39
    have E0 := own_ext_wr E0 W39 g_b23
    have V_b23 : Arv Z h39 b23 k23 .char (9 : Int32) [(.int (101 : Int32)), (.int (120 : Int32)), (.int (99 : Int32)), (.int (108 : Int32)), (.int (117 : Int32)), (.int (115 : Int32)), (.int (105 : Int32)), (.int (118 : Int32)), (.int (0 : Int32))] (.int (0 : Int32)) := Arv.set Ar38 qk38 Sz38 Nn38 Hh38 Gg38 rfl W39 7 rfl (Nat.le_of_ble_eq_true rfl)
    have Nf := Fr.snoc X39 Nf g_b23
    refine own_st (T' := T39) (g' := (mkF m 80 #[.val (.int i), .val (.int (1 : Int32)), .val (.ref a_EXCLUSIVE), .unset, .unset] [(.ref b23), (.ref b22), (.ref b22)])) st39 ?_
    refine own_st (T' := T39) (g' := (mkF m 81 #[.val (.int i), .val (.int (1 : Int32)), .val (.ref a_EXCLUSIVE), .unset, .unset] [(.ref b23), (.ref b23), (.ref b22), (.ref b22)])) (fun _ k => XS.dup X39.here hx rfl (hb hby at_80) rfl rfl k) ?_
    refine own_st (T' := T39) (g' := (mkF m 83 #[.val (.int i), .val (.int (1 : Int32)), .val (.ref a_EXCLUSIVE), .unset, .unset] [(.int (8 : Int32)), (.ref b23), (.ref b23), (.ref b22), (.ref b22)])) (fun _ k => XS.bipush X39.here hx rfl (hb hby at_81) k) ?_
    refine own_st (T' := T39) (g' := (mkF m 85 #[.val (.int i), .val (.int (1 : Int32)), .val (.ref a_EXCLUSIVE), .unset, .unset] [(.int (101 : Int32)), (.int (8 : Int32)), (.ref b23), (.ref b23), (.ref b22), (.ref b22)])) (fun _ k => XS.bipush X39.here hx rfl (hb hby at_83) k) ?_
    have V40 := V_b23
    obtain ⟨cl40, Ar40, qk40, Sz40, Nn40, Hh40, Gg40⟩ := V40
    obtain ⟨T41, h41, X41, e41, W41, st41⟩ := stC X39 hx hZ e39 Ar40 (j := (8 : Int32)) (inb_of Sz40 ⟨by decide, by decide⟩) (g := (mkF m 85 #[.val (.int i), .val (.int (1 : Int32)), .val (.ref a_EXCLUSIVE), .unset, .unset] [(.int (101 : Int32)), (.int (8 : Int32)), (.ref b23), (.ref b23), (.ref b22), (.ref b22)])) rfl rfl (hb hby at_85)
    have E_b22 := E_b22.wr W41
    have F_coder_b22 := F_coder_b22.other W41 (Or.inl ne_b22_b23)
    have F_value_b22 := F_value_b22.other W41 (Or.inl ne_b22_b23)
    have E_b23 := E_b23.wr W41
    have E0 := own_ext_wr E0 W41 g_b23
    have V_b23 : Arv Z h41 b23 k23 .char (9 : Int32) [(.int (101 : Int32)), (.int (120 : Int32)), (.int (99 : Int32)), (.int (108 : Int32)), (.int (117 : Int32)), (.int (115 : Int32)), (.int (105 : Int32)), (.int (118 : Int32)), (.int (101 : Int32))] (.int (0 : Int32)) := Arv.set Ar40 qk40 Sz40 Nn40 Hh40 Gg40 rfl W41 8 rfl (Nat.le_of_ble_eq_true rfl)
    have Nf := Fr.snoc X41 Nf g_b23
    refine own_st (T' := T41) (g' := (mkF m 86 #[.val (.int i), .val (.int (1 : Int32)), .val (.ref a_EXCLUSIVE), .unset, .unset] [(.ref b23), (.ref b22), (.ref b22)])) st41 ?_
    have hE := own_E_ext hE0 E0
    obtain ⟨v42, T42, L42, X42, hQ42, st42⟩ := own_kI X41 hx hZ rfl hown (hw _ (List.mem_of_getElem? (i := 7) rfl)) (hw _ (List.mem_of_getElem? (i := 8) rfl)) (hw _ (List.mem_of_getElem? (i := 9) rfl)) (by decide) e41 (StrChars.Road.backV (W := 1) hZ (own_hws hw) (kI := 4) (hw _ (List.mem_of_getElem? (i := 4) rfl)) (cs := own_csX) (bs := (own_csX.map fun c => c.toInt8.toInt32)) (n := 9) (n0 := h0.size) g_b22 E0.1 E_b22 F_value_b22 F_coder_b22 V_b23 (own_p_S_CS hE) (own_p_hz hE) rfl rfl (by decide) (by decide) own_hpX rfl (by decide) (by decide)) (by decide) (by decide) (kc := 1) (ks := 9) (Q := StrChars.Road.QV Z b22 (9 : Int32) (own_csX.map fun c => c.toInt8.toInt32) h41 h0.size) (g := (mkF m 86 #[.val (.int i), .val (.int (1 : Int32)), .val (.ref a_EXCLUSIVE), .unset, .unset] [(.ref b23), (.ref b22), (.ref b22)])) (argsL := [(.ref b23)]) (rest := [(.ref b22)]) rfl (by rw [hml]; rfl) (lenOf own_pd_2 rfl) rfl (by show 2 * 0 + _ ≤ _; exact Nat.le_of_eq rfl) (hb hby at_86)
    obtain ⟨rfl, NL42, K42, EE42, FC42, to, ko, -, -, -, FV42, KV42⟩ := hQ42
    have Nf := Fr.app Nf NL42
    have E0 := own_ext_keep E0 K42 (allS g_b22 all0)
    have E_b22 := EE42
    have F_value_b22 := FV42
    have F_coder_b22 := FC42
    have K_b22 := KV42
    refine own_st (T' := T42) (g' := (mkF m 89 #[.val (.int i), .val (.int (1 : Int32)), .val (.ref a_EXCLUSIVE), .unset, .unset] [(.ref b22)])) st42 ?_
    refine own_st (T' := T42) (g' := (mkF m 90 #[.val (.int i), .val (.int (1 : Int32)), .val (.ref a_EXCLUSIVE), .val (.ref b22), .unset] [])) (fun _ k => XS.astoreN X42.here hx rfl (hb hby at_89) rfl rfl (l' := #[.val (.int i), .val (.int (1 : Int32)), .val (.ref a_EXCLUSIVE), .val (.ref b22), .unset]) rfl k) ?_
    refine own_st (T' := T42) (g' := (mkF m 135 #[.val (.int i), .val (.int (1 : Int32)), .val (.ref a_EXCLUSIVE), .val (.ref b22), .unset] [])) (fun _ k => XS.goto X42.here hx rfl (pc0 := 90) (pc' := 135) rfl (hb hby at_90) (by decide) (by decide) k) ?_
    refine own_st (T' := T42) (g' := (mkF m 136 #[.val (.int i), .val (.int (1 : Int32)), .val (.ref a_EXCLUSIVE), .val (.ref b22), .unset] [(.ref b22)])) (fun _ k => XS.aloadN X42.here hx rfl (hb hby at_135) rfl rfl k) ?_
    have hE := own_E_ext hE0 E0
    obtain ⟨v43, T43, L43, X43, hQ43, st43⟩ := own_gS X42  hx hZ hown (hw _ (List.mem_of_getElem? (i := 33) rfl)) (hw _ (List.mem_of_getElem? (i := 34) rfl)) (hw _ (List.mem_of_getElem? (i := 1) rfl)) (hw _ (List.mem_of_getElem? (i := 35) rfl)) (by decide) rfl (own_of_X l Z a0 hw T42.heap a_SHARED a_EXCLUSIVE a_VALUES k_VALUES b_S t_S k_S b_X t_X k_X zc hE b22 to ko E_b22 F_value_b22 F_coder_b22 K_b22) (by decide) (by decide) (by decide) (by decide) (Q := (fun v h L => v = some (.ref a_EXCLUSIVE) ∧ Fr T42.heap.size L ∧ Ext T42.heap h)) (W := 0) (g := (mkF m 136 #[.val (.int i), .val (.int (1 : Int32)), .val (.ref a_EXCLUSIVE), .val (.ref b22), .unset] [(.ref b22)])) (argsL := [(.ref b22)]) (rest := []) rfl (by rw [hml]; rfl) (lenOf own_pd_3 rfl) rfl (by show 2 * 0 + _ ≤ _; exact Nat.le_of_eq rfl) (hb hby at_136)
    obtain ⟨rfl, NL43, EX43⟩ := hQ43
    have Nf := Fr.app Nf (own_fr_mono E0.1 NL43)
    have E_b22 := E_b22.ext EX43
    have F_value_b22 := F_value_b22.ext EX43
    have F_coder_b22 := F_coder_b22.ext EX43
    have K_b22 := K_b22.ext EX43
    have E0 := own_ext_tr E0 EX43
    refine own_st (T' := T43) (g' := (mkF m 139 #[.val (.int i), .val (.int (1 : Int32)), .val (.ref a_EXCLUSIVE), .val (.ref b22), .unset] [(.ref a_EXCLUSIVE)])) st43 ?_
    refine own_st (T' := T43) (g' := (mkF m 141 #[.val (.int i), .val (.int (1 : Int32)), .val (.ref a_EXCLUSIVE), .val (.ref b22), .val (.ref a_EXCLUSIVE)] [])) (fun _ k => XS.astore X43.here hx rfl (hb hby at_139) rfl rfl (l' := #[.val (.int i), .val (.int (1 : Int32)), .val (.ref a_EXCLUSIVE), .val (.ref b22), .val (.ref a_EXCLUSIVE)]) rfl k) ?_
    refine own_st (T' := T43) (g' := (mkF m 143 #[.val (.int i), .val (.int (1 : Int32)), .val (.ref a_EXCLUSIVE), .val (.ref b22), .val (.ref a_EXCLUSIVE)] [(.ref a_EXCLUSIVE)])) (fun _ k => XS.aload X43.here hx rfl (hb hby at_141) rfl rfl k) ?_
    refine own_st (T' := T43) (g' := (mkF m 144 #[.val (.int i), .val (.int (1 : Int32)), .val (.ref a_EXCLUSIVE), .val (.ref b22), .val (.ref a_EXCLUSIVE)] [(.ref a_EXCLUSIVE), (.ref a_EXCLUSIVE)])) (fun _ k => XS.aloadN X43.here hx rfl (hb hby at_143) rfl rfl k) ?_
    refine own_st (T' := T43) (g' := (mkF m 147 #[.val (.int i), .val (.int (1 : Int32)), .val (.ref a_EXCLUSIVE), .val (.ref b22), .val (.ref a_EXCLUSIVE)] [])) (fun _ k => Jvm.RoadKit.acmp (g := (mkF m 144 #[.val (.int i), .val (.int (1 : Int32)), .val (.ref a_EXCLUSIVE), .val (.ref b22), .val (.ref a_EXCLUSIVE)] [(.ref a_EXCLUSIVE), (.ref a_EXCLUSIVE)])) X43 hx rfl rfl rfl (pc0 := 144) (pc' := 147) (same := true) rfl (hb hby at_144) rfl (decide_eq_true rfl) (by decide) (by decide) k) ?_
    refine own_st (T' := T43) (g' := (mkF m 148 #[.val (.int i), .val (.int (1 : Int32)), .val (.ref a_EXCLUSIVE), .val (.ref b22), .val (.ref a_EXCLUSIVE)] [(.ref a_EXCLUSIVE)])) (fun _ k => XS.aloadN X43.here hx rfl (hb hby at_147) rfl rfl k) ?_
    have hE := own_E_ext hE0 E0
    obtain ⟨T44, X44, e44, st44⟩ := own_pure (w := (.ref b_X)) rfl rfl (own_gV X43 hx hZ hown (hw _ (List.mem_of_getElem? (i := 64) rfl)) (hw _ (List.mem_of_getElem? (i := 65) rfl)) (notFace_of_selects (args := #[]) (mvT hZ (hw _ (List.mem_of_getElem? (i := 67) rfl)))) (hw _ (List.mem_of_getElem? (i := 67) rfl)) (hw _ (List.mem_of_getElem? (i := 66) rfl)) (hw _ (List.mem_of_getElem? (i := 1) rfl)) (hw _ (List.mem_of_getElem? (i := 68) rfl)) (by decide) rfl (own_p_E_a_EXCLUSIVE hE) (own_text_X l Z a0 hw T43.heap a_SHARED a_EXCLUSIVE a_VALUES k_VALUES b_S t_S k_S b_X t_X k_X zc hE) (by decide) (by decide) (by decide) (by decide) (Q := fun v h L => v = some (.ref b_X) ∧ L = [] ∧ h = T43.heap) (W := 0) (g := (mkF m 148 #[.val (.int i), .val (.int (1 : Int32)), .val (.ref a_EXCLUSIVE), .val (.ref b22), .val (.ref a_EXCLUSIVE)] [(.ref a_EXCLUSIVE)])) (argsL := []) (rest := []) rfl (by rw [hml]; rfl) (lenOf own_pd_4 rfl) rfl (by show 2 * 0 + _ ≤ _; exact Nat.le_of_eq rfl) (hb hby at_148))
    refine own_st (T' := T44) (g' := (mkF m 151 #[.val (.int i), .val (.int (1 : Int32)), .val (.ref a_EXCLUSIVE), .val (.ref b22), .val (.ref a_EXCLUSIVE)] [(.ref b_X)])) st44 ?_
    refine own_st (T' := T44) (g' := (mkF m 152 #[.val (.int i), .val (.int (1 : Int32)), .val (.ref a_EXCLUSIVE), .val (.ref b22), .val (.ref a_EXCLUSIVE)] [(.ref b22), (.ref b_X)])) (fun _ k => XS.aloadN X44.here hx rfl (hb hby at_151) rfl rfl k) ?_
    have hE := own_E_ext hE0 E0
    obtain ⟨v45, T45, L45, X45, hQ45, st45⟩ := own_kV X44 hx hZ hown (hw _ (List.mem_of_getElem? (i := 69) rfl)) (hw _ (List.mem_of_getElem? (i := 55) rfl)) (notFace_of_selects (args := #[]) (mvT hZ (hw _ (List.mem_of_getElem? (i := 57) rfl)))) (hw _ (List.mem_of_getElem? (i := 57) rfl)) (hw _ (List.mem_of_getElem? (i := 56) rfl)) (by decide) e44 (own_p_E_b_X hE) (StrChars.Road.eqW (W := 0) hZ (own_heq hw) (kI := 4) (hw _ (List.mem_of_getElem? (i := 4) rfl)) (own_p_E_b_X hE) (own_p_F_value_b_X hE) (own_p_F_coder_b_X hE) (own_p_K_b_X hE) own_hcX own_hbX (by decide) E_b22 F_value_b22 F_coder_b22 K_b22 own_hcX own_hbX (by decide) (own_p_S_CS hE) (own_p_hz hE) (by decide) (by decide)) (by decide) (by decide) (kc := 0) (ks := 0) (Q := (fun v h L => ((v = some (.int 1) ∧ own_csX = own_csX) ∨ (v = some (.int 0) ∧ ¬ own_csX = own_csX)) ∧ L = [] ∧ h = T43.heap)) (g := (mkF m 152 #[.val (.int i), .val (.int (1 : Int32)), .val (.ref a_EXCLUSIVE), .val (.ref b22), .val (.ref a_EXCLUSIVE)] [(.ref b22), (.ref b_X)])) (argsL := [(.ref b22)]) (rest := []) rfl (by rw [hml]; rfl) (lenOf own_pd_1 rfl) rfl (by show 2 * 0 + _ ≤ _; exact Nat.le_of_eq rfl) (hb hby at_152)
    obtain ⟨hq45, rfl, e45⟩ := hQ45
    rw [List.append_nil] at X45
    obtain rfl : v45 = some (.int (1 : Int32)) := hq45.elim (fun q => q.1) (fun q => absurd rfl q.2)
    refine own_st (T' := T45) (g' := (mkF m 155 #[.val (.int i), .val (.int (1 : Int32)), .val (.ref a_EXCLUSIVE), .val (.ref b22), .val (.ref a_EXCLUSIVE)] [(.int (1 : Int32))])) st45 ?_
    refine own_st (T' := T45) (g' := (mkF m 158 #[.val (.int i), .val (.int (1 : Int32)), .val (.ref a_EXCLUSIVE), .val (.ref b22), .val (.ref a_EXCLUSIVE)] [])) (fun _ k => XS.ifNo X45.here hx rfl (hb hby at_155) rfl (by decide) k) ?_
    refine own_st (T' := T45) (g' := (mkF m 159 #[.val (.int i), .val (.int (1 : Int32)), .val (.ref a_EXCLUSIVE), .val (.ref b22), .val (.ref a_EXCLUSIVE)] [(.int (1 : Int32))])) (fun _ k => XS.iconst X45.here hx rfl (hb hby at_158) k) ?_
    refine own_st (T' := T45) (g' := (mkF m 163 #[.val (.int i), .val (.int (1 : Int32)), .val (.ref a_EXCLUSIVE), .val (.ref b22), .val (.ref a_EXCLUSIVE)] [(.int (1 : Int32))])) (fun _ k => XS.goto X45.here hx rfl (pc0 := 159) (pc' := 163) rfl (hb hby at_159) (by decide) (by decide) k) ?_
    exact own_ret X45 hx hlk hret rfl (Or.inl ⟨rfl, Or.inr (Or.inl rfl), _, rfl⟩) (hb hby at_163) (by decide) (by decide) ⟨rfl, Nf⟩
/-! ### from the case's words to the owed theorems -/
theorem own_comes (H : ∀ (l : Launch) (s : State) (args : Array Value), Fit s → (∀ d ∈ tables_1, d.before args s = true) → (∀ d ∈ jdkStatics_1, d.before args s = true) → given_1.value args s none s [] = some true → narrow_1.value args s none s [] = some true → own_Met l s s.heap tables_1 room_1 x code maxLocals ret args (fun v h L => v = some (.int 1) ∧ Fr s.heap.size L))
    {Post : Tables → Env → Array Value → State → Outcome → State → Prop} (hpost : ∀ tb e args s v u, (limb_1_1.after args s (.returned v) u = true ∧ limb_1_2.after args s (.returned v) u = true) → FrameEnd s (.returned v) u (Jvm.fieldLocs frame_1_writes args s ++ Jvm.arrayLocs frame_1_arrays args s ++ Jvm.staticLocs frame_1_statics s) 16 128 → Post tb e args s (.returned v) u) :
    ArmFor flags0 classFile x code maxLocals ret World_1 tables_1 room_1 Calls_1 rest_1 Pre_1 Post := by
  intro l hfl _ _ p e ha hc hk s m args below hf hA hF happ hP
  obtain ⟨hcalls, hrest, hpre⟩ := hP
  obtain ⟨-, -, -, hnamed, -, -, -, hat⟩ := (Spec.applies_iff hf).mp happ
  obtain ⟨hg, hn⟩ := and_e (Cond.before_iff.mp (show (Jvm.Cond.and given_1 narrow_1).before args s = true from hpre))
  have hw := fun d (hd : d ∈ tables_1) => atoms_spec (ws := Jvm.Cond.code x code maxLocals ret :: tables_1) hat d (List.mem_cons_of_mem _ hd)
  have hfit : Fit s := fun {y c} hc i hi => by
    obtain ⟨ha, rfl⟩ := Array.getElem?_eq_some_iff.mp hc
    have q := List.all_eq_true.mp ((Array.all_eq_true_iff_forall_mem.mp hF) _ (Array.getElem_mem ha)) i (List.mem_range.mpr hi)
    simpa [Array.getElem?_eq_getElem hi] using q
  obtain ⟨hsets, hown0⟩ := atoms_of _ (rest_1_c_eq ▸ (show rest_1_c.before _ s = true from hrest))
  obtain ⟨n, o, h1, h2, h3, _, L, rfl, ⟨rfl, N⟩, hq⟩ := H l s args hfit hw hsets hg hn p e ha hc hk s m args below hf ((Spec.applies_iff_loose hf).mp happ).1 ⟨rfl, State.Warmed39.refl s, rfl⟩ trivial
  exact ⟨n, _, h1, h2, h3, hpost _ _ _ _ _ _ ⟨Cond.after_iff.mpr rfl, Cond.after_iff.mpr (eq_i res_at (Term.int_eval (1)) rfl)⟩ ⟨hq.1, hq.2.1, (hq.2.2.sift fun y hy => Or.inr (N y hy)).mono (by decide) (by decide)⟩⟩
set_option maxRecDepth 65536 in
theorem own_law (l : Launch) (s : State) (args : Array Value) (hfit : Fit s) (hw : ∀ d ∈ tables_1, d.before args s = true) (hsets : ∀ d ∈ jdkStatics_1, d.before args s = true) (hg : given_1.value args s none s [] = some true) (hn : narrow_1.value args s none s [] = some true) :
    own_Met l s s.heap tables_1 room_1 x code maxLocals ret args (fun v h L => v = some (.int 1) ∧ Fr s.heap.size L) := by
  obtain ⟨i, rfl⟩ := own_args1 (k := 0) hg
  obtain ⟨n0a, n0b⟩ := and_e hn
  obtain ⟨n1a, n1b⟩ := and_e n0b
  obtain ⟨n2a, n2b⟩ := and_e n1b
  obtain ⟨n3a, n3b⟩ := and_e n2b
  obtain ⟨n4a, n4b⟩ := and_e n3b
  obtain ⟨n5a, n5b⟩ := and_e n4b
  obtain ⟨n6a, n6b⟩ := and_e n5b
  obtain ⟨n7a, n7b⟩ := and_e n6b
  obtain ⟨n8a, n8b⟩ := and_e n7b
  obtain ⟨n9a, n9b⟩ := and_e n8b
  obtain ⟨n10a, n10b⟩ := and_e n9b
  obtain ⟨n11a, n11b⟩ := and_e n10b
  obtain ⟨n12a, n12b⟩ := and_e n11b
  obtain ⟨n13a, n13b⟩ := and_e n12b
  obtain ⟨n14a, n14b⟩ := and_e n13b
  obtain ⟨n15a, n15b⟩ := and_e n14b
  obtain ⟨n16a, n16b⟩ := and_e n15b
  obtain ⟨n17a, n17b⟩ := and_e n16b
  obtain ⟨n18a, n18b⟩ := and_e n17b
  obtain ⟨n19a, n19b⟩ := and_e n18b
  obtain ⟨n20a, n20b⟩ := and_e n19b
  obtain ⟨n21a, n21b⟩ := and_e n20b
  obtain ⟨n22a, n22b⟩ := and_e n21b
  obtain ⟨n23a, n23b⟩ := and_e n22b
  obtain ⟨n24a, n24b⟩ := and_e n23b
  obtain ⟨n25a, n25b⟩ := and_e n24b
  obtain ⟨n26a, n26b⟩ := and_e n25b
  obtain ⟨n27a, n27b⟩ := and_e n26b
  obtain ⟨n28a, n28b⟩ := and_e n27b
  obtain ⟨a_SHARED, V_SHARED, E_a_SHARED, S_SHARED⟩ := own_sx n0a (hw _ (List.mem_of_getElem? (i := 1) rfl)) (hw _ (List.mem_of_getElem? (i := 2) rfl))
  obtain ⟨a_EXCLUSIVE, V_EXCLUSIVE, E_a_EXCLUSIVE, S_EXCLUSIVE⟩ := own_sx n5a (hw _ (List.mem_of_getElem? (i := 1) rfl)) (hw _ (List.mem_of_getElem? (i := 48) rfl))
  obtain ⟨a_VALUES, cl_VALUES, V_VALUES, A_VALUES, S_VALUES⟩ := own_ax n1a (hw _ (List.mem_of_getElem? (i := 1) rfl)) (hw _ (List.mem_of_getElem? (i := 40) rfl))
  have E_a_VALUES := Exa.start V_VALUES n2a
  obtain ⟨b_S, VB_S⟩ := exa_v n7a
  have E_b_S := Exa.start VB_S n7a
  have F_text_a_SHARED := Fld.start ((fld_at V_SHARED).symm.trans VB_S)
  obtain ⟨b_X, VB_X⟩ := exa_v n11a
  have E_b_X := Exa.start VB_X n11a
  have F_text_a_EXCLUSIVE := Fld.start ((fld_at V_EXCLUSIVE).symm.trans VB_X)
  have F_coder_b_S := own_fi VB_S n8a
  obtain ⟨t_S, VT_S⟩ := arr_v n9a
  obtain ⟨cl_S, A_S⟩ := Arr.start VT_S n9a
  have F_value_b_S := Fld.start ((fld_at VB_S).symm.trans VT_S)
  have F_coder_b_X := own_fi VB_X n12a
  obtain ⟨t_X, VT_X⟩ := arr_v n13a
  obtain ⟨cl_X, A_X⟩ := Arr.start VT_X n13a
  have F_value_b_X := Fld.start ((fld_at VB_X).symm.trans VT_X)
  have Z_VALUES := own_len V_VALUES A_VALUES n3a
  have Y_VALUES_0 := own_elr V_VALUES A_VALUES V_SHARED n4a
  have Y_VALUES_1 := own_elr V_VALUES A_VALUES V_EXCLUSIVE n6a
  have Z_S := own_len VT_S A_S n10a
  have Z_X := own_len VT_X A_X n14a
  have Y_S_0 := own_eli VT_S A_S n15a
  have Y_S_1 := own_eli VT_S A_S n16a
  have Y_S_2 := own_eli VT_S A_S n17a
  have Y_S_3 := own_eli VT_S A_S n18a
  have Y_S_4 := own_eli VT_S A_S n19a
  have Y_S_5 := own_eli VT_S A_S n20a
  have Y_X_0 := own_eli VT_X A_X n21a
  have Y_X_1 := own_eli VT_X A_X n22a
  have Y_X_2 := own_eli VT_X A_X n23a
  have Y_X_3 := own_eli VT_X A_X n24a
  have Y_X_4 := own_eli VT_X A_X n25a
  have Y_X_5 := own_eli VT_X A_X n26a
  have Y_X_6 := own_eli VT_X A_X n27a
  have Y_X_7 := own_eli VT_X A_X n28a
  have Y_X_8 := own_eli VT_X A_X n28b
  have V_a_VALUES : Arh s s.heap a_VALUES cl_VALUES.cls (.object "com/example/staleguard/staleguard/LockMode") (2 : Int32) [] [(.ref a_SHARED), (.ref a_EXCLUSIVE)] .null := Arv.arh (Arv.start hfit A_VALUES (by rw [Z_VALUES]; decide) (by rw [Z_VALUES]; decide) (by decide) rfl ⟨Y_VALUES_0, Y_VALUES_1, trivial⟩)
  have K_b_S : Arv s s.heap t_S cl_S.cls .byte (6 : Int32) ((own_csS.map fun c => c.toInt8.toInt32).map Value.int) (.int (0 : Int32)) := by rw [own_eS]; exact Arv.start hfit A_S (by rw [Z_S]; decide) (by rw [Z_S]; decide) (by decide) rfl ⟨Y_S_0, Y_S_1, Y_S_2, Y_S_3, Y_S_4, Y_S_5, trivial⟩
  have K_b_X : Arv s s.heap t_X cl_X.cls .byte (9 : Int32) ((own_csX.map fun c => c.toInt8.toInt32).map Value.int) (.int (0 : Int32)) := by rw [own_eX]; exact Arv.start hfit A_X (by rw [Z_X]; decide) (by rw [Z_X]; decide) (by decide) rfl ⟨Y_X_0, Y_X_1, Y_X_2, Y_X_3, Y_X_4, Y_X_5, Y_X_6, Y_X_7, Y_X_8, trivial⟩
  obtain ⟨zc, V_CS⟩ := is_v (Cond.before_iff.mp (hsets _ (List.mem_of_getElem? (i := 1) rfl)))
  have S_CS := Sta.start V_CS (Or.inl (hsets _ (List.mem_of_getElem? (i := 0) rfl)))
  have hz := own_nz V_CS (Cond.before_iff.mp (hsets _ (List.mem_of_getElem? (i := 2) rfl)))
  have hE : own_E s s.heap a_SHARED a_EXCLUSIVE a_VALUES cl_VALUES.cls b_S t_S cl_S.cls b_X t_X cl_X.cls zc := ⟨S_SHARED, E_a_SHARED, S_EXCLUSIVE, E_a_EXCLUSIVE, S_VALUES, E_a_VALUES, V_a_VALUES, F_text_a_SHARED, E_b_S, F_value_b_S, F_coder_b_S, K_b_S, F_text_a_EXCLUSIVE, E_b_X, F_value_b_X, F_coder_b_X, K_b_X, S_CS, hz, trivial⟩
  exact (own_lawP l s _ hw s.heap a_SHARED a_EXCLUSIVE a_VALUES cl_VALUES.cls b_S t_S cl_S.cls b_X t_X cl_X.cls zc hE i)
theorem main_1_1 : Claimed_1_1 := own_comes own_law fun _ _ _ _ _ _ h hF => ⟨h.1, hF⟩
theorem main_1_2 : Claimed_1_2 := own_comes own_law fun _ _ _ _ _ _ h hF => ⟨h.2, hF⟩
end Jvm.Pilot.@@N@@
namespace Jvm.Pilot.@@N@@
open Jvm Jvm.ClassFile Sem Op Lib Jvm.Free Jvm.Stand Jvm.Pilot.@@N@@.Jvm.D
/-! MADE BY PROGRAM (witnessworld.py) out of the Statement's table words and the real class files: 22 classes; the members and pool entries that the words name. The judged class is class 1, her method 1. -/
namespace start1
open Jvm.ClassFile
def u (s : String) : CpInfo := .utf8 (stringToUtf16 s)
/-- a pool by its gaps: so many unusable entries, then the entry; so many at the end -/
def gap : Nat → List CpInfo → List CpInfo
  | 0, r => r
  | n + 1, r => .unusable :: gap n r
def poolList (es : List (Nat × CpInfo)) (last : Nat) : List CpInfo := es.foldr (fun e r => gap e.1 (e.2 :: r)) (gap last [])
def pool (es : List (Nat × CpInfo)) (last : Nat) : Array CpInfo := ⟨poolList es last⟩
def fileOf (pool : Array CpInfo) (this : Nat) (attrs : Array Attribute := #[]) (ms : Array MethodInfo := #[]) (fl : Nat := 33) (sup : Nat := 0) (ifs : Array Nat := #[]) (fds : Array FieldInfo := #[]) : ClassFile where
  minorVersion := 0
  majorVersion := 65
  constantPool := pool
  accessFlags := fl
  thisClass := this
  superClass := sup
  interfaces := ifs
  fields := fds
  methods := ms
  attributes := attrs
def plain (name : String) (sup : Option ClassId) : Class where
  name := name
  kind := .ordinary
  loader := none
  accessFlags := 33
  super := sup
  interfaces := #[]
  cf := none
  fields := #[]
  methods := #[]
  instanceTypes := #[]
  staticTypes := #[]
  resolved := #[]
  callSites := []
  init := .initialized
  statics := none
  mirror := none

def pool0 : Array CpInfo := pool [(5, u "<init>"), (0, u "()V"), (1, .class_ 10), (1, u "java/lang/Object"), (85, u "clone"), (0, u "()Ljava/lang/Object;")] 26

def k0c0 : Code := { maxStack := 0, maxLocals := 1, code := object_method_1_code, exceptionTable := #[], attributes := #[] }
def k0m0 : Method := { name := "<init>", desc := "()V", sig := { parameters := [], returnType := none }, accessFlags := 1, code := some k0c0 }
def k0m1 : Method := { name := "clone", desc := "()Ljava/lang/Object;", sig := { parameters := [], returnType := some (.object "java/lang/Object") }, accessFlags := 260, code := none }
/-- java/lang/Object -/
def k0 : Class := { plain "java/lang/Object" none with
  accessFlags := 33
  interfaces := #[]
  cf := some (fileOf pool0 8 #[] #[{ accessFlags := 1, nameIndex := 5, descriptorIndex := 6, attributes := #[] }, { accessFlags := 260, nameIndex := 96, descriptorIndex := 97, attributes := #[] }] 33 0 #[] #[])
  fields := #[]
  methods := #[k0m0, k0m1]
  instanceTypes := #[]
  staticTypes := #[]
  resolved := Array.replicate 124 none
  statics := none }

def pool1 : Array CpInfo := pool [(2, .class_ 4), (1, u "java/lang/Object"), (0, u "<init>"), (0, u "()V"), (0, .fieldref 8 9), (0, .class_ 10), (0, .nameAndType 11 12), (0, u "com/example/staleguard/staleguard/LockMode"), (0, u "EXCLUSIVE"), (0, u "Lcom/example/staleguard/staleguard/LockMode;"), (0, .fieldref 8 14), (0, .nameAndType 15 12), (0, u "SHARED"), (0, .class_ 17), (0, u "java/lang/String"), (0, .methodref 16 19), (0, .nameAndType 5 20), (0, u "([C)V"), (0, .methodref 8 22), (0, .nameAndType 23 24), (0, u "of"), (0, u "(Ljava/lang/String;)Lcom/example/staleguard/staleguard/LockMode;"), (0, .methodref 8 26), (0, .nameAndType 27 28), (0, u "text"), (0, u "()Ljava/lang/String;"), (0, .methodref 16 30), (0, .nameAndType 31 32), (0, u "equals"), (0, u "(Ljava/lang/Object;)Z"), (0, .class_ 34), (0, u "com/example/staleguard/staleguard/LockModeOfPinLaw"), (2, u "law"), (0, u "(I)Z")] 3

def k1m0 : Method := { name := "<init>", desc := "()V", sig := { parameters := [], returnType := none }, accessFlags := 1, code := none }
def k1c1 : Code := { maxStack := 6, maxLocals := 5, code := code, exceptionTable := #[], attributes := #[] }
def k1m1 : Method := { name := "law", desc := "(I)Z", sig := { parameters := [.int], returnType := some .boolean }, accessFlags := 9, code := some k1c1 }
/-- com/example/staleguard/staleguard/LockModeOfPinLaw -/
def k1 : Class := { plain "com/example/staleguard/staleguard/LockModeOfPinLaw" (some 0) with
  accessFlags := 49
  interfaces := #[]
  cf := some (fileOf pool1 33 #[] #[{ accessFlags := 1, nameIndex := 5, descriptorIndex := 6, attributes := #[] }, { accessFlags := 9, nameIndex := 37, descriptorIndex := 38, attributes := #[] }] 49 2 #[] #[])
  fields := #[]
  methods := #[k1m0, k1m1]
  instanceTypes := #[]
  staticTypes := #[]
  resolved := Array.replicate 42 none
  statics := none }

def pool2 : Array CpInfo := pool [(1, .class_ 2), (0, u "java/lang/constant/Constable"), (0, .class_ 4), (0, u "java/lang/Object")] 6

/-- java/lang/constant/Constable -/
def k2 : Class := { plain "java/lang/constant/Constable" (some 0) with
  accessFlags := 1537
  interfaces := #[]
  cf := some (fileOf pool2 1 #[] #[] 1537 3 #[] #[])
  fields := #[]
  methods := #[]
  instanceTypes := #[]
  staticTypes := #[]
  resolved := Array.replicate 11 none
  statics := none }

def pool3 : Array CpInfo := pool [(1, .class_ 2), (0, u "java/lang/Comparable"), (0, .class_ 4), (0, u "java/lang/Object")] 7

/-- java/lang/Comparable -/
def k3 : Class := { plain "java/lang/Comparable" (some 0) with
  accessFlags := 1537
  interfaces := #[]
  cf := some (fileOf pool3 1 #[] #[] 1537 3 #[] #[])
  fields := #[]
  methods := #[]
  instanceTypes := #[]
  staticTypes := #[]
  resolved := Array.replicate 12 none
  statics := none }

def pool4 : Array CpInfo := pool [(1, .class_ 2), (0, u "java/io/Serializable"), (0, .class_ 4), (0, u "java/lang/Object")] 2

/-- java/io/Serializable -/
def k4 : Class := { plain "java/io/Serializable" (some 0) with
  accessFlags := 1537
  interfaces := #[]
  cf := some (fileOf pool4 1 #[] #[] 1537 3 #[] #[])
  fields := #[]
  methods := #[]
  instanceTypes := #[]
  staticTypes := #[]
  resolved := Array.replicate 7 none
  statics := none }

def pool5 : Array CpInfo := pool [(2, .class_ 4), (1, u "java/lang/Enum"), (0, u "name"), (0, u "Ljava/lang/String;"), (2, u "ordinal"), (0, u "I"), (1, .class_ 14), (1, u "java/lang/Object"), (4, u "hash"), (86, .class_ 108), (1, u "java/lang/Enum$EnumDesc"), (2, .class_ 112), (0, u "java/lang/constant/Constable"), (0, .class_ 114), (0, u "java/lang/Comparable"), (0, .class_ 116), (0, u "java/io/Serializable")] 87

/-- java/lang/Enum -/
def k5 : Class := { plain "java/lang/Enum" (some 0) with
  accessFlags := 1057
  interfaces := #[2, 3, 4]
  cf := some (fileOf pool5 2 #[.nestMembers #[106]] #[] 1057 12 #[111, 113, 115] #[{ accessFlags := 18, nameIndex := 5, descriptorIndex := 6, attributes := #[] }, { accessFlags := 18, nameIndex := 9, descriptorIndex := 10, attributes := #[] }, { accessFlags := 2, nameIndex := 19, descriptorIndex := 10, attributes := #[] }])
  fields := #[{ name := "name", type := (.object "java/lang/String"), accessFlags := 18, slot := 0, constantValue := 0 }, { name := "ordinal", type := .int, accessFlags := 18, slot := 1, constantValue := 0 }, { name := "hash", type := .int, accessFlags := 2, slot := 2, constantValue := 0 }]
  methods := #[]
  instanceTypes := #[(.object "java/lang/String"), .int, .int]
  staticTypes := #[]
  resolved := Array.replicate 204 none
  statics := none }

def pool6 : Array CpInfo := pool [(1, .class_ 2), (0, u "com/example/staleguard/staleguard/LockMode"), (2, u "SHARED"), (0, u "Lcom/example/staleguard/staleguard/LockMode;"), (2, u "EXCLUSIVE"), (0, .fieldref 1 11), (0, .nameAndType 12 13), (0, u "$VALUES"), (0, u "[Lcom/example/staleguard/staleguard/LockMode;"), (0, .methodref 15 16), (0, .class_ 13), (0, .nameAndType 17 18), (0, u "clone"), (0, u "()Ljava/lang/Object;"), (1, .class_ 22), (1, u "java/lang/Enum"), (6, .fieldref 1 30), (0, .nameAndType 31 32), (0, u "text"), (0, u "Ljava/lang/String;"), (0, .methodref 1 34), (0, .nameAndType 35 36), (0, u "values"), (0, u "()[Lcom/example/staleguard/staleguard/LockMode;"), (0, .methodref 38 39), (0, .class_ 40), (0, .nameAndType 41 42), (0, u "java/lang/String"), (0, u "equals"), (0, u "(Ljava/lang/Object;)Z"), (23, u "(Ljava/lang/String;)Lcom/example/staleguard/staleguard/LockMode;"), (6, u "()Ljava/lang/String;"), (0, u "of")] 20

def k6c0 : Code := { maxStack := 1, maxLocals := 0, code := prog_15_method_1_code, exceptionTable := #[], attributes := #[] }
def k6m0 : Method := { name := "values", desc := "()[Lcom/example/staleguard/staleguard/LockMode;", sig := { parameters := [], returnType := some (.array (.object "com/example/staleguard/staleguard/LockMode")) }, accessFlags := 9, code := some k6c0 }
def k6c1 : Code := { maxStack := 1, maxLocals := 1, code := prog_15_method_6_code, exceptionTable := #[], attributes := #[] }
def k6m1 : Method := { name := "text", desc := "()Ljava/lang/String;", sig := { parameters := [], returnType := some (.object "java/lang/String") }, accessFlags := 0, code := some k6c1 }
def k6c2 : Code := { maxStack := 3, maxLocals := 5, code := prog_15_method_7_code, exceptionTable := #[], attributes := #[] }
def k6m2 : Method := { name := "of", desc := "(Ljava/lang/String;)Lcom/example/staleguard/staleguard/LockMode;", sig := { parameters := [(.object "java/lang/String")], returnType := some (.object "com/example/staleguard/staleguard/LockMode") }, accessFlags := 8, code := some k6c2 }
/-- com/example/staleguard/staleguard/LockMode -/
def k6 : Class := { plain "com/example/staleguard/staleguard/LockMode" (some 5) with
  accessFlags := 16433
  interfaces := #[]
  cf := some (fileOf pool6 1 #[] #[{ accessFlags := 9, nameIndex := 35, descriptorIndex := 36, attributes := #[] }, { accessFlags := 0, nameIndex := 31, descriptorIndex := 73, attributes := #[] }, { accessFlags := 8, nameIndex := 74, descriptorIndex := 66, attributes := #[] }] 16433 20 #[] #[{ accessFlags := 16409, nameIndex := 5, descriptorIndex := 6, attributes := #[] }, { accessFlags := 16409, nameIndex := 9, descriptorIndex := 6, attributes := #[] }, { accessFlags := 18, nameIndex := 31, descriptorIndex := 32, attributes := #[] }, { accessFlags := 4122, nameIndex := 12, descriptorIndex := 13, attributes := #[] }])
  fields := #[{ name := "SHARED", type := (.object "com/example/staleguard/staleguard/LockMode"), accessFlags := 16409, slot := 0, constantValue := 0 }, { name := "EXCLUSIVE", type := (.object "com/example/staleguard/staleguard/LockMode"), accessFlags := 16409, slot := 1, constantValue := 0 }, { name := "text", type := (.object "java/lang/String"), accessFlags := 18, slot := 3, constantValue := 0 }, { name := "$VALUES", type := (.array (.object "com/example/staleguard/staleguard/LockMode")), accessFlags := 4122, slot := 2, constantValue := 0 }]
  methods := #[k6m0, k6m1, k6m2]
  instanceTypes := #[(.object "java/lang/String"), .int, .int, (.object "java/lang/String")]
  staticTypes := #[(.object "com/example/staleguard/staleguard/LockMode"), (.object "com/example/staleguard/staleguard/LockMode"), (.array (.object "com/example/staleguard/staleguard/LockMode"))]
  resolved := Array.replicate 95 none
  statics := some 0 }

def pool7 : Array CpInfo := pool [(2, .class_ 4), (1, u "java/lang/CharSequence"), (42, .class_ 48), (0, u "java/lang/CharSequence$1CodePointIterator"), (10, .class_ 60), (0, u "java/lang/CharSequence$1CharIterator"), (5, .class_ 67), (0, u "java/lang/Object")] 63

/-- java/lang/CharSequence -/
def k7 : Class := { plain "java/lang/CharSequence" (some 0) with
  accessFlags := 1537
  interfaces := #[]
  cf := some (fileOf pool7 2 #[.nestMembers #[47, 59]] #[] 1537 66 #[] #[])
  fields := #[]
  methods := #[]
  instanceTypes := #[]
  staticTypes := #[]
  resolved := Array.replicate 131 none
  statics := none }

def pool8 : Array CpInfo := pool [(1, .class_ 2), (0, u "java/lang/constant/ConstantDesc"), (0, .class_ 4), (0, u "java/lang/Object")] 32

/-- java/lang/constant/ConstantDesc -/
def k8 : Class := { plain "java/lang/constant/ConstantDesc" (some 0) with
  accessFlags := 1537
  interfaces := #[]
  cf := some (fileOf pool8 1 #[] #[] 1537 3 #[] #[])
  fields := #[]
  methods := #[]
  instanceTypes := #[]
  staticTypes := #[]
  resolved := Array.replicate 37 none
  statics := none }

def pool9 : Array CpInfo := pool [(1, .methodref 2 3), (0, .class_ 4), (0, .nameAndType 5 6), (0, u "java/lang/Object"), (0, u "<init>"), (0, u "()V"), (2, .fieldref 10 11), (0, .class_ 12), (0, .nameAndType 13 14), (0, u "java/lang/String"), (0, u "value"), (0, u "[B"), (0, .fieldref 10 16), (0, .nameAndType 17 18), (0, u "coder"), (0, u "B"), (2, u "hash"), (0, u "I"), (2, u "hashIsZero"), (0, u "Z"), (0, .methodref 10 28), (0, .nameAndType 5 29), (0, u "([CIILjava/lang/Void;)V"), (8, .fieldref 10 39), (0, .nameAndType 40 26), (0, u "COMPACT_STRINGS"), (1, .class_ 44), (1, u "java/lang/StringUTF16"), (0, u "compress"), (1, .methodref 42 48), (0, .nameAndType 49 50), (0, u "coderFromArrayLen"), (0, u "([BI)B"), (56, .class_ 109), (1, u "java/lang/StringLatin1"), (67, .methodref 42 178), (0, .nameAndType 45 179), (0, u "([CII)[B"), (361, .methodref 107 542), (0, .nameAndType 543 544), (0, u "equals"), (0, u "([B[B)Z"), (28, u "(Ljava/lang/Object;)Z"), (1, .class_ 576), (0, u "java/lang/CharSequence"), (22, u "CASE_INSENSITIVE_ORDER"), (0, u "Ljava/util/Comparator;"), (409, u "([C)V"), (90, u "serialPersistentFields"), (0, u "[Ljava/io/ObjectStreamField;"), (0, .class_ 1104), (0, u "java/lang/String$CaseInsensitiveComparator"), (1, .class_ 1107), (0, u "java/io/Serializable"), (0, .class_ 1109), (0, u "java/lang/Comparable"), (0, .class_ 1111), (0, u "java/lang/constant/Constable"), (0, .class_ 1113), (0, u "java/lang/constant/ConstantDesc"), (2, u "serialVersionUID"), (0, u "J"), (3, u "REPL"), (0, u "C"), (2, u "LATIN1"), (1, u "UTF16")] 323

def k9m0 : Method := { name := "<init>", desc := "()V", sig := { parameters := [], returnType := none }, accessFlags := 1, code := none }
def k9c1 : Code := { maxStack := 5, maxLocals := 2, code := jdk_42_method_3_code, exceptionTable := #[], attributes := #[] }
def k9m1 : Method := { name := "<init>", desc := "([C)V", sig := { parameters := [(.array .char)], returnType := none }, accessFlags := 1, code := some k9c1 }
def k9c2 : Code := { maxStack := 2, maxLocals := 3, code := jdk_42_method_66_code, exceptionTable := #[], attributes := #[] }
def k9m2 : Method := { name := "equals", desc := "(Ljava/lang/Object;)Z", sig := { parameters := [(.object "java/lang/Object")], returnType := some .boolean }, accessFlags := 1, code := some k9c2 }
def k9c3 : Code := { maxStack := 4, maxLocals := 6, code := jdk_42_method_149_code, exceptionTable := #[], attributes := #[] }
def k9m3 : Method := { name := "<init>", desc := "([CIILjava/lang/Void;)V", sig := { parameters := [(.array .char), .int, .int, (.object "java/lang/Void")], returnType := none }, accessFlags := 2, code := some k9c3 }
/-- java/lang/String -/
def k9 : Class := { plain "java/lang/String" (some 0) with
  accessFlags := 49
  interfaces := #[4, 3, 7, 2, 8]
  cf := some (fileOf pool9 10 #[.nestMembers #[1103]] #[{ accessFlags := 1, nameIndex := 5, descriptorIndex := 6, attributes := #[] }, { accessFlags := 1, nameIndex := 5, descriptorIndex := 1010, attributes := #[] }, { accessFlags := 1, nameIndex := 543, descriptorIndex := 573, attributes := #[] }, { accessFlags := 2, nameIndex := 5, descriptorIndex := 29, attributes := #[] }] 49 2 #[1106, 1108, 575, 1110, 1112] #[{ accessFlags := 18, nameIndex := 13, descriptorIndex := 14, attributes := #[] }, { accessFlags := 18, nameIndex := 17, descriptorIndex := 18, attributes := #[] }, { accessFlags := 2, nameIndex := 21, descriptorIndex := 22, attributes := #[] }, { accessFlags := 2, nameIndex := 25, descriptorIndex := 26, attributes := #[] }, { accessFlags := 26, nameIndex := 1116, descriptorIndex := 1117, attributes := #[] }, { accessFlags := 24, nameIndex := 40, descriptorIndex := 26, attributes := #[] }, { accessFlags := 26, nameIndex := 1101, descriptorIndex := 1102, attributes := #[] }, { accessFlags := 26, nameIndex := 1121, descriptorIndex := 1122, attributes := #[] }, { accessFlags := 25, nameIndex := 599, descriptorIndex := 600, attributes := #[] }, { accessFlags := 24, nameIndex := 1125, descriptorIndex := 18, attributes := #[] }, { accessFlags := 24, nameIndex := 1127, descriptorIndex := 18, attributes := #[] }])
  fields := #[{ name := "value", type := (.array .byte), accessFlags := 18, slot := 0, constantValue := 0 }, { name := "coder", type := .byte, accessFlags := 18, slot := 1, constantValue := 0 }, { name := "hash", type := .int, accessFlags := 2, slot := 2, constantValue := 0 }, { name := "hashIsZero", type := .boolean, accessFlags := 2, slot := 3, constantValue := 0 }, { name := "serialVersionUID", type := .long, accessFlags := 26, slot := 0, constantValue := 0 }, { name := "COMPACT_STRINGS", type := .boolean, accessFlags := 24, slot := 1, constantValue := 0 }, { name := "serialPersistentFields", type := (.array (.object "java/io/ObjectStreamField")), accessFlags := 26, slot := 2, constantValue := 0 }, { name := "REPL", type := .char, accessFlags := 26, slot := 3, constantValue := 0 }, { name := "CASE_INSENSITIVE_ORDER", type := (.object "java/util/Comparator"), accessFlags := 25, slot := 4, constantValue := 0 }, { name := "LATIN1", type := .byte, accessFlags := 24, slot := 5, constantValue := 0 }, { name := "UTF16", type := .byte, accessFlags := 24, slot := 6, constantValue := 0 }]
  methods := #[k9m0, k9m1, k9m2, k9m3]
  instanceTypes := #[(.array .byte), .byte, .int, .boolean]
  staticTypes := #[.long, .boolean, (.array (.object "java/io/ObjectStreamField")), .char, (.object "java/util/Comparator"), .byte, .byte]
  resolved := Array.replicate 1451 none
  statics := some 1 }

def pool10 : Array CpInfo := pool [(6, .class_ 8), (1, u "java/lang/Object"), (0, u "<init>"), (0, u "()V"), (1, .class_ 14), (1, u "java/lang/StringUTF16"), (31, u "$assertionsDisabled"), (0, u "Z"), (13, u "HI_BYTE_SHIFT"), (0, u "I"), (2, u "LO_BYTE_SHIFT"), (49, .methodref 12 116), (0, .nameAndType 117 118), (0, u "compress"), (0, u "([CI[BII)I"), (3, u "([CII)[B"), (138, u "coderFromArrayLen"), (0, u "([BI)B"), (106, .class_ 371), (1, u "java/lang/StringUTF16$LinesSpliterator"), (58, u "MAX_LENGTH"), (196, .class_ 628), (0, u "java/lang/StringUTF16$CodePointsSpliterator"), (0, .class_ 630), (0, u "java/lang/StringUTF16$CharsSpliterator")] 4

def k10m0 : Method := { name := "<init>", desc := "()V", sig := { parameters := [], returnType := none }, accessFlags := 0, code := none }
def k10c1 : Code := { maxStack := 2, maxLocals := 2, code := jdk_52_method_15_code, exceptionTable := #[], attributes := #[] }
def k10m1 : Method := { name := "coderFromArrayLen", desc := "([BI)B", sig := { parameters := [(.array .byte), .int], returnType := some .byte }, accessFlags := 8, code := some k10c1 }
def k10c2 : Code := { maxStack := 5, maxLocals := 6, code := jdk_52_method_16_code, exceptionTable := #[], attributes := #[] }
def k10m2 : Method := { name := "compress", desc := "([CII)[B", sig := { parameters := [(.array .char), .int, .int], returnType := some (.array .byte) }, accessFlags := 9, code := some k10c2 }
def k10c3 : Code := { maxStack := 3, maxLocals := 7, code := jdk_52_method_21_code, exceptionTable := #[], attributes := #[] }
def k10m3 : Method := { name := "compress", desc := "([CI[BII)I", sig := { parameters := [(.array .char), .int, (.array .byte), .int, .int], returnType := some .int }, accessFlags := 9, code := some k10c3 }
/-- java/lang/StringUTF16 -/
def k10 : Class := { plain "java/lang/StringUTF16" (some 0) with
  accessFlags := 48
  interfaces := #[]
  cf := some (fileOf pool10 12 #[.nestMembers #[627, 629, 369]] #[{ accessFlags := 0, nameIndex := 9, descriptorIndex := 10, attributes := #[] }, { accessFlags := 8, nameIndex := 261, descriptorIndex := 262, attributes := #[] }, { accessFlags := 9, nameIndex := 117, descriptorIndex := 122, attributes := #[] }, { accessFlags := 9, nameIndex := 117, descriptorIndex := 118, attributes := #[] }] 48 6 #[] #[{ accessFlags := 26, nameIndex := 61, descriptorIndex := 62, attributes := #[] }, { accessFlags := 26, nameIndex := 65, descriptorIndex := 62, attributes := #[] }, { accessFlags := 24, nameIndex := 430, descriptorIndex := 62, attributes := #[] }, { accessFlags := 4120, nameIndex := 46, descriptorIndex := 47, attributes := #[] }])
  fields := #[{ name := "HI_BYTE_SHIFT", type := .int, accessFlags := 26, slot := 0, constantValue := 0 }, { name := "LO_BYTE_SHIFT", type := .int, accessFlags := 26, slot := 1, constantValue := 0 }, { name := "MAX_LENGTH", type := .int, accessFlags := 24, slot := 2, constantValue := 0 }, { name := "$assertionsDisabled", type := .boolean, accessFlags := 4120, slot := 3, constantValue := 0 }]
  methods := #[k10m0, k10m1, k10m2, k10m3]
  instanceTypes := #[]
  staticTypes := #[.int, .int, .int, .boolean]
  resolved := Array.replicate 635 none
  statics := none }

def pool11 : Array CpInfo := pool [(1, .class_ 2), (0, u "java/lang/Cloneable"), (0, .class_ 4), (0, u "java/lang/Object")] 2

/-- java/lang/Cloneable -/
def k11 : Class := { plain "java/lang/Cloneable" (some 0) with
  accessFlags := 1537
  interfaces := #[]
  cf := some (fileOf pool11 1 #[] #[] 1537 3 #[] #[])
  fields := #[]
  methods := #[]
  instanceTypes := #[]
  staticTypes := #[]
  resolved := Array.replicate 7 none
  statics := none }

def pool12 : Array CpInfo := pool [(4, .class_ 6), (1, u "java/lang/Object"), (0, u "<init>"), (0, u "()V"), (5, .class_ 16), (1, u "java/lang/StringLatin1"), (104, u "$assertionsDisabled"), (0, u "Z"), (98, .class_ 223), (1, u "java/lang/StringLatin1$LinesSpliterator"), (57, u "equals"), (0, u "([B[B)Z"), (107, .class_ 391), (0, u "java/lang/StringLatin1$CharsSpliterator")] 3

def k12m0 : Method := { name := "<init>", desc := "()V", sig := { parameters := [], returnType := none }, accessFlags := 0, code := none }
def k12c1 : Code := { maxStack := 3, maxLocals := 3, code := jdk_43_method_13_code, exceptionTable := #[], attributes := #[] }
def k12m1 : Method := { name := "equals", desc := "([B[B)Z", sig := { parameters := [(.array .byte), (.array .byte)], returnType := some .boolean }, accessFlags := 9, code := some k12c1 }
/-- java/lang/StringLatin1 -/
def k12 : Class := { plain "java/lang/StringLatin1" (some 0) with
  accessFlags := 48
  interfaces := #[]
  cf := some (fileOf pool12 14 #[.nestMembers #[390, 221]] #[{ accessFlags := 0, nameIndex := 7, descriptorIndex := 8, attributes := #[] }, { accessFlags := 9, nameIndex := 281, descriptorIndex := 282, attributes := #[] }] 48 4 #[] #[{ accessFlags := 4120, nameIndex := 121, descriptorIndex := 122, attributes := #[] }])
  fields := #[{ name := "$assertionsDisabled", type := .boolean, accessFlags := 4120, slot := 0, constantValue := 0 }]
  methods := #[k12m0, k12m1]
  instanceTypes := #[]
  staticTypes := #[.boolean]
  resolved := Array.replicate 395 none
  statics := none }

def pool13 : Array CpInfo := pool [(2, .class_ 4), (1, u "java/lang/Object"), (0, u "<init>"), (0, u "()V"), (17, .class_ 26), (1, u "jdk/internal/util/Preconditions"), (28, .class_ 56), (0, u "jdk/internal/util/Preconditions$4"), (57, .class_ 115), (0, u "jdk/internal/util/Preconditions$1"), (7, u "SIOOBE_FORMATTER"), (0, u "Ljava/util/function/BiFunction;"), (0, .class_ 126), (0, u "jdk/internal/util/Preconditions$2"), (3, u "AIOOBE_FORMATTER"), (0, .class_ 132), (0, u "jdk/internal/util/Preconditions$3"), (3, u "IOOBE_FORMATTER")] 57

def k13m0 : Method := { name := "<init>", desc := "()V", sig := { parameters := [], returnType := none }, accessFlags := 1, code := none }
/-- jdk/internal/util/Preconditions -/
def k13 : Class := { plain "jdk/internal/util/Preconditions" (some 0) with
  accessFlags := 33
  interfaces := #[]
  cf := some (fileOf pool13 24 #[.nestMembers #[55, 131, 125, 114]] #[{ accessFlags := 1, nameIndex := 5, descriptorIndex := 6, attributes := #[] }] 33 2 #[] #[{ accessFlags := 25, nameIndex := 123, descriptorIndex := 124, attributes := #[] }, { accessFlags := 25, nameIndex := 130, descriptorIndex := 124, attributes := #[] }, { accessFlags := 25, nameIndex := 136, descriptorIndex := 124, attributes := #[] }])
  fields := #[{ name := "SIOOBE_FORMATTER", type := (.object "java/util/function/BiFunction"), accessFlags := 25, slot := 0, constantValue := 0 }, { name := "AIOOBE_FORMATTER", type := (.object "java/util/function/BiFunction"), accessFlags := 25, slot := 1, constantValue := 0 }, { name := "IOOBE_FORMATTER", type := (.object "java/util/function/BiFunction"), accessFlags := 25, slot := 2, constantValue := 0 }]
  methods := #[k13m0]
  instanceTypes := #[]
  staticTypes := #[(.object "java/util/function/BiFunction"), (.object "java/util/function/BiFunction"), (.object "java/util/function/BiFunction")]
  resolved := Array.replicate 194 none
  statics := some 2 }

def pool14 : Array CpInfo := pool [(9, u "<init>"), (6, .class_ 18), (1, u "java/lang/Object"), (0, u "()V"), (1, .class_ 23), (1, u "jdk/internal/util/ArraysSupport"), (0, u "LOG2_ARRAY_LONG_INDEX_SCALE"), (0, u "I"), (2, u "U"), (0, u "Ljdk/internal/misc/Unsafe;"), (8, u "BIG_ENDIAN"), (0, u "Z"), (8, u "LOG2_BYTE_BIT_SIZE"), (4, u "LOG2_ARRAY_INT_INDEX_SCALE"), (54, u "JLA"), (0, u "Ljdk/internal/access/JavaLangAccess;"), (11, u "LOG2_ARRAY_BOOLEAN_INDEX_SCALE"), (9, u "LOG2_ARRAY_BYTE_INDEX_SCALE"), (5, u "LOG2_ARRAY_CHAR_INDEX_SCALE"), (5, u "LOG2_ARRAY_SHORT_INDEX_SCALE"), (18, u "LOG2_ARRAY_FLOAT_INDEX_SCALE"), (24, u "LOG2_ARRAY_DOUBLE_INDEX_SCALE"), (89, u "T_BOOLEAN"), (2, u "T_CHAR"), (1, u "T_FLOAT"), (1, u "T_DOUBLE"), (1, u "T_BYTE"), (1, u "T_SHORT"), (1, u "T_INT"), (1, u "T_LONG"), (1, u "SOFT_MAX_ARRAY_LENGTH")] 83

def k14m0 : Method := { name := "<init>", desc := "()V", sig := { parameters := [], returnType := none }, accessFlags := 2, code := none }
/-- jdk/internal/util/ArraysSupport -/
def k14 : Class := { plain "jdk/internal/util/ArraysSupport" (some 0) with
  accessFlags := 33
  interfaces := #[]
  cf := some (fileOf pool14 21 #[] #[{ accessFlags := 2, nameIndex := 9, descriptorIndex := 19, attributes := #[] }] 33 16 #[] #[{ accessFlags := 24, nameIndex := 28, descriptorIndex := 29, attributes := #[] }, { accessFlags := 26, nameIndex := 38, descriptorIndex := 39, attributes := #[] }, { accessFlags := 25, nameIndex := 121, descriptorIndex := 25, attributes := #[] }, { accessFlags := 25, nameIndex := 131, descriptorIndex := 25, attributes := #[] }, { accessFlags := 25, nameIndex := 137, descriptorIndex := 25, attributes := #[] }, { accessFlags := 25, nameIndex := 143, descriptorIndex := 25, attributes := #[] }, { accessFlags := 25, nameIndex := 53, descriptorIndex := 25, attributes := #[] }, { accessFlags := 25, nameIndex := 24, descriptorIndex := 25, attributes := #[] }, { accessFlags := 25, nameIndex := 162, descriptorIndex := 25, attributes := #[] }, { accessFlags := 25, nameIndex := 187, descriptorIndex := 25, attributes := #[] }, { accessFlags := 26, nameIndex := 48, descriptorIndex := 25, attributes := #[] }, { accessFlags := 25, nameIndex := 277, descriptorIndex := 25, attributes := #[] }, { accessFlags := 25, nameIndex := 280, descriptorIndex := 25, attributes := #[] }, { accessFlags := 25, nameIndex := 282, descriptorIndex := 25, attributes := #[] }, { accessFlags := 25, nameIndex := 284, descriptorIndex := 25, attributes := #[] }, { accessFlags := 25, nameIndex := 286, descriptorIndex := 25, attributes := #[] }, { accessFlags := 25, nameIndex := 288, descriptorIndex := 25, attributes := #[] }, { accessFlags := 25, nameIndex := 290, descriptorIndex := 25, attributes := #[] }, { accessFlags := 25, nameIndex := 292, descriptorIndex := 25, attributes := #[] }, { accessFlags := 26, nameIndex := 108, descriptorIndex := 109, attributes := #[] }, { accessFlags := 25, nameIndex := 294, descriptorIndex := 25, attributes := #[] }])
  fields := #[{ name := "U", type := (.object "jdk/internal/misc/Unsafe"), accessFlags := 24, slot := 0, constantValue := 0 }, { name := "BIG_ENDIAN", type := .boolean, accessFlags := 26, slot := 1, constantValue := 0 }, { name := "LOG2_ARRAY_BOOLEAN_INDEX_SCALE", type := .int, accessFlags := 25, slot := 2, constantValue := 0 }, { name := "LOG2_ARRAY_BYTE_INDEX_SCALE", type := .int, accessFlags := 25, slot := 3, constantValue := 0 }, { name := "LOG2_ARRAY_CHAR_INDEX_SCALE", type := .int, accessFlags := 25, slot := 4, constantValue := 0 }, { name := "LOG2_ARRAY_SHORT_INDEX_SCALE", type := .int, accessFlags := 25, slot := 5, constantValue := 0 }, { name := "LOG2_ARRAY_INT_INDEX_SCALE", type := .int, accessFlags := 25, slot := 6, constantValue := 0 }, { name := "LOG2_ARRAY_LONG_INDEX_SCALE", type := .int, accessFlags := 25, slot := 7, constantValue := 0 }, { name := "LOG2_ARRAY_FLOAT_INDEX_SCALE", type := .int, accessFlags := 25, slot := 8, constantValue := 0 }, { name := "LOG2_ARRAY_DOUBLE_INDEX_SCALE", type := .int, accessFlags := 25, slot := 9, constantValue := 0 }, { name := "LOG2_BYTE_BIT_SIZE", type := .int, accessFlags := 26, slot := 10, constantValue := 0 }, { name := "T_BOOLEAN", type := .int, accessFlags := 25, slot := 11, constantValue := 0 }, { name := "T_CHAR", type := .int, accessFlags := 25, slot := 12, constantValue := 0 }, { name := "T_FLOAT", type := .int, accessFlags := 25, slot := 13, constantValue := 0 }, { name := "T_DOUBLE", type := .int, accessFlags := 25, slot := 14, constantValue := 0 }, { name := "T_BYTE", type := .int, accessFlags := 25, slot := 15, constantValue := 0 }, { name := "T_SHORT", type := .int, accessFlags := 25, slot := 16, constantValue := 0 }, { name := "T_INT", type := .int, accessFlags := 25, slot := 17, constantValue := 0 }, { name := "T_LONG", type := .int, accessFlags := 25, slot := 18, constantValue := 0 }, { name := "JLA", type := (.object "jdk/internal/access/JavaLangAccess"), accessFlags := 26, slot := 19, constantValue := 0 }, { name := "SOFT_MAX_ARRAY_LENGTH", type := .int, accessFlags := 25, slot := 20, constantValue := 0 }]
  methods := #[k14m0]
  instanceTypes := #[]
  staticTypes := #[(.object "jdk/internal/misc/Unsafe"), .boolean, .int, .int, .int, .int, .int, .int, .int, .int, .int, .int, .int, .int, .int, .int, .int, .int, .int, (.object "jdk/internal/access/JavaLangAccess"), .int]
  resolved := Array.replicate 378 none
  statics := none }

/-- the primitive byte -/
def k15 : Class := { plain "byte" none with kind := .primitive 'B', accessFlags := 0x411 }
/-- [B -/
def k16 : Class := { plain "[B" (some 0) with kind := .array 15 .byte, interfaces := #[11, 4], accessFlags := 1041 }

/-- the primitive char -/
def k17 : Class := { plain "char" none with kind := .primitive 'C', accessFlags := 0x411 }
/-- [C -/
def k18 : Class := { plain "[C" (some 0) with kind := .array 17 .char, interfaces := #[11, 4], accessFlags := 1041 }

/-- the primitive int -/
def k19 : Class := { plain "int" none with kind := .primitive 'I', accessFlags := 0x411 }
/-- [I -/
def k20 : Class := { plain "[I" (some 0) with kind := .array 19 .int, interfaces := #[11, 4], accessFlags := 1041 }

/-- [Lcom/example/staleguard/staleguard/LockMode; -/
def k21 : Class := { plain "[Lcom/example/staleguard/staleguard/LockMode;" (some 0) with kind := .array 6 (.object "com/example/staleguard/staleguard/LockMode"), interfaces := #[11, 4], accessFlags := 1041 }

def heap : Heap := #[{ cls := 6, slots := #[.ref 4, .ref 5, .ref 3], vm := .statics 6 },
  { cls := 9, slots := #[.long 0, .int 1, .null, .int 0, .null, .int 0, .int 0], vm := .statics 9 },
  { cls := 13, slots := #[.null, .null, .null], vm := .statics 13 },
  { cls := 21, slots := #[.ref 4, .ref 5], vm := .none },
  { cls := 6, slots := #[.null, .int 0, .int 0, .ref 6], vm := .none },
  { cls := 6, slots := #[.null, .int 0, .int 0, .ref 7], vm := .none },
  { cls := 9, slots := #[.ref 8, .int 0, .int 0, .int 0], vm := .none },
  { cls := 9, slots := #[.ref 9, .int 0, .int 0, .int 0], vm := .none },
  { cls := 16, slots := #[.int 115, .int 104, .int 97, .int 114, .int 101, .int 100], vm := .none },
  { cls := 16, slots := #[.int 101, .int 120, .int 99, .int 108, .int 117, .int 115, .int 105, .int 118, .int 101], vm := .none }]
def classes : Array Class := #[k0, k1, k2, k3, k4, k5, k6, k7, k8, k9, k10, k11, k12, k13, k14, k15, k16, k17, k18, k19, k20, k21]
def interned : List (Array UInt16 × Addr) := []
def slotsUsed : Nat := 46
def theMethod : MethodId := ⟨1, 1⟩
def args0 : Array Value := #[.int 5]
def aboutOver (below : List Frame) : State where
  vm := { classes := classes, interned := interned.toArray }
  heap := heap
  slotsUsed := slotsUsed
  threads := #[{ frames := .invoking theMethod args0 :: below }]
def below0 : List Frame := [.native { method := ⟨0, 0⟩, args := #[] }]
def about1 : State := aboutOver below0
def p0 : Program := .bare "" "" ""
def e0 : Env := launch0.env 0 0 0
theorem w_frames : about1.frames = Frame.invoking theMethod args0 :: below0 := rfl
set_option maxRecDepth 65536 in
theorem w_args : argsFit about1.vm theMethod args0 = true := by decide +kernel
set_option maxRecDepth 65536 in
theorem w_heap : heapFits about1 = true := by decide +kernel
set_option maxRecDepth 65536 in
theorem w_runnable : about1.curStatus? = some .runnable := by decide +kernel
set_option maxRecDepth 65536 in
theorem w_alone : about1.alone = true := by decide +kernel
set_option maxRecDepth 65536 in
theorem w_named : about1.methodNamed? x = some theMethod := by decide +kernel
set_option maxRecDepth 65536 in
theorem w_hears : about1.hears theMethod below0 = true := by decide +kernel
set_option maxRecDepth 65536 in
theorem w_ripe : about1.ripe theMethod args0 below0 = true := by decide +kernel
theorem w_running : about1.status = .running := rfl
set_option maxRecDepth 65536 in
theorem w_room : about1.hasRoom e0.platform room_1 = true :=
  launch0.hasRoom_least _ room_1 (by decide +kernel) (by decide +kernel) (by decide +kernel) (by decide +kernel) (by decide +kernel) (by decide +kernel)
theorem allAtoms_all (ts : List Jvm.Cond) (a : Array Jvm.Value) (st : Jvm.State) : (allAtoms ts).before a st = ts.all (fun c => c.before a st) := by
  induction ts with
  | nil => rfl
  | cons c t ih =>
    show (Jvm.Cond.and c (allAtoms t)).before a st = _
    rw [Jvm.Cond.before_and, ih, List.all_cons]
def words1 : List Jvm.Cond := Jvm.Cond.code x code maxLocals ret :: tables_1
/-- a 'code' word, met by the world's own term for the bytes: nothing is compared byte by byte -/
theorem code_word {y : MethodName} {bytes : ByteArray} {mx : Nat} {rt : Option FieldType} {a : Array Value} {s : State} {m : MethodId} {meth : Method} {c : Code} (h1 : s.methodNamed? y = some m) (h2 : s.vm.method? m = some meth) (h3 : meth.code = some c) (h4 : c.code = bytes)
    (h5 : (c.maxLocals == mx && c.exceptionTable.isEmpty && decide (c.maxStack ≤ mostOperands) && decide (meth.sig.returnType = rt) && !meth.locks && decide (parseMethodDescriptor y.desc = some meth.sig)) = true) : (Jvm.Cond.code y bytes mx rt).before a s = true := by
  simp only [Bool.and_eq_true, beq_iff_eq, Bool.not_eq_true', decide_eq_true_eq] at h5
  obtain ⟨⟨⟨⟨⟨g1, g2⟩, g3⟩, g4⟩, g5⟩, g6⟩ := h5
  simp [Cond.before, Cond.holds, Cond.value, h1, h2, h3, h4, g1, g2, g3, g4, g5, g6]
def isCode : Jvm.Cond → Bool
  | .code _ _ _ _ => true
  | _ => false
theorem all_split {L : List Jvm.Cond} {P : Jvm.Cond → Bool} (h1 : L.all (fun c => isCode c || P c) = true) (h2 : ∀ c ∈ L.filter isCode, P c = true) : L.all P = true := by
  refine List.all_eq_true.mpr fun c hc => ?_
  have h := List.all_eq_true.mp h1 c hc
  rcases Bool.eq_false_or_eq_true (isCode c) with hi | hi
  · exact h2 c (List.mem_filter.mpr ⟨hc, hi⟩)
  · simpa [hi] using h
set_option maxRecDepth 65536 in
theorem w_c0 : (Jvm.Cond.code x code maxLocals ret).before args0 about1 = true := code_word (m := ⟨1, 1⟩) (meth := k1m1) (c := k1c1) (by decide +kernel) rfl rfl rfl (by decide +kernel)
set_option maxRecDepth 65536 in
theorem w_c1 : (Jvm.Cond.code ({ cls := "java/lang/String", name := "<init>", desc := "([C)V" } : Jvm.MethodName) jdk_42_method_3_code (2 : Nat) (Option.none : Option Jvm.ClassFile.FieldType)).before args0 about1 = true := code_word (m := ⟨9, 1⟩) (meth := k9m1) (c := k9c1) (by decide +kernel) rfl rfl rfl (by decide +kernel)
set_option maxRecDepth 65536 in
theorem w_c2 : (Jvm.Cond.code ({ cls := "java/lang/String", name := "<init>", desc := "([CIILjava/lang/Void;)V" } : Jvm.MethodName) jdk_42_method_149_code (6 : Nat) (Option.none : Option Jvm.ClassFile.FieldType)).before args0 about1 = true := code_word (m := ⟨9, 3⟩) (meth := k9m3) (c := k9c3) (by decide +kernel) rfl rfl rfl (by decide +kernel)
set_option maxRecDepth 65536 in
theorem w_c3 : (Jvm.Cond.code ({ cls := "java/lang/Object", name := "<init>", desc := "()V" } : Jvm.MethodName) object_method_1_code (1 : Nat) (Option.none : Option Jvm.ClassFile.FieldType)).before args0 about1 = true := code_word (m := ⟨0, 0⟩) (meth := k0m0) (c := k0c0) (by decide +kernel) rfl rfl rfl (by decide +kernel)
set_option maxRecDepth 65536 in
theorem w_c4 : (Jvm.Cond.code ({ cls := "java/lang/StringUTF16", name := "compress", desc := "([CII)[B" } : Jvm.MethodName) jdk_52_method_16_code (6 : Nat) (Option.some (Jvm.ClassFile.FieldType.array Jvm.ClassFile.FieldType.byte))).before args0 about1 = true := code_word (m := ⟨10, 2⟩) (meth := k10m2) (c := k10c2) (by decide +kernel) rfl rfl rfl (by decide +kernel)
set_option maxRecDepth 65536 in
theorem w_c5 : (Jvm.Cond.code ({ cls := "java/lang/StringUTF16", name := "compress", desc := "([CI[BII)I" } : Jvm.MethodName) jdk_52_method_21_code (7 : Nat) (Option.some Jvm.ClassFile.FieldType.int)).before args0 about1 = true := code_word (m := ⟨10, 3⟩) (meth := k10m3) (c := k10c3) (by decide +kernel) rfl rfl rfl (by decide +kernel)
set_option maxRecDepth 65536 in
theorem w_c6 : (Jvm.Cond.code ({ cls := "java/lang/StringUTF16", name := "coderFromArrayLen", desc := "([BI)B" } : Jvm.MethodName) jdk_52_method_15_code (2 : Nat) (Option.some Jvm.ClassFile.FieldType.byte)).before args0 about1 = true := code_word (m := ⟨10, 1⟩) (meth := k10m1) (c := k10c1) (by decide +kernel) rfl rfl rfl (by decide +kernel)
set_option maxRecDepth 65536 in
theorem w_c7 : (Jvm.Cond.code ({ cls := "com/example/staleguard/staleguard/LockMode", name := "of", desc := "(Ljava/lang/String;)Lcom/example/staleguard/staleguard/LockMode;" } : Jvm.MethodName) prog_15_method_7_code (5 : Nat) (Option.some (Jvm.ClassFile.FieldType.object "com/example/staleguard/staleguard/LockMode"))).before args0 about1 = true := code_word (m := ⟨6, 2⟩) (meth := k6m2) (c := k6c2) (by decide +kernel) rfl rfl rfl (by decide +kernel)
set_option maxRecDepth 65536 in
theorem w_c8 : (Jvm.Cond.code ({ cls := "com/example/staleguard/staleguard/LockMode", name := "values", desc := "()[Lcom/example/staleguard/staleguard/LockMode;" } : Jvm.MethodName) prog_15_method_1_code (0 : Nat) (Option.some (Jvm.ClassFile.FieldType.array (Jvm.ClassFile.FieldType.object "com/example/staleguard/staleguard/LockMode")))).before args0 about1 = true := code_word (m := ⟨6, 0⟩) (meth := k6m0) (c := k6c0) (by decide +kernel) rfl rfl rfl (by decide +kernel)
set_option maxRecDepth 65536 in
theorem w_c9 : (Jvm.Cond.code ({ cls := "java/lang/String", name := "equals", desc := "(Ljava/lang/Object;)Z" } : Jvm.MethodName) jdk_42_method_66_code (3 : Nat) (Option.some Jvm.ClassFile.FieldType.boolean)).before args0 about1 = true := code_word (m := ⟨9, 2⟩) (meth := k9m2) (c := k9c2) (by decide +kernel) rfl rfl rfl (by decide +kernel)
set_option maxRecDepth 65536 in
theorem w_c10 : (Jvm.Cond.code ({ cls := "java/lang/StringLatin1", name := "equals", desc := "([B[B)Z" } : Jvm.MethodName) jdk_43_method_13_code (3 : Nat) (Option.some Jvm.ClassFile.FieldType.boolean)).before args0 about1 = true := code_word (m := ⟨12, 1⟩) (meth := k12m1) (c := k12c1) (by decide +kernel) rfl rfl rfl (by decide +kernel)
set_option maxRecDepth 65536 in
theorem w_c11 : (Jvm.Cond.code ({ cls := "com/example/staleguard/staleguard/LockMode", name := "text", desc := "()Ljava/lang/String;" } : Jvm.MethodName) prog_15_method_6_code (1 : Nat) (Option.some (Jvm.ClassFile.FieldType.object "java/lang/String"))).before args0 about1 = true := code_word (m := ⟨6, 1⟩) (meth := k6m1) (c := k6c1) (by decide +kernel) rfl rfl rfl (by decide +kernel)
def codes1 : List Jvm.Cond := [Jvm.Cond.code x code maxLocals ret, Jvm.Cond.code ({ cls := "java/lang/String", name := "<init>", desc := "([C)V" } : Jvm.MethodName) jdk_42_method_3_code (2 : Nat) (Option.none : Option Jvm.ClassFile.FieldType), Jvm.Cond.code ({ cls := "java/lang/String", name := "<init>", desc := "([CIILjava/lang/Void;)V" } : Jvm.MethodName) jdk_42_method_149_code (6 : Nat) (Option.none : Option Jvm.ClassFile.FieldType), Jvm.Cond.code ({ cls := "java/lang/Object", name := "<init>", desc := "()V" } : Jvm.MethodName) object_method_1_code (1 : Nat) (Option.none : Option Jvm.ClassFile.FieldType), Jvm.Cond.code ({ cls := "java/lang/StringUTF16", name := "compress", desc := "([CII)[B" } : Jvm.MethodName) jdk_52_method_16_code (6 : Nat) (Option.some (Jvm.ClassFile.FieldType.array Jvm.ClassFile.FieldType.byte)), Jvm.Cond.code ({ cls := "java/lang/StringUTF16", name := "compress", desc := "([CI[BII)I" } : Jvm.MethodName) jdk_52_method_21_code (7 : Nat) (Option.some Jvm.ClassFile.FieldType.int), Jvm.Cond.code ({ cls := "java/lang/StringUTF16", name := "coderFromArrayLen", desc := "([BI)B" } : Jvm.MethodName) jdk_52_method_15_code (2 : Nat) (Option.some Jvm.ClassFile.FieldType.byte), Jvm.Cond.code ({ cls := "com/example/staleguard/staleguard/LockMode", name := "of", desc := "(Ljava/lang/String;)Lcom/example/staleguard/staleguard/LockMode;" } : Jvm.MethodName) prog_15_method_7_code (5 : Nat) (Option.some (Jvm.ClassFile.FieldType.object "com/example/staleguard/staleguard/LockMode")), Jvm.Cond.code ({ cls := "com/example/staleguard/staleguard/LockMode", name := "values", desc := "()[Lcom/example/staleguard/staleguard/LockMode;" } : Jvm.MethodName) prog_15_method_1_code (0 : Nat) (Option.some (Jvm.ClassFile.FieldType.array (Jvm.ClassFile.FieldType.object "com/example/staleguard/staleguard/LockMode"))), Jvm.Cond.code ({ cls := "java/lang/String", name := "equals", desc := "(Ljava/lang/Object;)Z" } : Jvm.MethodName) jdk_42_method_66_code (3 : Nat) (Option.some Jvm.ClassFile.FieldType.boolean), Jvm.Cond.code ({ cls := "java/lang/StringLatin1", name := "equals", desc := "([B[B)Z" } : Jvm.MethodName) jdk_43_method_13_code (3 : Nat) (Option.some Jvm.ClassFile.FieldType.boolean), Jvm.Cond.code ({ cls := "com/example/staleguard/staleguard/LockMode", name := "text", desc := "()Ljava/lang/String;" } : Jvm.MethodName) prog_15_method_6_code (1 : Nat) (Option.some (Jvm.ClassFile.FieldType.object "java/lang/String"))]
set_option maxRecDepth 65536 in
theorem codes_eq : words1.filter isCode = codes1 := rfl
theorem w_codes : ∀ c ∈ words1.filter isCode, c.before args0 about1 = true := by
  rw [codes_eq]
  intro c hc
  simp only [codes1, List.mem_cons, List.not_mem_nil, or_false] at hc
  rcases hc with rfl | rfl | rfl | rfl | rfl | rfl | rfl | rfl | rfl | rfl | rfl | rfl
  · exact w_c0
  · exact w_c1
  · exact w_c2
  · exact w_c3
  · exact w_c4
  · exact w_c5
  · exact w_c6
  · exact w_c7
  · exact w_c8
  · exact w_c9
  · exact w_c10
  · exact w_c11
set_option maxRecDepth 65536 in
theorem w_t1 : (words1.take 24).all (fun c => isCode c || c.before args0 about1) = true := by decide +kernel
set_option maxRecDepth 65536 in
theorem w_t2 : ((words1.drop 24).take 24).all (fun c => isCode c || c.before args0 about1) = true := by decide +kernel
set_option maxRecDepth 65536 in
theorem w_t3 : ((words1.drop 24).drop 24).all (fun c => isCode c || c.before args0 about1) = true := by decide +kernel
theorem w_tables : (allAtoms (Jvm.Cond.code x code maxLocals ret :: tables_1)).before args0 about1 = true := by
  rw [allAtoms_all]
  show words1.all (fun c => c.before args0 about1) = true
  refine all_split ?_ w_codes
  rw [← List.take_append_drop 24 words1, List.all_append, w_t1, ← List.take_append_drop 24 (words1.drop 24), List.all_append, w_t2, w_t3]
  rfl
set_option maxRecDepth 65536 in
theorem w_rest : rest_1_c.before args0 about1 = true := by decide +kernel
set_option maxRecDepth 65536 in
theorem w_case : (Jvm.Cond.and given_1 narrow_1).before args0 about1 = true := by decide +kernel
theorem w_applies : (headSpec (Jvm.Cond.code x code maxLocals ret :: tables_1) room_1).applies x e0.platform about1 = true :=
  (Spec.applies_iff w_frames).mpr ⟨w_running, w_runnable, w_alone, w_named, w_hears, w_ripe, w_room, w_tables⟩
theorem atStart : AtStart classFile x code maxLocals ret World_1 tables_1 room_1 Calls_1 rest_1 Pre_1 launch0 p0 e0 about1 theMethod args0 below0 :=
  ⟨lists_1, trivial, launch0.admits_env _ _ _, launch0.least_env, fairChoices_fair.cas, fairChoices_fair.clock, w_frames, w_args, w_heap, w_applies, trivial, w_rest, w_case⟩
end start1
theorem witness_1 : WitnessClaimed_1 := ⟨start1.p0, start1.e0, start1.about1, start1.theMethod, start1.args0, start1.below0, start1.atStart⟩
end Jvm.Pilot.@@N@@
