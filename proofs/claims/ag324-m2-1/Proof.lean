import JvmDerived
import JvmDerived.Pilot.@@N@@Statement
import JvmDerived.Pilot.@@N@@Code
set_option linter.unusedVariables false
set_option linter.unusedSimpArgs false
/- laws to paste: Road.backV, Road.eqW, Road.chN, Road.codOf, pair_says (cut by pick.py; bodies as the Statement names them) -/
namespace Jvm.Pilot.@@N@@
namespace StrChars
open Jvm Sem ClassFile Op Lib Jvm.Stand Jvm.Free.XT Jvm.Free.ALB Jvm.Free.JM Jvm.Free
open Jvm.Lib.Cold (StaticIs)
/-- a char array whose places are chars -/
def Ch (a : Addr) (A : Cell) (U : State) : Prop := Arr .char a A U ∧ Typed .char A
theorem Ch.mv {a : Addr} {A : Cell} {U U' : State} (h : Ch a A U) (hal : U.vm.Alike U'.vm) (hh : U'.heap = U.heap) : Ch a A U' := ⟨h.1.mv hal hh, h.2⟩
theorem Ch.keep {a : Addr} {A : Cell} {U U' : State} (h : Ch a A U) (hal : U.vm.Alike U'.vm) (hk : U'.heap[a]? = some A) : Ch a A U' := ⟨h.1.keep hal hk, h.2⟩
/-- what place i of a char[]'s cell holds -/
def cv (A : Cell) (i : Nat) : Int32 := match A.slots[i]? with | some (.int x) => x | _ => 0
theorem Ch.get {a : Addr} {A : Cell} {U : State} (h : Ch a A U) {i : Nat} (hi : i < A.slots.size) : A.slots[i]? = some (.int (cv A i)) := by
  have e := Array.getElem?_eq_getElem hi
  have f := h.2 i _ e
  unfold cv; rw [e]
  generalize A.slots[i] = v at f
  cases v <;> simp [fits] at f ⊢
/-- the byte that i2b leaves of a char -/
def lo8 (x : Int32) : Int32 := x.toInt8.toInt32
theorem fits_lo8 (y : Int32) : fits .byte (.int (lo8 y)) = true := by
  have h1 := y.toInt8.le_toInt
  have h2 := y.toInt8.toInt_lt
  simp only [lo8, fits, Bool.and_eq_true, decide_eq_true_eq, Int32.le_iff_toInt_le, Int8.toInt_toInt32, show (-128 : Int32).toInt = -128 from by decide, show (127 : Int32).toInt = 127 from by decide]
  omega
/-- A' is A but that each place j of lo .. hi - 1 holds f j -/
def Laid (A A' : Cell) (lo hi : Nat) (f : Nat → Value) : Prop := A'.cls = A.cls ∧ A'.vm = A.vm ∧ A'.slots.size = A.slots.size ∧ ∀ i, A'.slots[i]? = if lo ≤ i ∧ i < hi then some (f i) else A.slots[i]?
theorem Laid.zero (A : Cell) (lo : Nat) (f : Nat → Value) : Laid A A lo (lo + 0) f := ⟨rfl, rfl, rfl, fun i => by rw [if_neg (by omega)]⟩
theorem Laid.step {A Ak : Cell} {lo k : Nat} {f : Nat → Value} {v : Value} (h : Laid A Ak lo k f) (hlo : lo ≤ k) (hk : k < Ak.slots.size) (hv : v = f k) : Laid A (Ak.setSlot k v) lo (k + 1) f := by
  refine ⟨h.1, h.2.1, by simpa [Cell.setSlot] using h.2.2.1, fun i => ?_⟩
  by_cases e : k = i
  · subst e; rw [Cell.slots_setSlot_self v hk, if_pos (by omega), hv]
  · rw [Cell.slots_setSlot_ne v e, h.2.2.2 i]
    by_cases q : lo ≤ i ∧ i < k
    · rw [if_pos q, if_pos (by omega)]
    · rw [if_neg q, if_neg (by omega)]
def U16 : String := "java/lang/StringUTF16"
namespace Cmp5
def yN : MethodName := ⟨"java/lang/StringUTF16", "compress", "([CI[BII)I"⟩
abbrev yB : ByteArray := jdk_52_method_21_code
theorem d0 : decode yB 0 = .ok (.iconst 0, 1) := by decide +kernel
theorem d1 : decode yB 1 = .ok (.istore 5, 2) := by decide +kernel
theorem d3 : decode yB 3 = .ok (.iload 5, 2) := by decide +kernel
theorem d5 : decode yB 5 = .ok (.iload 4, 2) := by decide +kernel
theorem d7 : decode yB 7 = .ok (.if_icmp (.ge) 37, 3) := by decide +kernel
theorem d10 : decode yB 10 = .ok (.aload_n 0, 1) := by decide +kernel
theorem d11 : decode yB 11 = .ok (.iload_n 1, 1) := by decide +kernel
theorem d12 : decode yB 12 = .ok (.caload, 1) := by decide +kernel
theorem d13 : decode yB 13 = .ok (.istore 6, 2) := by decide +kernel
theorem d15 : decode yB 15 = .ok (.iload 6, 2) := by decide +kernel
theorem d17 : decode yB 17 = .ok (.sipush 255, 3) := by decide +kernel
theorem d20 : decode yB 20 = .ok (.if_icmp (.le) 6, 3) := by decide +kernel
theorem d26 : decode yB 26 = .ok (.aload_n 2, 1) := by decide +kernel
theorem d27 : decode yB 27 = .ok (.iload_n 3, 1) := by decide +kernel
theorem d28 : decode yB 28 = .ok (.iload 6, 2) := by decide +kernel
theorem d30 : decode yB 30 = .ok (.i2b, 1) := by decide +kernel
theorem d31 : decode yB 31 = .ok (.bastore, 1) := by decide +kernel
theorem d32 : decode yB 32 = .ok (.iinc 1 1, 3) := by decide +kernel
theorem d35 : decode yB 35 = .ok (.iinc 3 1, 3) := by decide +kernel
theorem d38 : decode yB 38 = .ok (.iinc 5 1, 3) := by decide +kernel
theorem d41 : decode yB 41 = .ok (.goto (-38), 3) := by decide +kernel
theorem d44 : decode yB 44 = .ok (.iload 4, 2) := by decide +kernel
theorem d46 : decode yB 46 = .ok (.ireturn, 1) := by decide +kernel
def site : List Cond := []
def tab : Cond := tabOf yN yB 7 (some .int) site
def P (b : Addr) (A : Cell) (d : Addr) (B : Cell) (o q len : Nat) (args : Array Value) (s : State) : Prop := args = #[.ref b, .int (Int32.ofNat o), .ref d, .int (Int32.ofNat q), .int (Int32.ofNat len)] ∧ Ch b A s ∧ Arr .byte d B s ∧ b ≠ d ∧ o + len ≤ A.slots.size ∧ q + len ≤ B.slots.size ∧ ∀ i, i < len → ¬ 255 < cv A (o + i)
def E (b : Addr) (A : Cell) (d : Addr) (B : Cell) (o q len : Nat) (r : Option Value) (s u : State) : Prop := r = some (.int (Int32.ofNat len)) ∧ ∃ B', Put d B' s u ∧ Laid B B' q (q + len) (fun j => Value.int (lo8 (cv A (o + (j - q)))))
/-- no char of the range above 255: len; the places written hold each char's low byte -/
theorem law (l : Launch) (b : Addr) (A : Cell) (d : Addr) (B : Cell) (o q len : Nat) : Law l yN 5 5 0 0 yB 7 (some .int) site (P b A d B o q len) (E b A d B o q len) (copyLocs d q len) 0 0 := by
  refine Law.of_walk (plainFor_of_name (by decide +kernel)) (by decide +kernel) (by decide +kernel) (by decide) (fun _ _ h => by rw [h.1]; rfl) (fun _ U U' hal hh h => ⟨h.1, h.2.1.mv hal hh, h.2.2.1.mv hal hh, h.2.2.2⟩) (fun r U U' V V' h1 hal h2 h => ⟨h.1, h.2.elim fun B' q => ⟨B', q.1.mv h1 h2, q.2⟩⟩) ?_
  intro p e s m args below meth c s₁ X0 hexec hbytes hml hret hlk hnm hown hh0 W hP
  obtain ⟨rfl, hA, hB, hne, l1, l2, hp⟩ := hP
  have c1 : Steps p.tables e below (s₁.setTop (entryFrame m #[.ref b, .int (Int32.ofNat o), .ref d, .int (Int32.ofNat q), .int (Int32.ofNat len)] 7)) (s₁.setTop (mkF m 0 #[.val (.ref b), .val (.int (Int32.ofNat o)), .val (.ref d), .val (.int (Int32.ofNat q)), .val (.int (Int32.ofNat len)), .unset, .unset] [])) := entry rfl
  have hA0 := hA.1.mv X0.warmed.alike hh0
  have hB0 := hB.mv X0.warmed.alike hh0
  have a31 := hA.1.2.2.2
  have c2 : Steps p.tables e below (s₁.setTop (entryFrame m #[.ref b, .int (Int32.ofNat o), .ref d, .int (Int32.ofNat q), .int (Int32.ofNat len)] 7)) (s₁.setTop (mkF m 3 #[.val (.ref b), .val (.int (Int32.ofNat o)), .val (.ref d), .val (.int (Int32.ofNat q)), .val (.int (Int32.ofNat len)), .val (.int 0), .unset] [])) := c1.trans (by
    refine iconstV X0.here hexec rfl 0 (hb hbytes d0) (by decide) ?_
    refine XS.istore X0.here hexec rfl (hb hbytes d1) rfl rfl ?_
    exact Steps.refl _)
  have loop : ∀ (r i : Nat), i + r = len → ∀ (z : Slot), (z = .unset ∨ ∃ w, z = .val w ∧ w.category = 1) → ∀ (Tl : State) (Bk : Cell), Stand p l e { frames := 0, locals := 0, cells := 0, slots := 0 } s m #[.ref b, .int (Int32.ofNat o), .ref d, .int (Int32.ofNat q), .int (Int32.ofNat len)] below meth c Tl ([] ++ copyLocs d q i) 0 0 → Put d Bk s₁ Tl → Laid B Bk q (q + i) (fun j => Value.int (lo8 (cv A (o + (j - q))))) →
      Steps p.tables e below (s₁.setTop (entryFrame m #[.ref b, .int (Int32.ofNat o), .ref d, .int (Int32.ofNat q), .int (Int32.ofNat len)] 7)) (Tl.setTop (mkF m 3 #[.val (.ref b), .val (.int (Int32.ofNat (o + i))), .val (.ref d), .val (.int (Int32.ofNat (q + i))), .val (.int (Int32.ofNat len)), .val (.int (Int32.ofNat i)), z] [])) → ∃ (T' : State) (B' : Cell) (z' : Slot), Stand p l e { frames := 0, locals := 0, cells := 0, slots := 0 } s m #[.ref b, .int (Int32.ofNat o), .ref d, .int (Int32.ofNat q), .int (Int32.ofNat len)] below meth c T' ([] ++ copyLocs d q len) 0 0 ∧ Put d B' s₁ T' ∧ Laid B B' q (q + len) (fun j => Value.int (lo8 (cv A (o + (j - q))))) ∧
      Steps p.tables e below (s₁.setTop (entryFrame m #[.ref b, .int (Int32.ofNat o), .ref d, .int (Int32.ofNat q), .int (Int32.ofNat len)] 7)) (T'.setTop (mkF m 3 #[.val (.ref b), .val (.int (Int32.ofNat (o + len))), .val (.ref d), .val (.int (Int32.ofNat (q + len))), .val (.int (Int32.ofNat len)), .val (.int (Int32.ofNat len)), z'] [])) := by
    intro r
    induction r with
    | zero =>
      intro i hi z hz Tl Bk Xl pl fl cl
      have hil : i = len := by omega
      rw [hil] at Xl fl cl
      exact ⟨Tl, Bk, z, Xl, pl, fl, cl⟩
    | succ r ih =>
      intro i hi z hz Tl Bk Xl pl fl cl
      have all := X0.warmed.alike.symm.trans Xl.warmed.alike
      have hAl := hA0.keep all (pl.other hne hA0.1)
      have hBk := hB0.like all pl.1 fl.1 fl.2.1 fl.2.2.1
      have hlt : q + i < Bk.slots.size := by rw [fl.2.2.1]; omega
      have c3 : Steps p.tables e below (s₁.setTop (entryFrame m #[.ref b, .int (Int32.ofNat o), .ref d, .int (Int32.ofNat q), .int (Int32.ofNat len)] 7)) (Tl.setTop (mkF m 12 #[.val (.ref b), .val (.int (Int32.ofNat (o + i))), .val (.ref d), .val (.int (Int32.ofNat (q + i))), .val (.int (Int32.ofNat len)), .val (.int (Int32.ofNat i)), z] [.int (Int32.ofNat (o + i)), .ref b])) := cl.trans (by
        refine XS.iload Xl.here hexec rfl (hb hbytes d3) rfl ?_
        refine XS.iload Xl.here hexec rfl (hb hbytes d5) rfl ?_
        refine XS.icmpNo Xl.here hexec rfl (hb hbytes d7) rfl (ii_ge_f (lt32 (by omega) (by omega))) ?_
        refine XS.aloadN Xl.here hexec rfl (hb hbytes d10) rfl rfl ?_
        refine XS.iloadN Xl.here hexec rfl (hb hbytes d11) rfl ?_
        exact Steps.refl _)
      have c4 : Steps p.tables e below (s₁.setTop (entryFrame m #[.ref b, .int (Int32.ofNat o), .ref d, .int (Int32.ofNat q), .int (Int32.ofNat len)] 7)) (Tl.setTop (mkF m 13 #[.val (.ref b), .val (.int (Int32.ofNat (o + i))), .val (.ref d), .val (.int (Int32.ofNat (q + i))), .val (.int (Int32.ofNat len)), .val (.int (Int32.ofNat i)), z] [.int (cv A (o + i))])) := c3.trans (by
        refine Xl.aget hexec hAl rfl (hA.get (i := o + i) (by omega)) rfl rfl (hb hbytes d12) ?_
        exact Steps.refl _)
      have c5 : Steps p.tables e below (s₁.setTop (entryFrame m #[.ref b, .int (Int32.ofNat o), .ref d, .int (Int32.ofNat q), .int (Int32.ofNat len)] 7)) (Tl.setTop (mkF m 15 #[.val (.ref b), .val (.int (Int32.ofNat (o + i))), .val (.ref d), .val (.int (Int32.ofNat (q + i))), .val (.int (Int32.ofNat len)), .val (.int (Int32.ofNat i)), .val (.int (cv A (o + i)))] [])) := c4.trans (by
        refine XS.istoreS Xl.here hexec rfl (hb hbytes d13) rfl rfl hz ?_
        exact Steps.refl _)
      have c6 : Steps p.tables e below (s₁.setTop (entryFrame m #[.ref b, .int (Int32.ofNat o), .ref d, .int (Int32.ofNat q), .int (Int32.ofNat len)] 7)) (Tl.setTop (mkF m 31 #[.val (.ref b), .val (.int (Int32.ofNat (o + i))), .val (.ref d), .val (.int (Int32.ofNat (q + i))), .val (.int (Int32.ofNat len)), .val (.int (Int32.ofNat i)), .val (.int (cv A (o + i)))] [.int (lo8 (cv A (o + i))), .int (Int32.ofNat (q + i)), .ref d])) := c5.trans (by
        refine XS.iload Xl.here hexec rfl (hb hbytes d15) rfl ?_
        refine sipushV Xl.here hexec rfl 255 (hb hbytes d17) (by decide) ?_
        refine XS.icmpYes Xl.here hexec rfl (pc0 := 20) rfl (hb hbytes d20) rfl (ii_le_t (hp i (by omega))) (by decide) rfl ?_
        refine XS.aloadN Xl.here hexec rfl (hb hbytes d26) rfl rfl ?_
        refine XS.iloadN Xl.here hexec rfl (hb hbytes d27) rfl ?_
        refine XS.iload Xl.here hexec rfl (hb hbytes d28) rfl ?_
        refine i2b Xl.here hexec rfl (hb hbytes d30) rfl ?_
        exact Steps.refl _)
      obtain ⟨T7, X7, p7, st7⟩ := Xl.aput hexec hBk rfl hlt rfl (fits_lo8 (cv A (o + i))) (g := (mkF m 31 #[.val (.ref b), .val (.int (Int32.ofNat (o + i))), .val (.ref d), .val (.int (Int32.ofNat (q + i))), .val (.int (Int32.ofNat len)), .val (.int (Int32.ofNat i)), .val (.int (cv A (o + i)))] [.int (lo8 (cv A (o + i))), .int (Int32.ofNat (q + i)), .ref d])) rfl (rest := []) rfl (hb hbytes d31)
      have c8 : Steps p.tables e below (s₁.setTop (entryFrame m #[.ref b, .int (Int32.ofNat o), .ref d, .int (Int32.ofNat q), .int (Int32.ofNat len)] 7)) (T7.setTop (mkF m 32 #[.val (.ref b), .val (.int (Int32.ofNat (o + i))), .val (.ref d), .val (.int (Int32.ofNat (q + i))), .val (.int (Int32.ofNat len)), .val (.int (Int32.ofNat i)), .val (.int (cv A (o + i)))] [])) := c6.trans (st7 _ (Steps.refl _))
      have c9 : Steps p.tables e below (s₁.setTop (entryFrame m #[.ref b, .int (Int32.ofNat o), .ref d, .int (Int32.ofNat q), .int (Int32.ofNat len)] 7)) (T7.setTop (mkF m 3 #[.val (.ref b), .val (.int (Int32.ofNat (o + i) + 1)), .val (.ref d), .val (.int (Int32.ofNat (q + i) + 1)), .val (.int (Int32.ofNat len)), .val (.int (Int32.ofNat i + 1)), .val (.int (cv A (o + i)))] [])) := c8.trans (by
        refine iincV X7.here hexec rfl 1 (hb hbytes d32) (by decide) rfl rfl ?_
        refine iincV X7.here hexec rfl 1 (hb hbytes d35) (by decide) rfl rfl ?_
        refine iincV X7.here hexec rfl 1 (hb hbytes d38) (by decide) rfl rfl ?_
        refine XS.goto X7.here hexec rfl (pc0 := 41) rfl (hb hbytes d41) (by decide) rfl ?_
        exact Steps.refl _)
      have c10 : Steps p.tables e below (s₁.setTop (entryFrame m #[.ref b, .int (Int32.ofNat o), .ref d, .int (Int32.ofNat q), .int (Int32.ofNat len)] 7)) (T7.setTop (mkF m 3 #[.val (.ref b), .val (.int (Int32.ofNat (o + (i + 1)))), .val (.ref d), .val (.int (Int32.ofNat (q + (i + 1)))), .val (.int (Int32.ofNat len)), .val (.int (Int32.ofNat (i + 1))), .val (.int (cv A (o + i)))] [])) := by
        have := c9
        rw [succ32, succ32, succ32] at this
        exact this
      exact ih (i + 1) (by omega) _ (Or.inr ⟨_, rfl, rfl⟩) T7 _ (by rw [copyLocs_step, ← List.append_assoc]; exact X7) (pl.trans p7) (fl.step (by omega) hlt (by simp)) c10
  obtain ⟨T9, B9, z9, X9, p9, f9, g9⟩ := loop len 0 (by omega) .unset (Or.inl rfl) s₁ B (by simpa [copyLocs] using X0) ⟨hB0.1, fun _ _ => rfl, rfl⟩ (Laid.zero _ _ _) c2
  have c11 : Steps p.tables e below (s₁.setTop (entryFrame m #[.ref b, .int (Int32.ofNat o), .ref d, .int (Int32.ofNat q), .int (Int32.ofNat len)] 7)) (T9.setTop (mkF m 46 #[.val (.ref b), .val (.int (Int32.ofNat (o + len))), .val (.ref d), .val (.int (Int32.ofNat (q + len))), .val (.int (Int32.ofNat len)), .val (.int (Int32.ofNat len)), z9] [.int (Int32.ofNat len)])) := g9.trans (by
    refine XS.iload X9.here hexec rfl (hb hbytes d3) rfl ?_
    refine XS.iload X9.here hexec rfl (hb hbytes d5) rfl ?_
    refine XS.icmpYes X9.here hexec rfl (pc0 := 7) rfl (hb hbytes d7) rfl (ii_ge_t (nlt32 (by omega) (Nat.le_refl _))) (by decide) rfl ?_
    refine XS.iload X9.here hexec rfl (hb hbytes d44) rfl ?_
    exact Steps.refl _)
  exact ⟨T9, some (.int (Int32.ofNat len)), _, _, _, X9, by simp, rfl, rfl, (fun h => by cases h), ⟨rfl, B9, p9.from hh0, f9⟩, fun fs hl => c11.trans (X9.ireturnOut hexec hret rfl (Or.inl rfl) (hb hbytes d46) hl)⟩
end Cmp5
namespace Cmp3
def yN : MethodName := ⟨"java/lang/StringUTF16", "compress", "([CII)[B"⟩
abbrev yB : ByteArray := jdk_52_method_16_code
theorem d0 : decode yB 0 = .ok (.iload_n 2, 1) := by decide +kernel
theorem d1 : decode yB 1 = .ok (.newarray .byte, 2) := by decide +kernel
theorem d3 : decode yB 3 = .ok (.astore_n 3, 1) := by decide +kernel
theorem d4 : decode yB 4 = .ok (.aload_n 0, 1) := by decide +kernel
theorem d5 : decode yB 5 = .ok (.iload_n 1, 1) := by decide +kernel
theorem d6 : decode yB 6 = .ok (.aload_n 3, 1) := by decide +kernel
theorem d7 : decode yB 7 = .ok (.iconst 0, 1) := by decide +kernel
theorem d8 : decode yB 8 = .ok (.iload_n 2, 1) := by decide +kernel
theorem d9 : decode yB 9 = .ok (.invokestatic 115, 3) := by decide +kernel
theorem d12 : decode yB 12 = .ok (.istore 4, 2) := by decide +kernel
theorem d14 : decode yB 14 = .ok (.iload 4, 2) := by decide +kernel
theorem d16 : decode yB 16 = .ok (.iload_n 2, 1) := by decide +kernel
theorem d17 : decode yB 17 = .ok (.if_icmp (.eq) 40, 3) := by decide +kernel
theorem d57 : decode yB 57 = .ok (.aload_n 3, 1) := by decide +kernel
theorem d58 : decode yB 58 = .ok (.areturn, 1) := by decide +kernel
def site : List Cond := [.arrayClass .byte, Cmp5.tab] ++ staticW U16 115 Cmp5.yN
def tab : Cond := tabOf yN yB 6 (some (.array .byte)) site
def P (b : Addr) (A : Cell) (o len : Nat) (args : Array Value) (s : State) : Prop := args = #[.ref b, .int (Int32.ofNat o), .int (Int32.ofNat len)] ∧ Ch b A s ∧ o + len ≤ A.slots.size ∧ len ≤ 536870912 ∧ ∀ i, i < len → ¬ 255 < cv A (o + i)
def E (b : Addr) (A : Cell) (o len : Nat) (r : Option Value) (s u : State) : Prop := NewArr .byte "[B" len (fun j => .int (lo8 (cv A (o + j)))) r s u ∧ u.heap.size = s.heap.size + 1
/-- no char of the range above 255: a new byte[] of their low bytes -/
theorem law (l : Launch) (b : Addr) (A : Cell) (o len : Nat) : Law l yN 3 3 1 18 yB 6 (some (.array .byte)) site (P b A o len) (E b A o len) [] 1 len := by
  refine Law.of_walk (plainFor_of_name (by decide +kernel)) (by decide +kernel) (by decide +kernel) (by decide) (fun _ _ h => by rw [h.1]; rfl) (fun _ U U' hal hh h => ⟨h.1, h.2.1.mv hal hh, h.2.2⟩) (fun r U U' V V' h1 hal h2 h => ⟨NewArr.mv r U U' V V' h1 hal h2 h.1, by rw [h1, h2]; exact h.2⟩) ?_
  intro p e s m args below meth c s₁ X0 hexec hbytes hml hret hlk hnm hown hh0 W hP
  obtain ⟨rfl, hA, l1, l2, hp⟩ := hP
  have a31 := hA.1.2.2.2
  have c1 : Steps p.tables e below (s₁.setTop (entryFrame m #[.ref b, .int (Int32.ofNat o), .int (Int32.ofNat len)] 6)) (s₁.setTop (mkF m 0 #[.val (.ref b), .val (.int (Int32.ofNat o)), .val (.int (Int32.ofNat len)), .unset, .unset, .unset] [])) := entry rfl
  have c2 : Steps p.tables e below (s₁.setTop (entryFrame m #[.ref b, .int (Int32.ofNat o), .int (Int32.ofNat len)] 6)) (s₁.setTop (mkF m 1 #[.val (.ref b), .val (.int (Int32.ofNat o)), .val (.int (Int32.ofNat len)), .unset, .unset, .unset] [.int (Int32.ofNat len)])) := c1.trans (by
    refine XS.iloadN X0.here hexec rfl (hb hbytes d0) rfl ?_
    exact Steps.refl _)
  obtain ⟨T3, B3, X3, ba3, bs3, bv3, bh3, bf3, st3⟩ := X0.anew hexec (atype := .byte) (wk W (.arrayClass .byte)) rfl (by show len * 1 ≤ _; omega) (by omega) (g := (mkF m 1 #[.val (.ref b), .val (.int (Int32.ofNat o)), .val (.int (Int32.ofNat len)), .unset, .unset, .unset] [.int (Int32.ofNat len)])) rfl (hb hbytes d1) (rest := []) rfl (Nat.le_refl _) (by show 0 + len ≤ len; omega)
  rw [hh0] at ba3 st3
  have kp3 : XT.Kept s T3 := (XT.Kept.of_eq hh0).push bh3
  have hA3 := hA.keep X3.warmed.alike (kp3 _ _ hA.1.1)
  have hne : b ≠ s.heap.size := hA.1.ne
  have c4 : Steps p.tables e below (s₁.setTop (entryFrame m #[.ref b, .int (Int32.ofNat o), .int (Int32.ofNat len)] 6)) (T3.setTop (mkF m 3 #[.val (.ref b), .val (.int (Int32.ofNat o)), .val (.int (Int32.ofNat len)), .unset, .unset, .unset] [.ref s.heap.size])) := c2.trans (st3 _ (Steps.refl _))
  have c5 : Steps p.tables e below (s₁.setTop (entryFrame m #[.ref b, .int (Int32.ofNat o), .int (Int32.ofNat len)] 6)) (T3.setTop (mkF m 9 #[.val (.ref b), .val (.int (Int32.ofNat o)), .val (.int (Int32.ofNat len)), .val (.ref s.heap.size), .unset, .unset] [.int (Int32.ofNat len), .int 0, .ref s.heap.size, .int (Int32.ofNat o), .ref b])) := c4.trans (by
    refine XS.astoreN X3.here hexec rfl (hb hbytes d3) rfl rfl rfl ?_
    refine XS.aloadN X3.here hexec rfl (hb hbytes d4) rfl rfl ?_
    refine XS.iloadN X3.here hexec rfl (hb hbytes d5) rfl ?_
    refine XS.aloadN X3.here hexec rfl (hb hbytes d6) rfl rfl ?_
    refine iconstV X3.here hexec rfl 0 (hb hbytes d7) (by decide) ?_
    refine XS.iloadN X3.here hexec rfl (hb hbytes d8) rfl ?_
    exact Steps.refl _)
  obtain ⟨v6, T6, X6, E6, g6⟩ := X3.callS hexec (Cmp5.law l b A s.heap.size B3 o 0 len) hown (wks W (staticW U16 115 Cmp5.yN)) (wk W Cmp5.tab) (W := 0) (Nat.le_of_ble_eq_true rfl) (Nat.le_of_ble_eq_true rfl) (Nat.le_refl _) (by show 0 + len + 0 ≤ len; omega) (g := (mkF m 9 #[.val (.ref b), .val (.int (Int32.ofNat o)), .val (.int (Int32.ofNat len)), .val (.ref s.heap.size), .unset, .unset] [.int (Int32.ofNat len), .int (Int32.ofNat 0), .ref s.heap.size, .int (Int32.ofNat o), .ref b])) rfl (by rw [hml]; rfl) c5 (argsL := [.ref b, .int (Int32.ofNat o), .ref s.heap.size, .int (Int32.ofNat 0), .int (Int32.ofNat len)]) (rest := []) rfl rfl (by show 2 * 0 + 0 ≤ _; decide) (hb hbytes d9) (⟨rfl, hA3, ba3, hne, l1, by rw [bs3]; simp, hp⟩)
  obtain ⟨rfl, B6, p6, f6⟩ := E6
  have c7 : Steps p.tables e below (s₁.setTop (entryFrame m #[.ref b, .int (Int32.ofNat o), .int (Int32.ofNat len)] 6)) (T6.setTop (mkF m 12 #[.val (.ref b), .val (.int (Int32.ofNat o)), .val (.int (Int32.ofNat len)), .val (.ref s.heap.size), .unset, .unset] [.int (Int32.ofNat len)])) := g6
  have c8 : Steps p.tables e below (s₁.setTop (entryFrame m #[.ref b, .int (Int32.ofNat o), .int (Int32.ofNat len)] 6)) (T6.setTop (mkF m 58 #[.val (.ref b), .val (.int (Int32.ofNat o)), .val (.int (Int32.ofNat len)), .val (.ref s.heap.size), .val (.int (Int32.ofNat len)), .unset] [.ref s.heap.size])) := c7.trans (by
    refine XS.istore X6.here hexec rfl (hb hbytes d12) rfl rfl ?_
    refine XS.iload X6.here hexec rfl (hb hbytes d14) rfl ?_
    refine XS.iloadN X6.here hexec rfl (hb hbytes d16) rfl ?_
    refine XS.icmpYes X6.here hexec rfl (pc0 := 17) rfl (hb hbytes d17) rfl (ii_eq_t rfl) (by decide) rfl ?_
    refine XS.aloadN X6.here hexec rfl (hb hbytes d57) rfl rfl ?_
    exact Steps.refl _)
  have X8 := X6.wide (L' := []) (cells' := 1) (slots' := len) (fun x hx hlt => by
    simp only [List.nil_append, copyLocs, List.mem_map, List.mem_range] at hx
    obtain ⟨i, -, rfl⟩ := hx
    exact absurd hlt (Nat.lt_irrefl _)) (Nat.le_refl _) (by omega)
  exact ⟨T6, some (.ref s.heap.size), _, _, _, X8, rfl, rfl, rfl, (fun h => by cases h), ⟨⟨rfl, B6, ba3.like (X3.warmed.alike.symm.trans X6.warmed.alike) p6.1 f6.1 f6.2.1 f6.2.2.1, f6.2.1.trans bv3, by rw [X6.warmed.alike.findClass, f6.1]; exact bf3, by rw [f6.2.2.1, bs3]; simp, fun j hj => by rw [f6.2.2.2 j, if_pos (by omega)]; rfl, kp3.put p6 (Nat.le_refl _)⟩, by rw [p6.2.2, bh3, hh0]; simp⟩, fun fs hl => c8.trans (X8.areturnOut hexec rfl hret rfl (hb hbytes d58) hl)⟩
end Cmp3
namespace CodL
def yN : MethodName := ⟨"java/lang/StringUTF16", "coderFromArrayLen", "([BI)B"⟩
abbrev yB : ByteArray := jdk_52_method_15_code
theorem d0 : decode yB 0 = .ok (.iload_n 1, 1) := by decide +kernel
theorem d1 : decode yB 1 = .ok (.aload_n 0, 1) := by decide +kernel
theorem d2 : decode yB 2 = .ok (.arraylength, 1) := by decide +kernel
theorem d3 : decode yB 3 = .ok (.isub, 1) := by decide +kernel
theorem d4 : decode yB 4 = .ok (.bipush 31, 2) := by decide +kernel
theorem d6 : decode yB 6 = .ok (.iushr, 1) := by decide +kernel
theorem d7 : decode yB 7 = .ok (.i2b, 1) := by decide +kernel
theorem d8 : decode yB 8 = .ok (.ireturn, 1) := by decide +kernel
def site : List Cond := []
def tab : Cond := tabOf yN yB 2 (some .byte) site
def P (d : Addr) (B : Cell) (args : Array Value) (s : State) : Prop := args = #[.ref d, .int (Int32.ofNat B.slots.size)] ∧ Arr .byte d B s
def E (r : Option Value) (s u : State) : Prop := XT.PureE (some (.int 0)) r s u
/-- an array as long as the number of chars: LATIN1 -/
theorem law (l : Launch) (d : Addr) (B : Cell) : Law l yN 2 2 0 0 yB 2 (some .byte) site (P d B) E [] 0 0 := by
  refine Law.of_walk (plainFor_of_name (by decide +kernel)) (by decide +kernel) (by decide +kernel) (by decide) (fun _ _ h => by rw [h.1]; rfl) (fun _ U U' hal hh h => ⟨h.1, h.2.mv hal hh⟩) (fun r U U' V V' h1 hal h2 h => XT.PureE.mv r U U' V V' h1 hal h2 h) ?_
  intro p e s m args below meth c s₁ X0 hexec hbytes hml hret hlk hnm hown hh0 W hP
  obtain ⟨rfl, hB⟩ := hP
  have hB0 := hB.mv X0.warmed.alike hh0
  have c1 : Steps p.tables e below (s₁.setTop (entryFrame m #[.ref d, .int (Int32.ofNat B.slots.size)] 2)) (s₁.setTop (mkF m 0 #[.val (.ref d), .val (.int (Int32.ofNat B.slots.size))] [])) := entry rfl
  have c2 : Steps p.tables e below (s₁.setTop (entryFrame m #[.ref d, .int (Int32.ofNat B.slots.size)] 2)) (s₁.setTop (mkF m 2 #[.val (.ref d), .val (.int (Int32.ofNat B.slots.size))] [.ref d, .int (Int32.ofNat B.slots.size)])) := c1.trans (by
    refine XS.iloadN X0.here hexec rfl (hb hbytes d0) rfl ?_
    refine XS.aloadN X0.here hexec rfl (hb hbytes d1) rfl rfl ?_
    exact Steps.refl _)
  have c3 : Steps p.tables e below (s₁.setTop (entryFrame m #[.ref d, .int (Int32.ofNat B.slots.size)] 2)) (s₁.setTop (mkF m 8 #[.val (.ref d), .val (.int (Int32.ofNat B.slots.size))] [.int (lo8 (ushr (Int32.ofNat B.slots.size - Int32.ofNat B.slots.size) 31))])) := c2.trans (by
    refine X0.alen hexec hB0 rfl rfl (hb hbytes d2) ?_
    refine XS.isub X0.here hexec rfl (hb hbytes d3) rfl ?_
    refine bipushV X0.here hexec rfl 31 (hb hbytes d4) (by decide) ?_
    refine iushr X0.here hexec rfl (hb hbytes d6) rfl ?_
    refine i2b X0.here hexec rfl (hb hbytes d7) rfl ?_
    exact Steps.refl _)
  have e0 : lo8 (ushr (Int32.ofNat B.slots.size - Int32.ofNat B.slots.size) 31) = 0 := by rw [Int32.sub_self]; decide
  rw [e0] at c3
  exact ⟨s₁, some (.int 0), _, _, _, X0, rfl, rfl, rfl, (fun h => by cases h), ⟨rfl, hh0⟩, fun fs hl => c3.trans (X0.ireturnOut hexec hret rfl (Or.inr (Or.inr (Or.inl rfl))) (hb hbytes d8) hl)⟩
end CodL
/-- the String at a is Latin-1 over a new byte[] (the heap's one new cell): the low bytes of the len chars of A from o on; every cell but a is kept -/
def Got (a : Addr) (D : Cell) (fV fC : Field) (A : Cell) (o len : Nat) (r : Option Value) (s u : State) : Prop := r = none ∧ ∃ D' V : Cell, Blank "java/lang/String" a D' u ∧ Same D D' [fV.slot, fC.slot] ∧ D'.slots[fV.slot]? = some (.ref s.heap.size) ∧ D'.slots[fC.slot]? = some (.int 0) ∧ Arr .byte s.heap.size V u ∧ V.vm = .none ∧ u.vm.findClass "[B" = some V.cls ∧ V.slots.size = len ∧ (∀ j, j < len → V.slots[j]? = some (.int (lo8 (cv A (o + j))))) ∧ (∀ (y : Addr) (c : Cell), y ≠ a → s.heap[y]? = some c → u.heap[y]? = some c) ∧ u.heap.size = s.heap.size + 1
theorem Got.mv {a : Addr} {D A : Cell} {fV fC : Field} {o len : Nat} : ∀ r (U U' V V' : State), U'.heap = U.heap → V.vm.Alike V'.vm → V'.heap = V.heap → Got a D fV fC A o len r U V → Got a D fV fC A o len r U' V' :=
  fun r U U' V V' h1 hal h2 ⟨e0, D', X, a1, a2, a3, a4, a5, a6, a7, a8, a9, a10, a11⟩ => ⟨e0, D', X, a1.mv hal h2, a2, by rw [h1]; exact a3, a4, by rw [h1]; exact a5.mv hal h2, a6, by rw [hal.findClass]; exact a7, a8, a9, by rw [h1, h2]; exact a10, by rw [h1, h2]; exact a11⟩
namespace New4
def yN : MethodName := ⟨"java/lang/String", "<init>", "([CIILjava/lang/Void;)V"⟩
abbrev yB : ByteArray := jdk_42_method_149_code
theorem d0 : decode yB 0 = .ok (.aload_n 0, 1) := by decide +kernel
theorem d1 : decode yB 1 = .ok (.invokespecial 1, 3) := by decide +kernel
theorem d4 : decode yB 4 = .ok (.iload_n 3, 1) := by decide +kernel
theorem d5 : decode yB 5 = .ok (.ifCond (.ne) 22, 3) := by decide +kernel
theorem d27 : decode yB 27 = .ok (.getstatic 38, 3) := by decide +kernel
theorem d30 : decode yB 30 = .ok (.ifCond (.eq) 28, 3) := by decide +kernel
theorem d33 : decode yB 33 = .ok (.aload_n 1, 1) := by decide +kernel
theorem d34 : decode yB 34 = .ok (.iload_n 2, 1) := by decide +kernel
theorem d35 : decode yB 35 = .ok (.iload_n 3, 1) := by decide +kernel
theorem d36 : decode yB 36 = .ok (.invokestatic 177, 3) := by decide +kernel
theorem d39 : decode yB 39 = .ok (.astore 5, 2) := by decide +kernel
theorem d41 : decode yB 41 = .ok (.aload_n 0, 1) := by decide +kernel
theorem d42 : decode yB 42 = .ok (.aload 5, 2) := by decide +kernel
theorem d44 : decode yB 44 = .ok (.iload_n 3, 1) := by decide +kernel
theorem d45 : decode yB 45 = .ok (.invokestatic 47, 3) := by decide +kernel
theorem d48 : decode yB 48 = .ok (.putfield 15, 3) := by decide +kernel
theorem d51 : decode yB 51 = .ok (.aload_n 0, 1) := by decide +kernel
theorem d52 : decode yB 52 = .ok (.aload 5, 2) := by decide +kernel
theorem d54 : decode yB 54 = .ok (.putfield 9, 3) := by decide +kernel
theorem d57 : decode yB 57 = .ok (.return_, 1) := by decide +kernel
def site : List Cond := [.fieldLink "java/lang/String" 38 "java/lang/String" "COMPACT_STRINGS" "Z", Cmp3.tab, CodL.tab, .laysFinal "java/lang/String" "java/lang/String" "value" "[B", .fieldLink "java/lang/String" 9 "java/lang/String" "value" "[B", .laysFinal "java/lang/String" "java/lang/String" "coder" "B", .fieldLink "java/lang/String" 15 "java/lang/String" "coder" "B"] ++ objW "java/lang/String" 1 ++ staticW "java/lang/String" 177 Cmp3.yN ++ staticW "java/lang/String" 47 CodL.yN
def tab : Cond := tabOf yN yB 6 none site
def P (a : Addr) (D : Cell) (fV fC : Field) (b : Addr) (A : Cell) (z : Int32) (o len : Nat) (args : Array Value) (s : State) : Prop := args = #[.ref a, .ref b, .int (Int32.ofNat o), .int (Int32.ofNat len), .null] ∧ Blank "java/lang/String" a D s ∧ Found "java/lang/String" "value" "[B" fV s ∧ Found "java/lang/String" "coder" "B" fC s ∧ Ch b A s ∧ StaticIs s "java/lang/String" "COMPACT_STRINGS" "Z" (.int z) ∧ ¬ z = 0 ∧ 0 < len ∧ o + len ≤ A.slots.size ∧ len ≤ 536870912 ∧ ∀ i, i < len → ¬ 255 < cv A (o + i)
def E (a : Addr) (D : Cell) (fV fC : Field) (A : Cell) (o len : Nat) (r : Option Value) (s u : State) : Prop := Got a D fV fC A o len r s u
/-- len > 0, no char of the range above 255: a Latin-1 String of their low bytes -/
theorem law (l : Launch) (a : Addr) (D : Cell) (fV fC : Field) (b : Addr) (A : Cell) (z : Int32) (o len : Nat) : Law l yN 5 4 2 35 yB 6 none site (P a D fV fC b A z o len) (E a D fV fC A o len) [⟨a, fC.slot⟩, ⟨a, fV.slot⟩] 1 len := by
  refine Law.of_walk (plainFor_of_name (by decide +kernel)) (by decide +kernel) (by decide +kernel) (by decide) (fun _ _ h => by rw [h.1]; rfl) (fun _ U U' hal hh h => ⟨h.1, h.2.1.mv hal hh, h.2.2.1.al hal, h.2.2.2.1.al hal, h.2.2.2.2.1.mv hal hh, h.2.2.2.2.2.1.there hal hh, h.2.2.2.2.2.2⟩) (fun r U U' V V' h1 hal h2 h => Got.mv r U U' V V' h1 hal h2 h) ?_
  intro p e s m args below meth c s₁ X0 hexec hbytes hml hret hlk hnm hown hh0 W hP
  obtain ⟨rfl, hB, f1, f2, hA, s1, hz, l0, l1, l2, hp⟩ := hP
  have a31 := hA.1.2.2.2
  have c1 : Steps p.tables e below (s₁.setTop (entryFrame m #[.ref a, .ref b, .int (Int32.ofNat o), .int (Int32.ofNat len), .null] 6)) (s₁.setTop (mkF m 0 #[.val (.ref a), .val (.ref b), .val (.int (Int32.ofNat o)), .val (.int (Int32.ofNat len)), .val .null, .unset] [])) := entry rfl
  have c2 : Steps p.tables e below (s₁.setTop (entryFrame m #[.ref a, .ref b, .int (Int32.ofNat o), .int (Int32.ofNat len), .null] 6)) (s₁.setTop (mkF m 1 #[.val (.ref a), .val (.ref b), .val (.int (Int32.ofNat o)), .val (.int (Int32.ofNat len)), .val .null, .unset] [.ref a])) := c1.trans (by
    refine XS.aloadN X0.here hexec rfl (hb hbytes d0) rfl rfl ?_
    exact Steps.refl _)
  obtain ⟨T3, X3, q3, st3⟩ := X0.oinit hexec hown (wks W (objW "java/lang/String" 1)) (g := (mkF m 1 #[.val (.ref a), .val (.ref b), .val (.int (Int32.ofNat o)), .val (.int (Int32.ofNat len)), .val .null, .unset] [.ref a])) rfl (by rw [hml]; rfl) (rest := []) rfl (hb hbytes d1) (W := 0) (by show 2 * 0 + 0 ≤ _; decide) (Nat.le_of_ble_eq_true rfl) (Nat.le_of_ble_eq_true rfl)
  have hh3 := q3.trans hh0
  have c4 : Steps p.tables e below (s₁.setTop (entryFrame m #[.ref a, .ref b, .int (Int32.ofNat o), .int (Int32.ofNat len), .null] 6)) (T3.setTop (mkF m 27 #[.val (.ref a), .val (.ref b), .val (.int (Int32.ofNat o)), .val (.int (Int32.ofNat len)), .val .null, .unset] [])) := (c2.trans (st3 _ (Steps.refl _))).trans (by
    refine XS.iloadN X3.here hexec rfl (hb hbytes d4) rfl ?_
    refine XS.ifYes X3.here hexec rfl (pc0 := 5) rfl (hb hbytes d5) rfl (i0_ne_t (nz32 (by omega) l0)) (by decide) rfl ?_
    exact Steps.refl _)
  obtain ⟨T5, X5, q5, st5⟩ := X3.sget hexec hown (wk W (.fieldLink "java/lang/String" 38 "java/lang/String" "COMPACT_STRINGS" "Z")) s1 (fun _ _ h => by rw [hh3]; exact h) (g := (mkF m 27 #[.val (.ref a), .val (.ref b), .val (.int (Int32.ofNat o)), .val (.int (Int32.ofNat len)), .val .null, .unset] [])) rfl (hb hbytes d27)
  have hh5 := q5.trans hh3
  have c6 : Steps p.tables e below (s₁.setTop (entryFrame m #[.ref a, .ref b, .int (Int32.ofNat o), .int (Int32.ofNat len), .null] 6)) (T5.setTop (mkF m 30 #[.val (.ref a), .val (.ref b), .val (.int (Int32.ofNat o)), .val (.int (Int32.ofNat len)), .val .null, .unset] [.int z])) := c4.trans (st5 _ (Steps.refl _))
  have c7 : Steps p.tables e below (s₁.setTop (entryFrame m #[.ref a, .ref b, .int (Int32.ofNat o), .int (Int32.ofNat len), .null] 6)) (T5.setTop (mkF m 36 #[.val (.ref a), .val (.ref b), .val (.int (Int32.ofNat o)), .val (.int (Int32.ofNat len)), .val .null, .unset] [.int (Int32.ofNat len), .int (Int32.ofNat o), .ref b])) := c6.trans (by
    refine XS.ifNo X5.here hexec rfl (hb hbytes d30) rfl (i0_eq_f hz) ?_
    refine XS.aloadN X5.here hexec rfl (hb hbytes d33) rfl rfl ?_
    refine XS.iloadN X5.here hexec rfl (hb hbytes d34) rfl ?_
    refine XS.iloadN X5.here hexec rfl (hb hbytes d35) rfl ?_
    exact Steps.refl _)
  obtain ⟨v8, T8, X8, E8, g8⟩ := X5.callS hexec (Cmp3.law l b A o len) hown (wks W (staticW "java/lang/String" 177 Cmp3.yN)) (wk W Cmp3.tab) (W := 0) (Nat.le_of_ble_eq_true rfl) (Nat.le_of_ble_eq_true rfl) (Nat.le_refl _) (by show 0 + len ≤ len; omega) (g := (mkF m 36 #[.val (.ref a), .val (.ref b), .val (.int (Int32.ofNat o)), .val (.int (Int32.ofNat len)), .val .null, .unset] [.int (Int32.ofNat len), .int (Int32.ofNat o), .ref b])) rfl (by rw [hml]; rfl) c7 (argsL := [.ref b, .int (Int32.ofNat o), .int (Int32.ofNat len)]) (rest := []) rfl rfl (by show 2 * 0 + 0 ≤ _; decide) (hb hbytes d36) (⟨rfl, hA.mv X5.warmed.alike hh5, l1, l2, hp⟩)
  obtain ⟨e8, z8⟩ := E8
  obtain ⟨rfl, N, n1, n2, n3, n4, n5, n6⟩ := NewArr.mv _ T5 s _ _ hh5.symm (Vm.Alike.refl _) rfl e8
  rw [hh5] at z8
  have hB1 := hB.keep X8.warmed.alike (n6 _ _ hB.1)
  have hne : s.heap.size ≠ a := (Nat.ne_of_lt (Array.getElem?_eq_some_iff.mp hB.1).1).symm
  have c9 : Steps p.tables e below (s₁.setTop (entryFrame m #[.ref a, .ref b, .int (Int32.ofNat o), .int (Int32.ofNat len), .null] 6)) (T8.setTop (mkF m 39 #[.val (.ref a), .val (.ref b), .val (.int (Int32.ofNat o)), .val (.int (Int32.ofNat len)), .val .null, .unset] [.ref s.heap.size])) := g8
  have c10 : Steps p.tables e below (s₁.setTop (entryFrame m #[.ref a, .ref b, .int (Int32.ofNat o), .int (Int32.ofNat len), .null] 6)) (T8.setTop (mkF m 45 #[.val (.ref a), .val (.ref b), .val (.int (Int32.ofNat o)), .val (.int (Int32.ofNat len)), .val .null, .val (.ref s.heap.size)] [.int (Int32.ofNat N.slots.size), .ref s.heap.size, .ref a])) := by
    have hc : Steps p.tables e below (s₁.setTop (entryFrame m #[.ref a, .ref b, .int (Int32.ofNat o), .int (Int32.ofNat len), .null] 6)) (T8.setTop (mkF m 45 #[.val (.ref a), .val (.ref b), .val (.int (Int32.ofNat o)), .val (.int (Int32.ofNat len)), .val .null, .val (.ref s.heap.size)] [.int (Int32.ofNat len), .ref s.heap.size, .ref a])) := c9.trans (by
      refine XS.astore X8.here hexec rfl (hb hbytes d39) rfl rfl rfl ?_
      refine XS.aloadN X8.here hexec rfl (hb hbytes d41) rfl rfl ?_
      refine XS.aload X8.here hexec rfl (hb hbytes d42) rfl rfl ?_
      refine XS.iloadN X8.here hexec rfl (hb hbytes d44) rfl ?_
      exact Steps.refl _)
    rw [n4]; exact hc
  obtain ⟨v11, T11, X11, E11, g11⟩ := X8.callS hexec (CodL.law l s.heap.size N) hown (wks W (staticW "java/lang/String" 47 CodL.yN)) (wk W CodL.tab) (W := 1) (Nat.le_of_ble_eq_true rfl) (Nat.le_of_ble_eq_true rfl) (Nat.le_refl _) (by show 0 + len + 0 ≤ len; omega) (g := (mkF m 45 #[.val (.ref a), .val (.ref b), .val (.int (Int32.ofNat o)), .val (.int (Int32.ofNat len)), .val .null, .val (.ref s.heap.size)] [.int (Int32.ofNat N.slots.size), .ref s.heap.size, .ref a])) rfl (by rw [hml]; rfl) c10 (argsL := [.ref s.heap.size, .int (Int32.ofNat N.slots.size)]) (rest := [.ref a]) rfl rfl (by show 2 * 0 + (1 + 0) ≤ _; decide) (hb hbytes d45) (⟨rfl, n1⟩)
  obtain ⟨rfl, q11⟩ := E11
  have hB11 := hB1.mv (X8.warmed.alike.symm.trans X11.warmed.alike) q11
  have c12 : Steps p.tables e below (s₁.setTop (entryFrame m #[.ref a, .ref b, .int (Int32.ofNat o), .int (Int32.ofNat len), .null] 6)) (T11.setTop (mkF m 48 #[.val (.ref a), .val (.ref b), .val (.int (Int32.ofNat o)), .val (.int (Int32.ofNat len)), .val .null, .val (.ref s.heap.size)] [.int 0, .ref a])) := g11
  obtain ⟨T13, X13, p13, bl13, sl13, st13⟩ := X11.finit hexec hown (wk W (.fieldLink "java/lang/String" 15 "java/lang/String" "coder" "B")) (Or.inr ⟨_, (wk W (.laysFinal "java/lang/String" "java/lang/String" "coder" "B"))⟩) (Or.inl ⟨rfl, hnm⟩) f2 (Or.inl rfl) hB11 (t := .byte) (by decide +kernel) rfl (g := (mkF m 48 #[.val (.ref a), .val (.ref b), .val (.int (Int32.ofNat o)), .val (.int (Int32.ofNat len)), .val .null, .val (.ref s.heap.size)] [.int 0, .ref a])) rfl (rest := []) rfl (hb hbytes d48)
  have c14 : Steps p.tables e below (s₁.setTop (entryFrame m #[.ref a, .ref b, .int (Int32.ofNat o), .int (Int32.ofNat len), .null] 6)) (T13.setTop (mkF m 54 #[.val (.ref a), .val (.ref b), .val (.int (Int32.ofNat o)), .val (.int (Int32.ofNat len)), .val .null, .val (.ref s.heap.size)] [.ref s.heap.size, .ref a])) := (c12.trans (st13 _ (Steps.refl _))).trans (by
    refine XS.aloadN X13.here hexec rfl (hb hbytes d51) rfl rfl ?_
    refine XS.aload X13.here hexec rfl (hb hbytes d52) rfl rfl ?_
    exact Steps.refl _)
  obtain ⟨T15, X15, p15, bl15, sl15, st15⟩ := X13.finit hexec hown (wk W (.fieldLink "java/lang/String" 9 "java/lang/String" "value" "[B")) (Or.inr ⟨_, (wk W (.laysFinal "java/lang/String" "java/lang/String" "value" "[B"))⟩) (Or.inl ⟨rfl, hnm⟩) f1 (Or.inl rfl) bl13 (t := (.array .byte)) (by decide +kernel) rfl (g := (mkF m 54 #[.val (.ref a), .val (.ref b), .val (.int (Int32.ofNat o)), .val (.int (Int32.ofNat len)), .val .null, .val (.ref s.heap.size)] [.ref s.heap.size, .ref a])) rfl (rest := []) rfl (hb hbytes d54)
  have c16 : Steps p.tables e below (s₁.setTop (entryFrame m #[.ref a, .ref b, .int (Int32.ofNat o), .int (Int32.ofNat len), .null] 6)) (T15.setTop (mkF m 57 #[.val (.ref a), .val (.ref b), .val (.int (Int32.ofNat o)), .val (.int (Int32.ofNat len)), .val .null, .val (.ref s.heap.size)] [])) := c14.trans (st15 _ (Steps.refl _))
  have ap := apart (Or.inr ⟨_, (wk W (.laysFinal "java/lang/String" "java/lang/String" "value" "[B"))⟩) (Or.inr ⟨_, (wk W (.laysFinal "java/lang/String" "java/lang/String" "coder" "B"))⟩) f1 f2 (t₁ := .array .byte) (t₂ := .byte) (by decide +kernel) (by decide +kernel) (by decide)
  have al := X8.warmed.alike.symm.trans X15.warmed.alike
  have n7 : T11.heap[s.heap.size]? = some N := by rw [q11]; exact n1.1
  exact ⟨T15, none, _, _, _, X15, by simp, rfl, by omega, (fun _ => rfl), ⟨rfl, _, N, bl15, ((Same.refl D _).set _ (by simp)).set _ (by simp), sl15, (Cell.slots_setSlot_ne _ ap).trans sl13, n1.keep al (p15.other hne (p13.other hne n7)), n2, by rw [al.findClass]; exact n3, n4, n5, fun y c h1 h2 => p15.other h1 (p13.other h1 (by rw [q11]; exact n6 y c h2)), by rw [p15.2.2, p13.2.2, q11]; exact z8⟩, fun fs hl => c16.trans (X15.returnOut hexec hret (hb hbytes d57) hl)⟩
end New4
namespace New1
def yN : MethodName := ⟨"java/lang/String", "<init>", "([C)V"⟩
abbrev yB : ByteArray := jdk_42_method_3_code
theorem d0 : decode yB 0 = .ok (.aload_n 0, 1) := by decide +kernel
theorem d1 : decode yB 1 = .ok (.aload_n 1, 1) := by decide +kernel
theorem d2 : decode yB 2 = .ok (.iconst 0, 1) := by decide +kernel
theorem d3 : decode yB 3 = .ok (.aload_n 1, 1) := by decide +kernel
theorem d4 : decode yB 4 = .ok (.arraylength, 1) := by decide +kernel
theorem d5 : decode yB 5 = .ok (.aconst_null, 1) := by decide +kernel
theorem d6 : decode yB 6 = .ok (.invokespecial 27, 3) := by decide +kernel
theorem d9 : decode yB 9 = .ok (.return_, 1) := by decide +kernel
def site : List Cond := [New4.tab] ++ initW "java/lang/String" 27 New4.yN
def tab : Cond := tabOf yN yB 2 none site
def P (a : Addr) (D : Cell) (fV fC : Field) (b : Addr) (A : Cell) (z : Int32) (args : Array Value) (s : State) : Prop := args = #[.ref a, .ref b] ∧ Blank "java/lang/String" a D s ∧ Found "java/lang/String" "value" "[B" fV s ∧ Found "java/lang/String" "coder" "B" fC s ∧ Ch b A s ∧ StaticIs s "java/lang/String" "COMPACT_STRINGS" "Z" (.int z) ∧ ¬ z = 0 ∧ 0 < A.slots.size ∧ A.slots.size ≤ 536870912 ∧ ∀ i, i < A.slots.size → ¬ 255 < cv A i
def E (a : Addr) (D : Cell) (fV fC : Field) (A : Cell) (r : Option Value) (s u : State) : Prop := Got a D fV fC A 0 A.slots.size r s u
/-- new String(chars), not empty, no char above 255: a Latin-1 String of their low bytes -/
theorem law (l : Launch) (a : Addr) (D : Cell) (fV fC : Field) (b : Addr) (A : Cell) (z : Int32) : Law l yN 2 1 3 52 yB 2 none site (P a D fV fC b A z) (E a D fV fC A) [⟨a, fC.slot⟩, ⟨a, fV.slot⟩] 1 A.slots.size := by
  refine Law.of_walk (plainFor_of_name (by decide +kernel)) (by decide +kernel) (by decide +kernel) (by decide) (fun _ _ h => by rw [h.1]; rfl) (fun _ U U' hal hh h => ⟨h.1, h.2.1.mv hal hh, h.2.2.1.al hal, h.2.2.2.1.al hal, h.2.2.2.2.1.mv hal hh, h.2.2.2.2.2.1.there hal hh, h.2.2.2.2.2.2⟩) (fun r U U' V V' h1 hal h2 h => Got.mv r U U' V V' h1 hal h2 h) ?_
  intro p e s m args below meth c s₁ X0 hexec hbytes hml hret hlk hnm hown hh0 W hP
  obtain ⟨rfl, hB, f1, f2, hA, s1, hz, l0, l2, hp⟩ := hP
  have c1 : Steps p.tables e below (s₁.setTop (entryFrame m #[.ref a, .ref b] 2)) (s₁.setTop (mkF m 0 #[.val (.ref a), .val (.ref b)] [])) := entry rfl
  have c2 : Steps p.tables e below (s₁.setTop (entryFrame m #[.ref a, .ref b] 2)) (s₁.setTop (mkF m 6 #[.val (.ref a), .val (.ref b)] [.null, .int (Int32.ofNat A.slots.size), .int 0, .ref b, .ref a])) := c1.trans (by
    refine XS.aloadN X0.here hexec rfl (hb hbytes d0) rfl rfl ?_
    refine XS.aloadN X0.here hexec rfl (hb hbytes d1) rfl rfl ?_
    refine iconstV X0.here hexec rfl 0 (hb hbytes d2) (by decide) ?_
    refine XS.aloadN X0.here hexec rfl (hb hbytes d3) rfl rfl ?_
    refine X0.alen hexec (hA.1.mv X0.warmed.alike hh0) rfl rfl (hb hbytes d4) ?_
    refine XS.aconstNull X0.here hexec rfl (hb hbytes d5) ?_
    exact Steps.refl _)
  obtain ⟨v3, T3, X3, E3, g3⟩ := X0.callN hexec (New4.law l a D fV fC b A z 0 A.slots.size) rfl hown (wks W (initW "java/lang/String" 27 New4.yN)) (W New4.tab (by simp only [site, List.mem_cons, List.mem_append, true_or, or_true])) (W := 0) (Nat.le_of_ble_eq_true rfl) (Nat.le_of_ble_eq_true rfl) (Nat.le_refl _) (by show 0 + A.slots.size ≤ A.slots.size; omega) (g := (mkF m 6 #[.val (.ref a), .val (.ref b)] [.null, .int (Int32.ofNat A.slots.size), .int (Int32.ofNat 0), .ref b, .ref a])) rfl (by rw [hml]; rfl) c2 (argsL := [.ref b, .int (Int32.ofNat 0), .int (Int32.ofNat A.slots.size), .null]) (rest := []) rfl rfl (by show 2 * 0 + 0 ≤ _; decide) (hb hbytes d6) (⟨rfl, hB.mv X0.warmed.alike hh0, f1.al X0.warmed.alike, f2.al X0.warmed.alike, hA.mv X0.warmed.alike hh0, s1.there X0.warmed.alike hh0, hz, l0, by omega, l2, fun i hi => by rw [Nat.zero_add]; exact hp i hi⟩)
  have e0 := Got.mv _ s₁ s _ _ hh0.symm (Vm.Alike.refl _) rfl E3
  obtain rfl := e0.1
  have c4 : Steps p.tables e below (s₁.setTop (entryFrame m #[.ref a, .ref b] 2)) (T3.setTop (mkF m 9 #[.val (.ref a), .val (.ref b)] [])) := g3
  exact ⟨T3, none, _, _, _, X3, by simp, rfl, by omega, (fun _ => rfl), e0, fun fs hl => c4.trans (X3.returnOut hexec hret (hb hbytes d9) hl)⟩
theorem pays {l : Launch} {R : Room} {p : Program} {e : Env} {below : List Frame} {s : State} {sargs : Array Value} {len W : Nat} (a : Addr) (D : Cell) (fV fC : Field) (b : Addr) (A : Cell) (z : Int32) (htab : tab.before sargs s = true) (hfr : 4 ≤ R.frames) (hlo : W + 65 ≤ R.locals) :
    Back l R p e below s sargs yN len W (fun A₁ a₁ => A₁.cells + 1 ≤ R.cells ∧ A₁.slots + A.slots.size ≤ R.slots ∧ P a D fV fC b A z a₁ A₁.U) (fun A₁ _ v₁ B₁ => E a D fV fC A v₁ A₁.U B₁.U ∧ B₁.locs = A₁.locs ++ [⟨a, fC.slot⟩, ⟨a, fV.slot⟩] ∧ B₁.cells = A₁.cells + 1 ∧ B₁.slots = A₁.slots + A.slots.size) :=
  (law l a D fV fC b A z).pays htab hfr (by omega)
end New1
/-- the byte, read back as charAt reads it, is the char -/
theorem lo8_mask {x : Int32} (h0 : ¬ x < 0) (h1 : ¬ 255 < x) : lo8 x &&& 255 = x := by
  have t : ∀ k : Fin 256, lo8 (Int32.ofNat k.val) &&& 255 = Int32.ofNat k.val := by decide +kernel
  rw [Int32.lt_iff_toInt_lt] at h0 h1
  have e0 : (0 : Int32).toInt = 0 := rfl
  have e1 : (255 : Int32).toInt = 255 := rfl
  obtain ⟨k, hk⟩ : ∃ k : Nat, x.toInt = k := ⟨x.toInt.toNat, by omega⟩
  have hx : x = Int32.ofNat k := Int32.toInt_inj.mp (by rw [hk, Int32.toInt_ofNat_small (by omega)])
  rw [hx]
  exact t ⟨k, by omega⟩
end StrChars
namespace StrChars.Road
open Jvm Sem ClassFile Op Lib Jvm.Stand Jvm.Free Jvm.Free.XT
open Jvm.Lib.Cold (StaticIs)
abbrev ST : String := "java/lang/String"
/-- every table word that New1's law asks, flat -/
abbrev words : List Jvm.Cond := [.code New1.yN New1.yB 2 none, .initialized ST, .methodLink ST 27 New4.yN, .instanceMethod New4.yN,
  .code New4.yN New4.yB 6 none, .fieldLink ST 38 ST "COMPACT_STRINGS" "Z", .laysFinal ST ST "value" "[B", .fieldLink ST 9 ST "value" "[B", .laysFinal ST ST "coder" "B", .fieldLink ST 15 ST "coder" "B",
  .methodLink ST 1 Lib.objectInit, .instanceMethod Lib.objectInit, .code Lib.objectInit ⟨#[0xb1]⟩ 1 none, .methodLink ST 177 Cmp3.yN, .static Cmp3.yN, .methodLink ST 47 CodL.yN, .static CodL.yN,
  .code Cmp3.yN Cmp3.yB 6 (some (.array .byte)), .initialized U16, .arrayClass .byte, .methodLink U16 115 Cmp5.yN, .static Cmp5.yN, .code Cmp5.yN Cmp5.yB 7 (some .int), .code CodL.yN CodL.yB 2 (some .byte)]
theorem tab_of {a : Array Value} {s : State} (h : ∀ w ∈ words, w.before a s = true) : New1.tab.before a s = true := by
  have h5 : Cmp5.tab.before a s = true := unparts (wk h (.code Cmp5.yN Cmp5.yB 7 (some .int))) (wks h (.initialized Cmp5.yN.cls :: Cmp5.site))
  have hc : CodL.tab.before a s = true := unparts (wk h (.code CodL.yN CodL.yB 2 (some .byte))) (wks h (.initialized CodL.yN.cls :: CodL.site))
  have q5 : ∀ w ∈ Cmp5.tab :: words, w.before a s = true := fun w hw => (List.mem_cons.mp hw).elim (fun e => e ▸ h5) (h w)
  have h3 : Cmp3.tab.before a s = true := unparts (wk q5 (.code Cmp3.yN Cmp3.yB 6 (some (.array .byte)))) (wks q5 (.initialized Cmp3.yN.cls :: Cmp3.site))
  have q3 : ∀ w ∈ Cmp3.tab :: CodL.tab :: words, w.before a s = true := fun w hw => (List.mem_cons.mp hw).elim (fun e => e ▸ h3) fun hw => (List.mem_cons.mp hw).elim (fun e => e ▸ hc) (h w)
  have h4 : New4.tab.before a s = true := unparts (wk q3 (.code New4.yN New4.yB 6 none)) (wks q3 (.initialized New4.yN.cls :: New4.site))
  have q4 : ∀ w ∈ New4.tab :: words, w.before a s = true := fun w hw => (List.mem_cons.mp hw).elim (fun e => e ▸ h4) (h w)
  exact unparts (wk q4 (.code New1.yN New1.yB 2 none)) (wks q4 (.initialized New1.yN.cls :: New1.site))
/-- the words ride from the start Z to the walk's own state -/
theorem moved {Z s : State} {a0 args : Array Value} (hZ : Z.Warmed39 s.vm) (hw : ∀ d ∈ words, d.before a0 Z = true) : ∀ d ∈ words, d.before args s = true := fun d hd => by
  have q := hw d hd
  have t : ∀ d ∈ words, d = .arrayClass .byte ∨ (d.onTables && d.keepsFace) = true := by decide +kernel
  rcases t d hd with rfl | t
  · exact RoadKit.mvA hZ q
  · exact RoadKit.mv hZ q t
/-- WHAT COMES BACK, over the tables of the start Z: h the heap at the call, h' behind it -/
def Q (Z : State) (x : Addr) (A : Cell) (h : Heap) (v : Option Value) (h' : Heap) (L : List Loc) : Prop := v = none ∧ (∀ y ∈ L, y.base = x) ∧ RoadKit.Keep h h' [x] ∧ h'.size = h.size + 1 ∧ RoadKit.Exa Z h' x ST ∧ RoadKit.Fld Z h' x ST "value" "[B" (.ref h.size) ∧ RoadKit.Fld Z h' x ST "coder" "B" (.int 0) ∧
  (∃ V : Cell, RoadKit.Arr Z h' h.size V .byte ∧ V.vm = .none ∧ Z.vm.findClass "[B" = some V.cls ∧ V.slots.size = A.slots.size ∧ ∀ j, j < A.slots.size → V.slots[j]? = some (.int (lo8 (cv A j)))) ∧
  ∀ (O n d : String) (w : Value), RoadKit.Fld Z h x O n d w → RoadKit.slotOf Z O n d ≠ RoadKit.slotOf Z ST "value" "[B" → RoadKit.slotOf Z O n d ≠ RoadKit.slotOf Z ST "coder" "B" → RoadKit.Fld Z h' x O n d w
/-- **new String(chars) AT A CALL, IN THE ROAD'S FORM**: for specialBack behind newO: x the fresh String, b the char[] with the cell A -/
theorem back {p : Program} {l : Launch} {e : Env} {R : Room} {s : State} {args : Array Value} {below : List Frame} {len W : Nat} {Z : State} {a0 : Array Value} {h : Heap} (hZ : Z.Warmed39 s.vm) (hw : ∀ d ∈ words, d.before a0 Z = true) {kI : Nat} (wi : (Jvm.Cond.instantiable ST kI).before a0 Z = true)
    {x b : Addr} {A : Cell} {z : Int32} {v0 c0 : Value} (E : RoadKit.Exa Z h x ST) (V : RoadKit.Fld Z h x ST "value" "[B" v0) (C : RoadKit.Fld Z h x ST "coder" "B" c0) (K : RoadKit.Arr Z h b A .char) (hty : Typed .char A) (S : RoadKit.Sta Z h ST "COMPACT_STRINGS" "Z" (.int z)) (hz : ¬ z = 0)
    (l0 : 0 < A.slots.size) (l2 : A.slots.size ≤ 536870912) (hp : ∀ i, i < A.slots.size → ¬ 255 < cv A i) (hfr : 4 ≤ R.frames) (hlo : W + 65 ≤ R.locals) :
    Back l R p e below s args New1.yN len W (fun P a => a = #[.ref x, .ref b] ∧ P.U.heap = h ∧ P.cells + 1 ≤ R.cells ∧ P.slots + A.slots.size ≤ R.slots)
      (fun P _ v B => ∃ L, Q Z x A h v B.U.heap L ∧ B.locs = P.locs ++ L ∧ B.cells = P.cells + 1 ∧ B.slots = P.slots + A.slots.size) := by
  intro m meth c P g ig mk a X hg hsize hdg hW hn hp'
  obtain ⟨rfl, rfl, r1, r2⟩ := hp'
  have al : Z.vm.Alike P.U.vm := hZ.alike.trans X.warmed.alike
  obtain ⟨D, cfV, kV, iV, fV, hD, gV, stV, knV, obV, asV, slV⟩ := id V
  obtain ⟨D', cfC, kC, iC, fC, hD', gC, stC, -, -, asC, slC⟩ := id C
  cases hD.symm.trans hD'
  obtain ⟨D2, kD, e1, e2, e3, e4, e5⟩ := id E
  cases hD.symm.trans e1
  obtain ⟨c2, k2, i1, i2, i3, -⟩ := Cond.instantiable_spec wi
  cases e2.symm.trans i1
  cases e3.symm.trans i2
  obtain ⟨kU, u1, u2⟩ := al.2.2 _ _ e3
  have hB : Blank ST x D P.U := ⟨hD, ⟨knV, fun q hq => by rw [hq] at obV; cases obV⟩, by rw [al.findClass]; exact e2, kU, u1, by rw [u2]; exact i3, by rw [u2]; exact e5 i3⟩
  have F1 : Found ST "value" "[B" fV P.U := ⟨SBG.found_only al ⟨cfV, kV, iV, gV⟩, stV⟩
  have F2 : Found ST "coder" "B" fC P.U := ⟨SBG.found_only al ⟨cfC, kC, iC, gC⟩, stC⟩
  have hA : Ch b A P.U := ⟨⟨K.1, State.isArrayOf_alike al K.2.1, K.2.2, by omega⟩, hty⟩
  have hS : StaticIs P.U ST "COMPACT_STRINGS" "Z" (.int z) := by
    obtain ⟨cfS, iS, kS, fS, st, cS, t1, t2, t3, t4, t5, t6, t7⟩ := S
    exact StaticIs.there (s := { Z with heap := P.U.heap }) ⟨cfS, iS, kS, fS, st, cS, t1, t2, t3, t4, t5, (fun q => by rw [q] at t6; cases t6), t7⟩ al rfl
  obtain ⟨v, B, X', ⟨⟨hv, E', V', q1, q2, q3, q4, q5, q6, q7, q8, q9, q10, q11⟩, hl, hc, hs⟩, st⟩ := New1.pays x D fV fC b A z (tab_of (moved hZ hw)) hfr hlo m meth c P g ig mk _ X hg hsize hdg hW hn ⟨r1, r2, rfl, hB, F1, F2, hA, hS, hz, l0, l2, hp⟩
  have al' : Z.vm.Alike B.U.vm := hZ.alike.trans X'.warmed.alike
  have hsz : E'.slots.size = D.slots.size := by
    obtain ⟨-, -, -, kB, w1, w2, w3⟩ := q1
    obtain ⟨kB', y1, y2⟩ := al'.2.2 _ _ e3
    rw [q2.2.1] at w1
    cases w1.symm.trans y1
    rw [w3, e5 i3, y2]
  refine ⟨v, B, X', ⟨_, ⟨hv, ?_, ⟨by omega, fun y cy hy hn' => q10 y cy (by simpa using hn') hy, fun y cy hy => ?_⟩, q11, ⟨E', _, q1.1, by rw [q2.2.1]; exact e2, by rw [q2.2.1]; exact e3, by rw [q2.1]; exact obV, fun _ => by rw [hsz]; exact e5 i3⟩,
    ⟨E', cfV, kV, iV, fV, q1.1, gV, stV, by rw [q2.1]; exact knV, by rw [q2.1]; exact obV, by rw [q2.2.1]; exact asV, q3⟩, ⟨E', cfC, kC, iC, fC, q1.1, gC, stC, by rw [q2.1]; exact knV, by rw [q2.1]; exact obV, by rw [q2.2.1]; exact asC, q4⟩,
    ⟨V', ⟨q5.1, State.isArrayOf_alike al'.symm q5.2.1, q5.2.2.1⟩, q6, by rw [← al'.findClass]; exact q7, q8, fun j hj => by have := q9 j hj; rwa [Nat.zero_add] at this⟩, fun O n d w F n1 n2 => ?_⟩, hl, hc, hs⟩, st⟩
  · intro y hy
    simp only [List.mem_cons, List.not_mem_nil, or_false] at hy
    rcases hy with rfl | rfl <;> rfl
  · by_cases q : y = x
    · subst q
      cases hD.symm.trans hy
      exact ⟨E', q1.1, q2.2.1, q2.1, hsz⟩
    · exact ⟨cy, q10 y cy q hy, rfl, rfl, rfl⟩
  · obtain ⟨D3, cf, k, i, f, g1, g2, g3, g4, g5, g6, g7⟩ := F
    cases hD.symm.trans g1
    simp only [RoadKit.slotOf, g2, gV, gC, Option.map_some, Option.getD_some] at n1 n2
    exact ⟨E', cf, k, i, f, q1.1, g2, g3, by rw [q2.1]; exact g4, by rw [q2.1]; exact g5, by rw [q2.2.1]; exact g6, by rw [q2.2.2 f.slot (by simp [n1, n2])]; exact g7⟩
end StrChars.Road
namespace StrChars.Road
open Jvm Sem ClassFile Op Lib Jvm.Stand Jvm.Free Jvm.Free.XT
/-- WHAT COMES BACK, the byte[] as a list of values -/
def QA (Z : State) (x : Addr) (zn : Int32) (cs : List Int32) (h : Heap) (v : Option Value) (h' : Heap) (L : List Loc) : Prop := v = none ∧ (∀ y ∈ L, y.base = x) ∧ RoadKit.Keep h h' [x] ∧ h'.size = h.size + 1 ∧ RoadKit.Exa Z h' x ST ∧ RoadKit.Fld Z h' x ST "value" "[B" (.ref h.size) ∧ RoadKit.Fld Z h' x ST "coder" "B" (.int 0) ∧
  (∃ kb, Z.vm.findClass "[B" = some kb ∧ RoadKit.Arv Z h' h.size kb .byte zn (cs.map fun c => .int (lo8 c)) (.int 0)) ∧
  ∀ (O n d : String) (w : Value), RoadKit.Fld Z h x O n d w → RoadKit.slotOf Z O n d ≠ RoadKit.slotOf Z ST "value" "[B" → RoadKit.slotOf Z O n d ≠ RoadKit.slotOf Z ST "coder" "B" → RoadKit.Fld Z h' x O n d w
/-- **new String(chars) AT A CALL, THE ARRAYS AS LISTS**: the char[] at b holds cs, not empty, no char above 255 -/
theorem backArv {p : Program} {l : Launch} {e : Env} {R : Room} {s : State} {args : Array Value} {below : List Frame} {len W : Nat} {Z : State} {a0 : Array Value} {h : Heap} (hZ : Z.Warmed39 s.vm) (hw : ∀ d ∈ words, d.before a0 Z = true) {kI : Nat} (wi : (Jvm.Cond.instantiable ST kI).before a0 Z = true)
    {x b : Addr} {k : ClassId} {zn z : Int32} {cs : List Int32} {dv v0 c0 : Value} (E : RoadKit.Exa Z h x ST) (V : RoadKit.Fld Z h x ST "value" "[B" v0) (C : RoadKit.Fld Z h x ST "coder" "B" c0) (K : RoadKit.Arv Z h b k .char zn (cs.map Value.int) dv) (S : RoadKit.Sta Z h ST "COMPACT_STRINGS" "Z" (.int z)) (hz : ¬ z = 0)
    (hlen : zn.toNatClampNeg = cs.length) (h0 : 0 < cs.length) (hbig : cs.length ≤ 536870912) (hall : ∀ c ∈ cs, ¬ 255 < c) (hfr : 4 ≤ R.frames) (hlo : W + 65 ≤ R.locals) :
    Back l R p e below s args New1.yN len W (fun P a => a = #[.ref x, .ref b] ∧ P.U.heap = h ∧ P.cells + 1 ≤ R.cells ∧ P.slots + cs.length ≤ R.slots)
      (fun P _ v B => ∃ L, QA Z x zn cs h v B.U.heap L ∧ B.locs = P.locs ++ L ∧ B.cells = P.cells + 1 ∧ B.slots = P.slots + cs.length) := by
  obtain ⟨A, K1, K2, K3, K4, K5, K6⟩ := K
  have e : A.slots.size = cs.length := K3.trans hlen
  have hat : ∀ (i : Nat) (hi : i < cs.length), A.slots[i]? = some (.int cs[i]) := fun i hi => by rw [K5 i (by omega)]; simp [List.getD_eq_getElem?_getD, hi]
  have hcv : ∀ (i : Nat) (hi : i < cs.length), cv A i = cs[i] := fun i hi => by unfold cv; rw [hat i hi]
  have hty : Typed .char A := fun i v hv => by
    have hi : i < A.slots.size := (Array.getElem?_eq_some_iff.mp hv).1
    have q := K5 i hi
    rw [hv] at q
    rw [Option.some.inj q]
    exact K6 i hi
  refine Back.mono (back hZ hw wi E V C K1 hty S hz (by omega) (by omega) (fun i hi => by rw [hcv i (by omega)]; exact hall _ (List.getElem_mem _)) hfr hlo) (fun P a hp => ⟨hp.1, hp.2.1, hp.2.2.1, by rw [e]; exact hp.2.2.2⟩) (fun P a v B hp hq => ?_)
  obtain ⟨L, ⟨q1, q2, q3, q4, q5, q6, q7, ⟨V', v1, v2, v3, v4, v5⟩, q9⟩, hl, hc, hs⟩ := hq
  refine ⟨L, ⟨q1, q2, q3, q4, q5, q6, q7, ⟨V'.cls, v3, V', v1, rfl, by rw [v4, e, hlen], K4, fun i hi => ?_, fun i hi => ?_⟩, q9⟩, hl, hc, by rw [hs, e]⟩
  · have hi' : i < cs.length := by omega
    rw [v5 i (by omega), hcv i hi']; simp [List.getD_eq_getElem?_getD, hi']
  · have hi' : i < cs.length := by omega
    simp only [List.getD_eq_getElem?_getD, List.getElem?_map, List.getElem?_eq_getElem hi', Option.map_some, Option.getD_some]
    exact fits_lo8 _
end StrChars.Road
namespace StrChars.Road
open Jvm Sem ClassFile Op Lib Jvm.Stand Jvm.Free Jvm.Free.XT
/-- WHAT COMES BACK, in the writer's own shape -/
def QV (Z : State) (x : Addr) (N : Int32) (bs : List Int32) (h : Heap) (n0 : Nat) (v : Option Value) (h' : Heap) (L : List Loc) : Prop := v = none ∧ RoadKit.Fr n0 L ∧ RoadKit.Keep h h' [x] ∧ RoadKit.Exa Z h' x ST ∧ RoadKit.Fld Z h' x ST "coder" "B" (.int 0) ∧
  ∃ (t : Addr) (kb : ClassId), n0 ≤ t ∧ h.size ≤ t ∧ ¬ t = x ∧ RoadKit.Fld Z h' x ST "value" "[B" (.ref t) ∧ RoadKit.Arv Z h' t kb .byte N (bs.map Value.int) (.int 0)
/-- **new String(chars) AT A CALL, FOR THE WRITER**: a char[] of n known ints, each 0 to 255 -/
theorem backV {p : Program} {l : Launch} {e : Env} {R : Room} {s : State} {args : Array Value} {below : List Frame} {len W : Nat} {Z : State} {a0 : Array Value} {h : Heap} (hZ : Z.Warmed39 s.vm) (hw : ∀ d ∈ words, d.before a0 Z = true) {kI : Nat} (wi : (Jvm.Cond.instantiable ST kI).before a0 Z = true)
    {x b : Addr} {kC : ClassId} {cs bs : List Int32} {d v0 c0 : Value} {z N : Int32} {n n0 : Nat} (hx0 : n0 ≤ x) (hh0 : n0 ≤ h.size) (E : RoadKit.Exa Z h x ST) (V : RoadKit.Fld Z h x ST "value" "[B" v0) (C : RoadKit.Fld Z h x ST "coder" "B" c0) (K : RoadKit.Arv Z h b kC .char N (cs.map Value.int) d) (S : RoadKit.Sta Z h ST "COMPACT_STRINGS" "Z" (.int z)) (hz : ¬ z = 0)
    (hn : cs.length = n) (hN : N = Int32.ofNat n) (l0 : 0 < n) (l2 : n ≤ 4000) (hp : ∀ c ∈ cs, ¬ c < 0 ∧ ¬ (255 : Int32) < c) (hb : bs = cs.map (fun c => c.toInt8.toInt32)) (hfr : 4 ≤ R.frames) (hlo : W + 65 ≤ R.locals) :
    Back l R p e below s args (⟨"java/lang/String", "<init>", "([C)V"⟩ : MethodName) len W (fun P a => a = #[.ref x, .ref b] ∧ P.U.heap = h ∧ P.cells + 1 ≤ R.cells ∧ P.slots + n ≤ R.slots)
      (fun P _ v B => ∃ L, QV Z x N bs h n0 v B.U.heap L ∧ B.locs = P.locs ++ L ∧ B.cells = P.cells + 1 ∧ B.slots = P.slots + n) := by
  subst hn hN hb
  refine Back.mono (backArv hZ hw wi E V C K S hz (n32 (by omega)) l0 (by omega) (fun c hc => (hp c hc).2) hfr hlo) (fun P a hp => hp) (fun P a v B hp hq => ?_)
  obtain ⟨L, ⟨q1, q2, q3, q4, q5, q6, q7, ⟨kb, v1, v2⟩, q9⟩, hl, hc, hs⟩ := hq
  exact ⟨L, ⟨q1, fun y hy => by rw [q2 y hy]; exact hx0, q3, q5, q7, h.size, kb, hh0, Nat.le_refl _, Nat.ne_of_gt E.lt, q6, by rw [List.map_map]; exact v2⟩, hl, hc, hs⟩
end StrChars.Road
namespace StrChars
open Jvm Sem ClassFile Op Lib Jvm.Stand Jvm.Free.XT Jvm.Free.ALB Jvm.Free.JM Jvm.Free
open Jvm.Lib.Cold (StaticIs)
def hi8 (x : Int32) : Int32 := lo8 (x >>> ((8 : Int32) &&& 31))
/-- what StringUTF16.getChar makes of two bytes -/
def pairCh (u v : Int32) : Int32 := (((u &&& 255) <<< ((0 : Int32) &&& 31)) ||| ((v &&& 255) <<< ((8 : Int32) &&& 31))).toUInt32.toUInt16.toUInt32.toInt32
theorem lo8_and (x : Int32) : (lo8 x &&& 255).toBitVec.toNat = x.toBitVec.toNat % 256 := by
  have h : (lo8 x).toBitVec = (x.toBitVec.signExtend 8).signExtend 32 := by rw [lo8, Int8.toBitVec_toInt32, Int32.toBitVec_toInt8]
  rw [Int32.toBitVec_and, BitVec.toNat_and, h]
  have e : ((x.toBitVec.signExtend 8).signExtend 32).toNat % 256 = x.toBitVec.toNat % 256 := by
    rw [BitVec.toNat_signExtend]
    have hlt := x.toBitVec.isLt
    simp only [BitVec.toNat_setWidth, BitVec.toNat_signExtend]
    split <;> split <;> omega
  rw [← e]
  exact Nat.and_two_pow_sub_one_eq_mod _ 8
theorem pair_says {c : Int32} (h0 : ¬ c < 0) (h1 : ¬ 65535 < c) : pairCh (lo8 c) (hi8 c) = c := by
  rw [Int32.lt_iff_toInt_lt] at h0 h1
  have e0 : (0 : Int32).toInt = 0 := rfl
  have e1 : (65535 : Int32).toInt = 65535 := rfl
  have hc : c.toInt = c.toBitVec.toNat := by
    have := c.toBitVec.isLt
    have e : c.toInt = c.toBitVec.toInt := rfl
    rw [e] at h0 h1
    rw [e]
    rw [BitVec.toInt_eq_toNat_cond] at h0 h1 ⊢
    split at h0 <;> split <;> omega
  have hn : c.toBitVec.toNat < 65536 := by omega
  have a1 := lo8_and c
  have a2 : (hi8 c &&& 255).toBitVec.toNat = c.toBitVec.toNat / 256 := by
    rw [hi8, lo8_and]
    have e : ((8 : Int32) &&& 31) = 8 := by decide
    rw [e, Int32.toBitVec_shiftRight]
    have e2 : ((8 : Int32).toBitVec.smod 32) = 8#32 := by decide
    rw [e2, BitVec.sshiftRight_eq', BitVec.toNat_sshiftRight_of_msb_false (by rw [BitVec.msb_eq_false_iff_two_mul_lt]; omega)]
    show c.toBitVec.toNat >>> 8 % 256 = _
    rw [Nat.shiftRight_eq_div_pow]
    omega
  unfold pairCh
  apply Int32.toBitVec_inj.mp
  apply BitVec.eq_of_toNat_eq
  have f0 : ((0 : Int32) &&& 31) = 0 := by decide
  have f8 : ((8 : Int32) &&& 31) = 8 := by decide
  rw [f0, f8]
  have g : (((lo8 c &&& 255) <<< (0 : Int32)) ||| ((hi8 c &&& 255) <<< (8 : Int32))).toBitVec.toNat = c.toBitVec.toNat := by
    rw [Int32.toBitVec_or, Int32.toBitVec_shiftLeft, Int32.toBitVec_shiftLeft]
    have s0 : ((0 : Int32).toBitVec.smod 32) = 0#32 := by decide
    have s8 : ((8 : Int32).toBitVec.smod 32) = 8#32 := by decide
    rw [s0, s8, BitVec.toNat_or]
    simp only [BitVec.shiftLeft_eq', BitVec.toNat_shiftLeft, a1, a2]
    show (c.toBitVec.toNat % 256) <<< 0 % 2 ^ 32 ||| (c.toBitVec.toNat / 256) <<< 8 % 2 ^ 32 = _
    rw [Nat.shiftLeft_zero, Nat.mod_eq_of_lt (show c.toBitVec.toNat % 256 < 2 ^ 32 by omega), Nat.mod_eq_of_lt (show (c.toBitVec.toNat / 256) <<< 8 < 2 ^ 32 by rw [Nat.shiftLeft_eq]; omega), Nat.or_comm, ← Nat.shiftLeft_add_eq_or_of_lt (by omega), Nat.shiftLeft_eq]
    omega
  show BitVec.toNat (((((lo8 c &&& 255) <<< (0 : Int32)) ||| ((hi8 c &&& 255) <<< (8 : Int32))).toBitVec.setWidth 16).setWidth 32) = _
  rw [BitVec.toNat_setWidth, BitVec.toNat_setWidth, g]
  omega
end StrChars
namespace StrChars
open Jvm Sem ClassFile Op Lib Jvm.Stand Jvm.Free.XT Jvm.Free.ALB Jvm.Free.JM Jvm.Free
open Jvm.Lib.Cold (StaticIs)
/-- charAt's cast of a byte read back -/
def chr8 (u : Int32) : Int32 := (u &&& 255).toUInt32.toUInt16.toUInt32.toInt32
theorem chr8_lo8 {c : Int32} (h0 : ¬ c < 0) (h1 : ¬ 255 < c) : chr8 (lo8 c) = c := by
  have t : ∀ k : Fin 256, (Int32.ofNat k.val).toUInt32.toUInt16.toUInt32.toInt32 = Int32.ofNat k.val := by decide +kernel
  unfold chr8
  rw [lo8_mask h0 h1]
  rw [Int32.lt_iff_toInt_lt] at h0 h1
  have e0 : (0 : Int32).toInt = 0 := rfl
  have e1 : (255 : Int32).toInt = 255 := rfl
  obtain ⟨k, hk⟩ : ∃ k : Nat, c.toInt = k := ⟨c.toInt.toNat, by omega⟩
  have hx : c = Int32.ofNat k := Int32.toInt_inj.mp (by rw [hk, Int32.toInt_ofNat_small (by omega)])
  rw [hx]
  exact t ⟨k, by omega⟩
theorem narrow_ch {c : Int32} (h0 : ¬ c < 0) (h1 : ¬ 65535 < c) : narrow .char (.int c) = .int c := by
  have q : narrow .char (.int (pairCh (lo8 c) (hi8 c))) = .int (pairCh (lo8 c) (hi8 c)) := narrow_c _
  rwa [pair_says h0 h1] at q
/-- the array's cell V codes the n chars f 0 .. f (n - 1) by the coder cd, as the JDK does: coder 1 just where some char is above 255 -/
def Cod (cd : Int32) (n : Nat) (f : Nat → Int32) (V : Cell) : Prop := (cd = 0 ∧ V.slots.size = n ∧ ∀ j, j < n → V.slots[j]? = some (.int (lo8 (f j))) ∧ ¬ 255 < f j) ∨ (cd = 1 ∧ V.slots.size = 2 * n ∧ (∀ j, j < n → V.slots[2 * j]? = some (.int (lo8 (f j))) ∧ V.slots[2 * j + 1]? = some (.int (hi8 (f j)))) ∧ ∃ j, j < n ∧ 255 < f j)
theorem Cod.cd {cd : Int32} {n : Nat} {f : Nat → Int32} {V : Cell} (h : Cod cd n f V) : cd = 0 ∨ cd = 1 := h.imp (fun q => q.1) fun q => q.1
/-- **x is a String of the n chars f 0 .. f (n - 1)**, Latin-1 or UTF-16; its array at t has the cell V -/
def Txt (x t : Addr) (V : Cell) (cd : Int32) (n : Nat) (f : Nat → Int32) (U : State) : Prop := Exact "java/lang/String" x U ∧ Has x "java/lang/String" "value" "[B" (.ref t) U ∧ Has x "java/lang/String" "coder" "B" (.int cd) U ∧ XT.Arr .byte t V U ∧ Cod cd n f V ∧ ∀ j, j < n → ¬ f j < 0 ∧ ¬ 65535 < f j
theorem Txt.mv {x t : Addr} {V : Cell} {cd : Int32} {n : Nat} {f : Nat → Int32} {U U' : State} (h : Txt x t V cd n f U) (hal : U.vm.Alike U'.vm) (hh : U'.heap = U.heap) : Txt x t V cd n f U' := ⟨h.1.mv hal hh, h.2.1.mv hal hh, h.2.2.1.mv hal hh, h.2.2.2.1.mv hal hh, h.2.2.2.2⟩
namespace IsL
def yN : MethodName := ⟨"java/lang/String", "isLatin1", "()Z"⟩
abbrev yB : ByteArray := jdk_42_method_154_code
theorem d0 : decode yB 0 = .ok (.getstatic 38, 3) := by decide +kernel
theorem d3 : decode yB 3 = .ok (.ifCond (.eq) 14, 3) := by decide +kernel
theorem d6 : decode yB 6 = .ok (.aload_n 0, 1) := by decide +kernel
theorem d7 : decode yB 7 = .ok (.getfield 15, 3) := by decide +kernel
theorem d10 : decode yB 10 = .ok (.ifCond (.ne) 7, 3) := by decide +kernel
theorem d13 : decode yB 13 = .ok (.iconst 1, 1) := by decide +kernel
theorem d14 : decode yB 14 = .ok (.goto 4, 3) := by decide +kernel
theorem d17 : decode yB 17 = .ok (.iconst 0, 1) := by decide +kernel
theorem d18 : decode yB 18 = .ok (.ireturn, 1) := by decide +kernel
def site : List Cond := [.fieldLink "java/lang/String" 38 "java/lang/String" "COMPACT_STRINGS" "Z", .fieldLink "java/lang/String" 15 "java/lang/String" "coder" "B"]
def tab : Cond := tabOf yN yB 1 (some .boolean) site
def P (x : Addr) (cd z : Int32) (args : Array Value) (s : State) : Prop := args = #[.ref x] ∧ Has x "java/lang/String" "coder" "B" (.int cd) s ∧ (cd = 0 ∨ cd = 1) ∧ StaticIs s "java/lang/String" "COMPACT_STRINGS" "Z" (.int z) ∧ ¬ z = 0
def E (cd : Int32) (r : Option Value) (s u : State) : Prop := XT.PureE (some (.int (1 - cd))) r s u
theorem law (l : Launch) (x : Addr) (cd z : Int32) : Law l yN 1 0 0 0 yB 1 (some .boolean) site (P x cd z) (E cd) [] 0 0 := by
  refine Law.of_walk (plainFor_of_name (by decide +kernel)) (by decide +kernel) (by decide +kernel) (by decide) (fun _ _ h => by rw [h.1]; rfl) (fun _ U U' hal hh h => ⟨h.1, h.2.1.mv hal hh, h.2.2.1, h.2.2.2.1.there hal hh, h.2.2.2.2⟩) (fun r U U' V V' h1 hal h2 h => XT.PureE.mv r U U' V V' h1 hal h2 h) ?_
  intro p e s m args below meth c s₁ X0 hexec hbytes hml hret hlk hnm hown hh0 W hP
  obtain ⟨rfl, hx, hc, s1, hz⟩ := hP
  have c1 : Steps p.tables e below (s₁.setTop (entryFrame m #[.ref x] 1)) (s₁.setTop (mkF m 0 #[.val (.ref x)] [])) := entry rfl
  obtain ⟨T2, X2, q2, st2⟩ := X0.sget hexec hown (wk W (.fieldLink "java/lang/String" 38 "java/lang/String" "COMPACT_STRINGS" "Z")) s1 (fun _ _ h => by rw [hh0]; exact h) (g := (mkF m 0 #[.val (.ref x)] [])) rfl (hb hbytes d0)
  have hh2 := q2.trans hh0
  have c3 : Steps p.tables e below (s₁.setTop (entryFrame m #[.ref x] 1)) (T2.setTop (mkF m 7 #[.val (.ref x)] [.ref x])) := (c1.trans (st2 _ (Steps.refl _))).trans (by
    refine XS.ifNo X2.here hexec rfl (hb hbytes d3) rfl (i0_eq_f hz) ?_
    refine XS.aloadN X2.here hexec rfl (hb hbytes d6) rfl rfl ?_
    exact Steps.refl _)
  obtain ⟨T4, X4, q4, st4⟩ := X2.hget hexec hown (wk W (.fieldLink "java/lang/String" 15 "java/lang/String" "coder" "B")) (hx.mv X2.warmed.alike hh2) (g := (mkF m 7 #[.val (.ref x)] [.ref x])) rfl (rest := []) rfl (hb hbytes d7)
  have c5 : Steps p.tables e below (s₁.setTop (entryFrame m #[.ref x] 1)) (T4.setTop (mkF m 10 #[.val (.ref x)] [.int cd])) := c3.trans (st4 _ (Steps.refl _))
  have c6 : Steps p.tables e below (s₁.setTop (entryFrame m #[.ref x] 1)) (T4.setTop (mkF m 18 #[.val (.ref x)] [.int (1 - cd)])) := by
    rcases hc with rfl | rfl
    · exact c5.trans (by
        refine XS.ifNo X4.here hexec rfl (hb hbytes d10) rfl (i0_ne_f rfl) ?_
        refine iconstV X4.here hexec rfl 1 (hb hbytes d13) (by decide) ?_
        refine XS.goto X4.here hexec rfl (pc0 := 14) rfl (hb hbytes d14) (by decide) rfl ?_
        exact Steps.refl _)
    · exact c5.trans (by
        refine XS.ifYes X4.here hexec rfl (pc0 := 10) rfl (hb hbytes d10) rfl (i0_ne_t (by decide)) (by decide) rfl ?_
        refine iconstV X4.here hexec rfl 0 (hb hbytes d17) (by decide) ?_
        exact Steps.refl _)
  exact ⟨T4, some (.int (1 - cd)), _, _, _, X4, rfl, rfl, rfl, (fun h => by cases h), ⟨rfl, q4.trans hh2⟩, fun fs hl => c6.trans (X4.ireturnOut hexec hret (by rcases hc with rfl | rfl <;> rfl) (Or.inr (Or.inl rfl)) (hb hbytes d18) hl)⟩
end IsL
namespace LChA
def yN : MethodName := ⟨"java/lang/StringLatin1", "charAt", "([BI)C"⟩
abbrev yB : ByteArray := jdk_43_method_2_code
theorem d0 : decode yB 0 = .ok (.iload_n 1, 1) := by decide +kernel
theorem d1 : decode yB 1 = .ok (.aload_n 0, 1) := by decide +kernel
theorem d2 : decode yB 2 = .ok (.arraylength, 1) := by decide +kernel
theorem d3 : decode yB 3 = .ok (.invokestatic 9, 3) := by decide +kernel
theorem d6 : decode yB 6 = .ok (.aload_n 0, 1) := by decide +kernel
theorem d7 : decode yB 7 = .ok (.iload_n 1, 1) := by decide +kernel
theorem d8 : decode yB 8 = .ok (.baload, 1) := by decide +kernel
theorem d9 : decode yB 9 = .ok (.sipush 255, 3) := by decide +kernel
theorem d12 : decode yB 12 = .ok (.iand, 1) := by decide +kernel
theorem d13 : decode yB 13 = .ok (.i2c, 1) := by decide +kernel
theorem d14 : decode yB 14 = .ok (.ireturn, 1) := by decide +kernel
def site : List Cond := [JO.Str_checkIndex.tab] ++ staticW "java/lang/StringLatin1" 9 JO.Str_checkIndex.yN
def tab : Cond := tabOf yN yB 2 (some .char) site
def P (t : Addr) (V : Cell) (i : Nat) (u : Int32) (fm : Value) (args : Array Value) (s : State) : Prop := args = #[.ref t, .int (Int32.ofNat i)] ∧ XT.Arr .byte t V s ∧ V.slots[i]? = some (.int u) ∧ (StaticIs s "jdk/internal/util/Preconditions" "SIOOBE_FORMATTER" "Ljava/util/function/BiFunction;" fm ∧ fm.isRef = true)
def E (u : Int32) (r : Option Value) (s w : State) : Prop := XT.PureE (some (.int (chr8 u))) r s w
theorem law (l : Launch) (t : Addr) (V : Cell) (i : Nat) (u : Int32) (fm : Value) : Law l yN 2 2 2 27 yB 2 (some .char) site (P t V i u fm) (E u) [] 0 0 := by
  refine Law.of_walk (plainFor_of_name (by decide +kernel)) (by decide +kernel) (by decide +kernel) (by decide) (fun _ _ h => by rw [h.1]; rfl) (fun _ U U' hal hh h => ⟨h.1, h.2.1.mv hal hh, h.2.2.1, h.2.2.2.1.there hal hh, h.2.2.2.2⟩) (fun r U U' V V' h1 hal h2 h => XT.PureE.mv r U U' V V' h1 hal h2 h) ?_
  intro p e s m args below meth c s₁ X0 hexec hbytes hml hret hlk hnm hown hh0 W hP
  obtain ⟨rfl, hV, hu, s1, rf⟩ := hP
  have v31 := hV.2.2.2
  have hi : i < V.slots.size := (Array.getElem?_eq_some_iff.mp hu).1
  have c1 : Steps p.tables e below (s₁.setTop (entryFrame m #[.ref t, .int (Int32.ofNat i)] 2)) (s₁.setTop (mkF m 0 #[.val (.ref t), .val (.int (Int32.ofNat i))] [])) := entry rfl
  have c2 : Steps p.tables e below (s₁.setTop (entryFrame m #[.ref t, .int (Int32.ofNat i)] 2)) (s₁.setTop (mkF m 3 #[.val (.ref t), .val (.int (Int32.ofNat i))] [.int (Int32.ofNat V.slots.size), .int (Int32.ofNat i)])) := c1.trans (by
    refine XS.iloadN X0.here hexec rfl (hb hbytes d0) rfl ?_
    refine XS.aloadN X0.here hexec rfl (hb hbytes d1) rfl rfl ?_
    refine X0.alen hexec (hV.mv X0.warmed.alike hh0) rfl rfl (hb hbytes d2) ?_
    exact Steps.refl _)
  obtain ⟨v3, T3, X3, E3, g3⟩ := X0.callS hexec (JO.Str_checkIndex.law l (Int32.ofNat i) (Int32.ofNat V.slots.size) fm) hown (wks W (staticW "java/lang/StringLatin1" 9 JO.Str_checkIndex.yN)) (wk W JO.Str_checkIndex.tab) (W := 0) (Nat.le_of_ble_eq_true rfl) (Nat.le_of_ble_eq_true rfl) (Nat.le_refl _) (Nat.le_refl _) (g := (mkF m 3 #[.val (.ref t), .val (.int (Int32.ofNat i))] [.int (Int32.ofNat V.slots.size), .int (Int32.ofNat i)])) rfl (by rw [hml]; rfl) c2 (argsL := [.int (Int32.ofNat i), .int (Int32.ofNat V.slots.size)]) (rest := []) rfl rfl (by show 2 * 0 + 0 ≤ _; decide) (hb hbytes d3) (⟨rfl, rf, s1.there X0.warmed.alike hh0, Int32.ofNat_not_neg (by omega), lt32 v31 hi⟩)
  obtain ⟨rfl, q3⟩ := E3
  have hh3 := q3.trans hh0
  have c4 : Steps p.tables e below (s₁.setTop (entryFrame m #[.ref t, .int (Int32.ofNat i)] 2)) (T3.setTop (mkF m 14 #[.val (.ref t), .val (.int (Int32.ofNat i))] [.int (chr8 u)])) := Steps.trans g3 (by
    refine XS.aloadN X3.here hexec rfl (hb hbytes d6) rfl rfl ?_
    refine XS.iloadN X3.here hexec rfl (hb hbytes d7) rfl ?_
    refine X3.aget hexec (hV.mv X3.warmed.alike hh3) rfl hu rfl rfl (hb hbytes d8) ?_
    refine sipushV X3.here hexec rfl 255 (hb hbytes d9) (by decide) ?_
    refine XS.iand X3.here hexec rfl (hb hbytes d12) rfl ?_
    refine i2c X3.here hexec rfl (hb hbytes d13) rfl ?_
    exact Steps.refl _)
  exact ⟨T3, some (.int (chr8 u)), _, _, _, X3, rfl, rfl, rfl, (fun h => by cases h), ⟨rfl, hh3⟩, fun fs hl => c4.trans (X3.ireturnOut hexec hret (narrow_c _) (Or.inr (Or.inr (Or.inr (Or.inl rfl)))) (hb hbytes d14) hl)⟩
end LChA
end StrChars
namespace StrChars.Road
open Jvm Sem ClassFile Op Lib Jvm.Stand Jvm.Free Jvm.Free.XT
open Jvm.Lib.Cold (StaticIs)
theorem consq {a : Array Value} {s : State} {c : Jvm.Cond} {L : List Jvm.Cond} (h0 : c.before a s = true) (h : ∀ w ∈ L, w.before a s = true) : ∀ w ∈ c :: L, w.before a s = true := fun w hw => (List.mem_cons.mp hw).elim (fun e => e ▸ h0) (h w)
/-- the bytes of the chars cs, low before high -/
def wideBytes : List Int32 → List Value
  | [] => []
  | c :: cs => .int (lo8 c) :: .int (hi8 c) :: wideBytes cs
theorem wide_lo (d : Value) : ∀ (cs : List Int32) (j : Nat), j < cs.length → (wideBytes cs).getD (2 * j) d = .int (lo8 (cs.getD j 0))
  | [], j, h => absurd h (Nat.not_lt_zero j)
  | c :: cs, 0, _ => rfl
  | c :: cs, j + 1, h => by
    have q := wide_lo d cs j (by simpa using h)
    rw [show 2 * (j + 1) = 2 * j + 1 + 1 from by omega]
    simpa [wideBytes] using q
theorem wide_hi (d : Value) : ∀ (cs : List Int32) (j : Nat), j < cs.length → (wideBytes cs).getD (2 * j + 1) d = .int (hi8 (cs.getD j 0))
  | [], j, h => absurd h (Nat.not_lt_zero j)
  | c :: cs, 0, _ => rfl
  | c :: cs, j + 1, h => by
    have q := wide_hi d cs j (by simpa using h)
    rw [show 2 * (j + 1) + 1 = 2 * j + 1 + 1 + 1 from by omega]
    simpa [wideBytes] using q
theorem low_at (d : Value) (cs : List Int32) (j : Nat) (h : j < cs.length) : (cs.map fun c => Value.int (lo8 c)).getD j d = .int (lo8 (cs.getD j 0)) := by
  simp [List.getD_eq_getElem?_getD, h]
/-- an array of N2 bytes vs codes the chars cs by the coder cd -/
def CodA (cs : List Int32) (cd N2 : Int32) (vs : List Value) : Prop := (cd = 0 ∧ N2 = Int32.ofNat cs.length ∧ vs = (cs.map fun c => Value.int (lo8 c)) ∧ ∀ c ∈ cs, ¬ 255 < c) ∨ (cd = 1 ∧ N2 = Int32.ofNat (2 * cs.length) ∧ vs = wideBytes cs ∧ ∃ c ∈ cs, 255 < c)
theorem CodA.cod {cs : List Int32} {cd N2 : Int32} {vs : List Value} {V : Cell} (h : CodA cs cd N2 vs) (hn : 2 * cs.length < 2 ^ 31) (hs : V.slots.size = N2.toNatClampNeg) (hv : RoadKit.Has V vs (.int 0)) : Cod cd cs.length (fun j => cs.getD j 0) V := by
  rcases h with ⟨rfl, rfl, rfl, h⟩ | ⟨rfl, rfl, rfl, c, hc, hw⟩
  · rw [n32 (by omega)] at hs
    exact Or.inl ⟨rfl, hs, fun j hj => ⟨by rw [hv j (by omega), low_at _ _ _ hj], by
      have e : cs.getD j 0 = cs[j] := by simp [List.getD_eq_getElem?_getD, hj]
      show ¬ 255 < cs.getD j 0
      rw [e]; exact h _ (List.getElem_mem _)⟩⟩
  · rw [n32 (by omega)] at hs
    obtain ⟨j, hj, rfl⟩ := List.getElem_of_mem hc
    exact Or.inr ⟨rfl, hs, fun j hj => ⟨by rw [hv _ (by omega), wide_lo _ _ _ hj], by rw [hv _ (by omega), wide_hi _ _ _ hj]⟩, j, hj, by
      have e : cs.getD j 0 = cs[j] := by simp [List.getD_eq_getElem?_getD, hj]
      show 255 < cs.getD j 0
      rw [e]; exact hw⟩
/-- an object of exactly java/lang/String, its two fields found: as the laws ask it -/
theorem strObj {Z U : State} {a0 : Array Value} {kI : Nat} (wi : (Jvm.Cond.instantiable ST kI).before a0 Z = true) (al : Z.vm.Alike U.vm) {x : Addr} {v0 c0 : Value} (E : RoadKit.Exa Z U.heap x ST) (V : RoadKit.Fld Z U.heap x ST "value" "[B" v0) (C : RoadKit.Fld Z U.heap x ST "coder" "B" c0) :
    ∃ (D : Cell) (fV fC : Field), Blank ST x D U ∧ Found ST "value" "[B" fV U ∧ Found ST "coder" "B" fC U ∧ D.slots[fV.slot]? = some v0 ∧ D.slots[fC.slot]? = some c0 ∧ RoadKit.slotOf Z ST "value" "[B" = fV.slot ∧ RoadKit.slotOf Z ST "coder" "B" = fC.slot := by
  obtain ⟨D, cfV, kV, iV, fV, hD, gV, stV, knV, obV, asV, slV⟩ := V
  obtain ⟨D', cfC, kC, iC, fC, hD', gC, stC, -, -, asC, slC⟩ := C
  cases hD.symm.trans hD'
  obtain ⟨D2, kD, e1, e2, e3, e4, e5⟩ := E
  cases hD.symm.trans e1
  obtain ⟨c2, k2, i1, i2, i3, -⟩ := Cond.instantiable_spec wi
  cases e2.symm.trans i1
  cases e3.symm.trans i2
  obtain ⟨kU, u1, u2⟩ := al.2.2 _ _ e3
  exact ⟨D, fV, fC, ⟨hD, ⟨knV, fun q hq => by rw [hq] at obV; cases obV⟩, by rw [al.findClass]; exact e2, kU, u1, by rw [u2]; exact i3, by rw [u2]; exact e5 i3⟩, ⟨SBG.found_only al ⟨cfV, kV, iV, gV⟩, stV⟩, ⟨SBG.found_only al ⟨cfC, kC, iC, gC⟩, stC⟩, slV, slC, by simp [RoadKit.slotOf, gV], by simp [RoadKit.slotOf, gC]⟩
theorem sta_is {Z U : State} (al : Z.vm.Alike U.vm) {C n d : String} {v : Value} (S : RoadKit.Sta Z U.heap C n d v) : StaticIs U C n d v := by
  obtain ⟨cfS, iS, kS, fS, st, cS, t1, t2, t3, t4, t5, t6, t7⟩ := S
  exact StaticIs.there (s := { Z with heap := U.heap }) ⟨cfS, iS, kS, fS, st, cS, t1, t2, t3, t4, t5, (fun q => by rw [q] at t6; cases t6), t7⟩ al rfl
end StrChars.Road
namespace StrChars
open Jvm Sem ClassFile Op Lib Jvm.Stand Jvm.Free.XT Jvm.Free.ALB Jvm.Free.JM Jvm.Free
open Jvm.Lib.Cold (StaticIs)
/-- what place i of a byte[]'s cell holds -/
def yv (A : Cell) (i : Nat) : Int32 := match A.slots[i]? with | some (.int x) => x | _ => 0
theorem yv_get {a : Addr} {A : Cell} {U : State} (h : XT.Arr .byte a A U) (ht : Typed .byte A) {i : Nat} (hi : i < A.slots.size) : A.slots[i]? = some (.int (yv A i)) := by
  have e := Array.getElem?_eq_getElem hi
  have f := ht i _ e
  unfold yv; rw [e]
  generalize A.slots[i] = v at f
  cases v <;> simp [fits] at f ⊢
/-- the two arrays are equal, place for place -/
def EqC (A B : Cell) : Prop := A.slots.size = B.slots.size ∧ ∀ i, i < A.slots.size → yv A i = yv B i
/-- a boolean that says whether p -/
def Says01 (q : Prop) (r : Option Value) (s u : State) : Prop := ∃ v : Int32, r = some (.int v) ∧ u.heap = s.heap ∧ ((v = 1 ∧ q) ∨ (v = 0 ∧ ¬ q))
theorem Says01.mv {q : Prop} : ∀ r (U U' V V' : State), U'.heap = U.heap → V.vm.Alike V'.vm → V'.heap = V.heap → Says01 q r U V → Says01 q r U' V' :=
  fun r U U' V V' h1 _ h2 ⟨v, a, b, c⟩ => ⟨v, a, by rw [h1, h2]; exact b, c⟩
namespace LEq
def yN : MethodName := ⟨"java/lang/StringLatin1", "equals", "([B[B)Z"⟩
abbrev yB : ByteArray := jdk_43_method_13_code
theorem d0 : decode yB 0 = .ok (.aload_n 0, 1) := by decide +kernel
theorem d1 : decode yB 1 = .ok (.arraylength, 1) := by decide +kernel
theorem d2 : decode yB 2 = .ok (.aload_n 1, 1) := by decide +kernel
theorem d3 : decode yB 3 = .ok (.arraylength, 1) := by decide +kernel
theorem d4 : decode yB 4 = .ok (.if_icmp (.ne) 30, 3) := by decide +kernel
theorem d7 : decode yB 7 = .ok (.iconst 0, 1) := by decide +kernel
theorem d8 : decode yB 8 = .ok (.istore_n 2, 1) := by decide +kernel
theorem d9 : decode yB 9 = .ok (.iload_n 2, 1) := by decide +kernel
theorem d10 : decode yB 10 = .ok (.aload_n 0, 1) := by decide +kernel
theorem d11 : decode yB 11 = .ok (.arraylength, 1) := by decide +kernel
theorem d12 : decode yB 12 = .ok (.if_icmp (.ge) 20, 3) := by decide +kernel
theorem d15 : decode yB 15 = .ok (.aload_n 0, 1) := by decide +kernel
theorem d16 : decode yB 16 = .ok (.iload_n 2, 1) := by decide +kernel
theorem d17 : decode yB 17 = .ok (.baload, 1) := by decide +kernel
theorem d18 : decode yB 18 = .ok (.aload_n 1, 1) := by decide +kernel
theorem d19 : decode yB 19 = .ok (.iload_n 2, 1) := by decide +kernel
theorem d20 : decode yB 20 = .ok (.baload, 1) := by decide +kernel
theorem d21 : decode yB 21 = .ok (.if_icmp (.eq) 5, 3) := by decide +kernel
theorem d24 : decode yB 24 = .ok (.iconst 0, 1) := by decide +kernel
theorem d25 : decode yB 25 = .ok (.ireturn, 1) := by decide +kernel
theorem d26 : decode yB 26 = .ok (.iinc 2 1, 3) := by decide +kernel
theorem d29 : decode yB 29 = .ok (.goto (-20), 3) := by decide +kernel
theorem d32 : decode yB 32 = .ok (.iconst 1, 1) := by decide +kernel
theorem d33 : decode yB 33 = .ok (.ireturn, 1) := by decide +kernel
theorem d34 : decode yB 34 = .ok (.iconst 0, 1) := by decide +kernel
theorem d35 : decode yB 35 = .ok (.ireturn, 1) := by decide +kernel
def site : List Cond := []
def tab : Cond := tabOf yN yB 3 (some .boolean) site
def P (a : Addr) (A : Cell) (b : Addr) (B : Cell) (args : Array Value) (s : State) : Prop := args = #[.ref a, .ref b] ∧ XT.Arr .byte a A s ∧ Typed .byte A ∧ XT.Arr .byte b B s ∧ Typed .byte B
/-- whether two byte[] are equal, place for place -/
theorem law (l : Launch) (a : Addr) (A : Cell) (b : Addr) (B : Cell) : Law l yN 2 2 0 0 yB 3 (some .boolean) site (P a A b B) (Says01 (EqC A B)) [] 0 0 := by
  refine Law.of_walk (plainFor_of_name (by decide +kernel)) (by decide +kernel) (by decide +kernel) (by decide) (fun _ _ h => by rw [h.1]; rfl) (fun _ U U' hal hh h => ⟨h.1, h.2.1.mv hal hh, h.2.2.1, h.2.2.2.1.mv hal hh, h.2.2.2.2⟩) (fun r U U' V V' h1 hal h2 h => Says01.mv r U U' V V' h1 hal h2 h) ?_
  intro p e s m args below meth c s₁ X0 hexec hbytes hml hret hlk hnm hown hh0 W hP
  obtain ⟨rfl, hA, tA, hB, tB⟩ := hP
  have a31 := hA.2.2.2
  have b31 := hB.2.2.2
  have hA0 := hA.mv X0.warmed.alike hh0
  have hB0 := hB.mv X0.warmed.alike hh0
  have c1 : Steps p.tables e below (s₁.setTop (entryFrame m #[.ref a, .ref b] 3)) (s₁.setTop (mkF m 0 #[.val (.ref a), .val (.ref b), .unset] [])) := entry rfl
  have c2 : Steps p.tables e below (s₁.setTop (entryFrame m #[.ref a, .ref b] 3)) (s₁.setTop (mkF m 4 #[.val (.ref a), .val (.ref b), .unset] [.int (Int32.ofNat B.slots.size), .int (Int32.ofNat A.slots.size)])) := c1.trans (by
    refine XS.aloadN X0.here hexec rfl (hb hbytes d0) rfl rfl ?_
    refine X0.alen hexec hA0 rfl rfl (hb hbytes d1) ?_
    refine XS.aloadN X0.here hexec rfl (hb hbytes d2) rfl rfl ?_
    refine X0.alen hexec hB0 rfl rfl (hb hbytes d3) ?_
    exact Steps.refl _)
  by_cases hs : A.slots.size = B.slots.size
  · have c3 : Steps p.tables e below (s₁.setTop (entryFrame m #[.ref a, .ref b] 3)) (s₁.setTop (mkF m 9 #[.val (.ref a), .val (.ref b), .val (.int 0)] [])) := c2.trans (by
      refine XS.icmpNo X0.here hexec rfl (hb hbytes d4) rfl (ii_ne_f (by rw [hs])) ?_
      refine iconstV X0.here hexec rfl 0 (hb hbytes d7) (by decide) ?_
      refine XS.istoreN X0.here hexec rfl (hb hbytes d8) rfl rfl ?_
      exact Steps.refl _)
    have loop : ∀ (r i : Nat), i + r = A.slots.size → (∀ j, j < i → yv A j = yv B j) → Steps p.tables e below (s₁.setTop (entryFrame m #[.ref a, .ref b] 3)) (s₁.setTop (mkF m 9 #[.val (.ref a), .val (.ref b), .val (.int (Int32.ofNat i))] [])) → ∃ (pc : Nat) (Ls : Array Slot) (v : Int32), (pc = 25 ∨ pc = 33) ∧ ((v = 1 ∧ EqC A B) ∨ (v = 0 ∧ ¬ EqC A B)) ∧ Steps p.tables e below (s₁.setTop (entryFrame m #[.ref a, .ref b] 3)) (s₁.setTop (mkF m pc Ls [.int v])) := by
      intro r
      induction r with
      | zero =>
        intro i hi he cl
        exact ⟨33, _, 1, Or.inr rfl, Or.inl ⟨rfl, hs, fun j hj => he j (by omega)⟩, cl.trans (by
          refine XS.iloadN X0.here hexec rfl (hb hbytes d9) rfl ?_
          refine XS.aloadN X0.here hexec rfl (hb hbytes d10) rfl rfl ?_
          refine X0.alen hexec hA0 rfl rfl (hb hbytes d11) ?_
          refine XS.icmpYes X0.here hexec rfl (pc0 := 12) rfl (hb hbytes d12) rfl (ii_ge_t (nlt32 (by omega) (by omega))) (by decide) rfl ?_
          refine iconstV X0.here hexec rfl 1 (hb hbytes d32) (by decide) ?_
          exact Steps.refl _)⟩
      | succ r ih =>
        intro i hi he cl
        have c4 : Steps p.tables e below (s₁.setTop (entryFrame m #[.ref a, .ref b] 3)) (s₁.setTop (mkF m 21 #[.val (.ref a), .val (.ref b), .val (.int (Int32.ofNat i))] [.int (yv B i), .int (yv A i)])) := cl.trans (by
          refine XS.iloadN X0.here hexec rfl (hb hbytes d9) rfl ?_
          refine XS.aloadN X0.here hexec rfl (hb hbytes d10) rfl rfl ?_
          refine X0.alen hexec hA0 rfl rfl (hb hbytes d11) ?_
          refine XS.icmpNo X0.here hexec rfl (hb hbytes d12) rfl (ii_ge_f (lt32 (by omega) (by omega))) ?_
          refine XS.aloadN X0.here hexec rfl (hb hbytes d15) rfl rfl ?_
          refine XS.iloadN X0.here hexec rfl (hb hbytes d16) rfl ?_
          refine X0.aget hexec hA0 rfl (yv_get hA tA (i := i) (by omega)) rfl rfl (hb hbytes d17) ?_
          refine XS.aloadN X0.here hexec rfl (hb hbytes d18) rfl rfl ?_
          refine XS.iloadN X0.here hexec rfl (hb hbytes d19) rfl ?_
          refine X0.aget hexec hB0 rfl (yv_get hB tB (i := i) (by omega)) rfl rfl (hb hbytes d20) ?_
          exact Steps.refl _)
        by_cases hv : yv A i = yv B i
        · have c5 : Steps p.tables e below (s₁.setTop (entryFrame m #[.ref a, .ref b] 3)) (s₁.setTop (mkF m 9 #[.val (.ref a), .val (.ref b), .val (.int (Int32.ofNat i + 1))] [])) := c4.trans (by
            refine XS.icmpYes X0.here hexec rfl (pc0 := 21) rfl (hb hbytes d21) rfl (ii_eq_t hv) (by decide) rfl ?_
            refine iincV X0.here hexec rfl 1 (hb hbytes d26) (by decide) rfl rfl ?_
            refine XS.goto X0.here hexec rfl (pc0 := 29) rfl (hb hbytes d29) (by decide) rfl ?_
            exact Steps.refl _)
          rw [succ32] at c5
          exact ih (i + 1) (by omega) (fun j hj => by
            by_cases e : j = i
            · rw [e]; exact hv
            · exact he j (by omega)) c5
        · exact ⟨25, _, 0, Or.inl rfl, Or.inr ⟨rfl, fun q => hv (q.2 i (by omega))⟩, c4.trans (by
            refine XS.icmpNo X0.here hexec rfl (hb hbytes d21) rfl (ii_eq_f hv) ?_
            refine iconstV X0.here hexec rfl 0 (hb hbytes d24) (by decide) ?_
            exact Steps.refl _)⟩
    obtain ⟨pc, Ls, v, hpc, hv, cz⟩ := loop A.slots.size 0 (by omega) (fun j hj => absurd hj (Nat.not_lt_zero j)) c3
    have nv : narrow .boolean (.int v) = .int v := by rcases hv with ⟨rfl, -⟩ | ⟨rfl, -⟩ <;> rfl
    rcases hpc with rfl | rfl
    · exact ⟨s₁, some (.int v), _, _, _, X0, rfl, rfl, rfl, (fun h => by cases h), ⟨v, rfl, hh0, hv⟩, fun fs hl => cz.trans (X0.ireturnOut hexec hret nv (Or.inr (Or.inl rfl)) (hb hbytes d25) hl)⟩
    · exact ⟨s₁, some (.int v), _, _, _, X0, rfl, rfl, rfl, (fun h => by cases h), ⟨v, rfl, hh0, hv⟩, fun fs hl => cz.trans (X0.ireturnOut hexec hret nv (Or.inr (Or.inl rfl)) (hb hbytes d33) hl)⟩
  · have c3 : Steps p.tables e below (s₁.setTop (entryFrame m #[.ref a, .ref b] 3)) (s₁.setTop (mkF m 35 #[.val (.ref a), .val (.ref b), .unset] [.int 0])) := c2.trans (by
      refine XS.icmpYes X0.here hexec rfl (pc0 := 4) rfl (hb hbytes d4) rfl (ii_ne_t (ne32 a31 b31 hs)) (by decide) rfl ?_
      refine iconstV X0.here hexec rfl 0 (hb hbytes d34) (by decide) ?_
      exact Steps.refl _)
    exact ⟨s₁, some (.int 0), _, _, _, X0, rfl, rfl, rfl, (fun h => by cases h), ⟨0, rfl, hh0, Or.inr ⟨rfl, fun q => hs q.1⟩⟩, fun fs hl => c3.trans (X0.ireturnOut hexec hret rfl (Or.inr (Or.inl rfl)) (hb hbytes d35) hl)⟩
end LEq
theorem Cod.ty {cd : Int32} {n : Nat} {f : Nat → Int32} {V : Cell} (h : Cod cd n f V) : Typed .byte V := fun i v hv => by
  have hi : i < V.slots.size := (Array.getElem?_eq_some_iff.mp hv).1
  rcases h with ⟨-, k1, k2⟩ | ⟨-, k1, k2, -⟩
  · rw [(k2 i (by omega)).1] at hv; cases hv; exact fits_lo8 _
  · rcases Nat.mod_two_eq_zero_or_one i with e | e
    · obtain ⟨j, rfl⟩ : ∃ j, i = 2 * j := ⟨i / 2, by omega⟩
      rw [(k2 j (by omega)).1] at hv; cases hv; exact fits_lo8 _
    · obtain ⟨j, rfl⟩ : ∃ j, i = 2 * j + 1 := ⟨i / 2, by omega⟩
      rw [(k2 j (by omega)).2] at hv; cases hv; exact fits_lo8 _
/-- the same text -/
def SameT (n : Nat) (f : Nat → Int32) (k : Nat) (g : Nat → Int32) : Prop := n = k ∧ ∀ j, j < n → f j = g j
theorem lo8_inj {x y : Int32} (h0 : ¬ x < 0) (h1 : ¬ 255 < x) (k0 : ¬ y < 0) (k1 : ¬ 255 < y) (h : lo8 x = lo8 y) : x = y := by
  rw [← lo8_mask h0 h1, ← lo8_mask k0 k1, h]
/-- arrays coded by one coder are equal just where the texts are -/
theorem Cod.eqv {cd : Int32} {n k : Nat} {f g : Nat → Int32} {V V' : Cell} (h : Cod cd n f V) (h' : Cod cd k g V') (hf : ∀ j, j < n → ¬ f j < 0 ∧ ¬ 65535 < f j) (hg : ∀ j, j < k → ¬ g j < 0 ∧ ¬ 65535 < g j) : EqC V V' ↔ SameT n f k g := by
  have yvv : ∀ {W : Cell} {i : Nat} {x : Int32}, W.slots[i]? = some (.int x) → yv W i = x := fun q => by unfold yv; rw [q]
  rcases h with ⟨rfl, k1, k2⟩ | ⟨rfl, k1, k2, -⟩
  · rcases h' with ⟨-, m1, m2⟩ | ⟨e, -⟩
    · constructor
      · rintro ⟨e1, e2⟩
        refine ⟨by omega, fun j hj => ?_⟩
        have q := e2 j (by omega)
        rw [yvv (k2 j hj).1, yvv (m2 j (by omega)).1] at q
        exact lo8_inj (hf j hj).1 (k2 j hj).2 (hg j (by omega)).1 (m2 j (by omega)).2 q
      · rintro ⟨rfl, e2⟩
        refine ⟨by omega, fun j hj => ?_⟩
        rw [yvv (k2 j (by omega)).1, yvv (m2 j (by omega)).1, e2 j (by omega)]
    · exact absurd e (by decide)
  · rcases h' with ⟨e, -⟩ | ⟨-, m1, m2, -⟩
    · exact absurd e (by decide)
    · constructor
      · rintro ⟨e1, e2⟩
        refine ⟨by omega, fun j hj => ?_⟩
        have q1 := e2 (2 * j) (by omega)
        have q2 := e2 (2 * j + 1) (by omega)
        rw [yvv (k2 j hj).1, yvv (m2 j (by omega)).1] at q1
        rw [yvv (k2 j hj).2, yvv (m2 j (by omega)).2] at q2
        rw [← pair_says (hf j hj).1 (hf j hj).2, ← pair_says (hg j (by omega)).1 (hg j (by omega)).2, q1, q2]
      · rintro ⟨rfl, e2⟩
        refine ⟨by omega, fun i hi => ?_⟩
        rcases Nat.mod_two_eq_zero_or_one i with e | e
        · obtain ⟨j, rfl⟩ : ∃ j, i = 2 * j := ⟨i / 2, by omega⟩
          rw [yvv (k2 j (by omega)).1, yvv (m2 j (by omega)).1, e2 j (by omega)]
        · obtain ⟨j, rfl⟩ : ∃ j, i = 2 * j + 1 := ⟨i / 2, by omega⟩
          rw [yvv (k2 j (by omega)).2, yvv (m2 j (by omega)).2, e2 j (by omega)]
/-- two codings differ: so do the texts -/
theorem Cod.dif {cd cd' : Int32} {n k : Nat} {f g : Nat → Int32} {V V' : Cell} (h : Cod cd n f V) (h' : Cod cd' k g V') (hne : ¬ cd = cd') : ¬ SameT n f k g := by
  rintro ⟨rfl, e⟩
  rcases h with ⟨rfl, -, k2⟩ | ⟨rfl, -, -, j, hj, hw⟩
  · rcases h' with ⟨rfl, -⟩ | ⟨-, -, -, j, hj, hw⟩
    · exact hne rfl
    · exact (k2 j hj).2 (by rw [e j hj]; exact hw)
  · rcases h' with ⟨-, -, m2⟩ | ⟨rfl, -⟩
    · exact (m2 j hj).2 (by rw [← e j hj]; exact hw)
    · exact hne rfl
/-- an object of exactly C is an instance of C -/
theorem cinst {p : Program} {l : Launch} {e : Env} {R : Room} {s : State} {m : MethodId} {args : Array Value} {below : List Frame} {meth : Method} {c : Code} {T : State} {locs : List Loc} {cells slots : Nat} (X : Stand p l e R s m args below meth c T locs cells slots) (hexec : p.tables.exec = Jvm.exec) {own C : String} {index : Nat} (hown : s.vm.findClass own = some m.cls) (hlink : (Cond.classLink own index C).before args s = true) {a : Addr} (hE : Exact C a T)
    {g : JFrame} (hg : g.method = m) {rest : List Value} (hstack : g.stack = .ref a :: rest) (hdg : decode c.code g.pc = .ok (.instanceof index, 3)) :
    ∃ T', Stand p l e R s m args below meth c T' locs cells slots ∧ T'.heap = T.heap ∧ ∀ target, Steps p.tables e below (T'.setTop { g with pc := g.pc + 3, stack := .int 1 :: rest }) target → Steps p.tables e below (T.setTop g) target := by
  obtain ⟨cB, h1, D, h2, h3, h4⟩ := hE
  have h1' : s.vm.findClass C = some cB := by rw [← X.warmed.alike.findClass]; exact h1
  obtain ⟨vm', X', st⟩ := X.instanceofYes hexec hown hlink h2 h4 h1' (by rw [h3]; exact Jvm.Free.SB.assignable_self _ _) hg hstack hdg
  exact ⟨_, X', rfl, st⟩
theorem cself {p : Program} {l : Launch} {e : Env} {R : Room} {s : State} {m : MethodId} {args : Array Value} {below : List Frame} {meth : Method} {c : Code} {T : State} {locs : List Loc} {cells slots : Nat} (X : Stand p l e R s m args below meth c T locs cells slots) (hexec : p.tables.exec = Jvm.exec) {own C : String} {index : Nat} (hown : s.vm.findClass own = some m.cls) (hlink : (Cond.classLink own index C).before args s = true) {a : Addr} (hE : Exact C a T)
    {g : JFrame} (hg : g.method = m) {rest : List Value} (hstack : g.stack = .ref a :: rest) (hdg : decode c.code g.pc = .ok (.checkcast index, 3)) :
    ∃ T', Stand p l e R s m args below meth c T' locs cells slots ∧ T'.heap = T.heap ∧ ∀ target, Steps p.tables e below (T'.setTop { g with pc := g.pc + 3, stack := .ref a :: rest }) target → Steps p.tables e below (T.setTop g) target := by
  obtain ⟨cB, h1, D, h2, h3, h4⟩ := hE
  have h1' : s.vm.findClass C = some cB := by rw [← X.warmed.alike.findClass]; exact h1
  obtain ⟨vm', X', st⟩ := X.checkcastYes hexec hown hlink h2 h4 h1' (by rw [h3]; exact Jvm.Free.SB.assignable_self _ _) hg hstack hdg
  exact ⟨_, X', rfl, fun t h => st t (by rw [← hstack] at h; exact h)⟩
namespace SEq
def yN : MethodName := ⟨"java/lang/String", "equals", "(Ljava/lang/Object;)Z"⟩
abbrev yB : ByteArray := jdk_42_method_66_code
theorem d0 : decode yB 0 = .ok (.aload_n 0, 1) := by decide +kernel
theorem d1 : decode yB 1 = .ok (.aload_n 1, 1) := by decide +kernel
theorem d2 : decode yB 2 = .ok (.if_acmp (.ne) 5, 3) := by decide +kernel
theorem d5 : decode yB 5 = .ok (.iconst 1, 1) := by decide +kernel
theorem d6 : decode yB 6 = .ok (.ireturn, 1) := by decide +kernel
theorem d7 : decode yB 7 = .ok (.aload_n 1, 1) := by decide +kernel
theorem d8 : decode yB 8 = .ok (.instanceof 10, 3) := by decide +kernel
theorem d11 : decode yB 11 = .ok (.ifCond (.eq) 43, 3) := by decide +kernel
theorem d14 : decode yB 14 = .ok (.aload_n 1, 1) := by decide +kernel
theorem d15 : decode yB 15 = .ok (.checkcast 10, 3) := by decide +kernel
theorem d18 : decode yB 18 = .ok (.astore_n 2, 1) := by decide +kernel
theorem d19 : decode yB 19 = .ok (.getstatic 38, 3) := by decide +kernel
theorem d22 : decode yB 22 = .ok (.ifCond (.eq) 14, 3) := by decide +kernel
theorem d25 : decode yB 25 = .ok (.aload_n 0, 1) := by decide +kernel
theorem d26 : decode yB 26 = .ok (.getfield 15, 3) := by decide +kernel
theorem d29 : decode yB 29 = .ok (.aload_n 2, 1) := by decide +kernel
theorem d30 : decode yB 30 = .ok (.getfield 15, 3) := by decide +kernel
theorem d33 : decode yB 33 = .ok (.if_icmp (.ne) 21, 3) := by decide +kernel
theorem d36 : decode yB 36 = .ok (.aload_n 0, 1) := by decide +kernel
theorem d37 : decode yB 37 = .ok (.getfield 9, 3) := by decide +kernel
theorem d40 : decode yB 40 = .ok (.aload_n 2, 1) := by decide +kernel
theorem d41 : decode yB 41 = .ok (.getfield 9, 3) := by decide +kernel
theorem d44 : decode yB 44 = .ok (.invokestatic 541, 3) := by decide +kernel
theorem d47 : decode yB 47 = .ok (.ifCond (.eq) 7, 3) := by decide +kernel
theorem d50 : decode yB 50 = .ok (.iconst 1, 1) := by decide +kernel
theorem d51 : decode yB 51 = .ok (.goto 4, 3) := by decide +kernel
theorem d54 : decode yB 54 = .ok (.iconst 0, 1) := by decide +kernel
theorem d55 : decode yB 55 = .ok (.ireturn, 1) := by decide +kernel
def site : List Cond := [.classLink "java/lang/String" 10 "java/lang/String", .fieldLink "java/lang/String" 38 "java/lang/String" "COMPACT_STRINGS" "Z", .fieldLink "java/lang/String" 15 "java/lang/String" "coder" "B", .fieldLink "java/lang/String" 9 "java/lang/String" "value" "[B", LEq.tab] ++ staticW "java/lang/String" 541 LEq.yN
def tab : Cond := tabOf yN yB 3 (some .boolean) site
def P (x t : Addr) (V : Cell) (cd : Int32) (n : Nat) (f : Nat → Int32) (y t' : Addr) (V' : Cell) (cd' : Int32) (k : Nat) (g : Nat → Int32) (z : Int32) (args : Array Value) (s : State) : Prop := args = #[.ref x, .ref y] ∧ Txt x t V cd n f s ∧ Txt y t' V' cd' k g s ∧ StaticIs s "java/lang/String" "COMPACT_STRINGS" "Z" (.int z) ∧ ¬ z = 0
/-- equals(Object) of two Strings: whether the texts are the same -/
theorem law (l : Launch) (x t : Addr) (V : Cell) (cd : Int32) (n : Nat) (f : Nat → Int32) (y t' : Addr) (V' : Cell) (cd' : Int32) (k : Nat) (g : Nat → Int32) (z : Int32) : Law l yN 2 1 1 14 yB 3 (some .boolean) site (P x t V cd n f y t' V' cd' k g z) (Says01 (SameT n f k g)) [] 0 0 := by
  refine Law.of_walk (plainFor_of_name (by decide +kernel)) (by decide +kernel) (by decide +kernel) (by decide) (fun _ _ h => by rw [h.1]; rfl) (fun _ U U' hal hh h => ⟨h.1, h.2.1.mv hal hh, h.2.2.1.mv hal hh, h.2.2.2.1.there hal hh, h.2.2.2.2⟩) (fun r U U' V V' h1 hal h2 h => Says01.mv r U U' V V' h1 hal h2 h) ?_
  intro p e s m args below meth c s₁ X0 hexec hbytes hml hret hlk hnm hown hh0 W hP
  obtain ⟨rfl, hx, hy, s1, hz⟩ := hP
  have c1 : Steps p.tables e below (s₁.setTop (entryFrame m #[.ref x, .ref y] 3)) (s₁.setTop (mkF m 2 #[.val (.ref x), .val (.ref y), .unset] [.ref y, .ref x])) := Steps.trans (entry rfl) (by
    show Steps p.tables e below (s₁.setTop (mkF m 0 #[.val (.ref x), .val (.ref y), .unset] [])) _
    refine XS.aloadN X0.here hexec rfl (hb hbytes d0) rfl rfl ?_
    refine XS.aloadN X0.here hexec rfl (hb hbytes d1) rfl rfl ?_
    exact Steps.refl _)
  by_cases hxy : x = y
  · have c2 : Steps p.tables e below (s₁.setTop (entryFrame m #[.ref x, .ref y] 3)) (s₁.setTop (mkF m 6 #[.val (.ref x), .val (.ref y), .unset] [.int 1])) := c1.trans (by
      refine acmpNo X0.here hexec rfl (hb hbytes d2) rfl rfl rfl (by simp [acmp, hxy]) ?_
      refine iconstV X0.here hexec rfl 1 (hb hbytes d5) (by decide) ?_
      exact Steps.refl _)
    subst hxy
    have ec : cd = cd' := by
      obtain ⟨D, fd, a1, a2, a3⟩ := hx.2.2.1
      obtain ⟨D', fd', b1, b2, b3⟩ := hy.2.2.1
      cases a1.symm.trans b1
      obtain ⟨q1, q2, q3, q4⟩ := a2.1
      obtain ⟨r1, r2, r3, r4⟩ := b2.1
      cases q4.symm.trans r4
      cases a3.symm.trans b3; rfl
    have et : t = t' := by
      obtain ⟨D, fd, a1, a2, a3⟩ := hx.2.1
      obtain ⟨D', fd', b1, b2, b3⟩ := hy.2.1
      cases a1.symm.trans b1
      obtain ⟨q1, q2, q3, q4⟩ := a2.1
      obtain ⟨r1, r2, r3, r4⟩ := b2.1
      cases q4.symm.trans r4
      cases a3.symm.trans b3; rfl
    subst ec et
    have ev : V = V' := by cases hx.2.2.2.1.1.symm.trans hy.2.2.2.1.1; rfl
    subst ev
    have hs : SameT n f k g := (Cod.eqv hx.2.2.2.2.1 hy.2.2.2.2.1 hx.2.2.2.2.2 hy.2.2.2.2.2).mp ⟨rfl, fun _ _ => rfl⟩
    exact ⟨s₁, some (.int 1), _, _, _, X0, rfl, rfl, rfl, (fun h => by cases h), ⟨1, rfl, hh0, Or.inl ⟨rfl, hs⟩⟩, fun fs hl => c2.trans (X0.ireturnOut hexec hret rfl (Or.inr (Or.inl rfl)) (hb hbytes d6) hl)⟩
  · have c2 : Steps p.tables e below (s₁.setTop (entryFrame m #[.ref x, .ref y] 3)) (s₁.setTop (mkF m 8 #[.val (.ref x), .val (.ref y), .unset] [.ref y])) := c1.trans (by
      refine acmpYes X0.here hexec rfl (pc0 := 2) rfl (hb hbytes d2) rfl rfl rfl (by simp [acmp, hxy]) (by decide) rfl ?_
      refine XS.aloadN X0.here hexec rfl (hb hbytes d7) rfl rfl ?_
      exact Steps.refl _)
    obtain ⟨T3, X3, q3, st3⟩ := cinst X0 hexec hown (wk W (.classLink "java/lang/String" 10 "java/lang/String")) (hy.mv X0.warmed.alike hh0).1 (g := (mkF m 8 #[.val (.ref x), .val (.ref y), .unset] [.ref y])) rfl (rest := []) rfl (hb hbytes d8)
    have hh3 := q3.trans hh0
    have c4 : Steps p.tables e below (s₁.setTop (entryFrame m #[.ref x, .ref y] 3)) (T3.setTop (mkF m 15 #[.val (.ref x), .val (.ref y), .unset] [.ref y])) := (c2.trans (st3 _ (Steps.refl _))).trans (by
      refine XS.ifNo X3.here hexec rfl (hb hbytes d11) rfl (i0_eq_f (by decide)) ?_
      refine XS.aloadN X3.here hexec rfl (hb hbytes d14) rfl rfl ?_
      exact Steps.refl _)
    obtain ⟨T5, X5, q5, st5⟩ := cself X3 hexec hown (wk W (.classLink "java/lang/String" 10 "java/lang/String")) (hy.mv X3.warmed.alike hh3).1 (g := (mkF m 15 #[.val (.ref x), .val (.ref y), .unset] [.ref y])) rfl (rest := []) rfl (hb hbytes d15)
    have hh5 := q5.trans hh3
    have c6 : Steps p.tables e below (s₁.setTop (entryFrame m #[.ref x, .ref y] 3)) (T5.setTop (mkF m 19 #[.val (.ref x), .val (.ref y), .val (.ref y)] [])) := (c4.trans (st5 _ (Steps.refl _))).trans (by
      refine XS.astoreN X5.here hexec rfl (hb hbytes d18) rfl rfl rfl ?_
      exact Steps.refl _)
    obtain ⟨T7, X7, q7, st7⟩ := X5.sget hexec hown (wk W (.fieldLink "java/lang/String" 38 "java/lang/String" "COMPACT_STRINGS" "Z")) s1 (fun _ _ h => by rw [hh5]; exact h) (g := (mkF m 19 #[.val (.ref x), .val (.ref y), .val (.ref y)] [])) rfl (hb hbytes d19)
    have hh7 := q7.trans hh5
    have c8 : Steps p.tables e below (s₁.setTop (entryFrame m #[.ref x, .ref y] 3)) (T7.setTop (mkF m 26 #[.val (.ref x), .val (.ref y), .val (.ref y)] [.ref x])) := (c6.trans (st7 _ (Steps.refl _))).trans (by
      refine XS.ifNo X7.here hexec rfl (hb hbytes d22) rfl (i0_eq_f hz) ?_
      refine XS.aloadN X7.here hexec rfl (hb hbytes d25) rfl rfl ?_
      exact Steps.refl _)
    obtain ⟨T9, X9, q9, st9⟩ := X7.hget hexec hown (wk W (.fieldLink "java/lang/String" 15 "java/lang/String" "coder" "B")) (hx.mv X7.warmed.alike hh7).2.2.1 (g := (mkF m 26 #[.val (.ref x), .val (.ref y), .val (.ref y)] [.ref x])) rfl (rest := []) rfl (hb hbytes d26)
    have hh9 := q9.trans hh7
    have c10 : Steps p.tables e below (s₁.setTop (entryFrame m #[.ref x, .ref y] 3)) (T9.setTop (mkF m 30 #[.val (.ref x), .val (.ref y), .val (.ref y)] [.ref y, .int cd])) := (c8.trans (st9 _ (Steps.refl _))).trans (by
      refine XS.aloadN X9.here hexec rfl (hb hbytes d29) rfl rfl ?_
      exact Steps.refl _)
    obtain ⟨T11, X11, q11, st11⟩ := X9.hget hexec hown (wk W (.fieldLink "java/lang/String" 15 "java/lang/String" "coder" "B")) (hy.mv X9.warmed.alike hh9).2.2.1 (g := (mkF m 30 #[.val (.ref x), .val (.ref y), .val (.ref y)] [.ref y, .int cd])) rfl (rest := [.int cd]) rfl (hb hbytes d30)
    have hh11 := q11.trans hh9
    have c12 : Steps p.tables e below (s₁.setTop (entryFrame m #[.ref x, .ref y] 3)) (T11.setTop (mkF m 33 #[.val (.ref x), .val (.ref y), .val (.ref y)] [.int cd', .int cd])) := c10.trans (st11 _ (Steps.refl _))
    by_cases hcd : cd = cd'
    · subst hcd
      have c13 : Steps p.tables e below (s₁.setTop (entryFrame m #[.ref x, .ref y] 3)) (T11.setTop (mkF m 37 #[.val (.ref x), .val (.ref y), .val (.ref y)] [.ref x])) := c12.trans (by
        refine XS.icmpNo X11.here hexec rfl (hb hbytes d33) rfl (ii_ne_f rfl) ?_
        refine XS.aloadN X11.here hexec rfl (hb hbytes d36) rfl rfl ?_
        exact Steps.refl _)
      obtain ⟨T14, X14, q14, st14⟩ := X11.hget hexec hown (wk W (.fieldLink "java/lang/String" 9 "java/lang/String" "value" "[B")) (hx.mv X11.warmed.alike hh11).2.1 (g := (mkF m 37 #[.val (.ref x), .val (.ref y), .val (.ref y)] [.ref x])) rfl (rest := []) rfl (hb hbytes d37)
      have hh14 := q14.trans hh11
      have c15 : Steps p.tables e below (s₁.setTop (entryFrame m #[.ref x, .ref y] 3)) (T14.setTop (mkF m 41 #[.val (.ref x), .val (.ref y), .val (.ref y)] [.ref y, .ref t])) := (c13.trans (st14 _ (Steps.refl _))).trans (by
        refine XS.aloadN X14.here hexec rfl (hb hbytes d40) rfl rfl ?_
        exact Steps.refl _)
      obtain ⟨T16, X16, q16, st16⟩ := X14.hget hexec hown (wk W (.fieldLink "java/lang/String" 9 "java/lang/String" "value" "[B")) (hy.mv X14.warmed.alike hh14).2.1 (g := (mkF m 41 #[.val (.ref x), .val (.ref y), .val (.ref y)] [.ref y, .ref t])) rfl (rest := [.ref t]) rfl (hb hbytes d41)
      have hh16 := q16.trans hh14
      have c17 : Steps p.tables e below (s₁.setTop (entryFrame m #[.ref x, .ref y] 3)) (T16.setTop (mkF m 44 #[.val (.ref x), .val (.ref y), .val (.ref y)] [.ref t', .ref t])) := c15.trans (st16 _ (Steps.refl _))
      obtain ⟨v18, T18, X18, E18, g18⟩ := X16.callS hexec (LEq.law l t V t' V') hown (wks W (staticW "java/lang/String" 541 LEq.yN)) (wk W LEq.tab) (W := 0) (Nat.le_of_ble_eq_true rfl) (Nat.le_of_ble_eq_true rfl) (Nat.le_refl _) (Nat.le_refl _) (g := (mkF m 44 #[.val (.ref x), .val (.ref y), .val (.ref y)] [.ref t', .ref t])) rfl (by rw [hml]; rfl) c17 (argsL := [.ref t, .ref t']) (rest := []) rfl rfl (by show 2 * 0 + 0 ≤ _; decide) (hb hbytes d44) (⟨rfl, hx.2.2.2.1.mv X16.warmed.alike hh16, hx.2.2.2.2.1.ty, hy.2.2.2.1.mv X16.warmed.alike hh16, hy.2.2.2.2.1.ty⟩)
      obtain ⟨v, rfl, q18, hv⟩ := E18
      have iff := Cod.eqv hx.2.2.2.2.1 hy.2.2.2.2.1 hx.2.2.2.2.2 hy.2.2.2.2.2
      rcases hv with ⟨rfl, he⟩ | ⟨rfl, he⟩
      · have c19 : Steps p.tables e below (s₁.setTop (entryFrame m #[.ref x, .ref y] 3)) (T18.setTop (mkF m 55 #[.val (.ref x), .val (.ref y), .val (.ref y)] [.int 1])) := Steps.trans g18 (by
          refine XS.ifNo X18.here hexec rfl (hb hbytes d47) rfl (i0_eq_f (by decide)) ?_
          refine iconstV X18.here hexec rfl 1 (hb hbytes d50) (by decide) ?_
          refine XS.goto X18.here hexec rfl (pc0 := 51) rfl (hb hbytes d51) (by decide) rfl ?_
          exact Steps.refl _)
        exact ⟨T18, some (.int 1), _, _, _, X18, rfl, rfl, rfl, (fun h => by cases h), ⟨1, rfl, q18.trans hh16, Or.inl ⟨rfl, iff.mp he⟩⟩, fun fs hl => c19.trans (X18.ireturnOut hexec hret rfl (Or.inr (Or.inl rfl)) (hb hbytes d55) hl)⟩
      · have c19 : Steps p.tables e below (s₁.setTop (entryFrame m #[.ref x, .ref y] 3)) (T18.setTop (mkF m 55 #[.val (.ref x), .val (.ref y), .val (.ref y)] [.int 0])) := Steps.trans g18 (by
          refine XS.ifYes X18.here hexec rfl (pc0 := 47) rfl (hb hbytes d47) rfl (i0_eq_t rfl) (by decide) rfl ?_
          refine iconstV X18.here hexec rfl 0 (hb hbytes d54) (by decide) ?_
          exact Steps.refl _)
        exact ⟨T18, some (.int 0), _, _, _, X18, rfl, rfl, rfl, (fun h => by cases h), ⟨0, rfl, q18.trans hh16, Or.inr ⟨rfl, fun q => he (iff.mpr q)⟩⟩, fun fs hl => c19.trans (X18.ireturnOut hexec hret rfl (Or.inr (Or.inl rfl)) (hb hbytes d55) hl)⟩
    · have c13 : Steps p.tables e below (s₁.setTop (entryFrame m #[.ref x, .ref y] 3)) (T11.setTop (mkF m 55 #[.val (.ref x), .val (.ref y), .val (.ref y)] [.int 0])) := c12.trans (by
        refine XS.icmpYes X11.here hexec rfl (pc0 := 33) rfl (hb hbytes d33) rfl (ii_ne_t hcd) (by decide) rfl ?_
        refine iconstV X11.here hexec rfl 0 (hb hbytes d54) (by decide) ?_
        exact Steps.refl _)
      exact ⟨T11, some (.int 0), _, _, _, X11, rfl, rfl, rfl, (fun h => by cases h), ⟨0, rfl, hh11, Or.inr ⟨rfl, Cod.dif hx.2.2.2.2.1 hy.2.2.2.2.1 hcd⟩⟩, fun fs hl => c13.trans (X11.ireturnOut hexec hret rfl (Or.inr (Or.inl rfl)) (hb hbytes d55) hl)⟩
theorem pays {l : Launch} {R : Room} {p : Program} {e : Env} {below : List Frame} {s : State} {sargs : Array Value} {len W : Nat} (x t : Addr) (V : Cell) (cd : Int32) (n : Nat) (f : Nat → Int32) (y t' : Addr) (V' : Cell) (cd' : Int32) (k : Nat) (g : Nat → Int32) (z : Int32) (htab : tab.before sargs s = true) (hfr : 2 ≤ R.frames) (hlo : W + 28 ≤ R.locals) :
    Back l R p e below s sargs yN len W (fun A₁ a₁ => A₁.cells + 0 ≤ R.cells ∧ A₁.slots + 0 ≤ R.slots ∧ P x t V cd n f y t' V' cd' k g z a₁ A₁.U) (fun A₁ _ v₁ B₁ => Says01 (SameT n f k g) v₁ A₁.U B₁.U ∧ B₁.locs = A₁.locs ++ [] ∧ B₁.cells = A₁.cells + 0 ∧ B₁.slots = A₁.slots + 0) :=
  (law l x t V cd n f y t' V' cd' k g z).pays htab hfr (by omega)
end SEq
end StrChars
namespace StrChars.Road
open Jvm Sem ClassFile Op Lib Jvm.Stand Jvm.Free Jvm.Free.XT
open Jvm.Lib.Cold (StaticIs)
/-- the words of String.equals(Object) -/
abbrev wordsEq : List Jvm.Cond := [.code SEq.yN SEq.yB 3 (some .boolean), .initialized ST, .classLink ST 10 ST, .fieldLink ST 38 ST "COMPACT_STRINGS" "Z", .fieldLink ST 15 ST "coder" "B", .fieldLink ST 9 ST "value" "[B", .methodLink ST 541 LEq.yN, .static LEq.yN, .code LEq.yN LEq.yB 3 (some .boolean), .initialized "java/lang/StringLatin1"]
theorem tabEq_of {a : Array Value} {s : State} (h : ∀ w ∈ wordsEq, w.before a s = true) : SEq.tab.before a s = true := by
  have hl : LEq.tab.before a s = true := unparts (wk h (.code LEq.yN LEq.yB 3 (some .boolean))) (wks h (.initialized LEq.yN.cls :: LEq.site))
  have q := consq hl h
  exact unparts (wk q (.code SEq.yN SEq.yB 3 (some .boolean))) (wks q (.initialized SEq.yN.cls :: SEq.site))
theorem movedEq {Z s : State} {a0 args : Array Value} (hZ : Z.Warmed39 s.vm) (hw : ∀ d ∈ wordsEq, d.before a0 Z = true) : ∀ d ∈ wordsEq, d.before args s = true := fun d hd => by
  have t : ∀ d ∈ wordsEq, (d.onTables && d.keepsFace) = true := by decide +kernel
  exact RoadKit.mv hZ (hw d hd) (t d hd)
/-- the road's facts of a String, as the laws ask it -/
theorem txt_of {Z U : State} {a0 : Array Value} {kI : Nat} (wi : (Jvm.Cond.instantiable ST kI).before a0 Z = true) (al : Z.vm.Alike U.vm) {x t : Addr} {kb : ClassId} {cs : List Int32} {cd N2 : Int32} {vs : List Value} (E : RoadKit.Exa Z U.heap x ST) (V : RoadKit.Fld Z U.heap x ST "value" "[B" (.ref t)) (C : RoadKit.Fld Z U.heap x ST "coder" "B" (.int cd)) (K : RoadKit.Arv Z U.heap t kb .byte N2 vs (.int 0)) (hc : CodA cs cd N2 vs) (hb : ∀ c ∈ cs, ¬ c < 0 ∧ ¬ (65535 : Int32) < c) (l2 : cs.length ≤ 4000) :
    ∃ A, Txt x t A cd cs.length (fun j => cs.getD j 0) U := by
  obtain ⟨A, K1, K2, K3, K4, K5, K6⟩ := K
  have hcod := hc.cod (by omega) K3 K5
  obtain ⟨D, fV, fC, hB, F1, F2, g1, g2, -, -⟩ := strObj wi al E V C
  exact ⟨A, ⟨_, hB.2.2.1, D, hB.1, rfl, by cases q : D.vm <;> first | rfl | exact absurd q (hB.2.1.2 _)⟩, Has.of hB F1 g1, Has.of hB F2 g2, ⟨K1.1, State.isArrayOf_alike al K1.2.1, K1.2.2, by rcases hcod with ⟨-, q, -⟩ | ⟨-, q, -⟩ <;> omega⟩, hcod, fun j hj => by
    have e : cs.getD j 0 = cs[j] := by simp [List.getD_eq_getElem?_getD, hj]
    show ¬ cs.getD j 0 < 0 ∧ ¬ 65535 < cs.getD j 0
    rw [e]; exact hb _ (List.getElem_mem _)⟩
theorem same_list (cs ds : List Int32) : SameT cs.length (fun j => cs.getD j 0) ds.length (fun j => ds.getD j 0) ↔ cs = ds := by
  constructor
  · rintro ⟨e, q⟩
    refine List.ext_getElem e fun j h1 h2 => ?_
    have := q j h1
    simpa [List.getD_eq_getElem?_getD, h1, h2] using this
  · rintro rfl
    exact ⟨rfl, fun _ _ => rfl⟩
/-- **equals(Object) OF TWO SUCH STRINGS**: 1 just where the chars are the same -/
theorem eqW {p : Program} {l : Launch} {e : Env} {R : Room} {s : State} {args : Array Value} {below : List Frame} {len W : Nat} {Z : State} {a0 : Array Value} {h : Heap} (hZ : Z.Warmed39 s.vm) (hw : ∀ d ∈ wordsEq, d.before a0 Z = true) {kI : Nat} (wi : (Jvm.Cond.instantiable ST kI).before a0 Z = true)
    {x t : Addr} {kb : ClassId} {cs : List Int32} {cd N2 : Int32} {vs : List Value} (E : RoadKit.Exa Z h x ST) (V : RoadKit.Fld Z h x ST "value" "[B" (.ref t)) (C : RoadKit.Fld Z h x ST "coder" "B" (.int cd)) (K : RoadKit.Arv Z h t kb .byte N2 vs (.int 0)) (hc : CodA cs cd N2 vs) (hb : ∀ c ∈ cs, ¬ c < 0 ∧ ¬ (65535 : Int32) < c) (l2 : cs.length ≤ 4000)
    {y t' : Addr} {kb' : ClassId} {ds : List Int32} {cd' N2' : Int32} {vs' : List Value} (E' : RoadKit.Exa Z h y ST) (V' : RoadKit.Fld Z h y ST "value" "[B" (.ref t')) (C' : RoadKit.Fld Z h y ST "coder" "B" (.int cd')) (K' : RoadKit.Arv Z h t' kb' .byte N2' vs' (.int 0)) (hc' : CodA ds cd' N2' vs') (hb' : ∀ c ∈ ds, ¬ c < 0 ∧ ¬ (65535 : Int32) < c) (l2' : ds.length ≤ 4000)
    {z : Int32} (S : RoadKit.Sta Z h ST "COMPACT_STRINGS" "Z" (.int z)) (hz : ¬ z = 0) (hfr : 2 ≤ R.frames) (hlo : W + 28 ≤ R.locals) :
    Back l R p e below s args (⟨"java/lang/String", "equals", "(Ljava/lang/Object;)Z"⟩ : MethodName) len W (fun P a => a = #[.ref x, .ref y] ∧ P.U.heap = h ∧ P.cells + 0 ≤ R.cells ∧ P.slots + 0 ≤ R.slots)
      (fun P _ v B => ∃ L, (((v = some (.int 1) ∧ cs = ds) ∨ (v = some (.int 0) ∧ ¬ cs = ds)) ∧ L = [] ∧ B.U.heap = h) ∧ B.locs = P.locs ++ L ∧ B.cells = P.cells + 0 ∧ B.slots = P.slots + 0) := by
  intro m meth c P g ig mk a X hg hsize hdg hW hn hp'
  obtain ⟨rfl, rfl, r1, r2⟩ := hp'
  have al : Z.vm.Alike P.U.vm := hZ.alike.trans X.warmed.alike
  obtain ⟨A, hx⟩ := txt_of wi al E V C K hc hb l2
  obtain ⟨A', hy⟩ := txt_of wi al E' V' C' K' hc' hb' l2'
  obtain ⟨v, B, X', ⟨⟨w, hv, hh, hq⟩, hl, hk, hs⟩, st⟩ := SEq.pays x t A cd cs.length (fun j => cs.getD j 0) y t' A' cd' ds.length (fun j => ds.getD j 0) z (tabEq_of (movedEq hZ hw)) hfr hlo m meth c P g ig mk _ X hg hsize hdg hW hn ⟨r1, r2, rfl, hx, hy, sta_is al S, hz⟩
  refine ⟨v, B, X', ⟨[], ⟨?_, rfl, hh⟩, hl, hk, hs⟩, st⟩
  rcases hq with ⟨rfl, q⟩ | ⟨rfl, q⟩
  · exact Or.inl ⟨hv, (same_list cs ds).mp q⟩
  · exact Or.inr ⟨hv, fun e => q ((same_list cs ds).mpr e)⟩
end StrChars.Road
namespace StrChars
open Jvm Sem ClassFile Op Lib Jvm.Stand Jvm.Free.XT Jvm.Free.ALB Jvm.Free.JM Jvm.Free
open Jvm.Lib.Cold (StaticIs)
namespace ChN
def yN : MethodName := ⟨"java/lang/String", "charAt", "(I)C"⟩
abbrev yB : ByteArray := jdk_42_method_56_code
theorem d0 : decode yB 0 = .ok (.aload_n 0, 1) := by decide +kernel
theorem d1 : decode yB 1 = .ok (.invokevirtual 492, 3) := by decide +kernel
theorem d4 : decode yB 4 = .ok (.ifCond (.eq) 12, 3) := by decide +kernel
theorem d7 : decode yB 7 = .ok (.aload_n 0, 1) := by decide +kernel
theorem d8 : decode yB 8 = .ok (.getfield 9, 3) := by decide +kernel
theorem d11 : decode yB 11 = .ok (.iload_n 1, 1) := by decide +kernel
theorem d12 : decode yB 12 = .ok (.invokestatic 495, 3) := by decide +kernel
theorem d15 : decode yB 15 = .ok (.ireturn, 1) := by decide +kernel
def site : List Cond := [.fieldLink "java/lang/String" 9 "java/lang/String" "value" "[B", IsL.tab, LChA.tab] ++ virtW "java/lang/String" 492 "java/lang/String" IsL.yN IsL.yN ++ staticW "java/lang/String" 495 LChA.yN
def tab : Cond := tabOf yN yB 2 (some .char) site
def P (x t : Addr) (V : Cell) (n : Nat) (f : Nat → Int32) (z : Int32) (fm : Value) (i : Nat) (args : Array Value) (s : State) : Prop := args = #[.ref x, .int (Int32.ofNat i)] ∧ Txt x t V 0 n f s ∧ i < n ∧ StaticIs s "java/lang/String" "COMPACT_STRINGS" "Z" (.int z) ∧ ¬ z = 0 ∧ StaticIs s "jdk/internal/util/Preconditions" "SIOOBE_FORMATTER" "Ljava/util/function/BiFunction;" fm ∧ fm.isRef = true
def E (f : Nat → Int32) (i : Nat) (r : Option Value) (s u : State) : Prop := XT.PureE (some (.int (f i))) r s u
/-- charAt(i) of a Latin-1 String of n chars, i < n: f i -/
theorem law (l : Launch) (x t : Addr) (V : Cell) (n : Nat) (f : Nat → Int32) (z : Int32) (fm : Value) (i : Nat) : Law l yN 2 1 3 40 yB 2 (some .char) site (P x t V n f z fm i) (E f i) [] 0 0 := by
  refine Law.of_walk (plainFor_of_name (by decide +kernel)) (by decide +kernel) (by decide +kernel) (by decide) (fun _ _ h => by rw [h.1]; rfl) (fun _ U U' hal hh h => ⟨h.1, h.2.1.mv hal hh, h.2.2.1, h.2.2.2.1.there hal hh, h.2.2.2.2.1, h.2.2.2.2.2.1.there hal hh, h.2.2.2.2.2.2⟩) (fun r U U' V V' h1 hal h2 h => XT.PureE.mv r U U' V V' h1 hal h2 h) ?_
  intro p e s m args below meth c s₁ X0 hexec hbytes hml hret hlk hnm hown hh0 W hP
  obtain ⟨rfl, hx, hi, s1, hz, s3, rf⟩ := hP
  have v31 := hx.2.2.2.1.2.2.2
  have hr := hx.2.2.2.2.2 i hi
  have hx0 := hx.mv X0.warmed.alike hh0
  have c1 : Steps p.tables e below (s₁.setTop (entryFrame m #[.ref x, .int (Int32.ofNat i)] 2)) (s₁.setTop (mkF m 1 #[.val (.ref x), .val (.int (Int32.ofNat i))] [.ref x])) := Steps.trans (entry rfl) (by
    show Steps p.tables e below (s₁.setTop (mkF m 0 #[.val (.ref x), .val (.int (Int32.ofNat i))] [])) _
    refine XS.aloadN X0.here hexec rfl (hb hbytes d0) rfl rfl ?_
    exact Steps.refl _)
  obtain ⟨v2, T2, X2, E2, g2⟩ := X0.callV hexec (IsL.law l x 0 z) hown (wks W (virtW "java/lang/String" 492 "java/lang/String" IsL.yN IsL.yN)) rfl (by decide) (wk W IsL.tab) (W := 0) (Nat.le_of_ble_eq_true rfl) (Nat.le_of_ble_eq_true rfl) (Nat.le_refl _) (Nat.le_refl _) (hx0.1.fc X0.warmed.alike) hx0.1.is (g := (mkF m 1 #[.val (.ref x), .val (.int (Int32.ofNat i))] [.ref x])) rfl (by rw [hml]; rfl) c1 (argsL := []) (rest := []) rfl rfl (by show 2 * 0 + 0 ≤ _; decide) (hb hbytes d1) (⟨rfl, hx0.2.2.1, hx.2.2.2.2.1.cd, s1.there X0.warmed.alike hh0, hz⟩)
  obtain ⟨rfl, q2⟩ := E2
  have hh2 := q2.trans hh0
  have hx2 := hx.mv X2.warmed.alike hh2
  obtain ⟨-, k1, k2⟩ | ⟨k0, -⟩ := hx.2.2.2.2.1
  · have c3 : Steps p.tables e below (s₁.setTop (entryFrame m #[.ref x, .int (Int32.ofNat i)] 2)) (T2.setTop (mkF m 8 #[.val (.ref x), .val (.int (Int32.ofNat i))] [.ref x])) := Steps.trans g2 (by
      refine XS.ifNo X2.here hexec rfl (hb hbytes d4) rfl (i0_eq_f (by decide)) ?_
      refine XS.aloadN X2.here hexec rfl (hb hbytes d7) rfl rfl ?_
      exact Steps.refl _)
    obtain ⟨T4, X4, q4, st4⟩ := X2.hget hexec hown (wk W (.fieldLink "java/lang/String" 9 "java/lang/String" "value" "[B")) hx2.2.1 (g := (mkF m 8 #[.val (.ref x), .val (.int (Int32.ofNat i))] [.ref x])) rfl (rest := []) rfl (hb hbytes d8)
    have hh4 := q4.trans hh2
    have c5 : Steps p.tables e below (s₁.setTop (entryFrame m #[.ref x, .int (Int32.ofNat i)] 2)) (T4.setTop (mkF m 12 #[.val (.ref x), .val (.int (Int32.ofNat i))] [.int (Int32.ofNat i), .ref t])) := (c3.trans (st4 _ (Steps.refl _))).trans (by
      refine XS.iloadN X4.here hexec rfl (hb hbytes d11) rfl ?_
      exact Steps.refl _)
    obtain ⟨v6, T6, X6, E6, g6⟩ := X4.callS hexec (LChA.law l t V i (lo8 (f i)) fm) hown (wks W (staticW "java/lang/String" 495 LChA.yN)) (wk W LChA.tab) (W := 0) (Nat.le_of_ble_eq_true rfl) (Nat.le_of_ble_eq_true rfl) (Nat.le_refl _) (Nat.le_refl _) (g := (mkF m 12 #[.val (.ref x), .val (.int (Int32.ofNat i))] [.int (Int32.ofNat i), .ref t])) rfl (by rw [hml]; rfl) c5 (argsL := [.ref t, .int (Int32.ofNat i)]) (rest := []) rfl rfl (by show 2 * 0 + 0 ≤ _; decide) (hb hbytes d12) (⟨rfl, hx.2.2.2.1.mv X4.warmed.alike hh4, (k2 i hi).1, s3.there X4.warmed.alike hh4, rf⟩)
    obtain ⟨rfl, q6⟩ := E6
    rw [chr8_lo8 hr.1 (k2 i hi).2] at g6
    exact ⟨T6, some (.int (f i)), _, _, _, X6, rfl, rfl, rfl, (fun h => by cases h), ⟨rfl, q6.trans hh4⟩, fun fs hl => Steps.trans g6 (X6.ireturnOut hexec hret (narrow_ch hr.1 hr.2) (Or.inr (Or.inr (Or.inr (Or.inl rfl)))) (hb hbytes d15) hl)⟩
  · exact absurd k0 (by decide)
theorem pays {l : Launch} {R : Room} {p : Program} {e : Env} {below : List Frame} {s : State} {sargs : Array Value} {len W : Nat} (x t : Addr) (V : Cell) (n : Nat) (f : Nat → Int32) (z : Int32) (fm : Value) (i : Nat) (htab : tab.before sargs s = true) (hfr : 4 ≤ R.frames) (hlo : W + 53 ≤ R.locals) :
    Back l R p e below s sargs yN len W (fun A₁ a₁ => A₁.cells + 0 ≤ R.cells ∧ A₁.slots + 0 ≤ R.slots ∧ P x t V n f z fm i a₁ A₁.U) (fun A₁ _ v₁ B₁ => E f i v₁ A₁.U B₁.U ∧ B₁.locs = A₁.locs ++ [] ∧ B₁.cells = A₁.cells + 0 ∧ B₁.slots = A₁.slots + 0) :=
  (law l x t V n f z fm i).pays htab hfr (by omega)
end ChN
end StrChars
namespace StrChars.Road
open Jvm Sem ClassFile Op Lib Jvm.Stand Jvm.Free Jvm.Free.XT
open Jvm.Lib.Cold (StaticIs)
/-- the words of String.charAt(int), the Latin-1 road alone -/
abbrev wordsChN : List Jvm.Cond := [.code ChN.yN ChN.yB 2 (some .char), .initialized ST, .fieldLink ST 9 ST "value" "[B", .fieldLink ST 38 ST "COMPACT_STRINGS" "Z", .fieldLink ST 15 ST "coder" "B", .code IsL.yN IsL.yB 1 (some .boolean), .methodLink ST 492 IsL.yN, .declares IsL.yN, .selects ST IsL.yN IsL.yN, .instanceMethod IsL.yN,
  .methodLink ST 495 LChA.yN, .static LChA.yN, .code LChA.yN LChA.yB 2 (some .char), .initialized "java/lang/StringLatin1", .methodLink "java/lang/StringLatin1" 9 JO.Str_checkIndex.yN, .static JO.Str_checkIndex.yN, .code JO.Str_checkIndex.yN JO.Str_checkIndex.yB 2 none,
  .fieldLink ST 1053 "jdk/internal/util/Preconditions" "SIOOBE_FORMATTER" "Ljava/util/function/BiFunction;", .methodLink ST 1059 JC.PreCheck.yN, .static JC.PreCheck.yN, .code JC.PreCheck.yN JC.PreCheck.yB 3 (some .int), .initialized "jdk/internal/util/Preconditions"]
theorem tabChN_of {a : Array Value} {s : State} (h : ∀ w ∈ wordsChN, w.before a s = true) : ChN.tab.before a s = true := by
  have hp : JC.PreCheck.tab.before a s = true := unparts (wk h (.code JC.PreCheck.yN JC.PreCheck.yB 3 (some .int))) (wks h (.initialized JC.PreCheck.yN.cls :: JC.PreCheck.site))
  have qk := consq hp h
  have hk : JO.Str_checkIndex.tab.before a s = true := unparts (wk qk (.code JO.Str_checkIndex.yN JO.Str_checkIndex.yB 2 none)) (wks qk (.initialized JO.Str_checkIndex.yN.cls :: JO.Str_checkIndex.site))
  have ql := consq hk h
  have hl : LChA.tab.before a s = true := unparts (wk ql (.code LChA.yN LChA.yB 2 (some .char))) (wks ql (.initialized LChA.yN.cls :: LChA.site))
  have hi : IsL.tab.before a s = true := unparts (wk h (.code IsL.yN IsL.yB 1 (some .boolean))) (wks h (.initialized IsL.yN.cls :: IsL.site))
  have q := consq hi (consq hl h)
  exact unparts (wk q (.code ChN.yN ChN.yB 2 (some .char))) (wks q (.initialized ChN.yN.cls :: ChN.site))
theorem movedChN {Z s : State} {a0 args : Array Value} (hZ : Z.Warmed39 s.vm) (hw : ∀ d ∈ wordsChN, d.before a0 Z = true) : ∀ d ∈ wordsChN, d.before args s = true := fun d hd => by
  have t : ∀ d ∈ wordsChN, (d.onTables && d.keepsFace) = true := by decide +kernel
  exact RoadKit.mv hZ (hw d hd) (t d hd)
/-- **charAt(i) OF A LATIN-1 STRING**, i < n: the char -/
theorem chN {p : Program} {l : Launch} {e : Env} {R : Room} {s : State} {args : Array Value} {below : List Frame} {len W : Nat} {Z : State} {a0 : Array Value} {h : Heap} (hZ : Z.Warmed39 s.vm) (hw : ∀ d ∈ wordsChN, d.before a0 Z = true) {kI : Nat} (wi : (Jvm.Cond.instantiable ST kI).before a0 Z = true)
    {x t : Addr} {kb : ClassId} {cs : List Int32} {N2 z : Int32} {vs : List Value} {fm : Value} {i : Nat} {j : Int32} (E : RoadKit.Exa Z h x ST) (V : RoadKit.Fld Z h x ST "value" "[B" (.ref t)) (C : RoadKit.Fld Z h x ST "coder" "B" (.int 0)) (K : RoadKit.Arv Z h t kb .byte N2 vs (.int 0)) (hc : CodA cs 0 N2 vs) (hb : ∀ c ∈ cs, ¬ c < 0 ∧ ¬ (65535 : Int32) < c)
    (S : RoadKit.Sta Z h ST "COMPACT_STRINGS" "Z" (.int z)) (hz : ¬ z = 0) (F : RoadKit.Sta Z h "jdk/internal/util/Preconditions" "SIOOBE_FORMATTER" "Ljava/util/function/BiFunction;" fm) (rf : fm.isRef = true) (l2 : cs.length ≤ 4000) (hi : i < cs.length) (hj : j = Int32.ofNat i) (hfr : 4 ≤ R.frames) (hlo : W + 53 ≤ R.locals) :
    Back l R p e below s args (⟨"java/lang/String", "charAt", "(I)C"⟩ : MethodName) len W (fun P a => a = #[.ref x, .int j] ∧ P.U.heap = h ∧ P.cells + 0 ≤ R.cells ∧ P.slots + 0 ≤ R.slots)
      (fun P _ v B => ∃ L, (v = some (.int (cs.getD i 0)) ∧ L = [] ∧ B.U.heap = h) ∧ B.locs = P.locs ++ L ∧ B.cells = P.cells + 0 ∧ B.slots = P.slots + 0) := by
  subst hj
  intro m meth c P g ig mk a X hg hsize hdg hW hn hp'
  obtain ⟨rfl, rfl, r1, r2⟩ := hp'
  have al : Z.vm.Alike P.U.vm := hZ.alike.trans X.warmed.alike
  obtain ⟨A, hx⟩ := txt_of wi al E V C K hc hb l2
  obtain ⟨v, B, X', ⟨⟨hv, hh⟩, hl, hk, hs⟩, st⟩ := ChN.pays x t A cs.length (fun j => cs.getD j 0) z fm i (tabChN_of (movedChN hZ hw)) hfr hlo m meth c P g ig mk _ X hg hsize hdg hW hn ⟨r1, r2, rfl, hx, hi, sta_is al S, hz, sta_is al F, rf⟩
  exact ⟨v, B, X', ⟨[], ⟨hv, rfl, hh⟩, hl, hk, hs⟩, st⟩
/-- what backV says of its String, as the contracts of this text ask it: cs's low bytes, coder 0 -/
theorem codOf {cs : List Int32} {n : Nat} (hn : cs.length = n) (hb : ∀ c ∈ cs, ¬ 255 < c) : CodA cs 0 (Int32.ofNat n) ((cs.map lo8).map Value.int) := Or.inl ⟨rfl, by rw [hn], by simp [List.map_map, Function.comp_def], hb⟩
end StrChars.Road
end Jvm.Pilot.@@N@@
namespace Jvm.Pilot.@@N@@
open Jvm Jvm.ClassFile Sem Op Lib Jvm.Free Jvm.Stand Jvm.LawKit Jvm.RoadKit Bundle Jvm.Pilot.@@N@@.Jvm.D

section OwnKit
variable {G : State → JFrame → Prop} {p : Program} {l : Launch} {e : Env} {R : Room} {s : State} {m : MethodId} {args : Array Value} {below : List Frame} {meth : Method} {c : Code} {Z : State} {n0 : Nat} {own nm : String} {bytes : ByteArray} {maxL : Nat} {ret : Option FieldType} {T : State} {h : Heap} {cells slots : Nat} {a0 : Array Value} {s0 : State} {EL : List (String × Nat)} {P : List Addr} {ro : Bool}
def own_Cl (p : Program) (e : Env) (below : List Frame) (G : State → JFrame → Prop) : Prop :=
  ∀ (T T' : State) (g g' : JFrame), (∀ t, Steps p.tables e below (T'.setTop g') t → Steps p.tables e below (T.setTop g) t) → G T' g' → G T g
def own_Cx (p : Program) (s : State) (m : MethodId) (meth : Method) (c : Code) (Z : State) (own nm : String) (bytes : ByteArray) (maxL : Nat) (ret : Option FieldType) : Prop :=
  p.tables.exec = Jvm.exec ∧ c.code = bytes ∧ Z.Warmed39 s.vm ∧ s.vm.findClass own = some m.cls ∧ c.maxLocals = maxL ∧ meth.name = nm ∧ meth.sig.returnType = ret ∧ meth.locks = false
def own_EW (Z : State) (EL : List (String × Nat)) : Prop := ∃ a0, EW Z a0 EL
def own_Sf (Z : State) (EL : List (String × Nat)) (P : List Addr) (vm : Vm) (h : Heap) : Prop := CHv Z EL vm h ∧ ∀ x ∈ P, Safe Z EL vm h x ∧ x < h.size
def own_Ok (s0 s : State) (EL : List (String × Nat)) (P : List Addr) (Z : State) (n0 : Nat) (h : Heap) : Prop :=
  Old Z n0 h ∧ (s = s0.setVm s.vm ∧ ∃ k0, s0.Since s.vm k0 ∧ k0 ≤ h.size) ∧ own_EW Z EL ∧ CHr Z EL s0.vm s0.heap s.vm h ∧ ∀ x ∈ P, Safe Z EL s.vm h x ∧ x < h.size
theorem own_Ok.go {h' : Heap} (O : own_Ok s0 s EL P Z n0 h) (O' : Old Z n0 h') (g : h.size ≤ h'.size) (A : CHr Z EL s.vm h s.vm h') : own_Ok s0 s EL P Z n0 h' := by
  obtain ⟨-, ⟨e1, k0, e2, e3⟩, e4, e5, e6⟩ := O
  exact ⟨O', ⟨e1, k0, e2, Nat.le_trans e3 g⟩, e4, e5.trans A, fun x hx => ⟨A.safe (e6 x hx).2 (e6 x hx).1, Nat.lt_of_lt_of_le (e6 x hx).2 g⟩⟩
theorem own_Ok.ext {h' : Heap} (O : own_Ok s0 s EL P Z n0 h) (E : Ext h h') : own_Ok s0 s EL P Z n0 h' := O.go (O.1.ext E) E.1 (CHr.ext E O.2.2.2.1.1)
theorem own_Ok.keepS {h' : Heap} {ws : List Addr} (O : own_Ok s0 s EL P Z n0 h) (K : Keep h h' ws) (q : ∀ x ∈ ws, n0 ≤ x) (r : ∀ x ∈ ws, Safe Z EL s.vm h x) : own_Ok s0 s EL P Z n0 h' := O.go (O.1.keep K q) K.1 (CHr.keep K r O.2.2.2.1.1)
theorem own_Ok.wr {h' : Heap} {a : Addr} {sl : Nat} {v : Value} (O : own_Ok s0 s EL P Z n0 h) (W : Wr h h' a sl v) (q : n0 ≤ a) (r : Safe Z EL s.vm h a) : own_Ok s0 s EL P Z n0 h' := O.keepS (Keep.of_wr W) (allS q all0) (allS r all0)
theorem own_Ok.less {P' : List Addr} (O : own_Ok s0 s EL P Z n0 h) (q : ∀ x ∈ P', x ∈ P) : own_Ok s0 s EL P' Z n0 h := ⟨O.1, O.2.1, O.2.2.1, O.2.2.2.1, fun x hx => O.2.2.2.2 x (q x hx)⟩
theorem own_Ok.add {x : Addr} (O : own_Ok s0 s EL P Z n0 h) (r : Safe Z EL s.vm h x) (q : x < h.size) : own_Ok s0 s EL (x :: P) Z n0 h := ⟨O.1, O.2.1, O.2.2.1, O.2.2.2.1, allS ⟨r, q⟩ O.2.2.2.2⟩
/-- a cell made by the last step is no literal's -/
theorem own_Ok.made {h' : Heap} {x : Addr} (O : own_Ok s0 s EL P Z n0 h) (E : Ext h h') (hx : h.size ≤ x) (q : x < h'.size) : own_Ok s0 s EL (x :: P) Z n0 h' :=
  (O.ext E).add (Safe.ext E O.2.2.2.1.1 (Safe.new hx)) q
def own_At (G : State → JFrame → Prop) (p : Program) (l : Launch) (e : Env) (R : Room) (s0 s : State) (EL : List (String × Nat)) (P : List Addr) (m : MethodId) (args : Array Value) (below : List Frame) (meth : Method) (c : Code) (Z : State) (n0 : Nat) (own nm : String) (bytes : ByteArray) (maxL : Nat) (ret : Option FieldType) (T : State) (h : Heap) (cells slots : Nat) : Prop :=
  own_Cl p e below G ∧ own_Cx p s m meth c Z own nm bytes maxL ret ∧ ∃ locs, Stand p l e R s m args below meth c T locs cells slots ∧ Fr n0 locs ∧ T.heap = h ∧ own_Ok s0 s EL P Z n0 h
def own_Rs (Z : State) (EL : List (String × Nat)) (ro : Bool) (v : Option Value) (t : State) : Prop := ro = true → ∀ b, v = some (.ref b) → Safe Z EL t.vm t.heap b ∧ b < t.heap.size
def own_Fin (p : Program) (e : Env) (below : List Frame) (s : State) (EL : List (String × Nat)) (ro : Bool) (Z : State) (n0 : Nat) (Q : Option Value → Heap → Prop) (k n : Nat) (T : State) (g : JFrame) : Prop :=
  ∃ s₂ o, Steps p.tables e below (T.setTop g) s₂ ∧ s₂.status = .running ∧ Ended s₂ below o ∧ ∃ v L, o = .returned v ∧ (Q v s₂.heap ∧ Fr n0 L ∧ Old Z n0 s₂.heap) ∧ CHr Z EL s.vm s.heap s₂.vm s₂.heap ∧ own_Rs Z EL ro v s₂ ∧ ReturnedEndW s o s₂ L k n
theorem own_Fin_cl (p : Program) (e : Env) (below : List Frame) (s : State) (EL : List (String × Nat)) (ro : Bool) (Z : State) (n0 : Nat) (Q : Option Value → Heap → Prop) (k n : Nat) : own_Cl p e below (own_Fin p e below s EL ro Z n0 Q k n) := by
  intro T T' g g' hs ⟨s₂, o, h1, h2⟩
  exact ⟨s₂, o, hs _ h1, h2⟩
/-- the contract of a body -/
def own_Met (l : Launch) (Z : State) (EL : List (String × Nat)) (P : List Addr) (ro : Bool) (n0 : Nat) (y : MethodName) (bytes : ByteArray) (maxL : Nat) (ret : Option FieldType) (rm : Room) (as' : Array Value) (h0 : Heap) (Q : Option Value → Heap → Prop) : Prop :=
  ∀ ws, MetFree l y (head1 (Jvm.Cond.code y bytes maxL ret :: ws) rm) (fun a U => a = as' ∧ Z.Warmed39 U.vm ∧ U.heap = h0 ∧ own_Sf Z EL P U.vm h0) (fun _ _ _ _ _ => True) (fun _ U o U' => ∃ v L, o = .returned v ∧ (Q v U'.heap ∧ Fr n0 L ∧ Old Z n0 U'.heap) ∧ CHr Z EL U.vm U.heap U'.vm U'.heap ∧ own_Rs Z EL ro v U' ∧ ReturnedEndW U o U' L rm.cells rm.slots)
theorem own_enter {y : MethodName} {rm : Room} {as' : Array Value} {h0 : Heap} {Q : Option Value → Heap → Prop} (hpn : plainFor y = true) (ho : y.cls = own) (hn : y.name = nm) (hO : Old Z n0 h0) (hE : own_EW Z EL)
    (H : ∀ (G : State → JFrame → Prop) (p : Program) (e : Env) (s : State) (m : MethodId) (below : List Frame) (meth : Method) (c : Code) (T : State), G = own_Fin p e below s EL ro Z n0 Q rm.cells rm.slots → own_At G p l e rm s s EL P m as' below meth c Z n0 own nm bytes maxL ret T h0 0 0 → G T (entryFrame m as' maxL)) :
    own_Met l Z EL P ro n0 y bytes maxL ret rm as' h0 Q := by
  intro ws
  subst ho hn
  refine MetFree.of_bodySF hpn hisR ?_
  intro p e s m args below meth c s₁ Bd hml0 hP hK
  obtain ⟨rfl, hZ, hh, hsf⟩ := hP
  have e0 : s₁.heap = h0 := by rw [← hh, Bd.state]; rfl
  obtain ⟨s₂, o, h1, h2, h3, h4⟩ := H _ p e s m below meth c s₁ rfl ⟨own_Fin_cl p e below s EL ro Z n0 Q rm.cells rm.slots, ⟨Bd.exec, Bd.bytes, hZ, findClass_of_methodNamed Bd.named, hml0, (name_of_methodNamed Bd.named Bd.method).1, Bd.returns, BodyLoose.notSynchronized Bd⟩, [], Stand.of_body Bd, Fr.nil n0, e0, hO, ⟨rfl, 0, (State.WarmedH.refl s).since 0, Nat.zero_le _⟩, hE, (show CHr Z EL s.vm s.heap s.vm h0 by rw [hh]; exact CHr.refl hsf.1), hsf.2⟩
  exact ⟨s₂, o, h1, h2, h3, h4⟩
theorem own_at_heap (X : own_At G p l e R s0 s EL P m args below meth c Z n0 own nm bytes maxL ret T h cells slots) : T.heap = h := by obtain ⟨-, -, _, -, -, e, -⟩ := X; exact e
theorem own_ok (X : own_At G p l e R s0 s EL P m args below meth c Z n0 own nm bytes maxL ret T h cells slots) : own_Ok s0 s EL P Z n0 h := by obtain ⟨-, -, _, -, -, -, e⟩ := X; exact e
theorem own_old (X : own_At G p l e R s0 s EL P m args below meth c Z n0 own nm bytes maxL ret T h cells slots) : Old Z n0 h := (own_ok X).1
theorem own_sta (X : own_At G p l e R s0 s EL P m args below meth c Z n0 own nm bytes maxL ret T h cells slots) {C n d : String} {v : Value} (S : Sta Z Z.heap C n d v) : Sta Z h C n d v := S.ext (own_old X).2
theorem own_n0 (X : own_At G p l e R s0 s EL P m args below meth c Z n0 own nm bytes maxL ret T h cells slots) : n0 ≤ h.size := by have := own_old X; rw [← this.1]; exact this.2.1
theorem own_addP {x : Addr} (X : own_At G p l e R s0 s EL P m args below meth c Z n0 own nm bytes maxL ret T h cells slots) (q : Safe Z EL s.vm h x ∧ x < h.size) : own_At G p l e R s0 s EL (x :: P) m args below meth c Z n0 own nm bytes maxL ret T h cells slots := by
  obtain ⟨hG, C, L, X, N, e, O⟩ := X
  exact ⟨hG, C, L, X, N, e, O.add q.1 q.2⟩
theorem own_mono {P' : List Addr} (X : own_At G p l e R s0 s EL P m args below meth c Z n0 own nm bytes maxL ret T h cells slots) {cells' slots' : Nat} (h1 : cells ≤ cells') (h2 : slots ≤ slots') (h3 : ∀ x ∈ P', x ∈ P) : own_At G p l e R s0 s EL P' m args below meth c Z n0 own nm bytes maxL ret T h cells' slots' := by
  obtain ⟨hG, C, L, X, N, e, O⟩ := X
  exact ⟨hG, C, L, { X with same := X.same.mono h1 h2 }, N, e, O.less h3⟩
theorem own_end {Q : Option Value → Heap → Prop} {k n : Nat} {v : Option Value} {L : List Loc} (X : Stand p l e R s m args below meth c T L cells slots) (hZ : Z.Warmed39 s.vm) (N : Fr n0 L) (eT : T.heap = h) (O : own_Ok s0 s EL P Z n0 h) (hk : cells ≤ k) (hs : slots ≤ n) (hQ : Q v h) (hro : ro = true → ∀ b, v = some (.ref b) → b ∈ P) {fs : List Frame} (hW : s.WarmedH T.vm) (hsame : s.sameButNew { T.setFrames fs with vm := s.vm } L cells slots) :
    (Q v (T.setFrames fs).heap ∧ Fr n0 L ∧ Old Z n0 (T.setFrames fs).heap) ∧ CHr Z EL s0.vm s0.heap (T.setFrames fs).vm (T.setFrames fs).heap ∧ own_Rs Z EL ro v (T.setFrames fs) ∧ ReturnedEndW s0 (.returned v) (T.setFrames fs) L k n := by
  obtain ⟨O, ⟨e1, k0, e2, e3⟩, ⟨a1, e4⟩, e5, e6⟩ := O
  have A : CHr Z EL s.vm h T.vm h := by
    have q := CHv.later (h' := h) hZ (hW := (show (Wst Z s.vm h).Warmed39 T.vm from hW.wide)) e4 ⟨Nat.le_refl _, fun _ _ q => q⟩ (Or.inl hW.interned_eq) e5.1
    exact ⟨q.1, Nat.le_refl _, q.2⟩
  have h2 := e2.trans (vm₂ := T.vm) (n₂ := T.heap.size) ((show (s0.setVm s.vm).WarmedH T.vm from e1 ▸ hW).since _) (by rw [eT]; exact e3)
  refine ⟨⟨by show Q _ T.heap; rw [eT]; exact hQ, N, by show Old Z n0 T.heap; rw [eT]; exact O⟩, by show CHr Z EL s0.vm s0.heap T.vm T.heap; rw [eT]; exact e5.trans A, fun q b hb => by show Safe Z EL T.vm T.heap b ∧ b < T.heap.size; rw [eT]; exact ⟨A.safe (e6 b (hro q b hb)).2 (e6 b (hro q b hb)).1, (e6 b (hro q b hb)).2⟩, ⟨_, rfl⟩, h2.1, h2.2, ?_⟩
  have q := (hsame.setVm s0.vm).mono hk hs
  rw [e1] at q
  exact q
theorem own_ret {Q : Option Value → Heap → Prop} {k n : Nat} (X : own_At G p l e R s0 s EL P m args below meth c Z n0 own nm bytes maxL ret T h cells slots) (hGe : G = own_Fin p e below s0 EL ro Z n0 Q k n) {pc : Nat} {Ls : Array Slot} {w : Value} {t : FieldType} {i : Instr} {rest : List Value} (hret : ret = some t) (hn : narrow t w = w)
    (hi : (i = .ireturn ∧ (t = .int ∨ t = .boolean ∨ t = .byte ∨ t = .char ∨ t = .short) ∧ ∃ z, w = .int z) ∨ (i = .lreturn ∧ t = .long ∧ ∃ z, w = .long z) ∨ (i = .dreturn ∧ t = .double ∧ ∃ z, w = .double z) ∨ (i = .freturn ∧ t = .float ∧ ∃ z, w = .float z) ∨ (i = .areturn ∧ t.isReference = true ∧ w.isRef = true))
    (hd : decode bytes pc = .ok (i, 1)) (hk : cells ≤ k) (hs : slots ≤ n) (hQ : Q (some w) h) (hro : ro = true → ∀ b, some w = some (.ref b) → b ∈ P) : G T (mkF m pc Ls (w :: rest)) := by
  obtain ⟨-, ⟨c1, c2, c3, c4, c5, c6, c7, c8⟩, L, X, N, eT, O⟩ := X
  have hr' : meth.sig.returnType = some t := c7.trans hret
  obtain ⟨fs, hr, hrun, hended, hW, hsame⟩ := X.leave (v := some w) (fun h => by rw [hr'] at h; cases h)
  rw [hGe]
  exact ⟨_, _, retOut X c1 hr' hn hi (hb c2 hd) hr, hrun, hended, _, L, rfl, own_end X c3 N eT O hk hs hQ hro hW hsame⟩
theorem own_retV {Q : Option Value → Heap → Prop} {k n : Nat} (X : own_At G p l e R s0 s EL P m args below meth c Z n0 own nm bytes maxL ret T h cells slots) (hGe : G = own_Fin p e below s0 EL ro Z n0 Q k n) {pc : Nat} {Ls : Array Slot} (hret : ret = none)
    (hd : decode bytes pc = .ok (.return_, 1)) (hk : cells ≤ k) (hs : slots ≤ n) (hQ : Q none h) : G T (mkF m pc Ls []) := by
  obtain ⟨-, ⟨c1, c2, c3, c4, c5, c6, c7, c8⟩, L, X, N, eT, O⟩ := X
  have hr' : meth.sig.returnType = none := c7.trans hret
  obtain ⟨fs, hr, hrun, hended, hW, hsame⟩ := X.leave (v := none) (fun _ => rfl)
  rw [hGe]
  exact ⟨_, _, X.returnOut c1 hr' (hb c2 hd) hr, hrun, hended, _, L, rfl, own_end X c3 N eT O hk hs hQ (fun _ _ q => nomatch q) hW hsame⟩
theorem own_ne {a b : Addr} {n m : Nat} (h1 : a < n) (h2 : n ≤ m) (h3 : m ≤ b) : a ≠ b := Nat.ne_of_lt (Nat.lt_of_lt_of_le h1 (Nat.le_trans h2 h3))
theorem own_ifc {P Q : Prop} [Decidable P] [Decidable Q] (h : P ↔ Q) : (if P then (1 : Int32) else 0) = if Q then 1 else 0 := by
  by_cases q : P
  · rw [if_pos q, if_pos (h.mp q)]
  · rw [if_neg q, if_neg (fun z => q (h.mpr z))]
theorem own_i32 {i : Nat} (hi : i < 2 ^ 31) : (Int32.ofNat i).toInt = i := len_toInt hi
theorem own_i32lt {i n : Nat} (h : i < n) (hn : n < 2 ^ 31) : Int32.ofNat i < Int32.ofNat n := by rw [Int32.lt_iff_toInt_lt, own_i32 (by omega), own_i32 hn]; omega
theorem own_i32le {i n : Nat} (h : n ≤ i) (hi : i < 2 ^ 31) : ¬ Int32.ofNat i < Int32.ofNat n := by rw [Int32.lt_iff_toInt_lt, own_i32 hi, own_i32 (by omega)]; omega
theorem own_inc (i : Nat) : Int32.ofNat i + 1 = Int32.ofNat (i + 1) := (inc_ofNat i).symm
def own_c16 (x : Int32) : Int32 := x.toUInt32.toUInt16.toUInt32.toInt32
def own_b8 (x : Int32) : Int32 := x.toInt8.toInt32
def own_ushr (x k : Int32) : Int32 := (x.toUInt32 >>> (k &&& 31).toUInt32).toInt32
theorem own_aconst_null (X : own_At G p l e R s0 s EL P m args below meth c Z n0 own nm bytes maxL ret T h cells slots) {pc pc' : Nat} {Ls : Array Slot} {st : List Value} (hd : decode bytes pc = .ok (.aconst_null, 1)) (hp : pc' = pc + 1)  (k : G T (mkF m pc' Ls (.null :: st))) : G T (mkF m pc Ls st) := by
  obtain ⟨hG, ⟨c1, c2, -⟩, L, X, -⟩ := X
  subst hp
  exact hG _ _ _ _ (fun t q => XS.aconstNull X.here c1 rfl (hb c2 hd) q) k
theorem own_iconst (X : own_At G p l e R s0 s EL P m args below meth c Z n0 own nm bytes maxL ret T h cells slots) {pc pc' : Nat} {Ls : Array Slot} {st : List Value} {i : Int} {z : Int32} (hd : decode bytes pc = .ok (.iconst i, 1)) (hp : pc' = pc + 1) (hz : Int32.ofInt i = z) (k : G T (mkF m pc' Ls (.int z :: st))) : G T (mkF m pc Ls st) := by
  obtain ⟨hG, ⟨c1, c2, -⟩, L, X, -⟩ := X
  subst hp
  exact hG _ _ _ _ (fun t q => XS.iconst X.here c1 rfl (hb c2 hd) (by rw [hz]; exact q)) k
theorem own_bipush (X : own_At G p l e R s0 s EL P m args below meth c Z n0 own nm bytes maxL ret T h cells slots) {pc pc' : Nat} {Ls : Array Slot} {st : List Value} {i : Int} {z : Int32} (hd : decode bytes pc = .ok (.bipush i, 2)) (hp : pc' = pc + 2) (hz : (Int8.ofInt i).toInt32 = z) (k : G T (mkF m pc' Ls (.int z :: st))) : G T (mkF m pc Ls st) := by
  obtain ⟨hG, ⟨c1, c2, -⟩, L, X, -⟩ := X
  subst hp
  exact hG _ _ _ _ (fun t q => XS.bipush X.here c1 rfl (hb c2 hd) (by rw [hz]; exact q)) k
theorem own_sipush (X : own_At G p l e R s0 s EL P m args below meth c Z n0 own nm bytes maxL ret T h cells slots) {pc pc' : Nat} {Ls : Array Slot} {st : List Value} {i : Int} {z : Int32} (hd : decode bytes pc = .ok (.sipush i, 3)) (hp : pc' = pc + 3) (hz : (Int16.ofInt i).toInt32 = z) (k : G T (mkF m pc' Ls (.int z :: st))) : G T (mkF m pc Ls st) := by
  obtain ⟨hG, ⟨c1, c2, -⟩, L, X, -⟩ := X
  subst hp
  exact hG _ _ _ _ (fun t q => XS.sipush X.here c1 rfl (hb c2 hd) (by rw [hz]; exact q)) k
theorem own_lconst (X : own_At G p l e R s0 s EL P m args below meth c Z n0 own nm bytes maxL ret T h cells slots) {pc pc' : Nat} {Ls : Array Slot} {st : List Value} {i : Fin 2} {z : Int64} (hd : decode bytes pc = .ok (.lconst i, 1)) (hp : pc' = pc + 1) (hz : Int64.ofNat i = z) (k : G T (mkF m pc' Ls (.long z :: st))) : G T (mkF m pc Ls st) := by
  obtain ⟨hG, ⟨c1, c2, -⟩, L, X, -⟩ := X
  subst hp
  exact hG _ _ _ _ (fun t q => XS.lconst X.here c1 rfl (hb c2 hd) (by rw [hz]; exact q)) k
theorem own_iload_n (X : own_At G p l e R s0 s EL P m args below meth c Z n0 own nm bytes maxL ret T h cells slots) {pc pc' : Nat} {Ls : Array Slot} {st : List Value} {i : Fin 4} {v : Int32} (hd : decode bytes pc = .ok (.iload_n i, 1)) (hp : pc' = pc + 1) (hl : Ls[i.val]? = some (.val (.int v))) (k : G T (mkF m pc' Ls (.int v :: st))) : G T (mkF m pc Ls st) := by
  obtain ⟨hG, ⟨c1, c2, -⟩, L, X, -⟩ := X
  subst hp
  exact hG _ _ _ _ (fun t q => XS.iloadN X.here c1 rfl (hb c2 hd) hl q) k
theorem own_iload (X : own_At G p l e R s0 s EL P m args below meth c Z n0 own nm bytes maxL ret T h cells slots) {pc pc' : Nat} {Ls : Array Slot} {st : List Value} {i : Nat} {v : Int32} (hd : decode bytes pc = .ok (.iload i, 2)) (hp : pc' = pc + 2) (hl : Ls[i]? = some (.val (.int v))) (k : G T (mkF m pc' Ls (.int v :: st))) : G T (mkF m pc Ls st) := by
  obtain ⟨hG, ⟨c1, c2, -⟩, L, X, -⟩ := X
  subst hp
  exact hG _ _ _ _ (fun t q => XS.iload X.here c1 rfl (hb c2 hd) hl q) k
theorem own_istore_n (X : own_At G p l e R s0 s EL P m args below meth c Z n0 own nm bytes maxL ret T h cells slots) {pc pc' : Nat} {Ls : Array Slot} {st : List Value} {i : Fin 4} {v : Int32} {Ls' : Array Slot} (hd : decode bytes pc = .ok (.istore_n i, 1)) (hp : pc' = pc + 1) (hl : storeLocals Ls i.val (.int v) = some Ls') (k : G T (mkF m pc' Ls' st)) : G T (mkF m pc Ls (.int v :: st)) := by
  obtain ⟨hG, ⟨c1, c2, -⟩, L, X, -⟩ := X
  subst hp
  exact hG _ _ _ _ (fun t q => XS.istoreN X.here c1 rfl (hb c2 hd) rfl hl q) k
theorem own_istore (X : own_At G p l e R s0 s EL P m args below meth c Z n0 own nm bytes maxL ret T h cells slots) {pc pc' : Nat} {Ls : Array Slot} {st : List Value} {i : Nat} {v : Int32} {Ls' : Array Slot} (hd : decode bytes pc = .ok (.istore i, 2)) (hp : pc' = pc + 2) (hl : storeLocals Ls i (.int v) = some Ls') (k : G T (mkF m pc' Ls' st)) : G T (mkF m pc Ls (.int v :: st)) := by
  obtain ⟨hG, ⟨c1, c2, -⟩, L, X, -⟩ := X
  subst hp
  exact hG _ _ _ _ (fun t q => XS.istore X.here c1 rfl (hb c2 hd) rfl hl q) k
theorem own_lload_n (X : own_At G p l e R s0 s EL P m args below meth c Z n0 own nm bytes maxL ret T h cells slots) {pc pc' : Nat} {Ls : Array Slot} {st : List Value} {i : Fin 4} {v : Int64} (hd : decode bytes pc = .ok (.lload_n i, 1)) (hp : pc' = pc + 1) (hl : Ls[i.val]? = some (.val (.long v))) (k : G T (mkF m pc' Ls (.long v :: st))) : G T (mkF m pc Ls st) := by
  obtain ⟨hG, ⟨c1, c2, -⟩, L, X, -⟩ := X
  subst hp
  exact hG _ _ _ _ (fun t q => XS.lloadN X.here c1 rfl (hb c2 hd) hl q) k
theorem own_lload (X : own_At G p l e R s0 s EL P m args below meth c Z n0 own nm bytes maxL ret T h cells slots) {pc pc' : Nat} {Ls : Array Slot} {st : List Value} {i : Nat} {v : Int64} (hd : decode bytes pc = .ok (.lload i, 2)) (hp : pc' = pc + 2) (hl : Ls[i]? = some (.val (.long v))) (k : G T (mkF m pc' Ls (.long v :: st))) : G T (mkF m pc Ls st) := by
  obtain ⟨hG, ⟨c1, c2, -⟩, L, X, -⟩ := X
  subst hp
  exact hG _ _ _ _ (fun t q => XS.lload X.here c1 rfl (hb c2 hd) hl q) k
theorem own_lstore_n (X : own_At G p l e R s0 s EL P m args below meth c Z n0 own nm bytes maxL ret T h cells slots) {pc pc' : Nat} {Ls : Array Slot} {st : List Value} {i : Fin 4} {v : Int64} {Ls' : Array Slot} (hd : decode bytes pc = .ok (.lstore_n i, 1)) (hp : pc' = pc + 1) (hl : storeLocals Ls i.val (.long v) = some Ls') (k : G T (mkF m pc' Ls' st)) : G T (mkF m pc Ls (.long v :: st)) := by
  obtain ⟨hG, ⟨c1, c2, -⟩, L, X, -⟩ := X
  subst hp
  exact hG _ _ _ _ (fun t q => XS.lstoreN X.here c1 rfl (hb c2 hd) rfl hl q) k
theorem own_lstore (X : own_At G p l e R s0 s EL P m args below meth c Z n0 own nm bytes maxL ret T h cells slots) {pc pc' : Nat} {Ls : Array Slot} {st : List Value} {i : Nat} {v : Int64} {Ls' : Array Slot} (hd : decode bytes pc = .ok (.lstore i, 2)) (hp : pc' = pc + 2) (hl : storeLocals Ls i (.long v) = some Ls') (k : G T (mkF m pc' Ls' st)) : G T (mkF m pc Ls (.long v :: st)) := by
  obtain ⟨hG, ⟨c1, c2, -⟩, L, X, -⟩ := X
  subst hp
  exact hG _ _ _ _ (fun t q => XS.lstore X.here c1 rfl (hb c2 hd) rfl hl q) k
theorem own_aload_n (X : own_At G p l e R s0 s EL P m args below meth c Z n0 own nm bytes maxL ret T h cells slots) {pc pc' : Nat} {Ls : Array Slot} {st : List Value} {i : Fin 4} {v : Value} (hd : decode bytes pc = .ok (.aload_n i, 1)) (hp : pc' = pc + 1) (hl : Ls[i.val]? = some (.val v)) (hv : v.isRef = true) (k : G T (mkF m pc' Ls (v :: st))) : G T (mkF m pc Ls st) := by
  obtain ⟨hG, ⟨c1, c2, -⟩, L, X, -⟩ := X
  subst hp
  exact hG _ _ _ _ (fun t q => XS.aloadN X.here c1 rfl (hb c2 hd) hl hv q) k
theorem own_aload (X : own_At G p l e R s0 s EL P m args below meth c Z n0 own nm bytes maxL ret T h cells slots) {pc pc' : Nat} {Ls : Array Slot} {st : List Value} {i : Nat} {v : Value} (hd : decode bytes pc = .ok (.aload i, 2)) (hp : pc' = pc + 2) (hl : Ls[i]? = some (.val v)) (hv : v.isRef = true) (k : G T (mkF m pc' Ls (v :: st))) : G T (mkF m pc Ls st) := by
  obtain ⟨hG, ⟨c1, c2, -⟩, L, X, -⟩ := X
  subst hp
  exact hG _ _ _ _ (fun t q => XS.aload X.here c1 rfl (hb c2 hd) hl hv q) k
theorem own_astore_n (X : own_At G p l e R s0 s EL P m args below meth c Z n0 own nm bytes maxL ret T h cells slots) {pc pc' : Nat} {Ls : Array Slot} {st : List Value} {i : Fin 4} {v : Value} {Ls' : Array Slot} (hd : decode bytes pc = .ok (.astore_n i, 1)) (hp : pc' = pc + 1) (hv : v.isRef = true) (hl : storeLocals Ls i.val v = some Ls') (k : G T (mkF m pc' Ls' st)) : G T (mkF m pc Ls (v :: st)) := by
  obtain ⟨hG, ⟨c1, c2, -⟩, L, X, -⟩ := X
  subst hp
  exact hG _ _ _ _ (fun t q => XS.astoreN X.here c1 rfl (hb c2 hd) rfl hv hl q) k
theorem own_astore (X : own_At G p l e R s0 s EL P m args below meth c Z n0 own nm bytes maxL ret T h cells slots) {pc pc' : Nat} {Ls : Array Slot} {st : List Value} {i : Nat} {v : Value} {Ls' : Array Slot} (hd : decode bytes pc = .ok (.astore i, 2)) (hp : pc' = pc + 2) (hv : v.isRef = true) (hl : storeLocals Ls i v = some Ls') (k : G T (mkF m pc' Ls' st)) : G T (mkF m pc Ls (v :: st)) := by
  obtain ⟨hG, ⟨c1, c2, -⟩, L, X, -⟩ := X
  subst hp
  exact hG _ _ _ _ (fun t q => XS.astore X.here c1 rfl (hb c2 hd) rfl hv hl q) k
theorem own_iinc (X : own_At G p l e R s0 s EL P m args below meth c Z n0 own nm bytes maxL ret T h cells slots) {pc pc' : Nat} {Ls : Array Slot} {st : List Value} {i : Nat} {cst : Int} {v z r : Int32} {Ls' : Array Slot} (hd : decode bytes pc = .ok (.iinc i cst, 3)) (hp : pc' = pc + 3) (hl : Ls[i]? = some (.val (.int v))) (hz : Int32.ofInt cst = z) (hr : v + z = r) (hs : storeLocals Ls i (.int r) = some Ls') (k : G T (mkF m pc' Ls' st)) : G T (mkF m pc Ls st) := by
  obtain ⟨hG, ⟨c1, c2, -⟩, L, X, -⟩ := X
  subst hp
  exact hG _ _ _ _ (fun t q => XS.iinc X.here c1 rfl (hb c2 hd) hl (by rw [hz, hr]; exact hs) q) k
theorem own_xpop2 {locs : List Loc} {target : State} (X : Stand p l e R s m args below meth c T locs cells slots) (hx : p.tables.exec = Jvm.exec) {pc : Nat} {Ls : Array Slot} {x : Int64} {rest : List Value} (hd : decode c.code pc = .ok (.pop2, 1)) (hr : Steps p.tables e below (T.setTop (mkF m (pc + 1) Ls rest)) target) : Steps p.tables e below (T.setTop (mkF m pc Ls (.long x :: rest))) target := by
  jvm_step X.here [X.here.top, hx, hd, pop2.sem, Value.category]
  exact hr
theorem own_iadd (X : own_At G p l e R s0 s EL P m args below meth c Z n0 own nm bytes maxL ret T h cells slots) {pc pc' : Nat} {Ls : Array Slot} {st : List Value} {x y r : Int32} (hd : decode bytes pc = .ok (.iadd, 1)) (hp : pc' = pc + 1) (hr : x + y = r) (k : G T (mkF m pc' Ls (.int r :: st))) : G T (mkF m pc Ls (.int y :: .int x :: st)) := by
  obtain ⟨hG, ⟨c1, c2, -⟩, L, X, -⟩ := X
  subst hp
  exact hG _ _ _ _ (fun t q => XS.iadd X.here c1 rfl (hb c2 hd) rfl (by subst hr; exact q)) k
theorem own_isub (X : own_At G p l e R s0 s EL P m args below meth c Z n0 own nm bytes maxL ret T h cells slots) {pc pc' : Nat} {Ls : Array Slot} {st : List Value} {x y r : Int32} (hd : decode bytes pc = .ok (.isub, 1)) (hp : pc' = pc + 1) (hr : x - y = r) (k : G T (mkF m pc' Ls (.int r :: st))) : G T (mkF m pc Ls (.int y :: .int x :: st)) := by
  obtain ⟨hG, ⟨c1, c2, -⟩, L, X, -⟩ := X
  subst hp
  exact hG _ _ _ _ (fun t q => XS.isub X.here c1 rfl (hb c2 hd) rfl (by subst hr; exact q)) k
theorem own_imul (X : own_At G p l e R s0 s EL P m args below meth c Z n0 own nm bytes maxL ret T h cells slots) {pc pc' : Nat} {Ls : Array Slot} {st : List Value} {x y r : Int32} (hd : decode bytes pc = .ok (.imul, 1)) (hp : pc' = pc + 1) (hr : x * y = r) (k : G T (mkF m pc' Ls (.int r :: st))) : G T (mkF m pc Ls (.int y :: .int x :: st)) := by
  obtain ⟨hG, ⟨c1, c2, -⟩, L, X, -⟩ := X
  subst hp
  exact hG _ _ _ _ (fun t q => XS.imul X.here c1 rfl (hb c2 hd) rfl (by subst hr; exact q)) k
theorem own_iand (X : own_At G p l e R s0 s EL P m args below meth c Z n0 own nm bytes maxL ret T h cells slots) {pc pc' : Nat} {Ls : Array Slot} {st : List Value} {x y r : Int32} (hd : decode bytes pc = .ok (.iand, 1)) (hp : pc' = pc + 1) (hr : x &&& y = r) (k : G T (mkF m pc' Ls (.int r :: st))) : G T (mkF m pc Ls (.int y :: .int x :: st)) := by
  obtain ⟨hG, ⟨c1, c2, -⟩, L, X, -⟩ := X
  subst hp
  exact hG _ _ _ _ (fun t q => XS.iand X.here c1 rfl (hb c2 hd) rfl (by subst hr; exact q)) k
theorem own_ior (X : own_At G p l e R s0 s EL P m args below meth c Z n0 own nm bytes maxL ret T h cells slots) {pc pc' : Nat} {Ls : Array Slot} {st : List Value} {x y r : Int32} (hd : decode bytes pc = .ok (.ior, 1)) (hp : pc' = pc + 1) (hr : x ||| y = r) (k : G T (mkF m pc' Ls (.int r :: st))) : G T (mkF m pc Ls (.int y :: .int x :: st)) := by
  obtain ⟨hG, ⟨c1, c2, -⟩, L, X, -⟩ := X
  subst hp
  exact hG _ _ _ _ (fun t q => XS.ior X.here c1 rfl (hb c2 hd) rfl (by subst hr; exact q)) k
theorem own_ixor (X : own_At G p l e R s0 s EL P m args below meth c Z n0 own nm bytes maxL ret T h cells slots) {pc pc' : Nat} {Ls : Array Slot} {st : List Value} {x y r : Int32} (hd : decode bytes pc = .ok (.ixor, 1)) (hp : pc' = pc + 1) (hr : x ^^^ y = r) (k : G T (mkF m pc' Ls (.int r :: st))) : G T (mkF m pc Ls (.int y :: .int x :: st)) := by
  obtain ⟨hG, ⟨c1, c2, -⟩, L, X, -⟩ := X
  subst hp
  exact hG _ _ _ _ (fun t q => XS.ixor X.here c1 rfl (hb c2 hd) rfl (by subst hr; exact q)) k
theorem own_ishl (X : own_At G p l e R s0 s EL P m args below meth c Z n0 own nm bytes maxL ret T h cells slots) {pc pc' : Nat} {Ls : Array Slot} {st : List Value} {x y r : Int32} (hd : decode bytes pc = .ok (.ishl, 1)) (hp : pc' = pc + 1) (hr : x <<< (y &&& 31) = r) (k : G T (mkF m pc' Ls (.int r :: st))) : G T (mkF m pc Ls (.int y :: .int x :: st)) := by
  obtain ⟨hG, ⟨c1, c2, -⟩, L, X, -⟩ := X
  subst hp
  exact hG _ _ _ _ (fun t q => XS.ishl X.here c1 rfl (hb c2 hd) rfl (by subst hr; exact q)) k
theorem own_ishr (X : own_At G p l e R s0 s EL P m args below meth c Z n0 own nm bytes maxL ret T h cells slots) {pc pc' : Nat} {Ls : Array Slot} {st : List Value} {x y r : Int32} (hd : decode bytes pc = .ok (.ishr, 1)) (hp : pc' = pc + 1) (hr : x >>> (y &&& 31) = r) (k : G T (mkF m pc' Ls (.int r :: st))) : G T (mkF m pc Ls (.int y :: .int x :: st)) := by
  obtain ⟨hG, ⟨c1, c2, -⟩, L, X, -⟩ := X
  subst hp
  exact hG _ _ _ _ (fun t q => XS.ishr X.here c1 rfl (hb c2 hd) rfl (by subst hr; exact q)) k
theorem own_iushr (X : own_At G p l e R s0 s EL P m args below meth c Z n0 own nm bytes maxL ret T h cells slots) {pc pc' : Nat} {Ls : Array Slot} {st : List Value} {x y r : Int32} (hd : decode bytes pc = .ok (.iushr, 1)) (hp : pc' = pc + 1) (hr : own_ushr x y = r) (k : G T (mkF m pc' Ls (.int r :: st))) : G T (mkF m pc Ls (.int y :: .int x :: st)) := by
  obtain ⟨hG, ⟨c1, c2, -⟩, L, X, -⟩ := X
  subst hp
  exact hG _ _ _ _ (fun t q => XS.iushr X.here c1 rfl (hb c2 hd) rfl (by subst hr; exact q)) k
theorem own_ladd (X : own_At G p l e R s0 s EL P m args below meth c Z n0 own nm bytes maxL ret T h cells slots) {pc pc' : Nat} {Ls : Array Slot} {st : List Value} {x y r : Int64} (hd : decode bytes pc = .ok (.ladd, 1)) (hp : pc' = pc + 1) (hr : x + y = r) (k : G T (mkF m pc' Ls (.long r :: st))) : G T (mkF m pc Ls (.long y :: .long x :: st)) := by
  obtain ⟨hG, ⟨c1, c2, -⟩, L, X, -⟩ := X
  subst hp
  exact hG _ _ _ _ (fun t q => XS.ladd X.here c1 rfl (hb c2 hd) rfl (by subst hr; exact q)) k
theorem own_lsub (X : own_At G p l e R s0 s EL P m args below meth c Z n0 own nm bytes maxL ret T h cells slots) {pc pc' : Nat} {Ls : Array Slot} {st : List Value} {x y r : Int64} (hd : decode bytes pc = .ok (.lsub, 1)) (hp : pc' = pc + 1) (hr : x - y = r) (k : G T (mkF m pc' Ls (.long r :: st))) : G T (mkF m pc Ls (.long y :: .long x :: st)) := by
  obtain ⟨hG, ⟨c1, c2, -⟩, L, X, -⟩ := X
  subst hp
  exact hG _ _ _ _ (fun t q => XS.lsub X.here c1 rfl (hb c2 hd) rfl (by subst hr; exact q)) k
theorem own_lmul (X : own_At G p l e R s0 s EL P m args below meth c Z n0 own nm bytes maxL ret T h cells slots) {pc pc' : Nat} {Ls : Array Slot} {st : List Value} {x y r : Int64} (hd : decode bytes pc = .ok (.lmul, 1)) (hp : pc' = pc + 1) (hr : x * y = r) (k : G T (mkF m pc' Ls (.long r :: st))) : G T (mkF m pc Ls (.long y :: .long x :: st)) := by
  obtain ⟨hG, ⟨c1, c2, -⟩, L, X, -⟩ := X
  subst hp
  exact hG _ _ _ _ (fun t q => XS.lmul X.here c1 rfl (hb c2 hd) rfl (by subst hr; exact q)) k
theorem own_land (X : own_At G p l e R s0 s EL P m args below meth c Z n0 own nm bytes maxL ret T h cells slots) {pc pc' : Nat} {Ls : Array Slot} {st : List Value} {x y r : Int64} (hd : decode bytes pc = .ok (.land, 1)) (hp : pc' = pc + 1) (hr : x &&& y = r) (k : G T (mkF m pc' Ls (.long r :: st))) : G T (mkF m pc Ls (.long y :: .long x :: st)) := by
  obtain ⟨hG, ⟨c1, c2, -⟩, L, X, -⟩ := X
  subst hp
  exact hG _ _ _ _ (fun t q => XS.land X.here c1 rfl (hb c2 hd) rfl (by subst hr; exact q)) k
theorem own_lor (X : own_At G p l e R s0 s EL P m args below meth c Z n0 own nm bytes maxL ret T h cells slots) {pc pc' : Nat} {Ls : Array Slot} {st : List Value} {x y r : Int64} (hd : decode bytes pc = .ok (.lor, 1)) (hp : pc' = pc + 1) (hr : x ||| y = r) (k : G T (mkF m pc' Ls (.long r :: st))) : G T (mkF m pc Ls (.long y :: .long x :: st)) := by
  obtain ⟨hG, ⟨c1, c2, -⟩, L, X, -⟩ := X
  subst hp
  exact hG _ _ _ _ (fun t q => XS.lor X.here c1 rfl (hb c2 hd) rfl (by subst hr; exact q)) k
theorem own_lxor (X : own_At G p l e R s0 s EL P m args below meth c Z n0 own nm bytes maxL ret T h cells slots) {pc pc' : Nat} {Ls : Array Slot} {st : List Value} {x y r : Int64} (hd : decode bytes pc = .ok (.lxor, 1)) (hp : pc' = pc + 1) (hr : x ^^^ y = r) (k : G T (mkF m pc' Ls (.long r :: st))) : G T (mkF m pc Ls (.long y :: .long x :: st)) := by
  obtain ⟨hG, ⟨c1, c2, -⟩, L, X, -⟩ := X
  subst hp
  exact hG _ _ _ _ (fun t q => XS.lxor X.here c1 rfl (hb c2 hd) rfl (by subst hr; exact q)) k
theorem own_lshl (X : own_At G p l e R s0 s EL P m args below meth c Z n0 own nm bytes maxL ret T h cells slots) {pc pc' : Nat} {Ls : Array Slot} {st : List Value} {x r : Int64} {y : Int32} (hd : decode bytes pc = .ok (.lshl, 1)) (hp : pc' = pc + 1) (hr : x <<< (y &&& 0x3f).toInt64 = r) (k : G T (mkF m pc' Ls (.long r :: st))) : G T (mkF m pc Ls (.int y :: .long x :: st)) := by
  obtain ⟨hG, ⟨c1, c2, -⟩, L, X, -⟩ := X
  subst hp
  exact hG _ _ _ _ (fun t q => XS.lshl X.here c1 rfl (hb c2 hd) rfl (by subst hr; exact q)) k
theorem own_lshr (X : own_At G p l e R s0 s EL P m args below meth c Z n0 own nm bytes maxL ret T h cells slots) {pc pc' : Nat} {Ls : Array Slot} {st : List Value} {x r : Int64} {y : Int32} (hd : decode bytes pc = .ok (.lshr, 1)) (hp : pc' = pc + 1) (hr : x >>> (y &&& 0x3f).toInt64 = r) (k : G T (mkF m pc' Ls (.long r :: st))) : G T (mkF m pc Ls (.int y :: .long x :: st)) := by
  obtain ⟨hG, ⟨c1, c2, -⟩, L, X, -⟩ := X
  subst hp
  exact hG _ _ _ _ (fun t q => XS.lshr X.here c1 rfl (hb c2 hd) rfl (by subst hr; exact q)) k
theorem own_idiv (X : own_At G p l e R s0 s EL P m args below meth c Z n0 own nm bytes maxL ret T h cells slots) {pc pc' : Nat} {Ls : Array Slot} {st : List Value} {x y : Int32} (hd : decode bytes pc = .ok (.idiv, 1)) (hp : pc' = pc + 1) (hy : y ≠ 0) (k : G T (mkF m pc' Ls (.int (x / y) :: st))) : G T (mkF m pc Ls (.int y :: .int x :: st)) := by
  obtain ⟨hG, ⟨c1, c2, -⟩, L, X, -⟩ := X
  subst hp
  exact hG _ _ _ _ (fun t q => XS.idiv X.here c1 rfl (hb c2 hd) rfl hy q) k
theorem own_irem (X : own_At G p l e R s0 s EL P m args below meth c Z n0 own nm bytes maxL ret T h cells slots) {pc pc' : Nat} {Ls : Array Slot} {st : List Value} {x y : Int32} (hd : decode bytes pc = .ok (.irem, 1)) (hp : pc' = pc + 1) (hy : y ≠ 0) (k : G T (mkF m pc' Ls (.int (x % y) :: st))) : G T (mkF m pc Ls (.int y :: .int x :: st)) := by
  obtain ⟨hG, ⟨c1, c2, -⟩, L, X, -⟩ := X
  subst hp
  exact hG _ _ _ _ (fun t q => iremM X c1 rfl (hb c2 hd) rfl hy q) k
theorem own_ldiv (X : own_At G p l e R s0 s EL P m args below meth c Z n0 own nm bytes maxL ret T h cells slots) {pc pc' : Nat} {Ls : Array Slot} {st : List Value} {x y : Int64} (hd : decode bytes pc = .ok (.ldiv, 1)) (hp : pc' = pc + 1) (hy : y ≠ 0) (k : G T (mkF m pc' Ls (.long (x / y) :: st))) : G T (mkF m pc Ls (.long y :: .long x :: st)) := by
  obtain ⟨hG, ⟨c1, c2, -⟩, L, X, -⟩ := X
  subst hp
  exact hG _ _ _ _ (fun t q => XS.ldiv X.here c1 rfl (hb c2 hd) rfl hy q) k
theorem own_lrem (X : own_At G p l e R s0 s EL P m args below meth c Z n0 own nm bytes maxL ret T h cells slots) {pc pc' : Nat} {Ls : Array Slot} {st : List Value} {x y : Int64} (hd : decode bytes pc = .ok (.lrem, 1)) (hp : pc' = pc + 1) (hy : y ≠ 0) (k : G T (mkF m pc' Ls (.long (x % y) :: st))) : G T (mkF m pc Ls (.long y :: .long x :: st)) := by
  obtain ⟨hG, ⟨c1, c2, -⟩, L, X, -⟩ := X
  subst hp
  exact hG _ _ _ _ (fun t q => XS.lrem X.here c1 rfl (hb c2 hd) rfl hy (by rw [lrem_mod]; exact q)) k
theorem own_ineg (X : own_At G p l e R s0 s EL P m args below meth c Z n0 own nm bytes maxL ret T h cells slots) {pc pc' : Nat} {Ls : Array Slot} {st : List Value} {x : Int32} (hd : decode bytes pc = .ok (.ineg, 1)) (hp : pc' = pc + 1)  (k : G T (mkF m pc' Ls (.int (-x) :: st))) : G T (mkF m pc Ls (.int x :: st)) := by
  obtain ⟨hG, ⟨c1, c2, -⟩, L, X, -⟩ := X
  subst hp
  exact hG _ _ _ _ (fun t q => XS.ineg X.here c1 rfl (hb c2 hd) rfl q) k
theorem own_i2c (X : own_At G p l e R s0 s EL P m args below meth c Z n0 own nm bytes maxL ret T h cells slots) {pc pc' : Nat} {Ls : Array Slot} {st : List Value} {x : Int32} (hd : decode bytes pc = .ok (.i2c, 1)) (hp : pc' = pc + 1)  (k : G T (mkF m pc' Ls (.int (own_c16 x) :: st))) : G T (mkF m pc Ls (.int x :: st)) := by
  obtain ⟨hG, ⟨c1, c2, -⟩, L, X, -⟩ := X
  subst hp
  exact hG _ _ _ _ (fun t q => XS.i2c X.here c1 rfl (hb c2 hd) rfl q) k
theorem own_i2b (X : own_At G p l e R s0 s EL P m args below meth c Z n0 own nm bytes maxL ret T h cells slots) {pc pc' : Nat} {Ls : Array Slot} {st : List Value} {x : Int32} (hd : decode bytes pc = .ok (.i2b, 1)) (hp : pc' = pc + 1)  (k : G T (mkF m pc' Ls (.int (own_b8 x) :: st))) : G T (mkF m pc Ls (.int x :: st)) := by
  obtain ⟨hG, ⟨c1, c2, -⟩, L, X, -⟩ := X
  subst hp
  exact hG _ _ _ _ (fun t q => XS.i2b X.here c1 rfl (hb c2 hd) rfl q) k
theorem own_i2l (X : own_At G p l e R s0 s EL P m args below meth c Z n0 own nm bytes maxL ret T h cells slots) {pc pc' : Nat} {Ls : Array Slot} {st : List Value} {x : Int32} {r : Int64} (hd : decode bytes pc = .ok (.i2l, 1)) (hp : pc' = pc + 1) (hr : x.toInt64 = r) (k : G T (mkF m pc' Ls (.long r :: st))) : G T (mkF m pc Ls (.int x :: st)) := by
  obtain ⟨hG, ⟨c1, c2, -⟩, L, X, -⟩ := X
  subst hp
  exact hG _ _ _ _ (fun t q => XS.i2l X.here c1 rfl (hb c2 hd) rfl (by subst hr; exact q)) k
theorem own_l2i (X : own_At G p l e R s0 s EL P m args below meth c Z n0 own nm bytes maxL ret T h cells slots) {pc pc' : Nat} {Ls : Array Slot} {st : List Value} {x : Int64} {r : Int32} (hd : decode bytes pc = .ok (.l2i, 1)) (hp : pc' = pc + 1) (hr : x.toInt32 = r) (k : G T (mkF m pc' Ls (.int r :: st))) : G T (mkF m pc Ls (.long x :: st)) := by
  obtain ⟨hG, ⟨c1, c2, -⟩, L, X, -⟩ := X
  subst hp
  exact hG _ _ _ _ (fun t q => XS.l2i X.here c1 rfl (hb c2 hd) rfl (by subst hr; exact q)) k
theorem own_pop2L (X : own_At G p l e R s0 s EL P m args below meth c Z n0 own nm bytes maxL ret T h cells slots) {pc pc' : Nat} {Ls : Array Slot} {st : List Value} {x : Int64} (hd : decode bytes pc = .ok (.pop2, 1)) (hp : pc' = pc + 1)  (k : G T (mkF m pc' Ls st)) : G T (mkF m pc Ls (.long x :: st)) := by
  obtain ⟨hG, ⟨c1, c2, -⟩, L, X, -⟩ := X
  subst hp
  exact hG _ _ _ _ (fun t q => own_xpop2 X c1 (hb c2 hd) q) k
theorem own_lcmp (X : own_At G p l e R s0 s EL P m args below meth c Z n0 own nm bytes maxL ret T h cells slots) {pc pc' : Nat} {Ls : Array Slot} {st : List Value} {x y : Int64} (hd : decode bytes pc = .ok (.lcmp, 1)) (hp : pc' = pc + 1)  (k : G T (mkF m pc' Ls (.int (lcmpW x y) :: st))) : G T (mkF m pc Ls (.long y :: .long x :: st)) := by
  obtain ⟨hG, ⟨c1, c2, -⟩, L, X, -⟩ := X
  subst hp
  exact hG _ _ _ _ (fun t q => XS.lcmp X.here c1 rfl (hb c2 hd) rfl q) k
theorem own_dup (X : own_At G p l e R s0 s EL P m args below meth c Z n0 own nm bytes maxL ret T h cells slots) {pc pc' : Nat} {Ls : Array Slot} {st : List Value} {x : Value} (hd : decode bytes pc = .ok (.dup, 1)) (hp : pc' = pc + 1) (hc : x.category = 1) (k : G T (mkF m pc' Ls (x :: x :: st))) : G T (mkF m pc Ls (x :: st)) := by
  obtain ⟨hG, ⟨c1, c2, -⟩, L, X, -⟩ := X
  subst hp
  exact hG _ _ _ _ (fun t q => XS.dup X.here c1 rfl (hb c2 hd) rfl hc q) k
theorem own_pop (X : own_At G p l e R s0 s EL P m args below meth c Z n0 own nm bytes maxL ret T h cells slots) {pc pc' : Nat} {Ls : Array Slot} {st : List Value} {x : Value} (hd : decode bytes pc = .ok (.pop, 1)) (hp : pc' = pc + 1) (hc : x.category = 1) (k : G T (mkF m pc' Ls st)) : G T (mkF m pc Ls (x :: st)) := by
  obtain ⟨hG, ⟨c1, c2, -⟩, L, X, -⟩ := X
  subst hp
  exact hG _ _ _ _ (fun t q => XS.pop X.here c1 rfl (hb c2 hd) rfl hc q) k
theorem own_dup_x1 (X : own_At G p l e R s0 s EL P m args below meth c Z n0 own nm bytes maxL ret T h cells slots) {pc pc' : Nat} {Ls : Array Slot} {st : List Value} {x y : Value} (hd : decode bytes pc = .ok (.dup_x1, 1)) (hp : pc' = pc + 1) (hc : x.category = 1) (hc2 : y.category = 1) (k : G T (mkF m pc' Ls (x :: y :: x :: st))) : G T (mkF m pc Ls (x :: y :: st)) := by
  obtain ⟨hG, ⟨c1, c2, -⟩, L, X, -⟩ := X
  subst hp
  exact hG _ _ _ _ (fun t q => XS.dupX1 X.here c1 rfl (hb c2 hd) rfl hc hc2 q) k
theorem own_goto (X : own_At G p l e R s0 s EL P m args below meth c Z n0 own nm bytes maxL ret T h cells slots) {pc pc' : Nat} {Ls : Array Slot} {st : List Value} {o : Int}  (hd : decode bytes pc = .ok (.goto o, 3))  (ho : 0 ≤ (pc : Int) + o) (hp : ((pc : Int) + o).toNat = pc') (k : G T (mkF m pc' Ls st)) : G T (mkF m pc Ls st) := by
  obtain ⟨hG, ⟨c1, c2, -⟩, L, X, -⟩ := X
  exact hG _ _ _ _ (fun t q => XS.goto X.here c1 rfl rfl (hb c2 hd) ho hp q) k
theorem own_ifY (X : own_At G p l e R s0 s EL P m args below meth c Z n0 own nm bytes maxL ret T h cells slots) {pc pc' : Nat} {Ls : Array Slot} {st : List Value} {o : Int} {cd : ClassFile.Cond} {x : Int32} (hd : decode bytes pc = .ok (.ifCond cd o, 3)) (hc : if_icmp.holds cd x 0 = true) (ho : 0 ≤ (pc : Int) + o) (hp : ((pc : Int) + o).toNat = pc') (k : G T (mkF m pc' Ls st)) : G T (mkF m pc Ls (.int x :: st)) := by
  obtain ⟨hG, ⟨c1, c2, -⟩, L, X, -⟩ := X
  exact hG _ _ _ _ (fun t q => XS.ifYes X.here c1 rfl rfl (hb c2 hd) rfl ((if0 _ _).trans hc) ho hp q) k
theorem own_ifN (X : own_At G p l e R s0 s EL P m args below meth c Z n0 own nm bytes maxL ret T h cells slots) {pc pc' : Nat} {Ls : Array Slot} {st : List Value} {o : Int} {cd : ClassFile.Cond} {x : Int32} (hd : decode bytes pc = .ok (.ifCond cd o, 3)) (hp : pc' = pc + 3) (hc : if_icmp.holds cd x 0 = false) (k : G T (mkF m pc' Ls st)) : G T (mkF m pc Ls (.int x :: st)) := by
  obtain ⟨hG, ⟨c1, c2, -⟩, L, X, -⟩ := X
  subst hp
  exact hG _ _ _ _ (fun t q => XS.ifNo X.here c1 rfl (hb c2 hd) rfl ((if0 _ _).trans hc) q) k
theorem own_icmpY (X : own_At G p l e R s0 s EL P m args below meth c Z n0 own nm bytes maxL ret T h cells slots) {pc pc' : Nat} {Ls : Array Slot} {st : List Value} {o : Int} {cd : ClassFile.Cond} {x y : Int32} (hd : decode bytes pc = .ok (.if_icmp cd o, 3)) (hc : if_icmp.holds cd x y = true) (ho : 0 ≤ (pc : Int) + o) (hp : ((pc : Int) + o).toNat = pc') (k : G T (mkF m pc' Ls st)) : G T (mkF m pc Ls (.int y :: .int x :: st)) := by
  obtain ⟨hG, ⟨c1, c2, -⟩, L, X, -⟩ := X
  exact hG _ _ _ _ (fun t q => XS.icmpYes X.here c1 rfl rfl (hb c2 hd) rfl hc ho hp q) k
theorem own_icmpN (X : own_At G p l e R s0 s EL P m args below meth c Z n0 own nm bytes maxL ret T h cells slots) {pc pc' : Nat} {Ls : Array Slot} {st : List Value} {o : Int} {cd : ClassFile.Cond} {x y : Int32} (hd : decode bytes pc = .ok (.if_icmp cd o, 3)) (hp : pc' = pc + 3) (hc : if_icmp.holds cd x y = false) (k : G T (mkF m pc' Ls st)) : G T (mkF m pc Ls (.int y :: .int x :: st)) := by
  obtain ⟨hG, ⟨c1, c2, -⟩, L, X, -⟩ := X
  subst hp
  exact hG _ _ _ _ (fun t q => XS.icmpNo X.here c1 rfl (hb c2 hd) rfl hc q) k
theorem own_ifnullY (X : own_At G p l e R s0 s EL P m args below meth c Z n0 own nm bytes maxL ret T h cells slots) {pc pc' : Nat} {Ls : Array Slot} {st : List Value} {o : Int}  (hd : decode bytes pc = .ok (.ifnull o, 3))  (ho : 0 ≤ (pc : Int) + o) (hp : ((pc : Int) + o).toNat = pc') (k : G T (mkF m pc' Ls st)) : G T (mkF m pc Ls (.null :: st)) := by
  obtain ⟨hG, ⟨c1, c2, -⟩, L, X, -⟩ := X
  exact hG _ _ _ _ (fun t q => XS.ifnullYes X.here c1 rfl rfl (hb c2 hd) rfl ho hp q) k
theorem own_ifnullN (X : own_At G p l e R s0 s EL P m args below meth c Z n0 own nm bytes maxL ret T h cells slots) {pc pc' : Nat} {Ls : Array Slot} {st : List Value} {o : Int} {b : Addr} (hd : decode bytes pc = .ok (.ifnull o, 3)) (hp : pc' = pc + 3)  (k : G T (mkF m pc' Ls st)) : G T (mkF m pc Ls (.ref b :: st)) := by
  obtain ⟨hG, ⟨c1, c2, -⟩, L, X, -⟩ := X
  subst hp
  exact hG _ _ _ _ (fun t q => XS.ifnullNo X.here c1 rfl (hb c2 hd) rfl q) k
theorem own_ifnonnullY (X : own_At G p l e R s0 s EL P m args below meth c Z n0 own nm bytes maxL ret T h cells slots) {pc pc' : Nat} {Ls : Array Slot} {st : List Value} {o : Int} {b : Addr} (hd : decode bytes pc = .ok (.ifnonnull o, 3))  (ho : 0 ≤ (pc : Int) + o) (hp : ((pc : Int) + o).toNat = pc') (k : G T (mkF m pc' Ls st)) : G T (mkF m pc Ls (.ref b :: st)) := by
  obtain ⟨hG, ⟨c1, c2, -⟩, L, X, -⟩ := X
  exact hG _ _ _ _ (fun t q => XS.ifnonnullYes X.here c1 rfl rfl (hb c2 hd) rfl ho hp q) k
theorem own_ifnonnullN (X : own_At G p l e R s0 s EL P m args below meth c Z n0 own nm bytes maxL ret T h cells slots) {pc pc' : Nat} {Ls : Array Slot} {st : List Value} {o : Int}  (hd : decode bytes pc = .ok (.ifnonnull o, 3)) (hp : pc' = pc + 3)  (k : G T (mkF m pc' Ls st)) : G T (mkF m pc Ls (.null :: st)) := by
  obtain ⟨hG, ⟨c1, c2, -⟩, L, X, -⟩ := X
  subst hp
  exact hG _ _ _ _ (fun t q => XS.ifnonnullNo X.here c1 rfl (hb c2 hd) rfl q) k
theorem own_acmp (X : own_At G p l e R s0 s EL P m args below meth c Z n0 own nm bytes maxL ret T h cells slots) {pc pc' : Nat} {Ls : Array Slot} {st : List Value} {o : Int} {cd : ACond} {x y : Value} {same : Bool} (hd : decode bytes pc = .ok (.if_acmp cd o, 3)) (h1 : x.isRef = true) (h2 : y.isRef = true) (hq : decide (x = y) = same) (ho : 0 ≤ (pc : Int) + o) (hp : pc' = if acV cd same = true then ((pc : Int) + o).toNat else pc + 3) (k : G T (mkF m pc' Ls st)) : G T (mkF m pc Ls (y :: x :: st)) := by
  obtain ⟨hG, ⟨c1, c2, -⟩, L, X, -⟩ := X
  exact hG _ _ _ _ (fun t q => Jvm.RoadKit.acmp (g := mkF m pc Ls (y :: x :: st)) X c1 rfl h1 h2 rfl (hb c2 hd) rfl hq ho hp q) k
theorem own_lcY {cd : ClassFile.Cond} {x y : Int64} {P : Prop} [Decidable P] {b : Bool} (h : if_icmp.holds cd (lcmpW x y) 0 = decide P) (q : decide P = b) : if_icmp.holds cd (lcmpW x y) 0 = b := h.trans q
theorem own_lc_eq {x y : Int64} (q : x = y) : if_icmp.holds .eq (lcmpW x y) 0 = true ∧ if_icmp.holds .ne (lcmpW x y) 0 = false := teq ((lw_eq x y).mpr q)
theorem own_lc_ne {x y : Int64} (q : ¬ x = y) : if_icmp.holds .eq (lcmpW x y) 0 = false ∧ if_icmp.holds .ne (lcmpW x y) 0 = true := feq (mt (lw_eq x y).mp q)
theorem own_lc_lt {x y : Int64} (q : x < y) : if_icmp.holds .lt (lcmpW x y) 0 = true ∧ if_icmp.holds .ge (lcmpW x y) 0 = false := by have := tlt ((lw_lt x y).mpr q); exact ⟨this.1, this.2.1⟩
theorem own_lc_nlt {x y : Int64} (q : ¬ x < y) : if_icmp.holds .lt (lcmpW x y) 0 = false ∧ if_icmp.holds .ge (lcmpW x y) 0 = true := by have := flt (mt (lw_lt x y).mp q); exact ⟨this.1, this.2.1⟩
theorem own_lc_gt {x y : Int64} (q : y < x) : if_icmp.holds .gt (lcmpW x y) 0 = true ∧ if_icmp.holds .le (lcmpW x y) 0 = false := by have := tlt ((lw_gt x y).mpr q); exact ⟨this.2.2.1, this.2.2.2⟩
theorem own_lc_ngt {x y : Int64} (q : ¬ y < x) : if_icmp.holds .gt (lcmpW x y) 0 = false ∧ if_icmp.holds .le (lcmpW x y) 0 = true := by have := flt (mt (lw_gt x y).mp q); exact ⟨this.2.2.1, this.2.2.2⟩
theorem own_ldc2 (X : own_At G p l e R s0 s EL P m args below meth c Z n0 own nm bytes maxL ret T h cells slots) {pc pc' : Nat} {Ls : Array Slot} {st : List Value} {i : Nat} {v : Int64} (w : (Cond.constantLong own i v).before a0 Z = true) (hd : decode bytes pc = .ok (.ldc2_w i, 3)) (hp : pc' = pc + 3) (k : G T (mkF m pc' Ls (.long v :: st))) : G T (mkF m pc Ls st) := by
  obtain ⟨hG, ⟨c1, c2, hZ, hown, -⟩, L, X, -⟩ := X
  subst hp
  exact hG _ _ _ _ (X.ldc2Long c1 hown (mvT hZ w) (g := mkF m pc Ls st) rfl (hb c2 hd)) k
theorem own_ldcI (X : own_At G p l e R s0 s EL P m args below meth c Z n0 own nm bytes maxL ret T h cells slots) {pc pc' : Nat} {Ls : Array Slot} {st : List Value} {i : Nat} {v : Int32} (w : (Cond.constant own i v).before a0 Z = true) (hd : decode bytes pc = .ok (.ldc i, 2)) (hp : pc' = pc + 2) (k : G T (mkF m pc' Ls (.int v :: st))) : G T (mkF m pc Ls st) := by
  obtain ⟨hG, ⟨c1, c2, hZ, hown, -⟩, L, X, -⟩ := X
  subst hp
  exact hG _ _ _ _ (X.ldcInt c1 hown (mvT hZ w) (g := mkF m pc Ls st) rfl (hb c2 hd)) k
theorem own_ldcwI (X : own_At G p l e R s0 s EL P m args below meth c Z n0 own nm bytes maxL ret T h cells slots) {pc pc' : Nat} {Ls : Array Slot} {st : List Value} {i : Nat} {v : Int32} (w : (Cond.constant own i v).before a0 Z = true) (hd : decode bytes pc = .ok (.ldc_w i, 3)) (hp : pc' = pc + 3) (k : G T (mkF m pc' Ls (.int v :: st))) : G T (mkF m pc Ls st) := by
  obtain ⟨hG, ⟨c1, c2, hZ, hown, -⟩, L, X, -⟩ := X
  subst hp
  exact hG _ _ _ _ (X.ldcwInt c1 hown (mvT hZ w) (g := mkF m pc Ls st) rfl (hb c2 hd)) k
theorem own_ldcS (X : own_At G p l e R s0 s EL P m args below meth c Z n0 own nm bytes maxL ret T h cells slots) {pc pc' : Nat} {Ls : Array Slot} {st : List Value} {i : Nat} {text : String} {a : Addr} (w : (Cond.stringRef own i text).before a0 Z = true) (F : Lit Z own i a) (hd : decode bytes pc = .ok (.ldc i, 2)) (hp : pc' = pc + 2) (k : G T (mkF m pc' Ls (.ref a :: st))) : G T (mkF m pc Ls st) := by
  obtain ⟨hG, ⟨c1, c2, hZ, hown, -⟩, L, X, -⟩ := X
  subst hp
  exact hG _ _ _ _ (ldcR X c1 hZ hown w F (g := mkF m pc Ls st) rfl (hb c2 hd)) k
theorem own_get (X : own_At G p l e R s0 s EL P m args below meth c Z n0 own nm bytes maxL ret T h cells slots) {pc pc' : Nat} {Ls : Array Slot} {st : List Value} {i : Nat} {R0 O n d host : String} {a : Addr} {v : Value} (w : (Cond.fieldLink own i R0 n d).before a0 Z = true ∨ (Cond.fieldLinkNest own i R0 n d host).before a0 Z = true) (via : Via Z R0 O n d) (F : Fld Z h a O n d v) (hd : decode bytes pc = .ok (.getfield i, 3)) (hp : pc' = pc + 3)
    (k : ∀ T', own_At G p l e R s0 s EL P m args below meth c Z n0 own nm bytes maxL ret T' h cells slots → G T' (mkF m pc' Ls (v :: st))) : G T (mkF m pc Ls (.ref a :: st)) := by
  obtain ⟨hG, ⟨c1, c2, hZ, hown, c5⟩, L, X, N, eT, O⟩ := X
  subst hp
  obtain ⟨T', X', e', st'⟩ := getF X c1 hZ hown w via eT F (g := mkF m pc Ls (.ref a :: st)) rfl rfl (hb c2 hd)
  exact hG _ _ _ _ st' (k _ ⟨hG, ⟨c1, c2, hZ, hown, c5⟩, L, X', N, e', O⟩)
theorem own_getS (X : own_At G p l e R s0 s EL P m args below meth c Z n0 own nm bytes maxL ret T h cells slots) {pc pc' : Nat} {Ls : Array Slot} {st : List Value} {i : Nat} {R0 O n d : String} {v : Value} (w : (Cond.fieldLink own i R0 n d).before a0 Z = true) (via : Via Z R0 O n d) (F : Sta Z h O n d v) (hd : decode bytes pc = .ok (.getstatic i, 3)) (hp : pc' = pc + 3)
    (k : ∀ T', own_At G p l e R s0 s EL P m args below meth c Z n0 own nm bytes maxL ret T' h cells slots → G T' (mkF m pc' Ls (v :: st))) : G T (mkF m pc Ls st) := by
  obtain ⟨hG, ⟨c1, c2, hZ, hown, c5⟩, L, X, N, eT, O⟩ := X
  subst hp
  obtain ⟨T', X', e', st'⟩ := getS (host := "") X c1 hZ hown w via eT F (g := mkF m pc Ls st) rfl (hb c2 hd)
  exact hG _ _ _ _ st' (k _ ⟨hG, ⟨c1, c2, hZ, hown, c5⟩, L, X', N, e', O⟩)
theorem own_put (X : own_At G p l e R s0 s EL P m args below meth c Z n0 own nm bytes maxL ret T h cells slots) {pc pc' : Nat} {Ls : Array Slot} {st : List Value} {i kk : Nat} {R0 O n d host C : String} {a : Addr} {v old : Value} {ty : FieldType} (w : (Cond.fieldLink own i R0 n d).before a0 Z = true ∨ (Cond.fieldLinkNest own i R0 n d host).before a0 Z = true) (via : Via Z R0 O n d) (F : Fld Z h a O n d old) (E : Exa Z h a C)
    (hL : (Cond.lays C O n d).before a0 Z = true ∨ ((Cond.laysFinal C O n d).before a0 Z = true ∧ own = O ∧ nm = "<init>")) (wi : (Cond.instantiable C kk).before a0 Z = true) (hty : parseFieldDescriptor d = some ty) (hn : narrow ty v = v) (hf : fits ty v = true) (ha : n0 ≤ a) (hsf : (C ≠ "java/lang/String" ∧ C ≠ "[B") ∨ a ∈ P) (hd : decode bytes pc = .ok (.putfield i, 3)) (hp : pc' = pc + 3)
    (k : ∀ T' h', own_At G p l e R s0 s EL P m args below meth c Z n0 own nm bytes maxL ret T' h' cells slots → Wr h h' a (Jvm.RoadKit.slotOf Z O n d) v → Keep h h' [a] → G T' (mkF m pc' Ls st)) : G T (mkF m pc Ls (v :: .ref a :: st)) := by
  obtain ⟨hG, ⟨c1, c2, hZ, hown, c5, c6, c7⟩, L, X, N, eT, O⟩ := X
  subst hp
  obtain ⟨T', h', X', e', W', st'⟩ := putF X c1 hZ hown w via eT F E (hL.imp id fun q => ⟨q.1, q.2.1, c6.trans q.2.2⟩) wi hty hn hf (g := mkF m pc Ls (v :: .ref a :: st)) rfl rfl (hb c2 hd)
  exact hG _ _ _ _ st' (k _ _ ⟨hG, ⟨c1, c2, hZ, hown, c5, c6, c7⟩, _, X', Fr.snoc X' N ha, e', O.wr W' ha (hsf.elim (fun q => Safe.exa hZ.alike E q.1 q.2) (fun q => (O.2.2.2.2 a q).1))⟩ W' (Keep.of_wr W'))
theorem own_new (X : own_At G p l e R s0 s EL P m args below meth c Z n0 own nm bytes maxL ret T h cells slots) {pc pc' cells' slots' : Nat} {Ls : Array Slot} {st : List Value} {i n : Nat} {C : String} (w : (Cond.classLink own i C).before a0 Z = true) (wi : (Cond.instantiable C n).before a0 Z = true) (wz : (Cond.initialized C).before a0 Z = true) (hd : decode bytes pc = .ok (.new i, 3)) (hp : pc' = pc + 3) (ec : cells' = cells + 1) (es : slots' = slots + n) (hc : cells' ≤ R.cells) (hl : slots' ≤ R.slots)
    (k : ∀ T' h' a, a = h.size → own_At G p l e R s0 s EL P m args below meth c Z n0 own nm bytes maxL ret T' h' cells' slots' → Keep h h' [] → Exa Z h' a C → (∀ {O nm d : String} {ty : FieldType}, Laid Z a0 C O nm d → parseFieldDescriptor d = some ty → Fld Z h' a O nm d (defaultValue ty)) → (∃ cell : Cell, h'[a]? = some cell ∧ cell.vm = .none ∧ cell.monitor = {}) → G T' (mkF m pc' Ls (.ref a :: st))) : G T (mkF m pc Ls st) := by
  obtain ⟨hG, ⟨c1, c2, hZ, hown, c5⟩, L, X, N, eT, O⟩ := X
  subst hp ec es
  obtain ⟨T', h', X', e', E', A', D', U', st'⟩ := newO X c1 hZ hown w wi wz eT (g := mkF m pc Ls st) rfl (hb c2 hd) hc hl
  exact hG _ _ _ _ st' (k _ _ _ rfl ⟨hG, ⟨c1, c2, hZ, hown, c5⟩, _, X', N, e', O.ext E'⟩ ((Keep.refl _ _).ext E') A' D' U')
theorem own_newK (X : own_At G p l e R s0 s EL P m args below meth c Z n0 own nm bytes maxL ret T h cells slots) {pc pc' cells' slots' : Nat} {Ls : Array Slot} {st : List Value} {i n : Nat} {C : String} (w : (Cond.classLink own i C).before a0 Z = true) (wi : (Cond.instantiable C n).before a0 Z = true) (wz : (Cond.initialized C).before a0 Z = true) (hd : decode bytes pc = .ok (.new i, 3)) (hp : pc' = pc + 3) (ec : cells' = cells + 1) (es : slots' = slots + n) (hc : cells' ≤ R.cells) (hl : slots' ≤ R.slots)
    (k : ∀ T' h' a, a = h.size → own_At G p l e R s0 s EL (a :: P) m args below meth c Z n0 own nm bytes maxL ret T' h' cells' slots' → Keep h h' [] → Exa Z h' a C → (∀ {O nm d : String} {ty : FieldType}, Laid Z a0 C O nm d → parseFieldDescriptor d = some ty → Fld Z h' a O nm d (defaultValue ty)) → (∃ cell : Cell, h'[a]? = some cell ∧ cell.vm = .none ∧ cell.monitor = {}) → G T' (mkF m pc' Ls (.ref a :: st))) : G T (mkF m pc Ls st) := by
  obtain ⟨hG, ⟨c1, c2, hZ, hown, c5⟩, L, X, N, eT, O⟩ := X
  subst hp ec es
  obtain ⟨T', h', X', e', E', A', D', U', st'⟩ := newO X c1 hZ hown w wi wz eT (g := mkF m pc Ls st) rfl (hb c2 hd) hc hl
  exact hG _ _ _ _ st' (k _ _ _ rfl ⟨hG, ⟨c1, c2, hZ, hown, c5⟩, _, X', N, e', O.made E' (Nat.le_refl _) A'.lt⟩ ((Keep.refl _ _).ext E') A' D' U')
theorem own_initO (X : own_At G p l e R s0 s EL P m args below meth c Z n0 own nm bytes maxL ret T h cells slots) {pc pc' : Nat} {Ls : Array Slot} {st : List Value} {i : Nat} {a : Addr} {W : Nat} (w1 : (Cond.methodLink own i Lib.objectInit).before a0 Z = true) (w2 : (Cond.instanceMethod Lib.objectInit).before a0 Z = true) (w3 : (Cond.code Lib.objectInit ⟨#[0xb1]⟩ 1 none).before a0 Z = true) (hsz : Ls.size = maxL) (hd : decode bytes pc = .ok (.invokespecial i, 3)) (hp : pc' = pc + 3)
    (hf : 1 ≤ R.frames) (hW : (st.map fun v => v.category).sum = W) (hl : W + 12 ≤ R.locals) (k : ∀ T', own_At G p l e R s0 s EL P m args below meth c Z n0 own nm bytes maxL ret T' h cells slots → G T' (mkF m pc' Ls st)) : G T (mkF m pc Ls (.ref a :: st)) := by
  obtain ⟨hG, ⟨c1, c2, hZ, hown, c5, c6⟩, L, X, N, eT, O⟩ := X
  subst hp
  obtain ⟨T', X', e', st'⟩ := initO X c1 hZ hown w1 w2 w3 eT (g := mkF m pc Ls (.ref a :: st)) rfl (hsz.trans c5.symm) rfl (hb c2 hd) hf (W := W) (by show 2 * 0 + _ ≤ _; rw [hW]; omega) hl
  exact hG _ _ _ _ st' (k _ ⟨hG, ⟨c1, c2, hZ, hown, c5, c6⟩, L, X', N, e', O⟩)
def own_Arr (Z : State) (h : Heap) (a : Addr) (k : ClassId) (ty : FieldType) (vs : List Value) : Prop := ∃ c : Cell, Arr Z h a c ty ∧ c.cls = k ∧ c.slots.toList = vs ∧ vs.length < 2 ^ 31 ∧ ∀ v ∈ vs, fits ty v = true
theorem own_Arr.lt {a : Addr} {k : ClassId} {ty : FieldType} {vs : List Value} (F : own_Arr Z h a k ty vs) : a < h.size := by obtain ⟨c, A, -⟩ := F; exact A.lt
theorem own_Arr.keep {h' : Heap} {a : Addr} {k : ClassId} {ty : FieldType} {vs : List Value} {ws : List Addr} (F : own_Arr Z h a k ty vs) (K : Keep h h' ws) (q : a ∉ ws) : own_Arr Z h' a k ty vs := by
  obtain ⟨c, A, r⟩ := F; exact ⟨c, ⟨K.2.1 a c A.1 q, A.2⟩, r⟩
theorem own_Arr.arv {a : Addr} {k : ClassId} {ty : FieldType} {vs : List Value} {d : Value} {N : Int32} (F : own_Arr Z h a k ty vs) (hN : N = Int32.ofNat vs.length) : Arv Z h a k ty N vs d := by
  obtain ⟨c, A, r1, r2, r3, r4⟩ := F
  have q : N.toInt = vs.length := by rw [hN]; exact len_toInt r3
  have hs : c.slots.size = vs.length := by rw [← r2]; simp
  refine ⟨c, A, r1, by rw [hs]; simp only [Int32.toNatClampNeg, q]; omega, by rw [Int32.lt_iff_toInt_lt, q]; simp, fun i hi => ?_, fun i hi => ?_⟩
  · rw [← Array.getElem?_toList, r2, List.getElem?_eq_getElem (by omega)]; simp [List.getD, List.getElem?_eq_getElem (show i < vs.length by omega)]
  · have hi' : i < vs.length := by omega
    simp only [List.getD, List.getElem?_eq_getElem hi', Option.getD_some]; exact r4 _ (List.getElem_mem hi')
theorem own_Arr.of_arv {a : Addr} {k : ClassId} {ty : FieldType} {vs : List Value} {d : Value} {N : Int32} (F : Arv Z h a k ty N vs d) (hN : N.toNatClampNeg = vs.length) : own_Arr Z h a k ty vs := by
  obtain ⟨c, A, r1, r2, r3, r4, r5⟩ := F
  have hs : c.slots.size = vs.length := by omega
  have e : c.slots.toList = vs := by
    apply List.ext_getElem?
    intro i
    by_cases hi : i < vs.length
    · rw [Array.getElem?_toList, r4 i (by omega)]; simp [List.getD, List.getElem?_eq_getElem hi]
    · rw [List.getElem?_eq_none (by simpa using (by omega : c.slots.size ≤ i)), List.getElem?_eq_none (by omega)]
  refine ⟨c, A, r1, e, by rw [← hN]; exact (back32 r3).2, fun v hv => ?_⟩
  obtain ⟨i, hi, rfl⟩ := List.getElem_of_mem hv
  have := r5 i (by omega)
  simpa [List.getD, List.getElem?_eq_getElem hi] using this
theorem own_idx {n i : Nat} (hi : i < n) (hn : n < 2 ^ 31) {j : Int32} (hj : j.toInt = i) : ¬ (j < 0 ∨ n ≤ j.toNatClampNeg) ∧ j.toNatClampNeg = i := by
  have e : j.toNatClampNeg = i := by simp only [Int32.toNatClampNeg, hj]; omega
  refine ⟨?_, e⟩
  rw [e, Int32.lt_iff_toInt_lt, hj]; simp; omega
theorem own_ld {a : Addr} {k : ClassId} {ty : FieldType} {vs : List Value} {j : Int32} {i : Nat} {v : Value} (F : own_Arr Z h a k ty vs) (hj : j.toInt = i) (hv : vs[i]? = some v) : ∃ c : Cell, Arr Z h a c ty ∧ ¬ (j < 0 ∨ c.slots.size ≤ j.toNatClampNeg) ∧ c.slots[j.toNatClampNeg]? = some v := by
  obtain ⟨c, A, r1, r2, r3, r4⟩ := F
  have hi : i < vs.length := (List.getElem?_eq_some_iff.mp hv).1
  have hs : c.slots.size = vs.length := by rw [← r2]; simp
  obtain ⟨q1, q2⟩ := own_idx hi r3 hj
  exact ⟨c, A, by rw [hs]; exact q1, by rw [q2, ← Array.getElem?_toList, r2]; exact hv⟩
theorem own_iaload (X : own_At G p l e R s0 s EL P m args below meth c Z n0 own nm bytes maxL ret T h cells slots) {pc pc' : Nat} {Ls : Array Slot} {st : List Value} {a : Addr} {kc : ClassId} {vs : List Value} {j : Int32} {i : Nat} {v : Value} (F : own_Arr Z h a kc .int vs) (hj : j.toInt = i) (hv : vs[i]? = some v) (hd : decode bytes pc = .ok (.iaload, 1)) (hp : pc' = pc + 1) (k : G T (mkF m pc' Ls (v :: st))) : G T (mkF m pc Ls (.int j :: .ref a :: st)) := by
  obtain ⟨hG, ⟨c1, c2, hZ, -⟩, L, X, N, eT, O⟩ := X
  subst hp
  obtain ⟨cl, A, q1, q2⟩ := own_ld F hj hv
  exact hG _ _ _ _ (fun t q => X.iaload c1 (by rw [eT]; exact A.1) (State.isArrayOf_alike hZ.alike A.2.1) A.2.2 q1 q2 (g := mkF m pc Ls (.int j :: .ref a :: st)) rfl rfl (hb c2 hd) _ q) k
theorem own_laload (X : own_At G p l e R s0 s EL P m args below meth c Z n0 own nm bytes maxL ret T h cells slots) {pc pc' : Nat} {Ls : Array Slot} {st : List Value} {a : Addr} {kc : ClassId} {vs : List Value} {j : Int32} {i : Nat} {v : Value} (F : own_Arr Z h a kc .long vs) (hj : j.toInt = i) (hv : vs[i]? = some v) (hd : decode bytes pc = .ok (.laload, 1)) (hp : pc' = pc + 1) (k : G T (mkF m pc' Ls (v :: st))) : G T (mkF m pc Ls (.int j :: .ref a :: st)) := by
  obtain ⟨hG, ⟨c1, c2, hZ, -⟩, L, X, N, eT, O⟩ := X
  subst hp
  obtain ⟨cl, A, q1, q2⟩ := own_ld F hj hv
  exact hG _ _ _ _ (fun t q => X.laload c1 (by rw [eT]; exact A.1) (State.isArrayOf_alike hZ.alike A.2.1) A.2.2 q1 q2 (g := mkF m pc Ls (.int j :: .ref a :: st)) rfl rfl (hb c2 hd) _ q) k
theorem own_caload (X : own_At G p l e R s0 s EL P m args below meth c Z n0 own nm bytes maxL ret T h cells slots) {pc pc' : Nat} {Ls : Array Slot} {st : List Value} {a : Addr} {kc : ClassId} {vs : List Value} {j : Int32} {i : Nat} {v : Value} (F : own_Arr Z h a kc .char vs) (hj : j.toInt = i) (hv : vs[i]? = some v) (hd : decode bytes pc = .ok (.caload, 1)) (hp : pc' = pc + 1) (k : G T (mkF m pc' Ls (v :: st))) : G T (mkF m pc Ls (.int j :: .ref a :: st)) := by
  obtain ⟨hG, ⟨c1, c2, hZ, -⟩, L, X, N, eT, O⟩ := X
  subst hp
  obtain ⟨cl, A, q1, q2⟩ := own_ld F hj hv
  exact hG _ _ _ _ (fun t q => X.caload c1 (by rw [eT]; exact A.1) (State.isArrayOf_alike hZ.alike A.2.1) A.2.2 q1 q2 (g := mkF m pc Ls (.int j :: .ref a :: st)) rfl rfl (hb c2 hd) _ q) k
theorem own_baload (X : own_At G p l e R s0 s EL P m args below meth c Z n0 own nm bytes maxL ret T h cells slots) {pc pc' : Nat} {Ls : Array Slot} {st : List Value} {a : Addr} {kc : ClassId} {vs : List Value} {j : Int32} {i : Nat} {v : Value} (F : own_Arr Z h a kc .byte vs) (hj : j.toInt = i) (hv : vs[i]? = some v) (hd : decode bytes pc = .ok (.baload, 1)) (hp : pc' = pc + 1) (k : G T (mkF m pc' Ls (v :: st))) : G T (mkF m pc Ls (.int j :: .ref a :: st)) := by
  obtain ⟨hG, ⟨c1, c2, hZ, -⟩, L, X, N, eT, O⟩ := X
  subst hp
  obtain ⟨cl, A, q1, q2⟩ := own_ld F hj hv
  exact hG _ _ _ _ (fun t q => X.baloadBytes c1 (by rw [eT]; exact A.1) (State.isArrayOf_alike hZ.alike A.2.1) A.2.2 q1 q2 (g := mkF m pc Ls (.int j :: .ref a :: st)) rfl rfl (hb c2 hd) _ q) k
theorem own_aaload (X : own_At G p l e R s0 s EL P m args below meth c Z n0 own nm bytes maxL ret T h cells slots) {pc pc' : Nat} {Ls : Array Slot} {st : List Value} {ty : FieldType} {a : Addr} {kc : ClassId} {vs : List Value} {j : Int32} {i : Nat} {v : Value} (F : own_Arr Z h a kc ty vs) (hty : ty.isReference = true) (hj : j.toInt = i) (hv : vs[i]? = some v) (hd : decode bytes pc = .ok (.aaload, 1)) (hp : pc' = pc + 1) (k : G T (mkF m pc' Ls (v :: st))) : G T (mkF m pc Ls (.int j :: .ref a :: st)) := by
  obtain ⟨hG, ⟨c1, c2, hZ, -⟩, L, X, N, eT, O⟩ := X
  subst hp
  obtain ⟨cl, A, q1, q2⟩ := own_ld F hj hv
  exact hG _ _ _ _ (fun t q => X.aaload c1 (by rw [eT]; exact A.1) (State.isArrayOf_alike hZ.alike A.2.1) hty A.2.2 q1 q2 (g := mkF m pc Ls (.int j :: .ref a :: st)) rfl rfl (hb c2 hd) _ q) k
theorem own_arraylength (X : own_At G p l e R s0 s EL P m args below meth c Z n0 own nm bytes maxL ret T h cells slots) {pc pc' : Nat} {Ls : Array Slot} {st : List Value} {ty : FieldType} {a : Addr} {kc : ClassId} {vs : List Value} {z : Int32} (F : own_Arr Z h a kc ty vs) (hz : Int32.ofNat vs.length = z) (hd : decode bytes pc = .ok (.arraylength, 1)) (hp : pc' = pc + 1) (k : G T (mkF m pc' Ls (.int z :: st))) : G T (mkF m pc Ls (.ref a :: st)) := by
  obtain ⟨hG, ⟨c1, c2, hZ, -⟩, L, X, N, eT, O⟩ := X
  subst hp
  obtain ⟨cl, A, r1, r2, r3, r4⟩ := F
  have hs : cl.slots.size = vs.length := by rw [← r2]; simp
  exact hG _ _ _ _ (fun t q => X.arraylength c1 (by rw [eT]; exact A.1) (State.isArrayOf_alike hZ.alike A.2.1) (g := mkF m pc Ls (.ref a :: st)) rfl rfl (hb c2 hd) _ (by rw [hs, show vs.length.toInt32 = z from hz]; exact q)) k
theorem own_Arr.set {h' : Heap} {a : Addr} {k : ClassId} {ty : FieldType} {vs : List Value} {i : Nat} {v : Value} (F : own_Arr Z h a k ty vs) (W : Wr h h' a i v) (hv : fits ty v = true) : own_Arr Z h' a k ty (vs.set i v) := by
  obtain ⟨c, A, r1, r2, r3, r4⟩ := F
  refine ⟨_, A.same W, r1, ?_, by simpa using r3, fun x hx => ?_⟩
  · simp [Cell.setSlot, r2]
  · rcases List.mem_or_eq_of_mem_set hx with q | q
    · exact r4 _ q
    · rw [q]; exact hv
theorem own_newA (cA : ClassId) (ty : FieldType) (n : Int32) : (newA cA ty n).slots.toList = List.replicate n.toNatClampNeg (defaultValue ty) := by simp [newA]
theorem own_defit (aty : ArrayType) : fits (newarray.typeOf aty) (defaultValue (newarray.typeOf aty)) = true := by cases aty <;> rfl
theorem own_newarray (X : own_At G p l e R s0 s EL P m args below meth c Z n0 own nm bytes maxL ret T h cells slots) {pc pc' cells' slots' : Nat} {Ls : Array Slot} {st : List Value} {aty : ArrayType} {ty : FieldType} {z : Int32} {n : Nat} {dv : Value} (w : (Cond.arrayClass ty).before a0 Z = true) (ht : newarray.typeOf aty = ty) (hdv : defaultValue ty = dv) (hz : z.toInt = n) (hn : n ≤ 60000000) (hd : decode bytes pc = .ok (.newarray aty, 2)) (hp : pc' = pc + 2) (ec : cells' = cells + 1) {cap : Nat} (hcap : n ≤ cap) (hbig : cap ≤ 60000000) (es : slots' = slots + cap) (hc : cells' ≤ R.cells) (hl : slots' ≤ R.slots)
    (k : ∀ T' h' a kc, a = h.size → own_At G p l e R s0 s EL P m args below meth c Z n0 own nm bytes maxL ret T' h' cells' slots' → Keep h h' [] → own_Arr Z h' a kc ty (List.replicate n dv) → G T' (mkF m pc' Ls (.ref a :: st))) : G T (mkF m pc Ls (.int z :: st)) := by
  obtain ⟨hG, ⟨c1, c2, hZ, c5⟩, L, X, N, eT, O⟩ := X
  subst hp ec es ht hdv
  have hz0 : ¬ z < 0 := by rw [Int32.lt_iff_toInt_lt, hz]; simp
  have hzn : z.toNatClampNeg = n := by simp only [Int32.toNatClampNeg, hz]; omega
  obtain ⟨T', h', cA, X', e', E', A', st'⟩ := newP X c1 hZ w eT (g := mkF m pc Ls (.int z :: st)) rfl (hb c2 hd) rfl hz0 (cap := cap) (by omega) (by omega) hc hl
  refine hG _ _ _ _ st' (k _ _ _ cA rfl ⟨hG, ⟨c1, c2, hZ, c5⟩, _, X', N, e', O.ext E'⟩ ((Keep.refl _ _).ext E') ⟨_, A', rfl, by rw [own_newA, hzn], by simp; omega, fun v hv => ?_⟩)
  rw [List.eq_of_mem_replicate hv]; exact own_defit aty
theorem own_newarrayK (X : own_At G p l e R s0 s EL P m args below meth c Z n0 own nm bytes maxL ret T h cells slots) {pc pc' cells' slots' : Nat} {Ls : Array Slot} {st : List Value} {aty : ArrayType} {ty : FieldType} {z : Int32} {n : Nat} {dv : Value} (w : (Cond.arrayClass ty).before a0 Z = true) (ht : newarray.typeOf aty = ty) (hdv : defaultValue ty = dv) (hz : z.toInt = n) (hn : n ≤ 60000000) (hd : decode bytes pc = .ok (.newarray aty, 2)) (hp : pc' = pc + 2) (ec : cells' = cells + 1) {cap : Nat} (hcap : n ≤ cap) (hbig : cap ≤ 60000000) (es : slots' = slots + cap) (hc : cells' ≤ R.cells) (hl : slots' ≤ R.slots)
    (k : ∀ T' h' a kc, a = h.size → own_At G p l e R s0 s EL (a :: P) m args below meth c Z n0 own nm bytes maxL ret T' h' cells' slots' → Keep h h' [] → own_Arr Z h' a kc ty (List.replicate n dv) → G T' (mkF m pc' Ls (.ref a :: st))) : G T (mkF m pc Ls (.int z :: st)) := by
  obtain ⟨hG, ⟨c1, c2, hZ, c5⟩, L, X, N, eT, O⟩ := X
  subst hp ec es ht hdv
  have hz0 : ¬ z < 0 := by rw [Int32.lt_iff_toInt_lt, hz]; simp
  have hzn : z.toNatClampNeg = n := by simp only [Int32.toNatClampNeg, hz]; omega
  obtain ⟨T', h', cA, X', e', E', A', st'⟩ := newP X c1 hZ w eT (g := mkF m pc Ls (.int z :: st)) rfl (hb c2 hd) rfl hz0 (cap := cap) (by omega) (by omega) hc hl
  refine hG _ _ _ _ st' (k _ _ _ cA rfl ⟨hG, ⟨c1, c2, hZ, c5⟩, _, X', N, e', O.made E' (Nat.le_refl _) A'.lt⟩ ((Keep.refl _ _).ext E') ⟨_, A', rfl, by rw [own_newA, hzn], by simp; omega, fun v hv => ?_⟩)
  rw [List.eq_of_mem_replicate hv]; exact own_defit aty
theorem own_iastore (X : own_At G p l e R s0 s EL P m args below meth c Z n0 own nm bytes maxL ret T h cells slots) {pc pc' : Nat} {Ls : Array Slot} {st : List Value} {a : Addr} {kc : ClassId} {vs : List Value} {j : Int32} {i : Nat} {x : Int32} (F : own_Arr Z h a kc .int vs) (hj : j.toInt = i) (hi : i < vs.length) (ha : n0 ≤ a) (hd : decode bytes pc = .ok (.iastore, 1)) (hp : pc' = pc + 1)
    (k : ∀ T' h', own_At G p l e R s0 s EL P m args below meth c Z n0 own nm bytes maxL ret T' h' cells slots → Keep h h' [a] → own_Arr Z h' a kc .int (vs.set i (.int x)) → G T' (mkF m pc' Ls st)) : G T (mkF m pc Ls (.int x :: .int j :: .ref a :: st)) := by
  obtain ⟨hG, ⟨c1, c2, hZ, c5⟩, L, X, N, eT, O⟩ := X
  subst hp 
  have F0 := F
  obtain ⟨cl, A, r1, r2, r3, r4⟩ := F
  have hs : cl.slots.size = vs.length := by rw [← r2]; simp
  obtain ⟨q1, q2⟩ := own_idx hi r3 hj
  obtain ⟨T', h', X', e', W', st'⟩ := stI X c1 hZ eT A (j := j) (by rw [hs]; exact q1) (g := mkF m pc Ls (.int x :: .int j :: .ref a :: st)) rfl rfl (hb c2 hd)
  have K' := Keep.of_wr W'
  have O' := O.wr W' ha (Safe.arr hZ.alike A (by decide))
  rw [q2] at W'
  exact hG _ _ _ _ st' (k _ _ ⟨hG, ⟨c1, c2, hZ, c5⟩, _, X', Fr.snoc X' N ha, e', O'⟩ K' (F0.set W' (rfl)))
theorem own_lastore (X : own_At G p l e R s0 s EL P m args below meth c Z n0 own nm bytes maxL ret T h cells slots) {pc pc' : Nat} {Ls : Array Slot} {st : List Value} {a : Addr} {kc : ClassId} {vs : List Value} {j : Int32} {i : Nat} {x : Int64} (F : own_Arr Z h a kc .long vs) (hj : j.toInt = i) (hi : i < vs.length) (ha : n0 ≤ a) (hd : decode bytes pc = .ok (.lastore, 1)) (hp : pc' = pc + 1)
    (k : ∀ T' h', own_At G p l e R s0 s EL P m args below meth c Z n0 own nm bytes maxL ret T' h' cells slots → Keep h h' [a] → own_Arr Z h' a kc .long (vs.set i (.long x)) → G T' (mkF m pc' Ls st)) : G T (mkF m pc Ls (.long x :: .int j :: .ref a :: st)) := by
  obtain ⟨hG, ⟨c1, c2, hZ, c5⟩, L, X, N, eT, O⟩ := X
  subst hp 
  have F0 := F
  obtain ⟨cl, A, r1, r2, r3, r4⟩ := F
  have hs : cl.slots.size = vs.length := by rw [← r2]; simp
  obtain ⟨q1, q2⟩ := own_idx hi r3 hj
  obtain ⟨T', h', X', e', W', st'⟩ := stJ X c1 hZ eT A (j := j) (by rw [hs]; exact q1) (g := mkF m pc Ls (.long x :: .int j :: .ref a :: st)) rfl rfl (hb c2 hd)
  have K' := Keep.of_wr W'
  have O' := O.wr W' ha (Safe.arr hZ.alike A (by decide))
  rw [q2] at W'
  exact hG _ _ _ _ st' (k _ _ ⟨hG, ⟨c1, c2, hZ, c5⟩, _, X', Fr.snoc X' N ha, e', O'⟩ K' (F0.set W' (rfl)))
theorem own_castore (X : own_At G p l e R s0 s EL P m args below meth c Z n0 own nm bytes maxL ret T h cells slots) {pc pc' : Nat} {Ls : Array Slot} {st : List Value} {a : Addr} {kc : ClassId} {vs : List Value} {j : Int32} {i : Nat} {x y : Int32} (F : own_Arr Z h a kc .char vs) (hj : j.toInt = i) (hi : i < vs.length) (hy : nar .char x = y) (ha : n0 ≤ a) (hd : decode bytes pc = .ok (.castore, 1)) (hp : pc' = pc + 1)
    (k : ∀ T' h', own_At G p l e R s0 s EL P m args below meth c Z n0 own nm bytes maxL ret T' h' cells slots → Keep h h' [a] → own_Arr Z h' a kc .char (vs.set i (.int y)) → G T' (mkF m pc' Ls st)) : G T (mkF m pc Ls (.int x :: .int j :: .ref a :: st)) := by
  obtain ⟨hG, ⟨c1, c2, hZ, c5⟩, L, X, N, eT, O⟩ := X
  subst hp hy
  have F0 := F
  obtain ⟨cl, A, r1, r2, r3, r4⟩ := F
  have hs : cl.slots.size = vs.length := by rw [← r2]; simp
  obtain ⟨q1, q2⟩ := own_idx hi r3 hj
  obtain ⟨T', h', X', e', W', st'⟩ := stC X c1 hZ eT A (j := j) (by rw [hs]; exact q1) (g := mkF m pc Ls (.int x :: .int j :: .ref a :: st)) rfl rfl (hb c2 hd)
  have K' := Keep.of_wr W'
  have O' := O.wr W' ha (Safe.arr hZ.alike A (by decide))
  rw [q2] at W'
  exact hG _ _ _ _ st' (k _ _ ⟨hG, ⟨c1, c2, hZ, c5⟩, _, X', Fr.snoc X' N ha, e', O'⟩ K' (F0.set W' (fits_nar_char _)))
theorem own_bastore (X : own_At G p l e R s0 s EL P m args below meth c Z n0 own nm bytes maxL ret T h cells slots) {pc pc' : Nat} {Ls : Array Slot} {st : List Value} {a : Addr} {kc : ClassId} {vs : List Value} {j : Int32} {i : Nat} {x y : Int32} (F : own_Arr Z h a kc .byte vs) (hj : j.toInt = i) (hi : i < vs.length) (hy : nar .byte x = y) (ha : n0 ≤ a) (hsf : a ∈ P) (hd : decode bytes pc = .ok (.bastore, 1)) (hp : pc' = pc + 1)
    (k : ∀ T' h', own_At G p l e R s0 s EL P m args below meth c Z n0 own nm bytes maxL ret T' h' cells slots → Keep h h' [a] → own_Arr Z h' a kc .byte (vs.set i (.int y)) → G T' (mkF m pc' Ls st)) : G T (mkF m pc Ls (.int x :: .int j :: .ref a :: st)) := by
  obtain ⟨hG, ⟨c1, c2, hZ, c5⟩, L, X, N, eT, O⟩ := X
  subst hp hy
  have F0 := F
  obtain ⟨cl, A, r1, r2, r3, r4⟩ := F
  have hs : cl.slots.size = vs.length := by rw [← r2]; simp
  obtain ⟨q1, q2⟩ := own_idx hi r3 hj
  obtain ⟨T', h', X', e', W', st'⟩ := stB X c1 hZ eT A (j := j) (by rw [hs]; exact q1) (g := mkF m pc Ls (.int x :: .int j :: .ref a :: st)) rfl rfl (hb c2 hd)
  have K' := Keep.of_wr W'
  have O' := O.wr W' ha (O.2.2.2.2 a hsf).1
  rw [q2] at W'
  exact hG _ _ _ _ st' (k _ _ ⟨hG, ⟨c1, c2, hZ, c5⟩, _, X', Fr.snoc X' N ha, e', O'⟩ K' (F0.set W' (fits_nar_byte _)))
theorem own_callS (X : own_At G p l e R s0 s EL P m args below meth c Z n0 own nm bytes maxL ret T h cells slots) {pc pc' cells' slots' : Nat} {Ls : Array Slot} {st argsL rest : List Value} {i kc ks W : Nat} {as' : Array Value} {QQ : Option Value → Heap → List Loc → Prop} {Q : Option Value → Heap → Prop} {y : MethodName} {bytes' : ByteArray} {maxL' : Nat} {ret' : Option FieldType} (w1 : (Cond.methodLink own i y).before a0 Z = true) (w2 : (Cond.static y).before a0 Z = true) (w3 : (Cond.initialized y.cls).before a0 Z = true) (w4 : (Cond.code y bytes' maxL' ret').before a0 Z = true) (hy : y.cls ≠ "java/lang/invoke/MethodHandle" ∧ y.cls ≠ "java/lang/invoke/VarHandle") (B : ∀ (hZ : Z.Warmed39 s.vm), Back l R p e below s args y 3 W (fun A a => a = as' ∧ A.U.heap = h ∧ A.cells + kc ≤ R.cells ∧ A.slots + ks ≤ R.slots) (fun A _ v B => ∃ L, QQ v B.U.heap L ∧ B.locs = A.locs ++ L ∧ B.cells = A.cells + kc ∧ B.slots = A.slots + ks)) (hQ : ∀ v h' L, QQ v h' L → Q v h' ∧ Fr n0 L ∧ ∃ ws, Keep h h' ws ∧ ∀ x ∈ ws, n0 ≤ x ∧ x ∈ P) (hsz : Ls.size = maxL) (hlen : ∀ sig, parseMethodDescriptor y.desc = some sig → argsL.length = sig.parameters.length) (hs : st = argsL.reverse ++ rest) (hW : (rest.map fun v => v.category).sum = W) (hd : decode bytes pc = .ok (.invokestatic i, 3)) (hp : pc' = pc + 3) (ha : argsL.toArray = as') (ec : cells' = cells + kc) (es : slots' = slots + ks) (hc : cells' ≤ R.cells) (hl : slots' ≤ R.slots)
    (k : ∀ v T' h', own_At G p l e R s0 s EL P m args below meth c Z n0 own nm bytes maxL ret T' h' cells' slots' → Q v h' → G T' (mkF m pc' Ls (v.toList ++ rest))) : G T (mkF m pc Ls st) := by
  obtain ⟨hG, ⟨c1, c2, hZ, hown, c5, c6⟩, L, X, N, eT, O⟩ := X
  subst hp ec es ha hs
  obtain ⟨v, vm₁, ⟨T', L', k', n'⟩, -, X', ⟨Lc, hq, l', y', z'⟩, st'⟩ := Jvm.LawKit.callS X c1 hown (mvT hZ w1) (mvT hZ w2) (mvT hZ w3) (mvT hZ w4) hy (B hZ) (g := mkF m pc Ls (argsL.reverse ++ rest)) rfl (hsz.trans c5.symm) hlen rfl (by show 2 * 0 + _ ≤ _; rw [hW]; omega) (hb c2 hd) (fun _ _ => ⟨rfl, eT, hc, hl⟩)
  dsimp only [Pt.U, Pt.locs, Pt.cells, Pt.slots] at X' l' y' z' st' hq
  subst l' y' z'
  obtain ⟨q1, q2, ws, q3, q4⟩ := hQ _ _ _ hq
  exact hG _ _ _ _ st' (k _ _ _ ⟨hG, ⟨c1, c2, hZ, hown, c5, c6⟩, _, X', Fr.app N q2, rfl, O.keepS q3 (fun x hx => (q4 x hx).1) (fun x hx => (O.2.2.2.2 x (q4 x hx).2).1)⟩ q1)
theorem own_callI (X : own_At G p l e R s0 s EL P m args below meth c Z n0 own nm bytes maxL ret T h cells slots) {pc pc' cells' slots' : Nat} {Ls : Array Slot} {st argsL rest : List Value} {i kc ks W : Nat} {as' : Array Value} {QQ : Option Value → Heap → List Loc → Prop} {Q : Option Value → Heap → Prop} {y : MethodName} {bytes' : ByteArray} {maxL' : Nat} {a : Addr} (w1 : (Cond.methodLink own i y).before a0 Z = true) (w2 : (Cond.instanceMethod y).before a0 Z = true) (w4 : (Cond.code y bytes' maxL' none).before a0 Z = true) (hy0 : y.name = "<init>") (hy : y.cls ≠ "java/lang/invoke/MethodHandle" ∧ y.cls ≠ "java/lang/invoke/VarHandle") (B : ∀ (hZ : Z.Warmed39 s.vm), Back l R p e below s args y 3 W (fun A a => a = as' ∧ A.U.heap = h ∧ A.cells + kc ≤ R.cells ∧ A.slots + ks ≤ R.slots) (fun A _ v B => ∃ L, QQ v B.U.heap L ∧ B.locs = A.locs ++ L ∧ B.cells = A.cells + kc ∧ B.slots = A.slots + ks)) (hQ : ∀ v h' L, QQ v h' L → Q v h' ∧ Fr n0 L ∧ ∃ ws, Keep h h' ws ∧ ∀ x ∈ ws, n0 ≤ x ∧ x ∈ P) (hsz : Ls.size = maxL) (hlen : ∀ sig, parseMethodDescriptor y.desc = some sig → argsL.length = sig.parameters.length) (hs : st = argsL.reverse ++ Value.ref a :: rest) (hW : (rest.map fun v => v.category).sum = W) (hd : decode bytes pc = .ok (.invokespecial i, 3)) (hp : pc' = pc + 3) (ha : (Value.ref a :: argsL).toArray = as') (ec : cells' = cells + kc) (es : slots' = slots + ks) (hc : cells' ≤ R.cells) (hl : slots' ≤ R.slots)
    (k : ∀ v T' h', own_At G p l e R s0 s EL P m args below meth c Z n0 own nm bytes maxL ret T' h' cells' slots' → Q v h' → G T' (mkF m pc' Ls (v.toList ++ rest))) : G T (mkF m pc Ls st) := by
  obtain ⟨hG, ⟨c1, c2, hZ, hown, c5, c6⟩, L, X, N, eT, O⟩ := X
  subst hp ec es ha hs
  obtain ⟨v, vm₁, ⟨T', L', k', n'⟩, -, X', ⟨Lc, hq, l', y', z'⟩, st'⟩ := Jvm.LawKit.callI X c1 hown hy0 (mvT hZ w1) (mvT hZ w2) (mvT hZ w4) hy (B hZ) (g := mkF m pc Ls (argsL.reverse ++ Value.ref a :: rest)) rfl (hsz.trans c5.symm) hlen rfl (by show 2 * 0 + _ ≤ _; rw [hW]; omega) (hb c2 hd) (fun _ _ => ⟨rfl, eT, hc, hl⟩)
  dsimp only [Pt.U, Pt.locs, Pt.cells, Pt.slots] at X' l' y' z' st' hq
  subst l' y' z'
  obtain ⟨q1, q2, ws, q3, q4⟩ := hQ _ _ _ hq
  exact hG _ _ _ _ st' (k _ _ _ ⟨hG, ⟨c1, c2, hZ, hown, c5, c6⟩, _, X', Fr.app N q2, rfl, O.keepS q3 (fun x hx => (q4 x hx).1) (fun x hx => (O.2.2.2.2 x (q4 x hx).2).1)⟩ q1)
theorem own_callV (X : own_At G p l e R s0 s EL P m args below meth c Z n0 own nm bytes maxL ret T h cells slots) {pc pc' cells' slots' : Nat} {Ls : Array Slot} {st argsL rest : List Value} {i kc ks W : Nat} {as' : Array Value} {QQ : Option Value → Heap → List Loc → Prop} {Q : Option Value → Heap → Prop} {y z : MethodName} {C : String} {a : Addr} (w1 : (Cond.methodLink own i y).before a0 Z = true) (w2 : (Cond.declares y).before a0 Z = true) (nf : ∀ s' : State, Z.Warmed39 s'.vm → NotFace s' y) (w3 : (Cond.selects C y z).before a0 Z = true) (w4 : (Cond.instanceMethod z).before a0 Z = true) (hy : y.cls ≠ "java/lang/invoke/MethodHandle" ∧ y.cls ≠ "java/lang/invoke/VarHandle") (E : Exa Z h a C) (B : ∀ (hZ : Z.Warmed39 s.vm), Back l R p e below s args z 3 W (fun A a => a = as' ∧ A.U.heap = h ∧ A.cells + kc ≤ R.cells ∧ A.slots + ks ≤ R.slots) (fun A _ v B => ∃ L, QQ v B.U.heap L ∧ B.locs = A.locs ++ L ∧ B.cells = A.cells + kc ∧ B.slots = A.slots + ks)) (hQ : ∀ v h' L, QQ v h' L → Q v h' ∧ Fr n0 L ∧ ∃ ws, Keep h h' ws ∧ ∀ x ∈ ws, n0 ≤ x ∧ x ∈ P) (hsz : Ls.size = maxL) (hlen : ∀ sig, parseMethodDescriptor y.desc = some sig → argsL.length = sig.parameters.length) (hs : st = argsL.reverse ++ Value.ref a :: rest) (hW : (rest.map fun v => v.category).sum = W) (hd : decode bytes pc = .ok (.invokevirtual i, 3)) (hp : pc' = pc + 3) (ha : (Value.ref a :: argsL).toArray = as') (ec : cells' = cells + kc) (es : slots' = slots + ks) (hc : cells' ≤ R.cells) (hl : slots' ≤ R.slots)
    (k : ∀ v T' h', own_At G p l e R s0 s EL P m args below meth c Z n0 own nm bytes maxL ret T' h' cells' slots' → Q v h' → G T' (mkF m pc' Ls (v.toList ++ rest))) : G T (mkF m pc Ls st) := by
  obtain ⟨hG, ⟨c1, c2, hZ, hown, c5, c6⟩, L, X, N, eT, O⟩ := X
  subst hp ec es ha hs
  obtain ⟨v, vm₁, ⟨T', L', k', n'⟩, -, X', ⟨Lc, hq, l', y', z'⟩, st'⟩ := (have ⟨_, _, q1, _, q3⟩ := isOf hZ eT E; X.virtualBack c1 hown (mvT hZ w1) (mvT hZ w2) (nf s hZ) (mvT hZ w3) (mvT hZ w4) hy (B hZ) q1 q3 (g := mkF m pc Ls (argsL.reverse ++ Value.ref a :: rest)) rfl (hsz.trans c5.symm) (Steps.refl _) hlen rfl (by show 2 * 0 + _ ≤ _; rw [hW]; omega) (hb c2 hd) (fun _ _ => ⟨rfl, eT, hc, hl⟩))
  dsimp only [Pt.U, Pt.locs, Pt.cells, Pt.slots] at X' l' y' z' st' hq
  subst l' y' z'
  obtain ⟨q1, q2, ws, q3, q4⟩ := hQ _ _ _ hq
  exact hG _ _ _ _ (fun t q => st'.trans q) (k _ _ _ ⟨hG, ⟨c1, c2, hZ, hown, c5, c6⟩, _, X', Fr.app N q2, rfl, O.keepS q3 (fun x hx => (q4 x hx).1) (fun x hx => (O.2.2.2.2 x (q4 x hx).2).1)⟩ q1)
theorem own_callF (X : own_At G p l e R s0 s EL P m args below meth c Z n0 own nm bytes maxL ret T h cells slots) {pc pc' cells' slots' : Nat} {Ls : Array Slot} {st argsL rest : List Value} {i kc ks W : Nat} {as' : Array Value} {QQ : Option Value → Heap → List Loc → Prop} {Q : Option Value → Heap → Prop} {y z : MethodName} {C : String} {a : Addr} {cnt : Nat} (w1 : (Cond.methodLink own i y).before a0 Z = true) (w2 : (Cond.declares y).before a0 Z = true) (wf : ∀ (s' : State) (a' : Array Value), Z.Warmed39 s'.vm → (Cond.interfaceMethod y.cls y.cls y.name y.desc).before a' s' = true) (w3 : (Cond.selects C y z).before a0 Z = true) (w4 : (Cond.instanceMethod z).before a0 Z = true) (w5 : (Cond.publicMethod z).before a0 Z = true) (w6 : (Cond.unhidden C y.name y.desc).before a0 Z = true) (w7 : (Cond.castable C y.cls).before a0 Z = true) (hy : y.cls ≠ "java/lang/invoke/MethodHandle" ∧ y.cls ≠ "java/lang/invoke/VarHandle") (E : Exa Z h a C) (B : ∀ (hZ : Z.Warmed39 s.vm), Back l R p e below s args z 5 W (fun A a => a = as' ∧ A.U.heap = h ∧ A.cells + kc ≤ R.cells ∧ A.slots + ks ≤ R.slots) (fun A _ v B => ∃ L, QQ v B.U.heap L ∧ B.locs = A.locs ++ L ∧ B.cells = A.cells + kc ∧ B.slots = A.slots + ks)) (hQ : ∀ v h' L, QQ v h' L → Q v h' ∧ Fr n0 L ∧ ∃ ws, Keep h h' ws ∧ ∀ x ∈ ws, n0 ≤ x ∧ x ∈ P) (hsz : Ls.size = maxL) (hlen : ∀ sig, parseMethodDescriptor y.desc = some sig → argsL.length = sig.parameters.length) (hs : st = argsL.reverse ++ Value.ref a :: rest) (hW : (rest.map fun v => v.category).sum = W) (hd : decode bytes pc = .ok (.invokeinterface i cnt, 5)) (hp : pc' = pc + 5) (ha : (Value.ref a :: argsL).toArray = as') (ec : cells' = cells + kc) (es : slots' = slots + ks) (hc : cells' ≤ R.cells) (hl : slots' ≤ R.slots)
    (k : ∀ v T' h', own_At G p l e R s0 s EL P m args below meth c Z n0 own nm bytes maxL ret T' h' cells' slots' → Q v h' → G T' (mkF m pc' Ls (v.toList ++ rest))) : G T (mkF m pc Ls st) := by
  obtain ⟨hG, ⟨c1, c2, hZ, hown, c5, c6⟩, L, X, N, eT, O⟩ := X
  subst hp ec es ha hs
  obtain ⟨v, vm₁, ⟨T', L', k', n'⟩, -, X', ⟨Lc, hq, l', y', z'⟩, st'⟩ := (have ⟨_, _, q1, q2, q3⟩ := isOf hZ eT E; X.interfaceBack c1 hown (mvT hZ w1) (mvT hZ w2) (wf s args hZ) (mvT hZ w3) (mvT hZ w4) (mvT hZ w5) (mvT hZ w6) (mvT hZ w7) hy (B hZ) q1 q2 q3 (g := mkF m pc Ls (argsL.reverse ++ Value.ref a :: rest)) rfl (hsz.trans c5.symm) (Steps.refl _) hlen rfl (by show 2 * 0 + _ ≤ _; rw [hW]; omega) (hb c2 hd) (fun _ _ => ⟨rfl, eT, hc, hl⟩))
  dsimp only [Pt.U, Pt.locs, Pt.cells, Pt.slots] at X' l' y' z' st' hq
  subst l' y' z'
  obtain ⟨q1, q2, ws, q3, q4⟩ := hQ _ _ _ hq
  exact hG _ _ _ _ (fun t q => st'.trans q) (k _ _ _ ⟨hG, ⟨c1, c2, hZ, hown, c5, c6⟩, _, X', Fr.app N q2, rfl, O.keepS q3 (fun x hx => (q4 x hx).1) (fun x hx => (O.2.2.2.2 x (q4 x hx).2).1)⟩ q1)
theorem own_back {y : MethodName} {bytes' : ByteArray} {maxL' : Nat} {ret' : Option FieldType} {rm : Room} {as' : Array Value} {Q : Option Value → Heap → Prop} {P' : List Addr} {len W : Nat} (hM : own_Met l Z EL P' ro n0 y bytes' maxL' ret' rm as' h Q) (hZ : Z.Warmed39 s.vm) (O : own_Ok s0 s EL P Z n0 h) (hP : ∀ x ∈ P', x ∈ P) (wc : (Jvm.Cond.code y bytes' maxL' ret').before a0 Z = true) (wz : (Jvm.Cond.initialized y.cls).before a0 Z = true) (hf : rm.frames + 1 ≤ R.frames) (hl : W + (maxL' + 11) + rm.locals ≤ R.locals) :
    BackS l R p e below s args y len W (fun A a => a = as' ∧ A.U.heap = h ∧ A.cells + rm.cells ≤ R.cells ∧ A.slots + rm.slots ≤ R.slots)
      (fun A _ v B => ∃ L, (Q v B.U.heap ∧ Fr n0 L ∧ Old Z n0 B.U.heap) ∧ B.locs = A.locs ++ L ∧ B.cells = A.cells + rm.cells ∧ B.slots = A.slots + rm.slots ∧ CHr Z EL s.vm h B.U.vm B.U.heap ∧ own_Rs Z EL ro v B.U) := by
  obtain ⟨-, -, ⟨a1, hE⟩, H, hS⟩ := O
  have at' : ∀ {m : MethodId} {meth : Method} {c : Code} {T : State} {locs : List Loc} {k n : Nat}, Stand p l e R s m args below meth c T locs k n → CHr Z EL s.vm h T.vm h := fun Y => by
    have q := CHv.later (h' := h) hZ (hW := (show (Wst Z s.vm h).Warmed39 _ from Y.warmed.wide)) hE ⟨Nat.le_refl _, fun _ _ q => q⟩ (Or.inl Y.warmed.interned_eq) H.1
    exact ⟨q.1, Nat.le_refl _, q.2⟩
  exact BackS.of_freeW (bytes := bytes') (maxL := maxL') (ret := ret') (E := fun _ first o t L k n => k = rm.cells ∧ n = rm.slots ∧ (∃ v, o = .returned v ∧ (Q v t.heap ∧ Fr n0 L ∧ Old Z n0 t.heap) ∧ own_Rs Z EL ro v t) ∧ CHr Z EL first.vm first.heap t.vm t.heap) (hM []) hf hl
    (fun m meth c A a Y hp => have hU : Z.Warmed39 A.U.vm := wtrans hZ Y.warmed
      ⟨by show (Cond.and _ .tt).before a A.U = true; rw [Cond.before_and, mv hU wc]; rfl, mv hU wc, mv hU wz, hp.2.2.1, hp.2.2.2⟩)
    (fun m meth c A a g mk Y hp => ⟨hp.1, wtrans hZ Y.warmed, hp.2.1, (at' Y).1, fun x hx => ⟨(at' Y).safe (hS x (hP x hx)).2 (hS x (hP x hx)).1, (hS x (hP x hx)).2⟩⟩) (fun _ _ _ _ _ _ _ _ _ => trivial)
    (fun _ _ _ _ ⟨v, L, h1, h2, h3, h4, h5⟩ => ⟨L, _, _, h5, rfl, rfl, ⟨v, h1, h2, h4⟩, h3⟩)
    (fun m meth c A a g mk v t L k n Y hp _ _ ⟨e1, e2, ⟨v', e3, e4, e6⟩, e5⟩ => by
      cases e3; subst e1 e2
      refine ⟨L, e4, rfl, rfl, rfl, (at' Y).trans ?_, e6⟩
      rw [← hp.2.1]; exact e5)
theorem own_Ok.called {U : State} (O : own_Ok s0 s EL P Z n0 h) (hS : s.Since U.vm U.heap.size) (g : h.size ≤ U.heap.size) (O' : Old Z n0 U.heap) (A : CHr Z EL s.vm h U.vm U.heap) : own_Ok s0 (s.setVm U.vm) EL P Z n0 U.heap := by
  obtain ⟨-, ⟨e1, k0, e2, e3⟩, e4, e5, e6⟩ := O
  refine ⟨O', ⟨by rw [e1]; rfl, _, e2.trans (vm₂ := U.vm) (by rw [← e1]; exact hS) (Nat.le_trans e3 g), Nat.le_refl _⟩, e4, e5.trans A, fun x hx => ⟨A.safe (e6 x hx).2 (e6 x hx).1, Nat.lt_of_lt_of_le (e6 x hx).2 g⟩⟩

theorem own_callSM (X : own_At G p l e R s0 s EL P m args below meth c Z n0 own nm bytes maxL ret T h cells slots) {pc pc' cells' slots' : Nat} {Ls : Array Slot} {st argsL rest : List Value} {i W : Nat} {as' : Array Value} {Q : Option Value → Heap → Prop} {rm : Room} {P' : List Addr} {y : MethodName} {bytes' : ByteArray} {maxL' : Nat} {ret' : Option FieldType} (w1 : (Cond.methodLink own i y).before a0 Z = true) (w2 : (Cond.static y).before a0 Z = true) (hy : y.cls ≠ "java/lang/invoke/MethodHandle" ∧ y.cls ≠ "java/lang/invoke/VarHandle") (M : own_Met l Z EL P' ro n0 y bytes' maxL' ret' rm as' h Q) (hPP : ∀ x ∈ P', x ∈ P) (wc : (Jvm.Cond.code y bytes' maxL' ret').before a0 Z = true) (wz : (Jvm.Cond.initialized y.cls).before a0 Z = true) (hf : rm.frames + 1 ≤ R.frames) (hlo : W + (maxL' + 11) + rm.locals ≤ R.locals) (hsz : Ls.size = maxL) (hlen : ∀ sig, parseMethodDescriptor y.desc = some sig → argsL.length = sig.parameters.length) (hs : st = argsL.reverse ++ rest) (hW : (rest.map fun v => v.category).sum = W) (hd : decode bytes pc = .ok (.invokestatic i, 3)) (hp : pc' = pc + 3) (ha : argsL.toArray = as') (ec : cells' = cells + rm.cells) (es : slots' = slots + rm.slots) (hc : cells' ≤ R.cells) (hl : slots' ≤ R.slots)
    (k : ∀ v T' h' s', own_At G p l e R s0 s' EL P m args below meth c Z n0 own nm bytes maxL ret T' h' cells' slots' → Q v h' → (ro = true → ∀ b, v = some (.ref b) → Safe Z EL s'.vm h' b ∧ b < h'.size) → G T' (mkF m pc' Ls (v.toList ++ rest))) : G T (mkF m pc Ls st) := by
  obtain ⟨hG, ⟨c1, c2, hZ, hown, c5, c6⟩, L, X, N, eT, O⟩ := X
  subst hp ec es ha hs
  obtain ⟨v, vm₁, ⟨T', L', k', n'⟩, -, X', hS, hg, ⟨Lc, hq, l', y', z', hA, hRs⟩, st'⟩ := callSS X c1 hown (mvT hZ w1) (mvT hZ w2) (mvT hZ wz) (mvT hZ wc) hy (own_back M hZ O hPP wc wz hf hlo) (g := mkF m pc Ls (argsL.reverse ++ rest)) rfl (hsz.trans c5.symm) hlen rfl (by show 2 * 0 + _ ≤ _; rw [hW]; omega) (hb c2 hd) (fun _ _ => ⟨rfl, eT, hc, hl⟩)
  dsimp only [Pt.U, Pt.locs, Pt.cells, Pt.slots] at X' l' y' z' st' hq hS hg hA hRs
  subst l' y' z'
  obtain ⟨q1, q2, q3⟩ := hq
  rw [eT] at hg
  exact hG _ _ _ _ (fun t q => st'.trans q) (k _ _ _ (s.setVm T'.vm) ⟨hG, ⟨c1, c2, State.Warmed39.trans (t := s) hZ hS.1, (hS.1.alike.findClass _ _).trans hown, c5, c6⟩, _, X', Fr.app N q2, rfl, O.called hS hg q3 hA⟩ q1 hRs)
theorem own_callIM (X : own_At G p l e R s0 s EL P m args below meth c Z n0 own nm bytes maxL ret T h cells slots) {pc pc' cells' slots' : Nat} {Ls : Array Slot} {st argsL rest : List Value} {i W : Nat} {as' : Array Value} {Q : Option Value → Heap → Prop} {rm : Room} {P' : List Addr} {y : MethodName} {bytes' : ByteArray} {maxL' : Nat} {a : Addr} (w1 : (Cond.methodLink own i y).before a0 Z = true) (w2 : (Cond.instanceMethod y).before a0 Z = true) (hy0 : y.name = "<init>") (hy : y.cls ≠ "java/lang/invoke/MethodHandle" ∧ y.cls ≠ "java/lang/invoke/VarHandle") (M : own_Met l Z EL P' ro n0 y bytes' maxL' none rm as' h Q) (hPP : ∀ x ∈ P', x ∈ P) (wc : (Jvm.Cond.code y bytes' maxL' none).before a0 Z = true) (wz : (Jvm.Cond.initialized y.cls).before a0 Z = true) (hf : rm.frames + 1 ≤ R.frames) (hlo : W + (maxL' + 11) + rm.locals ≤ R.locals) (hsz : Ls.size = maxL) (hlen : ∀ sig, parseMethodDescriptor y.desc = some sig → argsL.length = sig.parameters.length) (hs : st = argsL.reverse ++ Value.ref a :: rest) (hW : (rest.map fun v => v.category).sum = W) (hd : decode bytes pc = .ok (.invokespecial i, 3)) (hp : pc' = pc + 3) (ha : (Value.ref a :: argsL).toArray = as') (ec : cells' = cells + rm.cells) (es : slots' = slots + rm.slots) (hc : cells' ≤ R.cells) (hl : slots' ≤ R.slots)
    (k : ∀ v T' h' s', own_At G p l e R s0 s' EL P m args below meth c Z n0 own nm bytes maxL ret T' h' cells' slots' → Q v h' → (ro = true → ∀ b, v = some (.ref b) → Safe Z EL s'.vm h' b ∧ b < h'.size) → G T' (mkF m pc' Ls (v.toList ++ rest))) : G T (mkF m pc Ls st) := by
  obtain ⟨hG, ⟨c1, c2, hZ, hown, c5, c6⟩, L, X, N, eT, O⟩ := X
  subst hp ec es ha hs
  obtain ⟨v, vm₁, ⟨T', L', k', n'⟩, -, X', hS, hg, ⟨Lc, hq, l', y', z', hA, hRs⟩, st'⟩ := X.specialBackS c1 hy0 hown (mvT hZ w1) (mvT hZ w2) (mvT hZ wc) hy (own_back M hZ O hPP wc wz hf hlo) (g := mkF m pc Ls (argsL.reverse ++ Value.ref a :: rest)) rfl (hsz.trans c5.symm) (Steps.refl _) hlen rfl (by show 2 * 0 + _ ≤ _; rw [hW]; omega) (hb c2 hd) (fun _ _ => ⟨rfl, eT, hc, hl⟩)
  dsimp only [Pt.U, Pt.locs, Pt.cells, Pt.slots] at X' l' y' z' st' hq hS hg hA hRs
  subst l' y' z'
  obtain ⟨q1, q2, q3⟩ := hq
  rw [eT] at hg
  exact hG _ _ _ _ (fun t q => st'.trans q) (k _ _ _ (s.setVm T'.vm) ⟨hG, ⟨c1, c2, State.Warmed39.trans (t := s) hZ hS.1, (hS.1.alike.findClass _ _).trans hown, c5, c6⟩, _, X', Fr.app N q2, rfl, O.called hS hg q3 hA⟩ q1 hRs)
theorem own_callVM (X : own_At G p l e R s0 s EL P m args below meth c Z n0 own nm bytes maxL ret T h cells slots) {pc pc' cells' slots' : Nat} {Ls : Array Slot} {st argsL rest : List Value} {i W : Nat} {as' : Array Value} {Q : Option Value → Heap → Prop} {rm : Room} {P' : List Addr} {y z : MethodName} {C : String} {a : Addr} {bytes' : ByteArray} {maxL' : Nat} {ret' : Option FieldType} (w1 : (Cond.methodLink own i y).before a0 Z = true) (w2 : (Cond.declares y).before a0 Z = true) (nf : ∀ s' : State, Z.Warmed39 s'.vm → NotFace s' y) (w3 : (Cond.selects C y z).before a0 Z = true) (w4 : (Cond.instanceMethod z).before a0 Z = true) (hy : y.cls ≠ "java/lang/invoke/MethodHandle" ∧ y.cls ≠ "java/lang/invoke/VarHandle") (E : Exa Z h a C) (M : own_Met l Z EL P' ro n0 z bytes' maxL' ret' rm as' h Q) (hPP : ∀ x ∈ P', x ∈ P) (wc : (Jvm.Cond.code z bytes' maxL' ret').before a0 Z = true) (wz : (Jvm.Cond.initialized z.cls).before a0 Z = true) (hf : rm.frames + 1 ≤ R.frames) (hlo : W + (maxL' + 11) + rm.locals ≤ R.locals) (hsz : Ls.size = maxL) (hlen : ∀ sig, parseMethodDescriptor y.desc = some sig → argsL.length = sig.parameters.length) (hs : st = argsL.reverse ++ Value.ref a :: rest) (hW : (rest.map fun v => v.category).sum = W) (hd : decode bytes pc = .ok (.invokevirtual i, 3)) (hp : pc' = pc + 3) (ha : (Value.ref a :: argsL).toArray = as') (ec : cells' = cells + rm.cells) (es : slots' = slots + rm.slots) (hc : cells' ≤ R.cells) (hl : slots' ≤ R.slots)
    (k : ∀ v T' h' s', own_At G p l e R s0 s' EL P m args below meth c Z n0 own nm bytes maxL ret T' h' cells' slots' → Q v h' → (ro = true → ∀ b, v = some (.ref b) → Safe Z EL s'.vm h' b ∧ b < h'.size) → G T' (mkF m pc' Ls (v.toList ++ rest))) : G T (mkF m pc Ls st) := by
  obtain ⟨hG, ⟨c1, c2, hZ, hown, c5, c6⟩, L, X, N, eT, O⟩ := X
  subst hp ec es ha hs
  obtain ⟨v, vm₁, ⟨T', L', k', n'⟩, -, X', hS, hg, ⟨Lc, hq, l', y', z', hA, hRs⟩, st'⟩ := (have ⟨_, _, q1, _, q3⟩ := isOf hZ eT E; X.virtualBackS c1 hown (mvT hZ w1) (mvT hZ w2) (nf s hZ) (mvT hZ w3) (mvT hZ w4) hy (own_back M hZ O hPP wc wz hf hlo) q1 q3 (g := mkF m pc Ls (argsL.reverse ++ Value.ref a :: rest)) rfl (hsz.trans c5.symm) (Steps.refl _) hlen rfl (by show 2 * 0 + _ ≤ _; rw [hW]; omega) (hb c2 hd) (fun _ _ => ⟨rfl, eT, hc, hl⟩))
  dsimp only [Pt.U, Pt.locs, Pt.cells, Pt.slots] at X' l' y' z' st' hq hS hg hA hRs
  subst l' y' z'
  obtain ⟨q1, q2, q3⟩ := hq
  rw [eT] at hg
  exact hG _ _ _ _ (fun t q => st'.trans q) (k _ _ _ (s.setVm T'.vm) ⟨hG, ⟨c1, c2, State.Warmed39.trans (t := s) hZ hS.1, (hS.1.alike.findClass _ _).trans hown, c5, c6⟩, _, X', Fr.app N q2, rfl, O.called hS hg q3 hA⟩ q1 hRs)
theorem own_callFM (X : own_At G p l e R s0 s EL P m args below meth c Z n0 own nm bytes maxL ret T h cells slots) {pc pc' cells' slots' : Nat} {Ls : Array Slot} {st argsL rest : List Value} {i W : Nat} {as' : Array Value} {Q : Option Value → Heap → Prop} {rm : Room} {P' : List Addr} {y z : MethodName} {C : String} {a : Addr} {cnt : Nat} {bytes' : ByteArray} {maxL' : Nat} {ret' : Option FieldType} (w1 : (Cond.methodLink own i y).before a0 Z = true) (w2 : (Cond.declares y).before a0 Z = true) (wf : ∀ (s' : State) (a' : Array Value), Z.Warmed39 s'.vm → (Cond.interfaceMethod y.cls y.cls y.name y.desc).before a' s' = true) (w3 : (Cond.selects C y z).before a0 Z = true) (w4 : (Cond.instanceMethod z).before a0 Z = true) (w5 : (Cond.publicMethod z).before a0 Z = true) (w6 : (Cond.unhidden C y.name y.desc).before a0 Z = true) (w7 : (Cond.castable C y.cls).before a0 Z = true) (hy : y.cls ≠ "java/lang/invoke/MethodHandle" ∧ y.cls ≠ "java/lang/invoke/VarHandle") (E : Exa Z h a C) (M : own_Met l Z EL P' ro n0 z bytes' maxL' ret' rm as' h Q) (hPP : ∀ x ∈ P', x ∈ P) (wc : (Jvm.Cond.code z bytes' maxL' ret').before a0 Z = true) (wz : (Jvm.Cond.initialized z.cls).before a0 Z = true) (hf : rm.frames + 1 ≤ R.frames) (hlo : W + (maxL' + 11) + rm.locals ≤ R.locals) (hsz : Ls.size = maxL) (hlen : ∀ sig, parseMethodDescriptor y.desc = some sig → argsL.length = sig.parameters.length) (hs : st = argsL.reverse ++ Value.ref a :: rest) (hW : (rest.map fun v => v.category).sum = W) (hd : decode bytes pc = .ok (.invokeinterface i cnt, 5)) (hp : pc' = pc + 5) (ha : (Value.ref a :: argsL).toArray = as') (ec : cells' = cells + rm.cells) (es : slots' = slots + rm.slots) (hc : cells' ≤ R.cells) (hl : slots' ≤ R.slots)
    (k : ∀ v T' h' s', own_At G p l e R s0 s' EL P m args below meth c Z n0 own nm bytes maxL ret T' h' cells' slots' → Q v h' → (ro = true → ∀ b, v = some (.ref b) → Safe Z EL s'.vm h' b ∧ b < h'.size) → G T' (mkF m pc' Ls (v.toList ++ rest))) : G T (mkF m pc Ls st) := by
  obtain ⟨hG, ⟨c1, c2, hZ, hown, c5, c6⟩, L, X, N, eT, O⟩ := X
  subst hp ec es ha hs
  obtain ⟨v, vm₁, ⟨T', L', k', n'⟩, -, X', hS, hg, ⟨Lc, hq, l', y', z', hA, hRs⟩, st'⟩ := (have ⟨_, _, q1, q2, q3⟩ := isOf hZ eT E; X.interfaceBackS c1 hown (mvT hZ w1) (mvT hZ w2) (wf s args hZ) (mvT hZ w3) (mvT hZ w4) (mvT hZ w5) (mvT hZ w6) (mvT hZ w7) hy (own_back M hZ O hPP wc wz hf hlo) q1 q2 q3 (g := mkF m pc Ls (argsL.reverse ++ Value.ref a :: rest)) rfl (hsz.trans c5.symm) (Steps.refl _) hlen rfl (by show 2 * 0 + _ ≤ _; rw [hW]; omega) (hb c2 hd) (fun _ _ => ⟨rfl, eT, hc, hl⟩))
  dsimp only [Pt.U, Pt.locs, Pt.cells, Pt.slots] at X' l' y' z' st' hq hS hg hA hRs
  subst l' y' z'
  obtain ⟨q1, q2, q3⟩ := hq
  rw [eT] at hg
  exact hG _ _ _ _ (fun t q => st'.trans q) (k _ _ _ (s.setVm T'.vm) ⟨hG, ⟨c1, c2, State.Warmed39.trans (t := s) hZ hS.1, (hS.1.alike.findClass _ _).trans hown, c5, c6⟩, _, X', Fr.app N q2, rfl, O.called hS hg q3 hA⟩ q1 hRs)
theorem own_ldcO (X : own_At G p l e R s0 s EL P m args below meth c Z n0 own nm bytes maxL ret T h cells slots) {pc pc' cells' slots' : Nat} {Ls : Array Slot} {st : List Value} {i n : Nat} {text : String} (w : (Cond.stringLink own i text).before a0 Z = true) (wS : ∀ a ∈ Bundle.stringAtoms, a.before a0 Z = true) (hn : 4 * text.toList.length ≤ n) (hbig : n ≤ 536870912) (hd : decode bytes pc = .ok (.ldc i, 2)) (hp : pc' = pc + 2) (ec : cells' = cells + 2) (es : slots' = slots + (n + 4)) (hc : cells' ≤ R.cells) (hl : slots' ≤ R.slots)
    (k : ∀ T' h' s' a, own_At G p l e R s0 s' EL P m args below meth c Z n0 own nm bytes maxL ret T' h' cells' slots' → Keep h h' [] → G T' (mkF m pc' Ls (.ref a :: st))) : G T (mkF m pc Ls st) := by
  obtain ⟨hG, ⟨c1, c2, hZ, hown, c5⟩, L, X, N, eT, O⟩ := X
  subst hp ec es
  obtain ⟨O1, ⟨e1, k0, e2, e3⟩, ⟨a1, e4⟩, e5, e6⟩ := O
  obtain ⟨a, T', h', k1, X', e', E', hS, hk1, hW, hf, hC, -, st'⟩ := ldcOH (s := s0) (vm0 := s.vm) (a0 := a0) (EL := EL) (e1 ▸ X) c1 hZ hown w wS eT e2 e3 (fun p hp => by obtain ⟨tx, q1, q2⟩ := e4 p hp; exact ⟨tx, Eq.trans rfl q1, q2⟩) e5.1 (g := mkF m pc Ls st) rfl (hb c2 hd) hn hbig hc hl
  exact hG _ _ _ _ st' (k _ _ _ a ⟨hG, ⟨c1, c2, hW, hf, c5⟩, _, X', N, e', O1.ext E', ⟨rfl, k1, hS, hk1⟩, ⟨a1, e4⟩, e5.trans hC, fun x hx => ⟨hC.safe (e6 x hx).2 (e6 x hx).1, Nat.lt_of_lt_of_le (e6 x hx).2 E'.1⟩⟩ ((Keep.refl _ _).ext E'))
theorem own_ldcR (X : own_At G p l e R s0 s EL P m args below meth c Z n0 own nm bytes maxL ret T h cells slots) {pc pc' cells' slots' : Nat} {Ls : Array Slot} {st : List Value} {i n : Nat} {text : String} {vs : List Value} (w : (Cond.stringLink own i text).before a0 Z = true) (wS : ∀ a ∈ Bundle.stringAtoms, a.before a0 Z = true) (hmem : (own, i) ∈ EL) (ht : (∀ c ∈ text.toList, c.toNat < 256) ∧ text.toList.map (fun c => Value.int (Jvm.Lit.byteI c.toNat.toUInt16)) = vs) (hlv : vs.length < 2 ^ 31) (hn : 4 * text.toList.length ≤ n) (hbig : n ≤ 536870912) (hd : decode bytes pc = .ok (.ldc i, 2)) (hp : pc' = pc + 2) (ec : cells' = cells + 2) (es : slots' = slots + (n + 4)) (hc : cells' ≤ R.cells) (hl : slots' ≤ R.slots)
    (k : ∀ T' h' s' a t kb, own_At G p l e R s0 s' EL P m args below meth c Z n0 own nm bytes maxL ret T' h' cells' slots' → Keep h h' [] → Exa Z h' a "java/lang/String" → Fld Z h' a "java/lang/String" "coder" "B" (.int 0) → Fld Z h' a "java/lang/String" "value" "[B" (.ref t) → own_Arr Z h' t kb .byte vs → (∀ x ∈ P, x ≠ a ∧ x ≠ t) → G T' (mkF m pc' Ls (.ref a :: st))) : G T (mkF m pc Ls st) := by
  obtain ⟨hG, ⟨c1, c2, hZ, hown, c5⟩, L, X, N, eT, O⟩ := X
  subst hp ec es
  obtain ⟨O1, ⟨e1, k0, e2, e3⟩, ⟨a1, e4⟩, e5, e6⟩ := O
  have hz := len_toInt hlv
  have hz1 : ¬ Int32.ofNat vs.length < 0 := by rw [Int32.lt_iff_toInt_lt, hz]; simp
  have hz2 : (Int32.ofNat vs.length).toNatClampNeg = vs.length := by simp only [Int32.toNatClampNeg, hz]; omega
  obtain ⟨a, T', h', k1, t, kb, X', e', E', hS, hk1, hW, hf, hx1, hx2, hx3, hx4, hx5, hx6, hC, -, hne, st'⟩ := ldcCH (s := s0) (vm0 := s.vm) (a0 := a0) (EL := EL) (e1 ▸ X) c1 hZ hown w wS eT e2 e3 (fun p hp => by obtain ⟨tx, q1, q2⟩ := e4 p hp; exact ⟨tx, Eq.trans rfl q1, q2⟩) hmem e5.1 ht hz1 hz2 (g := mkF m pc Ls st) rfl (hb c2 hd) hn hbig hc hl
  have hsf : ∀ x ∈ P, Safe Z EL T'.vm h' x := fun x hx => hC.safe (e6 x hx).2 (e6 x hx).1
  exact hG _ _ _ _ st' (k _ _ _ a t kb ⟨hG, ⟨c1, c2, hW, hf, c5⟩, _, X', N, e', O1.ext E', ⟨rfl, k1, hS, hk1⟩, ⟨a1, e4⟩, e5.trans hC, fun x hx => ⟨hsf x hx, Nat.lt_of_lt_of_le (e6 x hx).2 E'.1⟩⟩ ((Keep.refl _ _).ext E') hx1 hx2 hx3 (own_Arr.of_arv hx4 hz2) (fun x hx => hne x (hsf x hx)))

theorem own_callPM (X : own_At G p l e R s0 s EL P m args below meth c Z n0 own nm bytes maxL ret T h cells slots) {pc pc' cells' slots' : Nat} {Ls : Array Slot} {st argsL rest : List Value} {i W : Nat} {as' : Array Value} {Q : Option Value → Heap → Prop} {rm : Room} {P' : List Addr} {y : MethodName} {a : Addr} {C : String} {ki : Nat} {bytes' : ByteArray} {maxL' : Nat} {ret' : Option FieldType} (w1 : (Cond.methodLink own i y).before a0 Z = true) (w2 : (Cond.instanceMethod y).before a0 Z = true) (w3 : (Cond.privateMethod y).before a0 Z = true) (wi : (Cond.instantiable y.cls ki).before a0 Z = true) (hy : y.cls ≠ "java/lang/invoke/MethodHandle" ∧ y.cls ≠ "java/lang/invoke/VarHandle") (E : Exa Z h a C) (M : own_Met l Z EL P' ro n0 y bytes' maxL' ret' rm as' h Q) (hPP : ∀ x ∈ P', x ∈ P) (wc : (Jvm.Cond.code y bytes' maxL' ret').before a0 Z = true) (wz : (Jvm.Cond.initialized y.cls).before a0 Z = true) (hf : rm.frames + 1 ≤ R.frames) (hlo : W + (maxL' + 11) + rm.locals ≤ R.locals) (hsz : Ls.size = maxL) (hlen : ∀ sig, parseMethodDescriptor y.desc = some sig → argsL.length = sig.parameters.length) (hs : st = argsL.reverse ++ Value.ref a :: rest) (hW : (rest.map fun v => v.category).sum = W) (hd : decode bytes pc = .ok (.invokevirtual i, 3)) (hp : pc' = pc + 3) (ha : (Value.ref a :: argsL).toArray = as') (ec : cells' = cells + rm.cells) (es : slots' = slots + rm.slots) (hc : cells' ≤ R.cells) (hl : slots' ≤ R.slots)
    (k : ∀ v T' h' s', own_At G p l e R s0 s' EL P m args below meth c Z n0 own nm bytes maxL ret T' h' cells' slots' → Q v h' → (ro = true → ∀ b, v = some (.ref b) → Safe Z EL s'.vm h' b ∧ b < h'.size) → G T' (mkF m pc' Ls (v.toList ++ rest))) : G T (mkF m pc Ls st) := by
  obtain ⟨hG, ⟨c1, c2, hZ, hown, c5, c6⟩, L, X, N, eT, O⟩ := X
  subst hp ec es ha hs
  obtain ⟨cell, hcell, hobj⟩ := E.cell
  obtain ⟨mk, methM, hnamed, hmethM, hstM, habM⟩ := Cond.instanceMethod_spec (mvT (args := args) hZ w2)
  obtain ⟨methM', cM, hmethM', -, -, -, -, -, -, hsigM⟩ := Cond.code_spec hnamed (mvT (args := args) hZ wc)
  cases hmethM.symm.trans hmethM'
  obtain ⟨ci, kP, hfI, hkP, -, hflag, -⟩ := Cond.instantiable_spec (mvT (args := args) hZ wi)
  cases (findClass_of_methodNamed hnamed).symm.trans hfI
  have hkPi : kP.isInterface = false := by
    cases hq : kP.isInterface with
    | false => rfl
    | true => rw [hq] at hflag; cases hflag
  have hselP : selectMethod e.platform s.vm cell.cls mk = .method mk := selectMethod_private hmethM (Cond.privateMethod_at (mvP (args := args) hZ w3) mk methM hnamed hmethM)
  obtain ⟨vm₁, X₁, hstep₁⟩ := X.invokevirtual c1 hown (mvT hZ w1) hnamed hmethM hstM hkP hkPi hy (a := a) (cell := cell) (by rw [eT]; exact hcell) hobj hselP hmethM habM hkP hkPi (g := mkF m pc Ls (argsL.reverse ++ Value.ref a :: rest)) rfl (argsL := argsL) (rest := rest) (hlen _ hsigM) rfl (hb c2 hd)
  obtain ⟨v, ⟨T', L', k', n'⟩, X', hS, hg, ⟨Lc, hq, l', y', z', hA, hRs⟩, hsteps⟩ := own_back M hZ O hPP wc wz hf hlo m meth c ⟨T.setVm vm₁, L, cells, slots⟩ { mkF m pc Ls (argsL.reverse ++ Value.ref a :: rest) with stack := rest } (.invokevirtual i) mk (.ref a :: argsL).toArray X₁ rfl (hsz.trans c5.symm) (hb c2 hd) (by show 2 * 0 + _ ≤ _; rw [hW]; omega) (X₁.named hnamed) ⟨rfl, eT, hc, hl⟩
  dsimp only [Pt.U, Pt.locs, Pt.cells, Pt.slots] at X' l' y' z' hsteps hq hS hg hA hRs
  subst l' y' z'
  obtain ⟨q1, q2, q3⟩ := hq
  rw [show (T.setVm vm₁).heap = h from eT] at hg
  exact hG _ _ _ _ (fun t q => hstep₁ _ fun acts => by rw [doInvoke_state]; exact hsteps.trans q) (k _ _ _ (s.setVm T'.vm) ⟨hG, ⟨c1, c2, State.Warmed39.trans (t := s) hZ hS.1, (hS.1.alike.findClass _ _).trans hown, c5, c6⟩, _, X', Fr.app N q2, rfl, O.called hS hg q3 hA⟩ q1 hRs)
theorem own_ldcF (X : own_At G p l e R s0 s EL P m args below meth c Z n0 own nm bytes maxL ret T h cells slots) {pc pc' : Nat} {Ls : Array Slot} {st : List Value} {i : Nat} {v : UInt32} (w : (Cond.constantFloat own i v).before a0 Z = true) (hd : decode bytes pc = .ok (.ldc i, 2)) (hp : pc' = pc + 2) (k : G T (mkF m pc' Ls (.float v :: st))) : G T (mkF m pc Ls st) := by
  obtain ⟨hG, ⟨c1, c2, hZ, hown, -⟩, L, X, -⟩ := X
  subst hp
  exact hG _ _ _ _ (X.ldcFloatC c1 hown (mvT hZ w) (g := mkF m pc Ls st) rfl (hb c2 hd)) k
theorem own_oldK (O : Old Z n0 h) : Keep Z.heap h [] := (Keep.refl _ _).ext O.2

theorem own_instY (X : own_At G p l e R s0 s EL P m args below meth c Z n0 own nm bytes maxL ret T h cells slots) {pc pc' : Nat} {Ls : Array Slot} {st : List Value} {i : Nat} {K : String} {a : Addr} (w : (Cond.classLink own i K).before a0 Z = true) (F : Ins Z h a K true) (hd : decode bytes pc = .ok (.instanceof i, 3)) (hp : pc' = pc + 3)
    (k : ∀ T', own_At G p l e R s0 s EL P m args below meth c Z n0 own nm bytes maxL ret T' h cells slots → G T' (mkF m pc' Ls (.int 1 :: st))) : G T (mkF m pc Ls (.ref a :: st)) := by
  obtain ⟨hG, ⟨c1, c2, hZ, hown, c5⟩, L, X, N, eT, O⟩ := X
  subst hp
  obtain ⟨T', X', e', st'⟩ := instY X c1 hZ hown w eT F (g := mkF m pc Ls (.ref a :: st)) rfl rfl (hb c2 hd)
  exact hG _ _ _ _ st' (k _ ⟨hG, ⟨c1, c2, hZ, hown, c5⟩, L, X', N, e', O⟩)
theorem own_castY (X : own_At G p l e R s0 s EL P m args below meth c Z n0 own nm bytes maxL ret T h cells slots) {pc pc' : Nat} {Ls : Array Slot} {st : List Value} {i : Nat} {K : String} {a : Addr} (w : (Cond.classLink own i K).before a0 Z = true) (F : Ins Z h a K true) (hd : decode bytes pc = .ok (.checkcast i, 3)) (hp : pc' = pc + 3)
    (k : ∀ T', own_At G p l e R s0 s EL P m args below meth c Z n0 own nm bytes maxL ret T' h cells slots → G T' (mkF m pc' Ls (.ref a :: st))) : G T (mkF m pc Ls (.ref a :: st)) := by
  obtain ⟨hG, ⟨c1, c2, hZ, hown, c5⟩, L, X, N, eT, O⟩ := X
  subst hp
  obtain ⟨T', X', e', st'⟩ := castY X c1 hZ hown w eT F (g := mkF m pc Ls (.ref a :: st)) rfl rfl (hb c2 hd)
  exact hG _ _ _ _ st' (k _ ⟨hG, ⟨c1, c2, hZ, hown, c5⟩, L, X', N, e', O⟩)
theorem own_instN (X : own_At G p l e R s0 s EL P m args below meth c Z n0 own nm bytes maxL ret T h cells slots) {pc pc' : Nat} {Ls : Array Slot} {st : List Value} {i : Nat} {K C : String} {a : Addr} (w : (Cond.classLink own i K).before a0 Z = true) (E : Exa Z h a C) (F : ∃ c t, Z.vm.findClass C = some c ∧ Z.vm.findClass K = some t ∧ Z.vm.assignable c t = false) (hd : decode bytes pc = .ok (.instanceof i, 3)) (hp : pc' = pc + 3)
    (k : ∀ T', own_At G p l e R s0 s EL P m args below meth c Z n0 own nm bytes maxL ret T' h cells slots → G T' (mkF m pc' Ls (.int 0 :: st))) : G T (mkF m pc Ls (.ref a :: st)) := by
  obtain ⟨hG, ⟨c1, c2, hZ, hown, c5⟩, L, X, N, eT, O⟩ := X
  subst hp
  obtain ⟨T', X', e', st'⟩ := instNo X c1 hZ hown w eT E F (g := mkF m pc Ls (.ref a :: st)) rfl rfl (hb c2 hd)
  exact hG _ _ _ _ st' (k _ ⟨hG, ⟨c1, c2, hZ, hown, c5⟩, L, X', N, e', O⟩)
theorem own_instNull (X : own_At G p l e R s0 s EL P m args below meth c Z n0 own nm bytes maxL ret T h cells slots) {pc pc' : Nat} {Ls : Array Slot} {st : List Value} {i : Nat} (hd : decode bytes pc = .ok (.instanceof i, 3)) (hp : pc' = pc + 3)
    (k : G T (mkF m pc' Ls (.int 0 :: st))) : G T (mkF m pc Ls (.null :: st)) := by
  obtain ⟨hG, ⟨c1, c2, hZ, hown, c5⟩, L, X, N, eT, O⟩ := X
  subst hp
  exact hG _ _ _ _ (X.instanceofNull c1 (g := mkF m pc Ls (.null :: st)) rfl rfl (hb c2 hd)) k
theorem own_castNull (X : own_At G p l e R s0 s EL P m args below meth c Z n0 own nm bytes maxL ret T h cells slots) {pc pc' : Nat} {Ls : Array Slot} {st : List Value} {i : Nat} (hd : decode bytes pc = .ok (.checkcast i, 3)) (hp : pc' = pc + 3)
    (k : G T (mkF m pc' Ls (.null :: st))) : G T (mkF m pc Ls (.null :: st)) := by
  obtain ⟨hG, ⟨c1, c2, hZ, hown, c5⟩, L, X, N, eT, O⟩ := X
  subst hp
  exact hG _ _ _ _ (X.checkcastNull c1 (g := mkF m pc Ls (.null :: st)) rfl rfl (hb c2 hd)) k
/-- an object of C, whose superclass S has none, is no K -/
theorem own_no {C S K : String} {n : Nat} (w : (Cond.superclass C S).before a0 Z = true) (wS : (Cond.noSuperclass S).before a0 Z = true) (wi : (Cond.instantiable K n).before a0 Z = true) (hn : C ≠ K) (hS : S ≠ K) : ∃ c t, Z.vm.findClass C = some c ∧ Z.vm.findClass K = some t ∧ Z.vm.assignable c t = false := by
  obtain ⟨t, k', g0, g2, g5, g7, -⟩ := Cond.instantiable_spec wi
  obtain ⟨c, h0⟩ := found_sup w
  obtain ⟨q, k, kp, h1, h2, h3, h4, h5, -, h7⟩ := Cond.superclass_spec h0 w
  obtain ⟨cS, kS, s1, s2, s3, -, -⟩ := Cond.noSuperclass_spec wS
  cases h1.symm.trans s1
  have ne := ids_ne h0 g0 hn
  have neS := ids_ne s1 g0 hS
  have n3 : ∀ fuel, Z.vm.isSubclassAux fuel c t = false := by
    intro fuel
    cases fuel with
    | zero => rfl
    | succ f =>
      cases f with
      | zero => simp [Vm.isSubclassAux, ne, h2, h4]
      | succ f => simp [Vm.isSubclassAux, ne, neS, h2, h4, s2, s3]
  have g7' : k'.isInterface = false := by
    cases hq : k'.isInterface with
    | false => rfl
    | true => rw [hq] at g7; cases g7
  refine ⟨c, t, h0, g0, ?_⟩
  show Z.vm.assignableAux (255 + 1) c t = false
  simp [Vm.assignableAux, ne, h2, g2, h5, g5, g7', Vm.isSubclass, n3]
end OwnKit

section OwnStr
variable {G : State → JFrame → Prop} {p : Program} {l : Launch} {e : Env} {R : Room} {s : State} {m : MethodId} {args : Array Value} {below : List Frame} {meth : Method} {c : Code} {Z : State} {n0 : Nat} {own nm : String} {bytes : ByteArray} {maxL : Nat} {ret : Option FieldType} {T : State} {h : Heap} {cells slots : Nat} {a0 : Array Value} {s0 : State} {EL : List (String × Nat)} {P : List Addr} {ro : Bool}
theorem own_a0 {P : Int32 → Prop} : ∀ x ∈ ([] : List Int32), P x := fun _ q => nomatch q
theorem own_aS {P : Int32 → Prop} {y : Int32} {L : List Int32} (q : P y) (r : ∀ x ∈ L, P x) : ∀ x ∈ y :: L, P x := fun x z => (List.mem_cons.mp z).elim (fun u => u ▸ q) (r x)
def own_CS (Z : State) : Prop := ∃ z : Int32, Sta Z Z.heap "java/lang/String" "COMPACT_STRINGS" "Z" (.int z) ∧ ¬ z = 0
def own_Str (Z : State) (h : Heap) (x t : Addr) (cs : List Int32) : Prop := Exa Z h x "java/lang/String" ∧ Fld Z h x "java/lang/String" "value" "[B" (.ref t) ∧ ∃ (kb : ClassId) (N2 : Int32) (vs : List Value) (cd : Int32), Fld Z h x "java/lang/String" "coder" "B" (.int cd) ∧ Arv Z h t kb .byte N2 vs (.int 0) ∧ StrChars.Road.CodA cs cd N2 vs ∧ (∀ c ∈ cs, ¬ c < 0 ∧ ¬ (65535 : Int32) < c) ∧ cs.length ≤ 4000
theorem own_Str.lt {x t : Addr} {cs : List Int32} (S : own_Str Z h x t cs) : x < h.size := S.1.lt
theorem own_Str.ltt {x t : Addr} {cs : List Int32} (S : own_Str Z h x t cs) : t < h.size := by obtain ⟨-, -, _, _, _, _, -, A, -⟩ := S; exact A.lt
theorem own_Str.keep {h' : Heap} {x t : Addr} {cs : List Int32} {ws : List Addr} (S : own_Str Z h x t cs) (K : Keep h h' ws) (q1 : x ∉ ws) (q2 : t ∉ ws) : own_Str Z h' x t cs := by
  obtain ⟨s1, s2, kb, N2, vs, cd, s3, s4, s5⟩ := S
  exact ⟨s1.keep K, s2.keep K q1, kb, N2, vs, cd, s3.keep K q1, s4.keep K q2, s5⟩
theorem own_nar255 (x : Int32) : nar .char (own_c16 (x &&& 255)) = x &&& 255 := by
  show (own_c16 (x &&& 255)).toUInt32.toUInt16.toUInt32.toInt32 = _
  unfold own_c16; rw [i2c_mask, i2c_mask]
theorem own_255 (x : Int32) : ¬ (x &&& 255) < 0 ∧ ¬ (255 : Int32) < (x &&& 255) := by
  have q := c_and x 255 (by decide)
  have e : (255 : Int32).toInt = 255 := by decide
  rw [Int32.lt_iff_toInt_lt, Int32.lt_iff_toInt_lt]
  rw [e] at q ⊢
  have e0 : (0 : Int32).toInt = 0 := by decide
  rw [e0]; omega
theorem own_up {cs : List Int32} (h : ∀ c ∈ cs, ¬ c < 0 ∧ ¬ (255 : Int32) < c) : ∀ c ∈ cs, ¬ c < 0 ∧ ¬ (65535 : Int32) < c := by
  intro c hc
  refine ⟨(h c hc).1, fun q => (h c hc).2 ?_⟩
  rw [Int32.lt_iff_toInt_lt] at q ⊢
  have e1 : (65535 : Int32).toInt = 65535 := by decide
  have e2 : (255 : Int32).toInt = 255 := by decide
  omega
theorem own_strinit (X : own_At G p l e R s0 s EL P m args below meth c Z n0 own nm bytes maxL ret T h cells slots) {pc pc' cells' slots' : Nat} {Ls : Array Slot} {rest : List Value} {i W n : Nat} {x b : Addr} {kC : ClassId} {cs : List Int32} {v0 c0 : Value} {bytes' : ByteArray} {maxL' : Nat} (hws : ∀ d ∈ StrChars.Road.words, d.before a0 Z = true) (CS : own_CS Z)
    (w1 : (Cond.methodLink own i ⟨"java/lang/String", "<init>", "([C)V"⟩).before a0 Z = true) (w2 : (Cond.instanceMethod ⟨"java/lang/String", "<init>", "([C)V"⟩).before a0 Z = true) (w4 : (Cond.code ⟨"java/lang/String", "<init>", "([C)V"⟩ bytes' maxL' none).before a0 Z = true) (wi : (Cond.instantiable "java/lang/String" 4).before a0 Z = true)
    (E : Exa Z h x "java/lang/String") (V : Fld Z h x "java/lang/String" "value" "[B" v0) (C : Fld Z h x "java/lang/String" "coder" "B" c0) (K : own_Arr Z h b kC .char (cs.map Value.int)) (hx : n0 ≤ x) (hxP : x ∈ P) (hn : cs.length = n) (l0 : 0 < n) (l2 : n ≤ 4000) (hp : ∀ c ∈ cs, ¬ c < 0 ∧ ¬ (255 : Int32) < c) (hfr : 4 ≤ R.frames) (hlo : W + 65 ≤ R.locals)
    (hlen : ∀ sig, parseMethodDescriptor "([C)V" = some sig → 1 = sig.parameters.length) (hsz : Ls.size = maxL) (hW : (rest.map fun v => v.category).sum = W) (hd : decode bytes pc = .ok (.invokespecial i, 3)) (hpc : pc' = pc + 3) (ec : cells' = cells + 1) (es : slots' = slots + n) (hc : cells' ≤ R.cells) (hl : slots' ≤ R.slots)
    (k : ∀ T' h' t, own_At G p l e R s0 s EL P m args below meth c Z n0 own nm bytes maxL ret T' h' cells' slots' → Keep h h' [x] → h.size ≤ t → own_Str Z h' x t cs → G T' (mkF m pc' Ls rest)) : G T (mkF m pc Ls (.ref b :: .ref x :: rest)) := by
  obtain ⟨z, S, hz⟩ := CS
  have hO := own_old X
  have hS := own_sta X S
  have h0 := own_n0 X
  refine own_callI (y := ⟨"java/lang/String", "<init>", "([C)V"⟩) (argsL := [.ref b]) (rest := rest) (a := x) (as' := #[.ref x, .ref b]) (kc := 1) (ks := n) (W := W) (Q := fun v h' => v = none ∧ Keep h h' [x] ∧ ∃ t, h.size ≤ t ∧ own_Str Z h' x t cs) X w1 w2 w4 rfl (by decide)
    (fun hZ => StrChars.Road.backV (W := W) hZ hws (kI := 4) wi (cs := cs) (bs := cs.map (fun c => c.toInt8.toInt32)) (n := n) hx h0 E V C (K.arv (d := .int 0) (N := Int32.ofNat n) (by rw [List.length_map, hn])) hS hz hn rfl l0 l2 hp rfl hfr hlo)
    (fun v h' L q => ?_) hsz hlen rfl hW hd hpc rfl ec es hc hl (fun v T' h' X' q => ?_)
  · obtain ⟨q1, q2, q3, q4, q5, t, kb, q6, q7, q8, q9, q10⟩ := q
    exact ⟨⟨q1, q3, t, q7, q4, q9, kb, _, _, 0, q5, q10, StrChars.Road.codOf hn (fun c hc => (hp c hc).2), own_up hp, by omega⟩, q2, [x], q3, allS ⟨hx, hxP⟩ all0⟩
  · obtain ⟨rfl, q1, t, q2, q3⟩ := q
    exact k T' h' t X' q1 q2 q3
end OwnStr
section OwnStr2
variable {G : State → JFrame → Prop} {p : Program} {l : Launch} {e : Env} {R : Room} {s : State} {m : MethodId} {args : Array Value} {below : List Frame} {meth : Method} {c : Code} {Z : State} {n0 : Nat} {own nm : String} {bytes : ByteArray} {maxL : Nat} {ret : Option FieldType} {T : State} {h : Heap} {cells slots : Nat} {a0 : Array Value} {s0 : State} {EL : List (String × Nat)} {P : List Addr} {ro : Bool}
def own_SF (Z : State) : Prop := ∃ v : Value, Sta Z Z.heap "jdk/internal/util/Preconditions" "SIOOBE_FORMATTER" "Ljava/util/function/BiFunction;" v ∧ v.isRef = true
theorem own_streq (X : own_At G p l e R s0 s EL P m args below meth c Z n0 own nm bytes maxL ret T h cells slots) {pc pc' : Nat} {Ls : Array Slot} {rest : List Value} {i W : Nat} {x t : Addr} {cs : List Int32} {y t' : Addr} {ds : List Int32} (hws : ∀ d ∈ StrChars.Road.wordsEq, d.before a0 Z = true) (CS : own_CS Z) 
    (w1 : (Cond.methodLink own i ⟨"java/lang/String", "equals", "(Ljava/lang/Object;)Z"⟩).before a0 Z = true) (w2 : (Cond.declares ⟨"java/lang/String", "equals", "(Ljava/lang/Object;)Z"⟩).before a0 Z = true) (w3 : (Cond.selects "java/lang/String" ⟨"java/lang/String", "equals", "(Ljava/lang/Object;)Z"⟩ ⟨"java/lang/String", "equals", "(Ljava/lang/Object;)Z"⟩).before a0 Z = true) (w4 : (Cond.instanceMethod ⟨"java/lang/String", "equals", "(Ljava/lang/Object;)Z"⟩).before a0 Z = true) (wi : (Cond.instantiable "java/lang/String" 4).before a0 Z = true)
    (S1 : own_Str Z h x t cs) (S2 : own_Str Z h y t' ds) (hfr : 2 ≤ R.frames) (hlo : W + 28 ≤ R.locals)
    (hlen : ∀ sig, parseMethodDescriptor "(Ljava/lang/Object;)Z" = some sig → 1 = sig.parameters.length) (hsz : Ls.size = maxL) (hW : (rest.map fun v => v.category).sum = W) (hd : decode bytes pc = .ok (.invokevirtual i, 3)) (hpc : pc' = pc + 3) (hc : cells ≤ R.cells) (hl : slots ≤ R.slots)
    (k : ∀ T', own_At G p l e R s0 s EL P m args below meth c Z n0 own nm bytes maxL ret T' h cells slots → G T' (mkF m pc' Ls ((.int (if cs = ds then 1 else 0)) :: rest))) : G T (mkF m pc Ls (.ref y :: .ref x :: rest)) := by
  obtain ⟨z, S, hz⟩ := CS
  have hO := own_old X
  have hS := own_sta X S
  obtain ⟨s1, s2, kb, N2, vs, cd, s3, s4, s5, s6, s7⟩ := S1
  obtain ⟨r1, r2, kb', N2', vs', cd', r3, r4, r5, r6, r7⟩ := S2
  refine own_callV (y := ⟨"java/lang/String", "equals", "(Ljava/lang/Object;)Z"⟩) (z := ⟨"java/lang/String", "equals", "(Ljava/lang/Object;)Z"⟩) (argsL := [.ref y]) (rest := rest) (a := x) (as' := #[.ref x, .ref y]) (kc := 0) (ks := 0) (W := W) (QQ := fun v h' L => ((v = some (.int 1) ∧ cs = ds) ∨ (v = some (.int 0) ∧ ¬ cs = ds)) ∧ L = [] ∧ h' = h) (Q := fun v h' => v = some (.int (if cs = ds then 1 else 0)) ∧ h = h') (cells' := cells) (slots' := slots) X w1 w2 (fun s' hZ' => notFace_of_selects (args := #[]) (mvT hZ' w3)) w3 w4 (by decide) s1
    (fun hZ => StrChars.Road.eqW (W := W) hZ hws (kI := 4) wi s1 s2 s3 s4 s5 s6 s7 r1 r2 r3 r4 r5 r6 r7 hS hz hfr hlo)
    (fun v h' L q => ?_) hsz hlen rfl hW hd hpc rfl rfl rfl hc hl (fun v T' h' X' q => ?_)
  · obtain ⟨q1, rfl, q3⟩ := q
    rcases q1 with ⟨q1, e⟩ | ⟨q1, e⟩
    · exact ⟨⟨by rw [q1, if_pos e], q3.symm⟩, Fr.nil n0, [], by rw [q3]; exact Keep.refl _ _, all0⟩
    · exact ⟨⟨by rw [q1, if_neg e], q3.symm⟩, Fr.nil n0, [], by rw [q3]; exact Keep.refl _ _, all0⟩
  · obtain ⟨rfl, rfl⟩ := q
    exact k T' X'
theorem own_strchar (X : own_At G p l e R s0 s EL P m args below meth c Z n0 own nm bytes maxL ret T h cells slots) {pc pc' : Nat} {Ls : Array Slot} {rest : List Value} {i W : Nat} {x t : Addr} {cs : List Int32} {j : Int32} {i' : Nat} {ch : Int32} (hws : ∀ d ∈ StrChars.Road.wordsChN, d.before a0 Z = true) (CS : own_CS Z) (SF : own_SF Z)
    (w1 : (Cond.methodLink own i ⟨"java/lang/String", "charAt", "(I)C"⟩).before a0 Z = true) (w2 : (Cond.declares ⟨"java/lang/String", "charAt", "(I)C"⟩).before a0 Z = true) (w3 : (Cond.selects "java/lang/String" ⟨"java/lang/String", "charAt", "(I)C"⟩ ⟨"java/lang/String", "charAt", "(I)C"⟩).before a0 Z = true) (w4 : (Cond.instanceMethod ⟨"java/lang/String", "charAt", "(I)C"⟩).before a0 Z = true) (wi : (Cond.instantiable "java/lang/String" 4).before a0 Z = true)
    (S1 : own_Str Z h x t cs) (hlat : ∀ c ∈ cs, ¬ 255 < c) (hi : cs[i']? = some ch) (hj : j = Int32.ofNat i') (hfr : 4 ≤ R.frames) (hlo : W + 53 ≤ R.locals)
    (hlen : ∀ sig, parseMethodDescriptor "(I)C" = some sig → 1 = sig.parameters.length) (hsz : Ls.size = maxL) (hW : (rest.map fun v => v.category).sum = W) (hd : decode bytes pc = .ok (.invokevirtual i, 3)) (hpc : pc' = pc + 3) (hc : cells ≤ R.cells) (hl : slots ≤ R.slots)
    (k : ∀ T', own_At G p l e R s0 s EL P m args below meth c Z n0 own nm bytes maxL ret T' h cells slots → G T' (mkF m pc' Ls ((.int ch) :: rest))) : G T (mkF m pc Ls (.int j :: .ref x :: rest)) := by
  obtain ⟨z, S, hz⟩ := CS
  have hO := own_old X
  have hS := own_sta X S
  obtain ⟨s1, s2, kb, N2, vs, cd, s3, s4, s5, s6, s7⟩ := S1
  obtain ⟨fm, SF, rf⟩ := SF
  have hF := own_sta X SF
  have hcd : cd = 0 := by rcases s5 with ⟨e, -⟩ | ⟨-, -, -, c, hc, hq⟩; exact e; exact absurd hq (hlat c hc)
  subst hcd
  refine own_callV (y := ⟨"java/lang/String", "charAt", "(I)C"⟩) (z := ⟨"java/lang/String", "charAt", "(I)C"⟩) (argsL := [.int j]) (rest := rest) (a := x) (as' := #[.ref x, .int j]) (kc := 0) (ks := 0) (W := W) (QQ := fun v h' L => v = some (.int (cs.getD i' 0)) ∧ L = [] ∧ h' = h) (Q := fun v h' => v = some (.int ch) ∧ h = h') (cells' := cells) (slots' := slots) X w1 w2 (fun s' hZ' => notFace_of_selects (args := #[]) (mvT hZ' w3)) w3 w4 (by decide) s1
    (fun hZ => StrChars.Road.chN (W := W) hZ hws (kI := 4) wi s1 s2 s3 s4 s5 s6 hS hz hF rf s7 (List.getElem?_eq_some_iff.mp hi).1 hj hfr hlo)
    (fun v h' L q => ?_) hsz hlen rfl hW hd hpc rfl rfl rfl hc hl (fun v T' h' X' q => ?_)
  · obtain ⟨q1, rfl, q3⟩ := q
    exact ⟨⟨by rw [q1]; simp [List.getD, hi], q3.symm⟩, Fr.nil n0, [], by rw [q3]; exact Keep.refl _ _, all0⟩
  · obtain ⟨rfl, rfl⟩ := q
    exact k T' X'
end OwnStr2
section OwnArr
variable {G : State → JFrame → Prop} {p : Program} {l : Launch} {e : Env} {R : Room} {s : State} {m : MethodId} {args : Array Value} {below : List Frame} {meth : Method} {c : Code} {Z : State} {n0 : Nat} {own nm : String} {bytes : ByteArray} {maxL : Nat} {ret : Option FieldType} {T : State} {h : Heap} {cells slots : Nat} {a0 : Array Value} {s0 : State} {EL : List (String × Nat)} {P : List Addr} {ro : Bool}
theorem own_newarrayE (X : own_At G p l e R s0 s EL P m args below meth c Z n0 own nm bytes maxL ret T h cells slots) {pc pc' cells' slots' : Nat} {Ls : Array Slot} {st : List Value} {aty : ArrayType} {ty : FieldType} {z : Int32} {n : Nat} {dv : Value} {ad : String} (w : (Cond.arrayClass ty).before a0 Z = true) (ht : newarray.typeOf aty = ty) (had : "[" ++ ty.toString = ad) (hdv : defaultValue ty = dv) (hz : z.toInt = n) (hn : n ≤ 60000000) (hd : decode bytes pc = .ok (.newarray aty, 2)) (hp : pc' = pc + 2) (ec : cells' = cells + 1) {cap : Nat} (hcap : n ≤ cap) (hbig : cap ≤ 60000000) (es : slots' = slots + cap) (hc : cells' ≤ R.cells) (hl : slots' ≤ R.slots)
    (k : ∀ T' h' a kc, a = h.size → own_At G p l e R s0 s EL P m args below meth c Z n0 own nm bytes maxL ret T' h' cells' slots' → Keep h h' [] → own_Arr Z h' a kc ty (List.replicate n dv) → Exa Z h' a ad → G T' (mkF m pc' Ls (.ref a :: st))) : G T (mkF m pc Ls (.int z :: st)) := by
  obtain ⟨hG, ⟨c1, c2, hZ, c5⟩, L, X, N, eT, O⟩ := X
  subst hp ec es ht hdv
  have hz0 : ¬ z < 0 := by rw [Int32.lt_iff_toInt_lt, hz]; simp
  have hzn : z.toNatClampNeg = n := by simp only [Int32.toNatClampNeg, hz]; omega
  obtain ⟨T', h', cA, X', e', E', A', F', st'⟩ := newPE X c1 hZ w eT (g := mkF m pc Ls (.int z :: st)) rfl (hb c2 hd) rfl hz0 (cap := cap) (by omega) (by omega) hc hl had
  refine hG _ _ _ _ st' (k _ _ _ cA rfl ⟨hG, ⟨c1, c2, hZ, c5⟩, _, X', N, e', O.ext E'⟩ ((Keep.refl _ _).ext E') ⟨_, A', rfl, by rw [own_newA, hzn], by simp; omega, fun v hv => ?_⟩ F')
  rw [List.eq_of_mem_replicate hv]; exact own_defit aty
theorem own_anewA (X : own_At G p l e R s0 s EL P m args below meth c Z n0 own nm bytes maxL ret T h cells slots) {pc pc' cells' slots' : Nat} {Ls : Array Slot} {st : List Value} {ty : FieldType} {C ad : String} {i : Nat} {z : Int32} {n : Nat} (hC : (FieldType.array ty).toString = C) (w1 : (Cond.classLink own i C).before a0 Z = true) (w2 : (Cond.arrayOver (.array ty)).before a0 Z = true) (had : "[" ++ C = ad) (hz : z.toInt = n) (hn : n ≤ 60000000) (hd : decode bytes pc = .ok (.anewarray i, 3)) (hp : pc' = pc + 3) (ec : cells' = cells + 1) {cap : Nat} (hcap : n ≤ cap) (hbig : cap ≤ 60000000) (es : slots' = slots + cap) (hc : cells' ≤ R.cells) (hl : slots' ≤ R.slots)
    (k : ∀ T' h' a kc, a = h.size → own_At G p l e R s0 s EL P m args below meth c Z n0 own nm bytes maxL ret T' h' cells' slots' → Keep h h' [] → own_Arr Z h' a kc (.array ty) (List.replicate n .null) → Exa Z h' a ad → OvrA Z kc ty C → G T' (mkF m pc' Ls (.ref a :: st))) : G T (mkF m pc Ls (.int z :: st)) := by
  obtain ⟨hG, ⟨c1, c2, hZ, hown, c5⟩, L, X, N, eT, O⟩ := X
  subst hp ec es
  have hz0 : ¬ z < 0 := by rw [Int32.lt_iff_toInt_lt, hz]; simp
  have hzn : z.toNatClampNeg = n := by simp only [Int32.toNatClampNeg, hz]; omega
  obtain ⟨T', h', cA, X', e', E', A', F', V', st'⟩ := newRA X c1 hZ hown hC w1 w2 eT (g := mkF m pc Ls (.int z :: st)) rfl (hb c2 hd) rfl hz0 (cap := cap) (by omega) (by omega) hc hl had
  refine hG _ _ _ _ st' (k _ _ _ cA rfl ⟨hG, ⟨c1, c2, hZ, hown, c5⟩, _, X', N, e', O.ext E'⟩ ((Keep.refl _ _).ext E') ⟨_, A', rfl, by rw [own_newA, hzn]; rfl, by simp; omega, fun v hv => ?_⟩ F' V')
  rw [List.eq_of_mem_replicate hv]; rfl
theorem own_anewR (X : own_At G p l e R s0 s EL P m args below meth c Z n0 own nm bytes maxL ret T h cells slots) {pc pc' cells' slots' : Nat} {Ls : Array Slot} {st : List Value} {C ad : String} {i : Nat} {z : Int32} {n : Nat} (w1 : (Cond.classLink own i C).before a0 Z = true) (w2 : (Cond.arrayOver (.object C)).before a0 Z = true) (had : "[" ++ (FieldType.object C).toString = ad) (hz : z.toInt = n) (hn : n ≤ 60000000) (hd : decode bytes pc = .ok (.anewarray i, 3)) (hp : pc' = pc + 3) (ec : cells' = cells + 1) {cap : Nat} (hcap : n ≤ cap) (hbig : cap ≤ 60000000) (es : slots' = slots + cap) (hc : cells' ≤ R.cells) (hl : slots' ≤ R.slots)
    (k : ∀ T' h' a kc, a = h.size → own_At G p l e R s0 s EL P m args below meth c Z n0 own nm bytes maxL ret T' h' cells' slots' → Keep h h' [] → own_Arr Z h' a kc (.object C) (List.replicate n .null) → Exa Z h' a ad → Ovr Z kc C → G T' (mkF m pc' Ls (.ref a :: st))) : G T (mkF m pc Ls (.int z :: st)) := by
  obtain ⟨hG, ⟨c1, c2, hZ, hown, c5⟩, L, X, N, eT, O⟩ := X
  subst hp ec es
  have hz0 : ¬ z < 0 := by rw [Int32.lt_iff_toInt_lt, hz]; simp
  have hzn : z.toNatClampNeg = n := by simp only [Int32.toNatClampNeg, hz]; omega
  obtain ⟨T', h', cA, X', e', E', A', F', V', st'⟩ := newRE X c1 hZ hown w1 w2 eT (g := mkF m pc Ls (.int z :: st)) rfl (hb c2 hd) rfl hz0 (cap := cap) (by omega) (by omega) hc hl had
  refine hG _ _ _ _ st' (k _ _ _ cA rfl ⟨hG, ⟨c1, c2, hZ, hown, c5⟩, _, X', N, e', O.ext E'⟩ ((Keep.refl _ _).ext E') ⟨_, A', rfl, by rw [own_newA, hzn]; rfl, by simp; omega, fun v hv => ?_⟩ F' V')
  rw [List.eq_of_mem_replicate hv]; rfl
theorem own_stoA {a y : Addr} {kc : ClassId} {t0 ty : FieldType} {vs : List Value} {C : String} (F : own_Arr Z h a kc t0 vs) (O : OvrA Z kc ty C) (I : Ins Z h y C true) : Sto Z h a (.ref y) := by
  obtain ⟨c, A, q, -⟩ := F; exact Sto.ofVA A q O I
theorem own_stoR {a y : Addr} {kc : ClassId} {t0 : FieldType} {vs : List Value} {C : String} (F : own_Arr Z h a kc t0 vs) (O : Ovr Z kc C) (I : Ins Z h y C true) : Sto Z h a (.ref y) := by
  obtain ⟨c, A, q, -⟩ := F; exact Sto.ofV A q O I
theorem own_aastore (X : own_At G p l e R s0 s EL P m args below meth c Z n0 own nm bytes maxL ret T h cells slots) {pc pc' : Nat} {Ls : Array Slot} {st : List Value} {a : Addr} {kc : ClassId} {ty : FieldType} {vs : List Value} {j : Int32} {i : Nat} {v : Value} (F : own_Arr Z h a kc ty vs) (hty : ty.isReference = true) (hfit : fits ty v = true) (S : Sto Z h a v) (hj : j.toInt = i) (hi : i < vs.length) (ha : n0 ≤ a) (hd : decode bytes pc = .ok (.aastore, 1)) (hp : pc' = pc + 1)
    (k : ∀ T' h', own_At G p l e R s0 s EL P m args below meth c Z n0 own nm bytes maxL ret T' h' cells slots → Keep h h' [a] → own_Arr Z h' a kc ty (vs.set i v) → G T' (mkF m pc' Ls st)) : G T (mkF m pc Ls (v :: .int j :: .ref a :: st)) := by
  obtain ⟨hG, ⟨c1, c2, hZ, c5⟩, L, X, N, eT, O⟩ := X
  subst hp
  have F0 := F
  obtain ⟨cl, A, r1, r2, r3, r4⟩ := F
  have hs : cl.slots.size = vs.length := by rw [← r2]; simp
  obtain ⟨q1, q2⟩ := own_idx hi r3 hj
  obtain ⟨T', h', X', e', W', st'⟩ := stR X c1 hZ eT A (j := j) (by rw [hs]; exact q1) hty S (g := mkF m pc Ls (v :: .int j :: .ref a :: st)) rfl rfl (hb c2 hd)
  have K' := Keep.of_wr W'
  have O' := O.wr W' ha (Safe.arr hZ.alike A (fun q => by subst q; cases hty))
  rw [q2] at W'
  exact hG _ _ _ _ st' (k _ _ ⟨hG, ⟨c1, c2, hZ, c5⟩, _, X', Fr.snoc X' N ha, e', O'⟩ K' (F0.set W' hfit))
theorem own_range {vs : List Value} {sp n : Nat} {dv : Value} (h : sp + n ≤ vs.length) : ((List.range n).map fun i => vs.getD (sp + i) dv) = (vs.drop sp).take n := by
  apply List.ext_getElem
  · simp; omega
  · intro i h1 h2
    simp only [List.length_map, List.length_range] at h1
    simp [List.getD, List.getElem?_eq_getElem (show sp + i < vs.length by omega)]
theorem own_arraycopy (X : own_At G p l e R s0 s EL P m args below meth c Z n0 own nm bytes maxL ret T h cells slots) {pc pc' : Nat} {Ls : Array Slot} {st : List Value} {a b : Addr} {kc kc' : ClassId} {ty ty' : FieldType} {vs vd : List Value} {js jd jn : Int32} {sp dp n i W : Nat}
    (w1 : (Cond.methodLink own i Jvm.Stand.acN).before a0 Z = true) (w2 : (Cond.native Jvm.Stand.acN).before a0 Z = true) (w3 : (Cond.static Jvm.Stand.acN).before a0 Z = true) (w4 : (Cond.initialized "java/lang/System").before a0 Z = true)
    (A : own_Arr Z h a kc ty vs) (B : own_Arr Z h b kc' ty' vd) (hty : (ty = ty' ∧ refKind ty = false) ∨ (refKind ty = true ∧ refKind ty' = true ∧ StoL Z h b ((vs.drop sp).take n))) (e1 : js.toInt = sp) (e2 : jd.toInt = dp) (e3 : jn.toInt = n) (l1 : sp + n ≤ vs.length) (l2 : dp + n ≤ vd.length) (ha : n0 ≤ b) (hnb : ty' ≠ .byte)
    (hsz : Ls.size = maxL) (hW : (st.map fun v => v.category).sum = W) (hd : decode bytes pc = .ok (.invokestatic i, 3)) (hp : pc' = pc + 3) (hf : 1 ≤ R.frames) (hlo : W + (nativeFrameWords "java/lang/System" "arraycopy" 5 + 11) ≤ R.locals)
    (k : ∀ T' h', own_At G p l e R s0 s EL P m args below meth c Z n0 own nm bytes maxL ret T' h' cells slots → Keep h h' [b] → own_Arr Z h' b kc' ty' (vd.take dp ++ (vs.drop sp).take n ++ vd.drop (dp + n)) → G T' (mkF m pc' Ls st)) : G T (mkF m pc Ls (.int jn :: .int jd :: .ref b :: .int js :: .ref a :: st)) := by
  obtain ⟨hG, ⟨c1, c2, hZ, hown, c5, c6⟩, L, X, N, eT, O⟩ := X
  subst hp
  have nn : ∀ {j : Int32} {q : Nat}, j.toInt = q → ¬ j < 0 ∧ j.toNatClampNeg = q := fun {j q} hj => ⟨by rw [Int32.lt_iff_toInt_lt, hj]; simp, by simp only [Int32.toNatClampNeg, hj]; omega⟩
  have la : vs.length < 2 ^ 31 := by obtain ⟨_, -, -, -, q, -⟩ := A; exact q
  have lb : vd.length < 2 ^ 31 := by obtain ⟨_, -, -, -, q, -⟩ := B; exact q
  have za : (Int32.ofNat vs.length).toNatClampNeg = vs.length := (nn (len_toInt la)).2
  have zb : (Int32.ofNat vd.length).toNatClampNeg = vd.length := (nn (len_toInt lb)).2
  obtain ⟨T', h', L', X', e', N', K', B', st'⟩ := cpA X c1 hZ hown w1 w2 w3 w4 eT (A.arv (d := .null) rfl) (B.arv (d := .null) rfl) (us := (vs.drop sp).take n) (hty.imp id fun q => q) (sp := js) (dp := jd) (nn := jn) (nn e1).1 (nn e2).1 (nn e3).1 (by rw [(nn e1).2, (nn e3).2, za]; exact l1) (by rw [(nn e2).2, (nn e3).2, zb]; exact l2) (by rw [(nn e1).2, (nn e3).2]; exact (own_range l1).symm) (by rw [(nn e2).2, (nn e3).2]; exact l2) N ha (g := mkF m pc Ls (.int jn :: .int jd :: .ref b :: .int js :: .ref a :: st)) rfl (hsz.trans c5.symm) rfl (hb c2 hd) hf (W := W) (by show 2 * 0 + _ ≤ _; rw [hW]; omega) hlo
  rw [(nn e2).2, (nn e3).2] at B'
  refine hG _ _ _ _ st' (k _ _ ⟨hG, ⟨c1, c2, hZ, hown, c5, c6⟩, _, X', N', e', O.keepS K' (allS ha all0) (allS (by obtain ⟨cb, Ab, -⟩ := B; exact Safe.arr hZ.alike Ab hnb) all0)⟩ K' (own_Arr.of_arv B' ?_))
  rw [zb]; simp; omega
theorem own_mapL {xs : List Int64} {i : Nat} (h : i < xs.length) : (xs.map Value.long)[i]? = some (.long (xs.getD i 0)) := by simp [List.getD, List.getElem?_eq_getElem h]
theorem own_mapI {xs : List Int32} {i : Nat} (h : i < xs.length) : (xs.map Value.int)[i]? = some (.int (xs.getD i 0)) := by simp [List.getD, List.getElem?_eq_getElem h]
theorem own_setL {xs : List Int64} {i : Nat} {x : Int64} : (xs.map Value.long).set i (.long x) = (xs.set i x).map Value.long := List.map_set.symm
theorem own_setI {xs : List Int32} {i : Nat} {x : Int32} : (xs.map Value.int).set i (.int x) = (xs.set i x).map Value.int := List.map_set.symm
theorem own_laloadM (X : own_At G p l e R s0 s EL P m args below meth c Z n0 own nm bytes maxL ret T h cells slots) {pc pc' : Nat} {Ls : Array Slot} {st : List Value} {a : Addr} {kc : ClassId} {xs : List Int64} {j : Int32} {i : Nat} {x : Int64} (F : own_Arr Z h a kc .long (xs.map Value.long)) (hj : j.toInt = i) (hi : i < xs.length) (hx : xs.getD i 0 = x) (hd : decode bytes pc = .ok (.laload, 1)) (hp : pc' = pc + 1) (k : G T (mkF m pc' Ls (.long x :: st))) : G T (mkF m pc Ls (.int j :: .ref a :: st)) :=
  own_laload X F hj (by rw [own_mapL hi, hx]) hd hp k
theorem own_ialoadM (X : own_At G p l e R s0 s EL P m args below meth c Z n0 own nm bytes maxL ret T h cells slots) {pc pc' : Nat} {Ls : Array Slot} {st : List Value} {a : Addr} {kc : ClassId} {xs : List Int32} {j : Int32} {i : Nat} {x : Int32} (F : own_Arr Z h a kc .int (xs.map Value.int)) (hj : j.toInt = i) (hi : i < xs.length) (hx : xs.getD i 0 = x) (hd : decode bytes pc = .ok (.iaload, 1)) (hp : pc' = pc + 1) (k : G T (mkF m pc' Ls (.int x :: st))) : G T (mkF m pc Ls (.int j :: .ref a :: st)) :=
  own_iaload X F hj (by rw [own_mapI hi, hx]) hd hp k
theorem own_lastoreM (X : own_At G p l e R s0 s EL P m args below meth c Z n0 own nm bytes maxL ret T h cells slots) {pc pc' : Nat} {Ls : Array Slot} {st : List Value} {a : Addr} {kc : ClassId} {xs : List Int64} {j : Int32} {i : Nat} {x : Int64} (F : own_Arr Z h a kc .long (xs.map Value.long)) (hj : j.toInt = i) (hi : i < xs.length) (ha : n0 ≤ a) (hd : decode bytes pc = .ok (.lastore, 1)) (hp : pc' = pc + 1)
    (k : ∀ T' h', own_At G p l e R s0 s EL P m args below meth c Z n0 own nm bytes maxL ret T' h' cells slots → Keep h h' [a] → own_Arr Z h' a kc .long ((xs.set i x).map Value.long) → G T' (mkF m pc' Ls st)) : G T (mkF m pc Ls (.long x :: .int j :: .ref a :: st)) :=
  own_lastore X F hj (by simpa using hi) ha hd hp (fun T' h' X' K' A' => k T' h' X' K' (own_setL ▸ A'))
theorem own_iastoreM (X : own_At G p l e R s0 s EL P m args below meth c Z n0 own nm bytes maxL ret T h cells slots) {pc pc' : Nat} {Ls : Array Slot} {st : List Value} {a : Addr} {kc : ClassId} {xs : List Int32} {j : Int32} {i : Nat} {x : Int32} (F : own_Arr Z h a kc .int (xs.map Value.int)) (hj : j.toInt = i) (hi : i < xs.length) (ha : n0 ≤ a) (hd : decode bytes pc = .ok (.iastore, 1)) (hp : pc' = pc + 1)
    (k : ∀ T' h', own_At G p l e R s0 s EL P m args below meth c Z n0 own nm bytes maxL ret T' h' cells slots → Keep h h' [a] → own_Arr Z h' a kc .int ((xs.set i x).map Value.int) → G T' (mkF m pc' Ls st)) : G T (mkF m pc Ls (.int x :: .int j :: .ref a :: st)) :=
  own_iastore X F hj (by simpa using hi) ha hd hp (fun T' h' X' K' A' => k T' h' X' K' (own_setI ▸ A'))
theorem own_neA {a b : Addr} {C : String} {k : Nat} {kc : ClassId} {ty : FieldType} {vs : List Value} (E : Exa Z h a C) (wi : (Cond.instantiable C k).before a0 Z = true) (F : own_Arr Z h b kc ty vs) : a ≠ b := by
  obtain ⟨c, A, -⟩ := F; exact ne_arr E wi A
theorem own_neT {a b : Addr} {kc kc' : ClassId} {ty ty' : FieldType} {vs vs' : List Value} (F : own_Arr Z h a kc ty vs) (F' : own_Arr Z h b kc' ty' vs') (hn : ty ≠ ty') : a ≠ b := fun e => by
  subst e
  obtain ⟨c, A, -⟩ := F
  obtain ⟨c', A', -⟩ := F'
  cases A.1.symm.trans A'.1
  obtain ⟨-, k, h1, comp, h2⟩ := A.2.1
  obtain ⟨-, k', g1, comp', g2⟩ := A'.2.1
  cases h1.symm.trans g1
  rw [h2] at g2; cases g2; exact hn rfl
theorem own_dup_x2 (X : own_At G p l e R s0 s EL P m args below meth c Z n0 own nm bytes maxL ret T h cells slots) {pc pc' : Nat} {Ls : Array Slot} {st : List Value} {x y z : Value} (hd : decode bytes pc = .ok (.dup_x2, 1)) (hp : pc' = pc + 1) (hc : x.category = 1) (hc2 : y.category = 1) (hc3 : z.category = 1) (k : G T (mkF m pc' Ls (x :: y :: z :: x :: st))) : G T (mkF m pc Ls (x :: y :: z :: st)) := by
  obtain ⟨hG, ⟨c1, c2, -⟩, L, X, -⟩ := X
  subst hp
  refine hG _ _ _ _ (fun t q => ?_) k
  jvm_step X.here [X.here.top, c1, hb c2 hd, dup_x2.wp_sem, hc, hc2, hc3]
  exact q
theorem own_dup2 (X : own_At G p l e R s0 s EL P m args below meth c Z n0 own nm bytes maxL ret T h cells slots) {pc pc' : Nat} {Ls : Array Slot} {st : List Value} {x y : Value} (hd : decode bytes pc = .ok (.dup2, 1)) (hp : pc' = pc + 1) (hc : x.category = 1) (hc2 : y.category = 1) (k : G T (mkF m pc' Ls (x :: y :: x :: y :: st))) : G T (mkF m pc Ls (x :: y :: st)) := by
  obtain ⟨hG, ⟨c1, c2, -⟩, L, X, -⟩ := X
  subst hp
  exact hG _ _ _ _ (fun t q => Jvm.Free.XT.dup2 X.here c1 rfl (hb c2 hd) rfl hc hc2 q) k
end OwnArr
def own_EL : List (String × Nat) := [("com/example/topf/topf/core/BeanDefinition", 96), ("com/example/topf/topf/core/BeanDefinitionIsSingletonPinLaw", 28), ("java/lang/String", 7)]
set_option maxRecDepth 65536 in
theorem own_in_atoms : ∀ d ∈ Bundle.stringAtoms, d ∈ tables_1 := by decide +kernel
theorem own_allN {P : String × Nat → Prop} : ∀ x ∈ ([] : List (String × Nat)), P x := fun _ q => nomatch q
theorem own_allP {P : String × Nat → Prop} {y : String × Nat} {L : List (String × Nat)} (q : P y) (r : ∀ x ∈ L, P x) : ∀ x ∈ y :: L, P x := fun x z => (List.mem_cons.mp z).elim (fun u => u ▸ q) (r x)
theorem own_held {s : State} {o : String} {i : Nat} (h : Jvm.Pilot.@@N@@.Jvm.D.constHeld s o i) : Jvm.Lit.constHeld s o i := h
theorem own_cw {s : State} {a a' : Array Value} (h : (Jvm.Cond.not (Jvm.Cond.eq (Jvm.Term.static "java/lang/String" "COMPACT_STRINGS" "Z") (Jvm.Term.int (0 : Int32)))).before a s = true) : Jvm.Lit.compactW.before a' s = true := h
theorem own_StrLit {Z : State} {h : Heap} {x t : Addr} {kb : ClassId} {vs : List Value} {cs : List Int32} (E : Exa Z h x "java/lang/String") (V : Fld Z h x "java/lang/String" "value" "[B" (.ref t)) (C : Fld Z h x "java/lang/String" "coder" "B" (.int 0)) (A : own_Arr Z h t kb .byte vs) (hv : (cs.map fun c => Value.int c.toInt8.toInt32) = vs) (hp : ∀ c ∈ cs, ¬ c < 0 ∧ ¬ (255 : Int32) < c) (hl : cs.length ≤ 4000) : own_Str Z h x t cs :=
  ⟨E, V, kb, _, _, 0, C, A.arv (d := .int 0) rfl, by subst hv; have := StrChars.Road.codOf (cs := cs) rfl (fun c hc => (hp c hc).2); simpa [List.map_map, Function.comp_def, StrChars.lo8] using this, own_up hp, hl⟩
theorem own_eqv {args : Array Value} {s : State} {tm : Term} {k : Int32} (h : (Jvm.Cond.eq tm (Jvm.Term.int k)).value args s none s [] = some true) : tm.eval args s none [] s = some (.int k) := Cond.eq_int (Cond.before_iff.mpr h) rfl
theorem own_exa {args : Array Value} {s : State} {tm : Term} {K : String} (h : (Jvm.Cond.exactly tm K).before args s = true) : ∃ a, tm.eval args s none [] s = some (.ref a) ∧ Exa s s.heap a K := by
  obtain ⟨a, c, cell, k, h1, h2, h3, h4, h5, h6, h7⟩ := Cond.exactly_spec h
  exact ⟨a, h1, cell, k, h3, h6 ▸ h2, h6 ▸ h4, h5, h7⟩
theorem own_arr0 {args : Array Value} {s : State} {tm : Term} {a : Addr} {K f d : String} {ty : FieldType} (ev : tm.eval args s none [] s = some (.ref a)) (w1 : (Jvm.Cond.arrayOf (Jvm.Term.field tm K f d) ty).before args s = true) (w2 : (Jvm.Cond.eq (Jvm.Term.length (Jvm.Term.field tm K f d)) (Jvm.Term.int (0 : Int32))).before args s = true) : ∃ (ea : Addr) (k : ClassId), Fld s s.heap a K f d (.ref ea) ∧ own_Arr s s.heap ea k ty [] := by
  have hlen := Cond.eq_int w2 rfl
  obtain ⟨sd, SA, hev, harr, -⟩ := Term.length_spec hlen
  have h31 := Jvm.Free.SBG.length_lt hev harr hlen
  have hsz : SA.slots.size = 0 := by
    have e1 : (Jvm.Term.length (Jvm.Term.field tm K f d)).eval args s none [] s = some (.int (Int32.ofNat SA.slots.size)) := by simp [Term.eval] at hev ⊢; simp [hev, harr, h31]
    have h2 : Int32.ofNat SA.slots.size = Int32.ofNat 0 := by simpa using Option.some.inj (e1.symm.trans hlen)
    have := congrArg Int32.toInt h2
    rw [own_i32 h31, own_i32 (by decide)] at this; omega
  obtain ⟨cl, A⟩ := Arr.start hev (Cond.before_iff.mp w1)
  have hc : s.heap[sd]? = some SA := by
    simp only [State.arrayAt?, Option.bind_eq_bind] at harr
    cases q : s.heap[sd]? with
    | none => simp [q] at harr
    | some x => simp only [q, Option.bind_some] at harr; grind
  cases hc.symm.trans A.1
  refine ⟨sd, _, Fld.start (by simpa [Term.eval, ev] using hev), SA, A, rfl, ?_, by decide, fun v hv => nomatch hv⟩
  exact List.eq_nil_of_length_eq_zero (by simpa using hsz)
set_option maxRecDepth 65536 in
theorem own_in_words : ∀ d ∈ StrChars.Road.words, d ∈ tables_1 := by decide +kernel
set_option maxRecDepth 65536 in
theorem own_in_wordsChN : ∀ d ∈ StrChars.Road.wordsChN, d ∈ tables_1 := by decide +kernel
set_option maxRecDepth 65536 in
theorem own_in_wordsEq : ∀ d ∈ StrChars.Road.wordsEq, d ∈ tables_1 := by decide +kernel
def own_sg : List Int32 := ([115, 105, 110, 103, 108, 101, 116, 111, 110] : List Int32)
def own_B (ex : Int32) : List Int32 := [115, 105, 110, 103, 108, 101, 116, 111, 110, ex]
def own_dr (n p : Nat) (r ex : Int32) : List Int32 := ((own_B ex).set p r).take n
theorem own_ten : ∀ L : List Int32, L.length = 10 → ∃ b0 b1 b2 b3 b4 b5 b6 b7 b8 b9, L = [b0, b1, b2, b3, b4, b5, b6, b7, b8, b9]
  | [b0, b1, b2, b3, b4, b5, b6, b7, b8, b9], _ => ⟨b0, b1, b2, b3, b4, b5, b6, b7, b8, b9, rfl⟩
theorem own_le10 {n : Nat} (h : n ≤ 10) : n = 0 ∨ n = 1 ∨ n = 2 ∨ n = 3 ∨ n = 4 ∨ n = 5 ∨ n = 6 ∨ n = 7 ∨ n = 8 ∨ n = 9 ∨ n = 10 := by omega
def own_ok16 (c : Int32) : Prop := ¬ c < 0 ∧ ¬ (65535 : Int32) < c
theorem own_Bok {p : Nat} {r ex : Int32} (hr : own_ok16 r) (hx : own_ok16 ex) : ∀ c ∈ (own_B ex).set p r, own_ok16 c := by
  intro c hc
  rcases List.mem_or_eq_of_mem_set hc with q | q
  · simp only [own_B, List.mem_cons, List.not_mem_nil, or_false] at q
    rcases q with rfl | rfl | rfl | rfl | rfl | rfl | rfl | rfl | rfl | rfl <;> first | exact hx | (constructor <;> decide)
  · rw [q]; exact hr
theorem own_exw {cs : List Int32} (h : ¬ ∀ c ∈ cs, ¬ (255 : Int32) < c) : ∃ c ∈ cs, (255 : Int32) < c := by
  apply Classical.byContradiction
  intro q
  exact h fun c hc z => q ⟨c, hc, z⟩
theorem own_11 (x : Int32) : ∃ p : Nat, p ≤ 10 ∧ (x &&& 2147483647) % 11 = Int32.ofNat p := by
  have q := (c_and x 2147483647 (by decide)).1
  have r := (c_irem (x &&& 2147483647) 11 11 (by decide)).1 q
  refine ⟨((x &&& 2147483647) % 11).toInt.toNat, by omega, ?_⟩
  apply Int32.toInt_inj.mp
  rw [own_i32 (by omega)]
  omega
theorem own_r16 (x : Int32) : own_ok16 (own_c16 x) := by
  have q := c_i2c x
  refine ⟨?_, ?_⟩
  · rw [Int32.lt_iff_toInt_lt, show (0 : Int32).toInt = 0 by decide]
    show ¬ x.toUInt32.toUInt16.toUInt32.toInt32.toInt < 0
    omega
  · rw [Int32.lt_iff_toInt_lt, show (65535 : Int32).toInt = 65535 by decide]
    show ¬ 65535 < x.toUInt32.toUInt16.toUInt32.toInt32.toInt
    omega
theorem own_4 (x : Int32) : x &&& 3 = 0 ∨ x &&& 3 = 1 ∨ x &&& 3 = 2 ∨ x &&& 3 = 3 := by
  have q := c_and x 3 (by decide)
  have e3 : (3 : Int32).toInt = 3 := by decide
  rw [e3] at q
  have : (x &&& 3).toInt = 0 ∨ (x &&& 3).toInt = 1 ∨ (x &&& 3).toInt = 2 ∨ (x &&& 3).toInt = 3 := by omega
  rcases this with z | z | z | z
  · exact Or.inl (Int32.toInt_inj.mp (z.trans (by decide)))
  · exact Or.inr (Or.inl (Int32.toInt_inj.mp (z.trans (by decide))))
  · exact Or.inr (Or.inr (Or.inl (Int32.toInt_inj.mp (z.trans (by decide)))))
  · exact Or.inr (Or.inr (Or.inr (Int32.toInt_inj.mp (z.trans (by decide)))))
theorem own_iff {n p : Nat} {r ex : Int32} (hn : n ≤ 10) (hp : p ≤ 10) : own_sg = own_dr n p r ex ↔ n = 9 ∧ (9 ≤ p ∨ r = own_sg.getD p 0) := by
  constructor
  · intro h
    have l : n = 9 := by
      have q := congrArg List.length h
      rw [show own_sg.length = 9 from rfl, own_dr, List.length_take, List.length_set, show (own_B ex).length = 10 from rfl] at q
      omega
    subst l
    refine ⟨rfl, ?_⟩
    by_cases q : 9 ≤ p
    · exact Or.inl q
    · refine Or.inr ?_
      have z : p = 0 ∨ p = 1 ∨ p = 2 ∨ p = 3 ∨ p = 4 ∨ p = 5 ∨ p = 6 ∨ p = 7 ∨ p = 8 := by omega
      rcases z with rfl | rfl | rfl | rfl | rfl | rfl | rfl | rfl | rfl <;> simp [own_sg, own_dr, own_B] at h ⊢ <;> exact h.symm
  · rintro ⟨rfl, h⟩
    have z : p = 0 ∨ p = 1 ∨ p = 2 ∨ p = 3 ∨ p = 4 ∨ p = 5 ∨ p = 6 ∨ p = 7 ∨ p = 8 ∨ p = 9 ∨ p = 10 := by omega
    rcases z with rfl | rfl | rfl | rfl | rfl | rfl | rfl | rfl | rfl | rfl | rfl <;> simp [own_sg, own_dr, own_B] at h ⊢ <;> exact h.symm
theorem own_sgi {p : Nat} (h : p < 9) : own_sg[p]? = some (own_sg.getD p 0) := by
  rw [List.getD, List.getElem?_eq_getElem (show p < own_sg.length from h)]; rfl
theorem dd_jdk_42_method_149_0 : decode jdk_42_method_149_code 0 = .ok (.aload_n 0, 1) := by decide +kernel
theorem dd_jdk_42_method_149_1 : decode jdk_42_method_149_code 1 = .ok (.invokespecial 1, 3) := by decide +kernel
theorem dd_jdk_42_method_149_4 : decode jdk_42_method_149_code 4 = .ok (.iload_n 3, 1) := by decide +kernel
theorem dd_jdk_42_method_149_5 : decode jdk_42_method_149_code 5 = .ok (.ifCond .ne 22, 3) := by decide +kernel
theorem dd_jdk_42_method_149_8 : decode jdk_42_method_149_code 8 = .ok (.aload_n 0, 1) := by decide +kernel
theorem dd_jdk_42_method_149_9 : decode jdk_42_method_149_code 9 = .ok (.ldc 7, 2) := by decide +kernel
theorem dd_jdk_42_method_149_11 : decode jdk_42_method_149_code 11 = .ok (.getfield 9, 3) := by decide +kernel
theorem dd_jdk_42_method_149_14 : decode jdk_42_method_149_code 14 = .ok (.putfield 9, 3) := by decide +kernel
theorem dd_jdk_42_method_149_17 : decode jdk_42_method_149_code 17 = .ok (.aload_n 0, 1) := by decide +kernel
theorem dd_jdk_42_method_149_18 : decode jdk_42_method_149_code 18 = .ok (.ldc 7, 2) := by decide +kernel
theorem dd_jdk_42_method_149_20 : decode jdk_42_method_149_code 20 = .ok (.getfield 15, 3) := by decide +kernel
theorem dd_jdk_42_method_149_23 : decode jdk_42_method_149_code 23 = .ok (.putfield 15, 3) := by decide +kernel
theorem dd_jdk_42_method_149_26 : decode jdk_42_method_149_code 26 = .ok (.return_, 1) := by decide +kernel
theorem pn_0 : plainName "java/lang/String" = true := by first | (simp [plainName, overriddenIn]; done) | decide +kernel
theorem ef_own_sinitV (m : MethodId) (x0 : Addr) (x1 : Addr) (x2 : Int32) (x3 : Int32) : entryFrame m #[(.ref x0), (.ref x1), (.int x2), (.int x3), .null] 6 = mkF m 0 #[.val (.ref x0), .val (.ref x1), .val (.int x2), .val (.int x3), .val .null, .unset] [] := by first | (simp [entryFrame, mkF, argsToLocals, Value.category]; done) | rfl
set_option maxRecDepth 65536 in
set_option maxHeartbeats 40000000 in
theorem own_sinitV (l : Launch) (Z : State) (a0 : Array Value) (hw : ∀ d ∈ tables_1, d.before a0 Z = true) (EWf : own_EW Z own_EL) (n0 : Nat) (x b : Addr) (h0 : Heap) (O0 : Old Z n0 h0) (n_x : n0 ≤ x) (p_E : Exa Z h0 x "java/lang/String") (p_V : Fld Z h0 x "java/lang/String" "value" "[B" .null) (p_C : Fld Z h0 x "java/lang/String" "coder" "B" (.int 0)) :
    own_Met l Z own_EL [x] false n0 (⟨"java/lang/String", "<init>", "([CIILjava/lang/Void;)V"⟩ : MethodName) jdk_42_method_149_code 6 none ({ frames := 1, cells := 4, slots := 8, locals := 12 } : Room) #[(.ref x), (.ref b), (.int (0 : Int32)), (.int (0 : Int32)), .null] h0 (fun v h => v = none ∧ Keep h0 h [x] ∧ ∃ t, own_Str Z h x t []) := by
  refine own_enter (own := "java/lang/String") (nm := "<init>") (plainFor_of_name pn_0) rfl rfl O0 EWf ?_
  have W : ∀ (k : Nat) {d : Jvm.Cond}, tables_1[k]? = some d → d.before a0 Z = true := fun k d q => hw d (List.mem_of_getElem? q)
  intro G p e s m below meth c T0 hGe X0
  rw [ef_own_sinitV m x b ((0 : Int32)) ((0 : Int32))]
  refine own_aload_n (pc' := 1) X0 dd_jdk_42_method_149_0 rfl rfl rfl ?_
  refine own_initO (pc' := 4) (W := 0) X0 (W 17 rfl) (W 18 rfl) (W 19 rfl) rfl dd_jdk_42_method_149_1 rfl (by decide) rfl (by decide) ?_
  intro T1 X1
  refine own_iload_n (pc' := 5) X1 dd_jdk_42_method_149_4 rfl rfl ?_
  refine own_ifN (pc' := 8) X1 dd_jdk_42_method_149_5 rfl ((teq (by decide)).2) ?_
  refine own_aload_n (pc' := 9) X1 dd_jdk_42_method_149_8 rfl rfl rfl ?_
  refine own_ldcR (pc' := 11) (cells' := 2) (slots' := 4) (n := 0) (text := "") (vs := []) X1 (W 157 rfl) (fun d hd => hw d (own_in_atoms d hd)) (List.mem_of_getElem? (i := 2) rfl) ⟨by decide, by decide⟩ (by decide) (by decide) (by decide) dd_jdk_42_method_149_9 rfl rfl rfl (by decide) (by decide) ?_
  intro T2 h2 s2 a2 b2 k2 X2 K2 E2 Fc2 Fv2 A2 N2
  refine own_get (pc' := 14) X2 (host := "") (Or.inl (W 34 rfl)) Via.refl Fv2 dd_jdk_42_method_149_11 rfl ?_
  intro T3 X3
  have f4 := (p_V.keep K2 nin0)
  have f5 := (p_E.keep K2)
  refine own_put (pc' := 17) X3 (host := "") (Or.inl (W 34 rfl)) Via.refl f4 f5 (Or.inr ⟨(W 35 rfl), rfl, rfl⟩) (W 8 rfl) (ty := (.array .byte)) (by decide) rfl rfl n_x (Or.inr (List.mem_of_getElem? (i := 0) rfl)) dd_jdk_42_method_149_14 rfl ?_
  intro T6 h6 X6 W6 K6
  have f6_ := f4.same W6
  refine own_aload_n (pc' := 18) X6 dd_jdk_42_method_149_17 rfl rfl rfl ?_
  refine own_ldcR (pc' := 20) (cells' := 4) (slots' := 8) (n := 0) (text := "") (vs := []) X6 (W 157 rfl) (fun d hd => hw d (own_in_atoms d hd)) (List.mem_of_getElem? (i := 2) rfl) ⟨by decide, by decide⟩ (by decide) (by decide) (by decide) dd_jdk_42_method_149_18 rfl rfl rfl (by decide) (by decide) ?_
  intro T7 h7 s7 a7 b7 k7 X7 K7 E7 Fc7 Fv7 A7 N7
  refine own_get (pc' := 23) X7 (host := "") (Or.inl (W 32 rfl)) Via.refl Fc7 dd_jdk_42_method_149_20 rfl ?_
  intro T8 X8
  have f9 := (((p_C.keep K2 nin0).other W6 (Or.inr (slot_ne (Or.inr (W 33 rfl)) (Or.inr (W 35 rfl)) (by decide) (t := .byte) (t' := (.array .byte)) (by decide) (by decide)))).keep K7 nin0)
  have f10 := ((f5.keep K6).keep K7)
  refine own_put (pc' := 26) X8 (host := "") (Or.inl (W 32 rfl)) Via.refl f9 f10 (Or.inr ⟨(W 33 rfl), rfl, rfl⟩) (W 8 rfl) (ty := .byte) (by decide) rfl rfl n_x (Or.inr (List.mem_of_getElem? (i := 0) rfl)) dd_jdk_42_method_149_23 rfl ?_
  intro T11 h11 X11 W11 K11
  have f11_ := f9.same W11
  have f12 := (f10.keep K11)
  have f13 := ((f6_.keep K7 nin0).other W11 (Or.inr (slot_ne (Or.inr (W 35 rfl)) (Or.inr (W 33 rfl)) (by decide) (t := (.array .byte)) (t' := .byte) (by decide) (by decide))))
  have f14 := (((A2.keep K6 (ninS (Ne.symm (N2 x (List.mem_of_getElem? (i := 0) rfl)).2) nin0)).keep K7 nin0).keep K11 (ninS (Ne.symm (N2 x (List.mem_of_getElem? (i := 0) rfl)).2) nin0))
  exact own_retV X11 hGe rfl dd_jdk_42_method_149_26 (by decide) (by decide) ⟨rfl, (((((Keep.refl h0 [x]).trans K2 all0).trans K6 (allS (Or.inl (List.mem_of_getElem? (i := 0) rfl)) all0)).trans K7 all0).trans K11 (allS (Or.inl (List.mem_of_getElem? (i := 0) rfl)) all0)), b2, own_StrLit (cs := []) f12 f13 f11_ f14 (by decide) (by decide) (by decide)⟩
theorem dd_jdk_42_method_3_0 : decode jdk_42_method_3_code 0 = .ok (.aload_n 0, 1) := by decide +kernel
theorem dd_jdk_42_method_3_1 : decode jdk_42_method_3_code 1 = .ok (.aload_n 1, 1) := by decide +kernel
theorem dd_jdk_42_method_3_2 : decode jdk_42_method_3_code 2 = .ok (.iconst 0, 1) := by decide +kernel
theorem dd_jdk_42_method_3_3 : decode jdk_42_method_3_code 3 = .ok (.aload_n 1, 1) := by decide +kernel
theorem dd_jdk_42_method_3_4 : decode jdk_42_method_3_code 4 = .ok (.arraylength, 1) := by decide +kernel
theorem dd_jdk_42_method_3_5 : decode jdk_42_method_3_code 5 = .ok (.aconst_null, 1) := by decide +kernel
theorem dd_jdk_42_method_3_6 : decode jdk_42_method_3_code 6 = .ok (.invokespecial 27, 3) := by decide +kernel
theorem pd_0 : parseMethodDescriptor "([CIILjava/lang/Void;)V" = some ⟨[(.array .char), .int, .int, (.object "java/lang/Void")], none⟩ := by decide +kernel
theorem dd_jdk_42_method_3_9 : decode jdk_42_method_3_code 9 = .ok (.return_, 1) := by decide +kernel
theorem ef_own_sinit0 (m : MethodId) (x0 : Addr) (x1 : Addr) : entryFrame m #[(.ref x0), (.ref x1)] 2 = mkF m 0 #[.val (.ref x0), .val (.ref x1)] [] := by first | (simp [entryFrame, mkF, argsToLocals, Value.category]; done) | rfl
set_option maxRecDepth 65536 in
set_option maxHeartbeats 40000000 in
theorem own_sinit0 (l : Launch) (Z : State) (a0 : Array Value) (hw : ∀ d ∈ tables_1, d.before a0 Z = true) (EWf : own_EW Z own_EL) (n0 : Nat) (x b : Addr) (kc : ClassId) (h0 : Heap) (O0 : Old Z n0 h0) (n_x : n0 ≤ x) (p_E : Exa Z h0 x "java/lang/String") (p_V : Fld Z h0 x "java/lang/String" "value" "[B" .null) (p_C : Fld Z h0 x "java/lang/String" "coder" "B" (.int 0)) (p_A : own_Arr Z h0 b kc .char []) :
    own_Met l Z own_EL [x] false n0 (⟨"java/lang/String", "<init>", "([C)V"⟩ : MethodName) jdk_42_method_3_code 2 none ({ frames := 2, cells := 4, slots := 8, locals := 29 } : Room) #[(.ref x), (.ref b)] h0 (fun v h => v = none ∧ Keep h0 h [x] ∧ ∃ t, own_Str Z h x t []) := by
  refine own_enter (own := "java/lang/String") (nm := "<init>") (plainFor_of_name pn_0) rfl rfl O0 EWf ?_
  have W : ∀ (k : Nat) {d : Jvm.Cond}, tables_1[k]? = some d → d.before a0 Z = true := fun k d q => hw d (List.mem_of_getElem? q)
  intro G p e s m below meth c T0 hGe X0
  rw [ef_own_sinit0 m x b]
  refine own_aload_n (pc' := 1) X0 dd_jdk_42_method_3_0 rfl rfl rfl ?_
  refine own_aload_n (pc' := 2) X0 dd_jdk_42_method_3_1 rfl rfl rfl ?_
  refine own_iconst (pc' := 3) X0 dd_jdk_42_method_3_2 rfl (z := (0 : Int32)) (by decide) ?_
  refine own_aload_n (pc' := 4) X0 dd_jdk_42_method_3_3 rfl rfl rfl ?_
  refine own_arraylength (pc' := 5) (z := (0 : Int32)) X0 p_A rfl dd_jdk_42_method_3_4 rfl ?_
  refine own_aconst_null (pc' := 6) X0 dd_jdk_42_method_3_5 rfl ?_
  refine own_callIM (pc' := 9) (cells' := 4) (slots' := 8) (argsL := [(.ref b), (.int (0 : Int32)), (.int (0 : Int32)), .null]) (rest := []) (W := 0) (y := (⟨"java/lang/String", "<init>", "([CIILjava/lang/Void;)V"⟩ : MethodName)) (a := x) X0 (W 13 rfl) (W 14 rfl) rfl (by decide) (own_sinitV l Z a0 hw EWf n0 x b h0 (own_old X0) n_x p_E p_V p_C) (allS (List.mem_of_getElem? (i := 0) rfl) all0) (W 16 rfl) (W 9 rfl) (by decide) (by decide) rfl (lenOf pd_0 rfl) rfl rfl dd_jdk_42_method_3_6 rfl rfl rfl rfl (by decide) (by decide) ?_
  intro v1 T1 h1 s1 X1 q1 r1
  obtain ⟨rfl, K1, t1, S1⟩ := q1
  show G T1 (mkF m 9 #[.val (.ref x), .val (.ref b)] [])
  exact own_retV X1 hGe rfl dd_jdk_42_method_3_9 (by decide) (by decide) ⟨rfl, ((Keep.refl h0 [x]).trans K1 (allS (Or.inl (List.mem_of_getElem? (i := 0) rfl)) all0)), t1, S1⟩
theorem own_wlen : ∀ cs : List Int32, (StrChars.Road.wideBytes cs).length = 2 * cs.length
  | [] => rfl
  | c :: cs => by simp [StrChars.Road.wideBytes, own_wlen cs]; omega
theorem own_wlo {cs : List Int32} {j : Nat} (h : j < cs.length) : (StrChars.Road.wideBytes cs)[2 * j]? = some (.int (StrChars.lo8 (cs.getD j 0))) := by
  have q := StrChars.Road.wide_lo (.int 0) cs j h
  have l := own_wlen cs
  rw [List.getD, List.getElem?_eq_getElem (by omega)] at q
  rw [List.getElem?_eq_getElem (by omega)]; simpa using q
theorem own_whi {cs : List Int32} {j : Nat} (h : j < cs.length) : (StrChars.Road.wideBytes cs)[2 * j + 1]? = some (.int (StrChars.hi8 (cs.getD j 0))) := by
  have q := StrChars.Road.wide_hi (.int 0) cs j h
  have l := own_wlen cs
  rw [List.getD, List.getElem?_eq_getElem (by omega)] at q
  rw [List.getElem?_eq_getElem (by omega)]; simpa using q
theorem own_wapp : ∀ (xs ys : List Int32), StrChars.Road.wideBytes (xs ++ ys) = StrChars.Road.wideBytes xs ++ StrChars.Road.wideBytes ys
  | [], ys => rfl
  | x :: xs, ys => by simp [StrChars.Road.wideBytes, own_wapp xs ys]
def own_wb (cs : List Int32) (i n : Nat) : List Value := StrChars.Road.wideBytes (cs.take i) ++ List.replicate (2 * (n - i)) (.int 0)
theorem own_wb_len {cs : List Int32} {i n : Nat} (hl : cs.length = n) (hi : i ≤ n) : (own_wb cs i n).length = 2 * n := by
  simp [own_wb, own_wlen]; omega
theorem own_wb_step {cs : List Int32} {i n : Nat} (hl : cs.length = n) (hi : i < n) : ((own_wb cs i n).set (2 * i) (.int (StrChars.lo8 (cs.getD i 0)))).set (2 * i + 1) (.int (StrChars.hi8 (cs.getD i 0))) = own_wb cs (i + 1) n := by
  have e1 : cs.take (i + 1) = cs.take i ++ [cs.getD i 0] := by
    rw [List.take_add_one, List.getElem?_eq_getElem (by omega)]; simp [List.getD, List.getElem?_eq_getElem (show i < cs.length by omega)]
  have e2 : 2 * (n - i) = 2 * (n - (i + 1)) + 1 + 1 := by omega
  have l : (StrChars.Road.wideBytes (cs.take i)).length = 2 * i := by rw [own_wlen, List.length_take]; omega
  rw [own_wb, own_wb, e1, own_wapp, e2, List.replicate_succ, List.replicate_succ, List.set_append_right _ _ (by omega), l, Nat.sub_self, List.set_cons_zero, List.set_append_right _ _ (by omega), l, show 2 * i + 1 - 2 * i = 0 + 1 by omega, List.set_cons_succ, List.set_cons_zero]
  simp [StrChars.Road.wideBytes]
theorem own_shl1 {i : Nat} (h : i < 2 ^ 20) : Int32.ofNat i <<< ((1 : Int32) &&& 31) = Int32.ofNat (2 * i) := by
  have q := c_ishl (Int32.ofNat i) 1 1 (by decide)
  rw [own_i32 (by omega)] at q
  have b1 := Int32.toInt_lt (Int32.ofNat i <<< ((1 : Int32) &&& 31))
  have b2 := Int32.le_toInt (Int32.ofNat i <<< ((1 : Int32) &&& 31))
  apply Int32.toInt_inj.mp
  rw [own_i32 (by omega)]
  omega
theorem own_shr0 (c : Int32) : c >>> ((0 : Int32) &&& 31) = c := by
  apply Int32.toInt_inj.mp
  have q := c_ishr c 0 0 (by decide)
  rw [q]; simp
theorem own_shl0 (c : Int32) : c <<< ((0 : Int32) &&& 31) = c <<< ((0 : Int32) &&& 31) := rfl
theorem own_narb (c : Int32) : nar .byte (own_b8 c) = own_b8 c := by
  show (own_b8 c).toInt8.toInt32 = own_b8 c
  unfold own_b8; simp
theorem own_i32ne {i n : Nat} (h : i ≠ n) (hi : i < 2 ^ 31) (hn : n < 2 ^ 31) : ¬ Int32.ofNat i = Int32.ofNat n := fun q => h (by
  have := congrArg Int32.toInt q
  rw [own_i32 hi, own_i32 hn] at this; omega)
theorem own_cfl {n : Nat} (h : 1 ≤ n) (h' : n ≤ 10) : own_ushr (Int32.ofNat n - Int32.ofNat (2 * n)) 31 = 1 := by
  have : n = 1 ∨ n = 2 ∨ n = 3 ∨ n = 4 ∨ n = 5 ∨ n = 6 ∨ n = 7 ∨ n = 8 ∨ n = 9 ∨ n = 10 := by omega
  rcases this with rfl | rfl | rfl | rfl | rfl | rfl | rfl | rfl | rfl | rfl <;> decide
theorem own_first : ∀ cs : List Int32, (∃ c ∈ cs, (255 : Int32) < c) → ∃ k, k < cs.length ∧ (255 : Int32) < cs.getD k 0 ∧ ∀ i, i < k → ¬ (255 : Int32) < cs.getD i 0
  | [], h => by obtain ⟨c, h, -⟩ := h; cases h
  | c :: cs, h => by
    by_cases q : (255 : Int32) < c
    · exact ⟨0, by simp, by simpa using q, fun i hi => absurd hi (Nat.not_lt_zero i)⟩
    · obtain ⟨d, hd, hq⟩ := h
      have hd' : d ∈ cs := (List.mem_cons.mp hd).elim (fun e => absurd (e ▸ hq) q) id
      obtain ⟨k, h1, h2, h3⟩ := own_first cs ⟨d, hd', hq⟩
      refine ⟨k + 1, by simp; omega, by simpa using h2, fun i hi => ?_⟩
      cases i with
      | zero => simpa using q
      | succ i => simpa using h3 i (by omega)
theorem own_mem {cs : List Int32} {P : Int32 → Prop} {k : Nat} (h : ∀ c ∈ cs, P c) (hk : k < cs.length) : P (cs.getD k 0) := by
  rw [List.getD, List.getElem?_eq_getElem hk]; exact h _ (List.getElem_mem hk)
theorem own_c16id {x : Int32} (h : ¬ x < 0) (h' : ¬ (65535 : Int32) < x) : own_c16 x = x := by
  rw [Int32.lt_iff_toInt_lt, show (0 : Int32).toInt = 0 by decide] at h
  rw [Int32.lt_iff_toInt_lt, show (65535 : Int32).toInt = 65535 by decide] at h'
  have q := c_i2c x
  apply Int32.toInt_inj.mp
  show x.toUInt32.toUInt16.toUInt32.toInt32.toInt = x.toInt
  omega
theorem own_StrWide {Z : State} {h : Heap} {x t : Addr} {kb : ClassId} {cs : List Int32} (E : Exa Z h x "java/lang/String") (V : Fld Z h x "java/lang/String" "value" "[B" (.ref t)) (C : Fld Z h x "java/lang/String" "coder" "B" (.int 1)) (A : own_Arr Z h t kb .byte (StrChars.Road.wideBytes cs)) (hw : ∃ c ∈ cs, (255 : Int32) < c) (hp : ∀ c ∈ cs, ¬ c < 0 ∧ ¬ (65535 : Int32) < c) (hl : cs.length ≤ 4000) : own_Str Z h x t cs :=
  ⟨E, V, kb, _, _, 1, C, A.arv (d := .int 0) rfl, Or.inr ⟨rfl, by rw [own_wlen], rfl, hw⟩, hp, hl⟩
def own_U16 (Z : State) : Prop := Sta Z Z.heap "java/lang/StringUTF16" "$assertionsDisabled" "Z" (.int 1) ∧ Sta Z Z.heap "java/lang/StringUTF16" "HI_BYTE_SHIFT" "I" (.int 0) ∧ Sta Z Z.heap "java/lang/StringUTF16" "LO_BYTE_SHIFT" "I" (.int 8)
theorem dd_jdk_52_method_4_0 : decode jdk_52_method_4_code 0 = .ok (.getstatic 44, 3) := by decide +kernel
theorem dd_jdk_52_method_4_3 : decode jdk_52_method_4_code 3 = .ok (.ifCond .ne 25, 3) := by decide +kernel
theorem dd_jdk_52_method_4_28 : decode jdk_52_method_4_code 28 = .ok (.iload_n 1, 1) := by decide +kernel
theorem dd_jdk_52_method_4_29 : decode jdk_52_method_4_code 29 = .ok (.iconst 1, 1) := by decide +kernel
theorem dd_jdk_52_method_4_30 : decode jdk_52_method_4_code 30 = .ok (.ishl, 1) := by decide +kernel
theorem dd_jdk_52_method_4_31 : decode jdk_52_method_4_code 31 = .ok (.istore_n 1, 1) := by decide +kernel
theorem dd_jdk_52_method_4_32 : decode jdk_52_method_4_code 32 = .ok (.aload_n 0, 1) := by decide +kernel
theorem dd_jdk_52_method_4_33 : decode jdk_52_method_4_code 33 = .ok (.iload_n 1, 1) := by decide +kernel
theorem dd_jdk_52_method_4_34 : decode jdk_52_method_4_code 34 = .ok (.iinc 1 1, 3) := by decide +kernel
theorem dd_jdk_52_method_4_37 : decode jdk_52_method_4_code 37 = .ok (.iload_n 2, 1) := by decide +kernel
theorem dd_jdk_52_method_4_38 : decode jdk_52_method_4_code 38 = .ok (.getstatic 59, 3) := by decide +kernel
theorem dd_jdk_52_method_4_41 : decode jdk_52_method_4_code 41 = .ok (.ishr, 1) := by decide +kernel
theorem dd_jdk_52_method_4_42 : decode jdk_52_method_4_code 42 = .ok (.i2b, 1) := by decide +kernel
theorem dd_jdk_52_method_4_43 : decode jdk_52_method_4_code 43 = .ok (.bastore, 1) := by decide +kernel
theorem dd_jdk_52_method_4_44 : decode jdk_52_method_4_code 44 = .ok (.aload_n 0, 1) := by decide +kernel
theorem dd_jdk_52_method_4_45 : decode jdk_52_method_4_code 45 = .ok (.iload_n 1, 1) := by decide +kernel
theorem dd_jdk_52_method_4_46 : decode jdk_52_method_4_code 46 = .ok (.iload_n 2, 1) := by decide +kernel
theorem dd_jdk_52_method_4_47 : decode jdk_52_method_4_code 47 = .ok (.getstatic 63, 3) := by decide +kernel
theorem dd_jdk_52_method_4_50 : decode jdk_52_method_4_code 50 = .ok (.ishr, 1) := by decide +kernel
theorem dd_jdk_52_method_4_51 : decode jdk_52_method_4_code 51 = .ok (.i2b, 1) := by decide +kernel
theorem dd_jdk_52_method_4_52 : decode jdk_52_method_4_code 52 = .ok (.bastore, 1) := by decide +kernel
theorem dd_jdk_52_method_4_53 : decode jdk_52_method_4_code 53 = .ok (.return_, 1) := by decide +kernel
theorem pn_1 : plainName "java/lang/StringUTF16" = true := by first | (simp [plainName, overriddenIn]; done) | decide +kernel
theorem ef_own_put16 (m : MethodId) (x0 : Addr) (x1 : Int32) (x2 : Int32) : entryFrame m #[(.ref x0), (.int x1), (.int x2)] 3 = mkF m 0 #[.val (.ref x0), .val (.int x1), .val (.int x2)] [] := by first | (simp [entryFrame, mkF, argsToLocals, Value.category]; done) | rfl
set_option maxRecDepth 65536 in
set_option maxHeartbeats 40000000 in
theorem own_put16 (l : Launch) (Z : State) (a0 : Array Value) (hw : ∀ d ∈ tables_1, d.before a0 Z = true) (EWf : own_EW Z own_EL) (n0 : Nat) (b : Addr) (kb : ClassId) (vs : List Value) (i : Nat) (c1 : Int32) (h0 : Heap) (O0 : Old Z n0 h0) (n_b : n0 ≤ b) (p_A : own_Arr Z h0 b kb .byte vs) (p_i : 2 * i + 1 < vs.length) (p_s : i < 2 ^ 20) (U : own_U16 Z) :
    own_Met l Z own_EL [b] false n0 (⟨"java/lang/StringUTF16", "putChar", "([BII)V"⟩ : MethodName) jdk_52_method_4_code 3 none ({ frames := 0, cells := 0, slots := 0, locals := 0 } : Room) #[(.ref b), (.int (Int32.ofNat i)), (.int c1)] h0 (fun v h => v = none ∧ Keep h0 h [b] ∧ own_Arr Z h b kb .byte ((vs.set (2 * i) (.int (StrChars.lo8 c1))).set (2 * i + 1) (.int (StrChars.hi8 c1)))) := by
  refine own_enter (own := "java/lang/StringUTF16") (nm := "putChar") (plainFor_of_name pn_1) rfl rfl O0 EWf ?_
  have W : ∀ (k : Nat) {d : Jvm.Cond}, tables_1[k]? = some d → d.before a0 Z = true := fun k d q => hw d (List.mem_of_getElem? q)
  intro G p e s m below meth c T0 hGe X0
  rw [ef_own_put16 m b ((Int32.ofNat i)) c1]
  refine own_getS (pc' := 3) X0 (W 151 rfl) Via.refl (own_sta X0 U.1) dd_jdk_52_method_4_0 rfl ?_
  intro T1 X1
  refine own_ifY (pc' := 28) X1 dd_jdk_52_method_4_3 ((feq (by decide)).2) (by decide) (by decide) ?_
  refine own_iload_n (pc' := 29) X1 dd_jdk_52_method_4_28 rfl rfl ?_
  refine own_iconst (pc' := 30) X1 dd_jdk_52_method_4_29 rfl (z := (1 : Int32)) (by decide) ?_
  refine own_ishl (pc' := 31) X1 dd_jdk_52_method_4_30 rfl (r := (Int32.ofNat (2 * i))) (own_shl1 p_s) ?_
  refine own_istore_n (pc' := 32) X1 dd_jdk_52_method_4_31 rfl (Ls' := #[.val (.ref b), .val (.int (Int32.ofNat (2 * i))), .val (.int c1)]) rfl ?_
  refine own_aload_n (pc' := 33) X1 dd_jdk_52_method_4_32 rfl rfl rfl ?_
  refine own_iload_n (pc' := 34) X1 dd_jdk_52_method_4_33 rfl rfl ?_
  refine own_iinc (pc' := 37) X1 dd_jdk_52_method_4_34 rfl rfl (z := (1 : Int32)) (by decide) (r := (Int32.ofNat (2 * i + 1))) (own_inc _) (Ls' := #[.val (.ref b), .val (.int (Int32.ofNat (2 * i + 1))), .val (.int c1)]) rfl ?_
  refine own_iload_n (pc' := 38) X1 dd_jdk_52_method_4_37 rfl rfl ?_
  refine own_getS (pc' := 41) X1 (W 152 rfl) Via.refl (own_sta X1 U.2.1) dd_jdk_52_method_4_38 rfl ?_
  intro T2 X2
  refine own_ishr (pc' := 42) X2 dd_jdk_52_method_4_41 rfl (r := c1) (own_shr0 c1) ?_
  refine own_i2b (pc' := 43) X2 dd_jdk_52_method_4_42 rfl ?_
  refine own_bastore (pc' := 44) (i := (2 * i)) (y := (own_b8 c1)) X2 p_A (own_i32 (by omega)) (by omega) (own_narb _) n_b (List.mem_of_getElem? (i := 0) rfl) dd_jdk_52_method_4_43 rfl ?_
  intro T3 h3 X3 K3 A3
  refine own_aload_n (pc' := 45) X3 dd_jdk_52_method_4_44 rfl rfl rfl ?_
  refine own_iload_n (pc' := 46) X3 dd_jdk_52_method_4_45 rfl rfl ?_
  refine own_iload_n (pc' := 47) X3 dd_jdk_52_method_4_46 rfl rfl ?_
  refine own_getS (pc' := 50) X3 (W 153 rfl) Via.refl (own_sta X3 U.2.2) dd_jdk_52_method_4_47 rfl ?_
  intro T4 X4
  refine own_ishr (pc' := 51) X4 dd_jdk_52_method_4_50 rfl (r := (c1 >>> ((8 : Int32) &&& 31))) rfl ?_
  refine own_i2b (pc' := 52) X4 dd_jdk_52_method_4_51 rfl ?_
  refine own_bastore (pc' := 53) (i := (2 * i + 1)) (y := (own_b8 (c1 >>> ((8 : Int32) &&& 31)))) X4 A3 (own_i32 (by omega)) (by simp; omega) (own_narb _) n_b (List.mem_of_getElem? (i := 0) rfl) dd_jdk_52_method_4_52 rfl ?_
  intro T5 h5 X5 K5 A5
  exact own_retV X5 hGe rfl dd_jdk_52_method_4_53 (by decide) (by decide) ⟨rfl, (((Keep.refl h0 [b]).trans K3 (allS (Or.inl (List.mem_of_getElem? (i := 0) rfl)) all0)).trans K5 (allS (Or.inl (List.mem_of_getElem? (i := 0) rfl)) all0)), A5⟩
theorem dd_jdk_52_method_3_0 : decode jdk_52_method_3_code 0 = .ok (.iload_n 0, 1) := by decide +kernel
theorem dd_jdk_52_method_3_1 : decode jdk_52_method_3_code 1 = .ok (.ifCond .ge 11, 3) := by decide +kernel
theorem dd_jdk_52_method_3_12 : decode jdk_52_method_3_code 12 = .ok (.iload_n 0, 1) := by decide +kernel
theorem dd_jdk_52_method_3_13 : decode jdk_52_method_3_code 13 = .ok (.ldc 20, 2) := by decide +kernel
theorem dd_jdk_52_method_3_15 : decode jdk_52_method_3_code 15 = .ok (.if_icmp .lt 40, 3) := by decide +kernel
theorem dd_jdk_52_method_3_55 : decode jdk_52_method_3_code 55 = .ok (.iload_n 0, 1) := by decide +kernel
theorem dd_jdk_52_method_3_56 : decode jdk_52_method_3_code 56 = .ok (.iconst 1, 1) := by decide +kernel
theorem dd_jdk_52_method_3_57 : decode jdk_52_method_3_code 57 = .ok (.ishl, 1) := by decide +kernel
theorem dd_jdk_52_method_3_58 : decode jdk_52_method_3_code 58 = .ok (.ireturn, 1) := by decide +kernel
theorem ef_own_nbl (m : MethodId) (x0 : Int32) : entryFrame m #[(.int x0)] 1 = mkF m 0 #[.val (.int x0)] [] := by first | (simp [entryFrame, mkF, argsToLocals, Value.category]; done) | rfl
set_option maxRecDepth 65536 in
set_option maxHeartbeats 40000000 in
theorem own_nbl (l : Launch) (Z : State) (a0 : Array Value) (hw : ∀ d ∈ tables_1, d.before a0 Z = true) (EWf : own_EW Z own_EL) (n0 : Nat) (n : Nat) (h0 : Heap) (O0 : Old Z n0 h0) (p_n : n ≤ 10) :
    own_Met l Z own_EL [] false n0 (⟨"java/lang/StringUTF16", "newBytesLength", "(I)I"⟩ : MethodName) jdk_52_method_3_code 1 (some .int) ({ frames := 0, cells := 0, slots := 0, locals := 0 } : Room) #[(.int (Int32.ofNat n))] h0 (fun v h => v = some (.int (Int32.ofNat (2 * n))) ∧ h0 = h) := by
  refine own_enter (own := "java/lang/StringUTF16") (nm := "newBytesLength") (plainFor_of_name pn_1) rfl rfl O0 EWf ?_
  have W : ∀ (k : Nat) {d : Jvm.Cond}, tables_1[k]? = some d → d.before a0 Z = true := fun k d q => hw d (List.mem_of_getElem? q)
  intro G p e s m below meth c T0 hGe X0
  rw [ef_own_nbl m ((Int32.ofNat n))]
  refine own_iload_n (pc' := 1) X0 dd_jdk_52_method_3_0 rfl rfl ?_
  refine own_ifY (pc' := 12) X0 dd_jdk_52_method_3_1 ((flt (own_i32le (n := 0) (Nat.zero_le _) (by omega))).2.1) (by decide) (by decide) ?_
  refine own_iload_n (pc' := 13) X0 dd_jdk_52_method_3_12 rfl rfl ?_
  refine own_ldcI (pc' := 15) X0 (v := (1073741823 : Int32)) (W 147 rfl) dd_jdk_52_method_3_13 rfl ?_
  refine own_icmpY (pc' := 55) X0 dd_jdk_52_method_3_15 ((tlt (own_i32lt (n := 1073741823) (by omega) (by decide))).1) (by decide) (by decide) ?_
  refine own_iload_n (pc' := 56) X0 dd_jdk_52_method_3_55 rfl rfl ?_
  refine own_iconst (pc' := 57) X0 dd_jdk_52_method_3_56 rfl (z := (1 : Int32)) (by decide) ?_
  refine own_ishl (pc' := 58) X0 dd_jdk_52_method_3_57 rfl (r := (Int32.ofNat (2 * n))) (own_shl1 (by omega)) ?_
  exact own_ret X0 hGe (t := .int) rfl rfl (Or.inl ⟨rfl, by simp, _, rfl⟩) dd_jdk_52_method_3_58 (by decide) (by decide) ⟨rfl, rfl⟩ nofun
theorem dd_jdk_52_method_2_0 : decode jdk_52_method_2_code 0 = .ok (.iload_n 0, 1) := by decide +kernel
theorem dd_jdk_52_method_2_1 : decode jdk_52_method_2_code 1 = .ok (.invokestatic 11, 3) := by decide +kernel
theorem pd_1 : parseMethodDescriptor "(I)I" = some ⟨[.int], some .int⟩ := by decide +kernel
theorem dd_jdk_52_method_2_4 : decode jdk_52_method_2_code 4 = .ok (.newarray .byte, 2) := by decide +kernel
theorem dd_jdk_52_method_2_6 : decode jdk_52_method_2_code 6 = .ok (.areturn, 1) := by decide +kernel
theorem ef_own_nbf (m : MethodId) (x0 : Int32) : entryFrame m #[(.int x0)] 1 = mkF m 0 #[.val (.int x0)] [] := by first | (simp [entryFrame, mkF, argsToLocals, Value.category]; done) | rfl
set_option maxRecDepth 65536 in
set_option maxHeartbeats 40000000 in
theorem own_nbf (l : Launch) (Z : State) (a0 : Array Value) (hw : ∀ d ∈ tables_1, d.before a0 Z = true) (EWf : own_EW Z own_EL) (n0 : Nat) (n : Nat) (h0 : Heap) (O0 : Old Z n0 h0) (p_n : n ≤ 10) :
    own_Met l Z own_EL [] true n0 (⟨"java/lang/StringUTF16", "newBytesFor", "(I)[B"⟩ : MethodName) jdk_52_method_2_code 1 (some (.array .byte)) ({ frames := 1, cells := 1, slots := 20, locals := 12 } : Room) #[(.int (Int32.ofNat n))] h0 (fun v h => ∃ (b : Addr) (kb : ClassId), v = some (.ref b) ∧ Keep h0 h [] ∧ h0.size ≤ b ∧ own_Arr Z h b kb .byte (List.replicate (2 * n) (.int 0))) := by
  refine own_enter (own := "java/lang/StringUTF16") (nm := "newBytesFor") (plainFor_of_name pn_1) rfl rfl O0 EWf ?_
  have W : ∀ (k : Nat) {d : Jvm.Cond}, tables_1[k]? = some d → d.before a0 Z = true := fun k d q => hw d (List.mem_of_getElem? q)
  intro G p e s m below meth c T0 hGe X0
  rw [ef_own_nbf m ((Int32.ofNat n))]
  refine own_iload_n (pc' := 1) X0 dd_jdk_52_method_2_0 rfl rfl ?_
  refine own_callSM (pc' := 4) (cells' := 0) (slots' := 0) (argsL := [(.int (Int32.ofNat n))]) (rest := []) (W := 0) (y := (⟨"java/lang/StringUTF16", "newBytesLength", "(I)I"⟩ : MethodName)) X0 (W 144 rfl) (W 145 rfl) (by decide) (own_nbl l Z a0 hw EWf n0 n h0 (own_old X0) p_n) all0 (W 146 rfl) (W 23 rfl) (by decide) (by decide) rfl (lenOf pd_1 rfl) rfl rfl dd_jdk_52_method_2_1 rfl rfl rfl rfl (by decide) (by decide) ?_
  intro v1 T1 h1 s1 X1 q1 r1
  obtain ⟨rfl, rfl⟩ := q1
  show G T1 (mkF m 4 #[.val (.int (Int32.ofNat n))] [(.int (Int32.ofNat (2 * n)))])
  refine own_newarrayK (pc' := 6) (cells' := 1) (slots' := 20) (n := (2 * n)) (cap := 20) (dv := (.int 0)) X1 (W 25 rfl) rfl rfl (own_i32 (by omega)) (by omega) dd_jdk_52_method_2_4 rfl rfl (by omega) (by decide) rfl (by decide) (by decide) ?_
  intro T2 h2 a2 k2 g2 X2 K2 A2
  have n_a2 : n0 ≤ a2 := by rw [g2]; exact own_n0 X1
  have age_a2 : h0.size ≤ a2 := Nat.le_trans (Nat.le_refl _) (Nat.le_of_eq (Eq.symm g2))
  exact own_ret X2 hGe (t := (.array .byte)) rfl rfl (Or.inr (Or.inr (Or.inr (Or.inr ⟨rfl, rfl, rfl⟩)))) dd_jdk_52_method_2_6 (by decide) (by decide) ⟨a2, _, rfl, ((Keep.refl h0 []).trans K2 all0), age_a2, A2⟩ (fun _ b q => by cases q; exact (List.mem_of_getElem? (i := 0) rfl))
theorem dd_jdk_52_method_14_8 : decode jdk_52_method_14_code 8 = .ok (.iload 4, 2) := by decide +kernel
theorem dd_jdk_52_method_14_10 : decode jdk_52_method_14_code 10 = .ok (.iload_n 2, 1) := by decide +kernel
theorem dd_jdk_52_method_14_11 : decode jdk_52_method_14_code 11 = .ok (.if_icmp .ge 21, 3) := by decide +kernel
theorem dd_jdk_52_method_14_14 : decode jdk_52_method_14_code 14 = .ok (.aload_n 3, 1) := by decide +kernel
theorem dd_jdk_52_method_14_15 : decode jdk_52_method_14_code 15 = .ok (.iload 4, 2) := by decide +kernel
theorem dd_jdk_52_method_14_17 : decode jdk_52_method_14_code 17 = .ok (.aload_n 0, 1) := by decide +kernel
theorem dd_jdk_52_method_14_18 : decode jdk_52_method_14_code 18 = .ok (.iload_n 1, 1) := by decide +kernel
theorem dd_jdk_52_method_14_19 : decode jdk_52_method_14_code 19 = .ok (.caload, 1) := by decide +kernel
theorem dd_jdk_52_method_14_20 : decode jdk_52_method_14_code 20 = .ok (.invokestatic 111, 3) := by decide +kernel
theorem pd_2 : parseMethodDescriptor "([BII)V" = some ⟨[(.array .byte), .int, .int], none⟩ := by decide +kernel
theorem dd_jdk_52_method_14_23 : decode jdk_52_method_14_code 23 = .ok (.iinc 1 1, 3) := by decide +kernel
theorem dd_jdk_52_method_14_26 : decode jdk_52_method_14_code 26 = .ok (.iinc 4 1, 3) := by decide +kernel
theorem dd_jdk_52_method_14_29 : decode jdk_52_method_14_code 29 = .ok (.goto (-21), 3) := by decide +kernel
set_option maxRecDepth 65536 in
set_option maxHeartbeats 40000000 in
theorem own_tb_l {G : State → JFrame → Prop} {p : Program} {l : Launch} {e : Env} {s0 : State} {m : MethodId} {args : Array Value} {below : List Frame} {meth : Method} {c : Code} {Z : State} {a0 : Array Value} {n0 : Nat} {hS : Heap} (hw : ∀ d ∈ tables_1, d.before a0 Z = true) (EWf : own_EW Z own_EL) (a b : Addr) (ka kb : ClassId) (cs : List Int32) (n : Nat) (p_a : own_Arr Z hS a ka .char (cs.map Value.int)) (n_b : n0 ≤ b) (p_ne : a ≠ b) (p_l : cs.length = n) (p_n : n ≤ 10) (U : own_U16 Z)
    (kont : ∀ {s : State} {T0 : State} {h0 : Heap} , own_At G p l e ({ frames := 2, cells := 1, slots := 20, locals := 29 } : Room) s0 s own_EL [b] m args below meth c Z n0 "java/lang/StringUTF16" "toBytes" jdk_52_method_14_code 5 (some (.array .byte)) T0 h0 1 20 → Keep hS h0 [b] → (own_Arr Z h0 b kb .byte (own_wb cs n n)) → G T0 (mkF m 32 #[.val (.ref a), .val (.int (Int32.ofNat n)), .val (.int (Int32.ofNat n)), .val (.ref b), .val (.int (Int32.ofNat n))] [])) :
    ∀ (r i : Nat), i + r = n → ∀ {s : State} {T0 : State} {h0 : Heap}  (X0 : own_At G p l e ({ frames := 2, cells := 1, slots := 20, locals := 29 } : Room) s0 s own_EL [b] m args below meth c Z n0 "java/lang/StringUTF16" "toBytes" jdk_52_method_14_code 5 (some (.array .byte)) T0 h0 1 20) (KK : Keep hS h0 [b]) (p_A : own_Arr Z h0 b kb .byte (own_wb cs i n)), G T0 (mkF m 8 #[.val (.ref a), .val (.int (Int32.ofNat i)), .val (.int (Int32.ofNat n)), .val (.ref b), .val (.int (Int32.ofNat i))] []) := by
  have W : ∀ (k : Nat) {d : Jvm.Cond}, tables_1[k]? = some d → d.before a0 Z = true := fun k d q => hw d (List.mem_of_getElem? q)
  intro r
  induction r with
  | zero =>
    intro i hi s T0 h0  X0 KK p_A
    obtain rfl : n = i := by omega
    refine own_iload (pc' := 10) X0 dd_jdk_52_method_14_8 rfl rfl ?_
    refine own_iload_n (pc' := 11) X0 dd_jdk_52_method_14_10 rfl rfl ?_
    refine own_icmpY (pc' := 32) X0 dd_jdk_52_method_14_11 ((flt (own_i32le (Nat.le_refl _) (by omega))).2.1) (by decide) (by decide) ?_
    exact kont X0 KK p_A
  | succ r ih =>
    intro i hi s T0 h0  X0 KK p_A
    refine own_iload (pc' := 10) X0 dd_jdk_52_method_14_8 rfl rfl ?_
    refine own_iload_n (pc' := 11) X0 dd_jdk_52_method_14_10 rfl rfl ?_
    refine own_icmpN (pc' := 14) X0 dd_jdk_52_method_14_11 rfl ((tlt (own_i32lt (show i < n by omega) (by omega))).2.1) ?_
    refine own_aload_n (pc' := 15) X0 dd_jdk_52_method_14_14 rfl rfl rfl ?_
    refine own_iload (pc' := 17) X0 dd_jdk_52_method_14_15 rfl rfl ?_
    refine own_aload_n (pc' := 18) X0 dd_jdk_52_method_14_17 rfl rfl rfl ?_
    refine own_iload_n (pc' := 19) X0 dd_jdk_52_method_14_18 rfl rfl ?_
    have f1 := (p_a.keep KK (ninS p_ne nin0))
    refine own_caload (pc' := 20) (i := i) (v := (.int (cs.getD i 0))) X0 f1 (own_i32 (by omega)) (own_mapI (by omega)) dd_jdk_52_method_14_19 rfl ?_
    refine own_callSM (pc' := 23) (cells' := 1) (slots' := 20) (argsL := [(.ref b), (.int (Int32.ofNat i)), (.int (cs.getD i 0))]) (rest := []) (W := 0) (y := (⟨"java/lang/StringUTF16", "putChar", "([BII)V"⟩ : MethodName)) X0 (W 148 rfl) (W 149 rfl) (by decide) (own_put16 l Z a0 hw EWf n0 b kb (own_wb cs i n) i (cs.getD i 0) h0 (own_old X0) n_b p_A (by rw [own_wb_len p_l (by omega)]; omega) (by omega) U) (allS (List.mem_of_getElem? (i := 0) rfl) all0) (W 150 rfl) (W 23 rfl) (by decide) (by decide) rfl (lenOf pd_2 rfl) rfl rfl dd_jdk_52_method_14_20 rfl rfl rfl rfl (by decide) (by decide) ?_
    intro v2 T2 h2 s2 X2 q2 r2
    obtain ⟨rfl, K2, A2⟩ := q2
    show G T2 (mkF m 23 #[.val (.ref a), .val (.int (Int32.ofNat i)), .val (.int (Int32.ofNat n)), .val (.ref b), .val (.int (Int32.ofNat i))] [])
    refine own_iinc (pc' := 26) X2 dd_jdk_52_method_14_23 rfl rfl (z := (1 : Int32)) (by decide) (r := (Int32.ofNat (i + 1))) (own_inc i) (Ls' := #[.val (.ref a), .val (.int (Int32.ofNat (i + 1))), .val (.int (Int32.ofNat n)), .val (.ref b), .val (.int (Int32.ofNat i))]) rfl ?_
    refine own_iinc (pc' := 29) X2 dd_jdk_52_method_14_26 rfl rfl (z := (1 : Int32)) (by decide) (r := (Int32.ofNat (i + 1))) (own_inc i) (Ls' := #[.val (.ref a), .val (.int (Int32.ofNat (i + 1))), .val (.int (Int32.ofNat n)), .val (.ref b), .val (.int (Int32.ofNat (i + 1)))]) rfl ?_
    refine own_goto (pc' := 8) X2 dd_jdk_52_method_14_29 (by decide) (by decide) ?_
    refine ih (i + 1) (by omega) X2 (((Keep.refl hS [b]).trans KK (allS (Or.inl (List.mem_of_getElem? (i := 0) rfl)) all0)).trans K2 (allS (Or.inl (List.mem_of_getElem? (i := 0) rfl)) all0)) (own_wb_step p_l (show i < n by omega) ▸ A2)
theorem dd_jdk_52_method_14_0 : decode jdk_52_method_14_code 0 = .ok (.iload_n 2, 1) := by decide +kernel
theorem dd_jdk_52_method_14_1 : decode jdk_52_method_14_code 1 = .ok (.invokestatic 107, 3) := by decide +kernel
theorem pd_3 : parseMethodDescriptor "(I)[B" = some ⟨[.int], some (.array .byte)⟩ := by decide +kernel
theorem dd_jdk_52_method_14_4 : decode jdk_52_method_14_code 4 = .ok (.astore_n 3, 1) := by decide +kernel
theorem dd_jdk_52_method_14_5 : decode jdk_52_method_14_code 5 = .ok (.iconst 0, 1) := by decide +kernel
theorem dd_jdk_52_method_14_6 : decode jdk_52_method_14_code 6 = .ok (.istore 4, 2) := by decide +kernel
theorem dd_jdk_52_method_14_32 : decode jdk_52_method_14_code 32 = .ok (.aload_n 3, 1) := by decide +kernel
theorem dd_jdk_52_method_14_33 : decode jdk_52_method_14_code 33 = .ok (.areturn, 1) := by decide +kernel
theorem ef_own_tb (m : MethodId) (x0 : Addr) (x1 : Int32) (x2 : Int32) : entryFrame m #[(.ref x0), (.int x1), (.int x2)] 5 = mkF m 0 #[.val (.ref x0), .val (.int x1), .val (.int x2), .unset, .unset] [] := by first | (simp [entryFrame, mkF, argsToLocals, Value.category]; done) | rfl
set_option maxRecDepth 65536 in
set_option maxHeartbeats 40000000 in
theorem own_tb (l : Launch) (Z : State) (a0 : Array Value) (hw : ∀ d ∈ tables_1, d.before a0 Z = true) (EWf : own_EW Z own_EL) (n0 : Nat) (a : Addr) (ka : ClassId) (cs : List Int32) (n : Nat) (h0 : Heap) (O0 : Old Z n0 h0) (p_a : own_Arr Z h0 a ka .char (cs.map Value.int)) (p_l : cs.length = n) (p_n : n ≤ 10) (U : own_U16 Z) :
    own_Met l Z own_EL [] false n0 (⟨"java/lang/StringUTF16", "toBytes", "([CII)[B"⟩ : MethodName) jdk_52_method_14_code 5 (some (.array .byte)) ({ frames := 2, cells := 1, slots := 20, locals := 29 } : Room) #[(.ref a), (.int (0 : Int32)), (.int (Int32.ofNat n))] h0 (fun v h => ∃ (b : Addr) (kb : ClassId), v = some (.ref b) ∧ Keep h0 h [] ∧ h0.size ≤ b ∧ own_Arr Z h b kb .byte (StrChars.Road.wideBytes cs)) := by
  refine own_enter (own := "java/lang/StringUTF16") (nm := "toBytes") (plainFor_of_name pn_1) rfl rfl O0 EWf ?_
  have W : ∀ (k : Nat) {d : Jvm.Cond}, tables_1[k]? = some d → d.before a0 Z = true := fun k d q => hw d (List.mem_of_getElem? q)
  intro G p e s m below meth c T0 hGe X0
  rw [ef_own_tb m a ((0 : Int32)) ((Int32.ofNat n))]
  refine own_iload_n (pc' := 1) X0 dd_jdk_52_method_14_0 rfl rfl ?_
  refine own_callSM (pc' := 4) (cells' := 1) (slots' := 20) (argsL := [(.int (Int32.ofNat n))]) (rest := []) (W := 0) (y := (⟨"java/lang/StringUTF16", "newBytesFor", "(I)[B"⟩ : MethodName)) X0 (W 141 rfl) (W 142 rfl) (by decide) (own_nbf l Z a0 hw EWf n0 n h0 (own_old X0) p_n) all0 (W 143 rfl) (W 23 rfl) (by decide) (by decide) rfl (lenOf pd_3 rfl) rfl rfl dd_jdk_52_method_14_1 rfl rfl rfl rfl (by decide) (by decide) ?_
  intro v1 T1 h1 s1 X1 q1 r1
  obtain ⟨b1, k1, rfl, K1, z1, A1⟩ := q1
  have X1' := own_addP X1 (r1 rfl b1 rfl)
  show G T1 (mkF m 4 #[.val (.ref a), .val (.int (0 : Int32)), .val (.int (Int32.ofNat n)), .unset, .unset] [(.ref b1)])
  refine own_astore_n (pc' := 5) X1' dd_jdk_52_method_14_4 rfl rfl (Ls' := #[.val (.ref a), .val (.int (0 : Int32)), .val (.int (Int32.ofNat n)), .val (.ref b1), .unset]) rfl ?_
  refine own_iconst (pc' := 6) X1' dd_jdk_52_method_14_5 rfl (z := (0 : Int32)) (by decide) ?_
  refine own_istore (pc' := 8) X1' dd_jdk_52_method_14_6 rfl (Ls' := #[.val (.ref a), .val (.int (0 : Int32)), .val (.int (Int32.ofNat n)), .val (.ref b1), .val (.int (0 : Int32))]) rfl ?_
  have age_b1 : h0.size ≤ b1 := Nat.le_trans (Nat.le_refl _) z1
  have n_b : n0 ≤ b1 := Nat.le_trans (own_n0 X0) age_b1
  have f2 := (p_a.keep K1 nin0)
  have ne_a_b1 : a ≠ b1 := own_ne p_a.lt (Nat.le_refl _) z1
  refine own_tb_l hw EWf a b1 ka k1 cs n f2 n_b ne_a_b1 p_l p_n U (fun {sa} {Ta} {ha} Xa Ka Aa => ?_) n 0 (by omega) (own_mono X1' (by decide : 1 ≤ 1) (by decide : 20 ≤ 20) (allS (List.mem_of_getElem? (i := 0) rfl) all0)) (Keep.refl _ _) (by simpa [own_wb, StrChars.Road.wideBytes] using A1)
  rw [own_wb, Nat.sub_self, List.take_of_length_le (by omega)] at Aa
  have A2 : own_Arr Z ha b1 k1 .byte (StrChars.Road.wideBytes cs) := by simpa using Aa
  refine own_aload_n (pc' := 33) Xa dd_jdk_52_method_14_32 rfl rfl rfl ?_
  exact own_ret Xa hGe (t := (.array .byte)) rfl rfl (Or.inr (Or.inr (Or.inr (Or.inr ⟨rfl, rfl, rfl⟩)))) dd_jdk_52_method_14_33 (by decide) (by decide) ⟨b1, k1, rfl, (((Keep.refl h0 []).trans K1 all0).trans Ka (allS (Or.inr age_b1) all0)), age_b1, A2⟩ nofun
theorem dd_jdk_52_method_5_0 : decode jdk_52_method_5_code 0 = .ok (.getstatic 44, 3) := by decide +kernel
theorem dd_jdk_52_method_5_3 : decode jdk_52_method_5_code 3 = .ok (.ifCond .ne 25, 3) := by decide +kernel
theorem dd_jdk_52_method_5_28 : decode jdk_52_method_5_code 28 = .ok (.iload_n 1, 1) := by decide +kernel
theorem dd_jdk_52_method_5_29 : decode jdk_52_method_5_code 29 = .ok (.iconst 1, 1) := by decide +kernel
theorem dd_jdk_52_method_5_30 : decode jdk_52_method_5_code 30 = .ok (.ishl, 1) := by decide +kernel
theorem dd_jdk_52_method_5_31 : decode jdk_52_method_5_code 31 = .ok (.istore_n 1, 1) := by decide +kernel
theorem dd_jdk_52_method_5_32 : decode jdk_52_method_5_code 32 = .ok (.aload_n 0, 1) := by decide +kernel
theorem dd_jdk_52_method_5_33 : decode jdk_52_method_5_code 33 = .ok (.iload_n 1, 1) := by decide +kernel
theorem dd_jdk_52_method_5_34 : decode jdk_52_method_5_code 34 = .ok (.iinc 1 1, 3) := by decide +kernel
theorem dd_jdk_52_method_5_37 : decode jdk_52_method_5_code 37 = .ok (.baload, 1) := by decide +kernel
theorem dd_jdk_52_method_5_38 : decode jdk_52_method_5_code 38 = .ok (.sipush 255, 3) := by decide +kernel
theorem dd_jdk_52_method_5_41 : decode jdk_52_method_5_code 41 = .ok (.iand, 1) := by decide +kernel
theorem dd_jdk_52_method_5_42 : decode jdk_52_method_5_code 42 = .ok (.getstatic 59, 3) := by decide +kernel
theorem dd_jdk_52_method_5_45 : decode jdk_52_method_5_code 45 = .ok (.ishl, 1) := by decide +kernel
theorem dd_jdk_52_method_5_46 : decode jdk_52_method_5_code 46 = .ok (.aload_n 0, 1) := by decide +kernel
theorem dd_jdk_52_method_5_47 : decode jdk_52_method_5_code 47 = .ok (.iload_n 1, 1) := by decide +kernel
theorem dd_jdk_52_method_5_48 : decode jdk_52_method_5_code 48 = .ok (.baload, 1) := by decide +kernel
theorem dd_jdk_52_method_5_49 : decode jdk_52_method_5_code 49 = .ok (.sipush 255, 3) := by decide +kernel
theorem dd_jdk_52_method_5_52 : decode jdk_52_method_5_code 52 = .ok (.iand, 1) := by decide +kernel
theorem dd_jdk_52_method_5_53 : decode jdk_52_method_5_code 53 = .ok (.getstatic 63, 3) := by decide +kernel
theorem dd_jdk_52_method_5_56 : decode jdk_52_method_5_code 56 = .ok (.ishl, 1) := by decide +kernel
theorem dd_jdk_52_method_5_57 : decode jdk_52_method_5_code 57 = .ok (.ior, 1) := by decide +kernel
theorem dd_jdk_52_method_5_58 : decode jdk_52_method_5_code 58 = .ok (.i2c, 1) := by decide +kernel
theorem dd_jdk_52_method_5_59 : decode jdk_52_method_5_code 59 = .ok (.ireturn, 1) := by decide +kernel
theorem ef_own_get16 (m : MethodId) (x0 : Addr) (x1 : Int32) : entryFrame m #[(.ref x0), (.int x1)] 2 = mkF m 0 #[.val (.ref x0), .val (.int x1)] [] := by first | (simp [entryFrame, mkF, argsToLocals, Value.category]; done) | rfl
set_option maxRecDepth 65536 in
set_option maxHeartbeats 40000000 in
theorem own_get16 (l : Launch) (Z : State) (a0 : Array Value) (hw : ∀ d ∈ tables_1, d.before a0 Z = true) (EWf : own_EW Z own_EL) (n0 : Nat) (b : Addr) (kb : ClassId) (cs : List Int32) (k : Nat) (h0 : Heap) (O0 : Old Z n0 h0) (p_A : own_Arr Z h0 b kb .byte (StrChars.Road.wideBytes cs)) (p_k : k < cs.length) (p_s : k < 2 ^ 20) (p_c : ∀ c ∈ cs, ¬ c < 0 ∧ ¬ (65535 : Int32) < c) (U : own_U16 Z) :
    own_Met l Z own_EL [] false n0 (⟨"java/lang/StringUTF16", "getChar", "([BI)C"⟩ : MethodName) jdk_52_method_5_code 2 (some .char) ({ frames := 0, cells := 0, slots := 0, locals := 0 } : Room) #[(.ref b), (.int (Int32.ofNat k))] h0 (fun v h => v = some (.int (cs.getD k 0)) ∧ h0 = h) := by
  refine own_enter (own := "java/lang/StringUTF16") (nm := "getChar") (plainFor_of_name pn_1) rfl rfl O0 EWf ?_
  have W : ∀ (k : Nat) {d : Jvm.Cond}, tables_1[k]? = some d → d.before a0 Z = true := fun k d q => hw d (List.mem_of_getElem? q)
  intro G p e s m below meth c T0 hGe X0
  rw [ef_own_get16 m b ((Int32.ofNat k))]
  refine own_getS (pc' := 3) X0 (W 151 rfl) Via.refl (own_sta X0 U.1) dd_jdk_52_method_5_0 rfl ?_
  intro T1 X1
  refine own_ifY (pc' := 28) X1 dd_jdk_52_method_5_3 ((feq (by decide)).2) (by decide) (by decide) ?_
  refine own_iload_n (pc' := 29) X1 dd_jdk_52_method_5_28 rfl rfl ?_
  refine own_iconst (pc' := 30) X1 dd_jdk_52_method_5_29 rfl (z := (1 : Int32)) (by decide) ?_
  refine own_ishl (pc' := 31) X1 dd_jdk_52_method_5_30 rfl (r := (Int32.ofNat (2 * k))) (own_shl1 p_s) ?_
  refine own_istore_n (pc' := 32) X1 dd_jdk_52_method_5_31 rfl (Ls' := #[.val (.ref b), .val (.int (Int32.ofNat (2 * k)))]) rfl ?_
  refine own_aload_n (pc' := 33) X1 dd_jdk_52_method_5_32 rfl rfl rfl ?_
  refine own_iload_n (pc' := 34) X1 dd_jdk_52_method_5_33 rfl rfl ?_
  refine own_iinc (pc' := 37) X1 dd_jdk_52_method_5_34 rfl rfl (z := (1 : Int32)) (by decide) (r := (Int32.ofNat (2 * k + 1))) (own_inc _) (Ls' := #[.val (.ref b), .val (.int (Int32.ofNat (2 * k + 1)))]) rfl ?_
  refine own_baload (pc' := 38) (i := (2 * k)) (v := (.int (StrChars.lo8 (cs.getD k 0)))) X1 p_A (own_i32 (by omega)) (own_wlo p_k) dd_jdk_52_method_5_37 rfl ?_
  refine own_sipush (pc' := 41) X1 dd_jdk_52_method_5_38 rfl (z := (255 : Int32)) (by decide) ?_
  refine own_iand (pc' := 42) X1 dd_jdk_52_method_5_41 rfl (r := ((StrChars.lo8 (cs.getD k 0)) &&& (255 : Int32))) rfl ?_
  refine own_getS (pc' := 45) X1 (W 152 rfl) Via.refl (own_sta X1 U.2.1) dd_jdk_52_method_5_42 rfl ?_
  intro T2 X2
  refine own_ishl (pc' := 46) X2 dd_jdk_52_method_5_45 rfl (r := (((StrChars.lo8 (cs.getD k 0)) &&& (255 : Int32)) <<< ((0 : Int32) &&& 31))) rfl ?_
  refine own_aload_n (pc' := 47) X2 dd_jdk_52_method_5_46 rfl rfl rfl ?_
  refine own_iload_n (pc' := 48) X2 dd_jdk_52_method_5_47 rfl rfl ?_
  refine own_baload (pc' := 49) (i := (2 * k + 1)) (v := (.int (StrChars.hi8 (cs.getD k 0)))) X2 p_A (own_i32 (by omega)) (own_whi p_k) dd_jdk_52_method_5_48 rfl ?_
  refine own_sipush (pc' := 52) X2 dd_jdk_52_method_5_49 rfl (z := (255 : Int32)) (by decide) ?_
  refine own_iand (pc' := 53) X2 dd_jdk_52_method_5_52 rfl (r := ((StrChars.hi8 (cs.getD k 0)) &&& (255 : Int32))) rfl ?_
  refine own_getS (pc' := 56) X2 (W 153 rfl) Via.refl (own_sta X2 U.2.2) dd_jdk_52_method_5_53 rfl ?_
  intro T3 X3
  refine own_ishl (pc' := 57) X3 dd_jdk_52_method_5_56 rfl (r := (((StrChars.hi8 (cs.getD k 0)) &&& (255 : Int32)) <<< ((8 : Int32) &&& 31))) rfl ?_
  refine own_ior (pc' := 58) X3 dd_jdk_52_method_5_57 rfl (r := ((((StrChars.lo8 (cs.getD k 0)) &&& (255 : Int32)) <<< ((0 : Int32) &&& 31)) ||| (((StrChars.hi8 (cs.getD k 0)) &&& (255 : Int32)) <<< ((8 : Int32) &&& 31)))) rfl ?_
  refine own_i2c (pc' := 59) X3 dd_jdk_52_method_5_58 rfl ?_
  have e_ : (own_c16 ((((StrChars.lo8 (cs.getD k 0)) &&& (255 : Int32)) <<< ((0 : Int32) &&& 31)) ||| (((StrChars.hi8 (cs.getD k 0)) &&& (255 : Int32)) <<< ((8 : Int32) &&& 31)))) = (cs.getD k 0) := StrChars.pair_says (own_mem p_c p_k).1 (own_mem p_c p_k).2
  rw [e_]
  exact own_ret X3 hGe (t := .char) rfl (congrArg Value.int (own_c16id (own_mem p_c p_k).1 (own_mem p_c p_k).2)) (Or.inl ⟨rfl, by simp, _, rfl⟩) dd_jdk_52_method_5_59 (by decide) (by decide) ⟨rfl, rfl⟩ nofun
theorem dd_jdk_52_method_21_3 : decode jdk_52_method_21_code 3 = .ok (.iload 5, 2) := by decide +kernel
theorem dd_jdk_52_method_21_5 : decode jdk_52_method_21_code 5 = .ok (.iload 4, 2) := by decide +kernel
theorem dd_jdk_52_method_21_7 : decode jdk_52_method_21_code 7 = .ok (.if_icmp .ge 37, 3) := by decide +kernel
theorem dd_jdk_52_method_21_10 : decode jdk_52_method_21_code 10 = .ok (.aload_n 0, 1) := by decide +kernel
theorem dd_jdk_52_method_21_11 : decode jdk_52_method_21_code 11 = .ok (.iload_n 1, 1) := by decide +kernel
theorem dd_jdk_52_method_21_12 : decode jdk_52_method_21_code 12 = .ok (.caload, 1) := by decide +kernel
theorem dd_jdk_52_method_21_13 : decode jdk_52_method_21_code 13 = .ok (.istore 6, 2) := by decide +kernel
theorem dd_jdk_52_method_21_15 : decode jdk_52_method_21_code 15 = .ok (.iload 6, 2) := by decide +kernel
theorem dd_jdk_52_method_21_17 : decode jdk_52_method_21_code 17 = .ok (.sipush 255, 3) := by decide +kernel
theorem dd_jdk_52_method_21_20 : decode jdk_52_method_21_code 20 = .ok (.if_icmp .le 6, 3) := by decide +kernel
theorem dd_jdk_52_method_21_26 : decode jdk_52_method_21_code 26 = .ok (.aload_n 2, 1) := by decide +kernel
theorem dd_jdk_52_method_21_27 : decode jdk_52_method_21_code 27 = .ok (.iload_n 3, 1) := by decide +kernel
theorem dd_jdk_52_method_21_28 : decode jdk_52_method_21_code 28 = .ok (.iload 6, 2) := by decide +kernel
theorem dd_jdk_52_method_21_30 : decode jdk_52_method_21_code 30 = .ok (.i2b, 1) := by decide +kernel
theorem dd_jdk_52_method_21_31 : decode jdk_52_method_21_code 31 = .ok (.bastore, 1) := by decide +kernel
theorem dd_jdk_52_method_21_32 : decode jdk_52_method_21_code 32 = .ok (.iinc 1 1, 3) := by decide +kernel
theorem dd_jdk_52_method_21_35 : decode jdk_52_method_21_code 35 = .ok (.iinc 3 1, 3) := by decide +kernel
theorem dd_jdk_52_method_21_38 : decode jdk_52_method_21_code 38 = .ok (.iinc 5 1, 3) := by decide +kernel
theorem dd_jdk_52_method_21_41 : decode jdk_52_method_21_code 41 = .ok (.goto (-38), 3) := by decide +kernel
set_option maxRecDepth 65536 in
set_option maxHeartbeats 40000000 in
theorem own_c5_l {G : State → JFrame → Prop} {p : Program} {l : Launch} {e : Env} {s0 : State} {m : MethodId} {args : Array Value} {below : List Frame} {meth : Method} {c : Code} {Z : State} {a0 : Array Value} {n0 : Nat} {hS : Heap} (hw : ∀ d ∈ tables_1, d.before a0 Z = true) (EWf : own_EW Z own_EL) (a b : Addr) (ka kb : ClassId) (cs : List Int32) (n k : Nat) (p_a : own_Arr Z hS a ka .char (cs.map Value.int)) (n_b : n0 ≤ b) (p_ne : a ≠ b) (p_l : cs.length = n) (p_n : n ≤ 10) (p_k : k < n) (p_f : ∀ i, i < k → ¬ (255 : Int32) < cs.getD i 0)
    (kont : ∀ {s : State} {T0 : State} {h0 : Heap} (vs : List Value) (s6 : Slot), own_At G p l e ({ frames := 0, cells := 0, slots := 0, locals := 0 } : Room) s0 s own_EL [b] m args below meth c Z n0 "java/lang/StringUTF16" "compress" jdk_52_method_21_code 7 (some .int) T0 h0 0 0 → Keep hS h0 [b] → (own_Arr Z h0 b kb .byte vs) → (vs.length = n) → (s6 = .unset ∨ ∃ q : Int32, s6 = .val (.int q)) → G T0 (mkF m 3 #[.val (.ref a), .val (.int (Int32.ofNat k)), .val (.ref b), .val (.int (Int32.ofNat k)), .val (.int (Int32.ofNat n)), .val (.int (Int32.ofNat k)), s6] [])) :
    ∀ (r i : Nat), i + r = k → ∀ {s : State} {T0 : State} {h0 : Heap} (vs : List Value) (s6 : Slot) (X0 : own_At G p l e ({ frames := 0, cells := 0, slots := 0, locals := 0 } : Room) s0 s own_EL [b] m args below meth c Z n0 "java/lang/StringUTF16" "compress" jdk_52_method_21_code 7 (some .int) T0 h0 0 0) (KK : Keep hS h0 [b]) (p_A : own_Arr Z h0 b kb .byte vs) (p_v : vs.length = n) (p_s : s6 = .unset ∨ ∃ q : Int32, s6 = .val (.int q)), G T0 (mkF m 3 #[.val (.ref a), .val (.int (Int32.ofNat i)), .val (.ref b), .val (.int (Int32.ofNat i)), .val (.int (Int32.ofNat n)), .val (.int (Int32.ofNat i)), s6] []) := by
  have W : ∀ (k : Nat) {d : Jvm.Cond}, tables_1[k]? = some d → d.before a0 Z = true := fun k d q => hw d (List.mem_of_getElem? q)
  intro r
  induction r with
  | zero =>
    intro i hi s T0 h0 vs s6 X0 KK p_A p_v p_s
    obtain rfl : k = i := by omega
    exact kont vs s6 X0 KK p_A p_v p_s
  | succ r ih =>
    intro i hi s T0 h0 vs s6 X0 KK p_A p_v p_s
    rcases p_s with rfl | ⟨q6, rfl⟩
    · refine own_iload (pc' := 5) X0 dd_jdk_52_method_21_3 rfl rfl ?_
      refine own_iload (pc' := 7) X0 dd_jdk_52_method_21_5 rfl rfl ?_
      refine own_icmpN (pc' := 10) X0 dd_jdk_52_method_21_7 rfl ((tlt (own_i32lt (show i < n by omega) (by omega))).2.1) ?_
      refine own_aload_n (pc' := 11) X0 dd_jdk_52_method_21_10 rfl rfl rfl ?_
      refine own_iload_n (pc' := 12) X0 dd_jdk_52_method_21_11 rfl rfl ?_
      have f1 := (p_a.keep KK (ninS p_ne nin0))
      refine own_caload (pc' := 13) (i := i) (v := (.int (cs.getD i 0))) X0 f1 (own_i32 (by omega)) (own_mapI (by omega)) dd_jdk_52_method_21_12 rfl ?_
      refine own_istore (pc' := 15) X0 dd_jdk_52_method_21_13 rfl (Ls' := #[.val (.ref a), .val (.int (Int32.ofNat i)), .val (.ref b), .val (.int (Int32.ofNat i)), .val (.int (Int32.ofNat n)), .val (.int (Int32.ofNat i)), .val (.int (cs.getD i 0))]) rfl ?_
      refine own_iload (pc' := 17) X0 dd_jdk_52_method_21_15 rfl rfl ?_
      refine own_sipush (pc' := 20) X0 dd_jdk_52_method_21_17 rfl (z := (255 : Int32)) (by decide) ?_
      refine own_icmpY (pc' := 26) X0 dd_jdk_52_method_21_20 ((flt (p_f i (by omega))).2.2.2) (by decide) (by decide) ?_
      refine own_aload_n (pc' := 27) X0 dd_jdk_52_method_21_26 rfl rfl rfl ?_
      refine own_iload_n (pc' := 28) X0 dd_jdk_52_method_21_27 rfl rfl ?_
      refine own_iload (pc' := 30) X0 dd_jdk_52_method_21_28 rfl rfl ?_
      refine own_i2b (pc' := 31) X0 dd_jdk_52_method_21_30 rfl ?_
      refine own_bastore (pc' := 32) (i := i) (y := (own_b8 (cs.getD i 0))) X0 p_A (own_i32 (by omega)) (by omega) (own_narb _) n_b (List.mem_of_getElem? (i := 0) rfl) dd_jdk_52_method_21_31 rfl ?_
      intro T2 h2 X2 K2 A2
      refine own_iinc (pc' := 35) X2 dd_jdk_52_method_21_32 rfl rfl (z := (1 : Int32)) (by decide) (r := (Int32.ofNat (i + 1))) (own_inc i) (Ls' := #[.val (.ref a), .val (.int (Int32.ofNat (i + 1))), .val (.ref b), .val (.int (Int32.ofNat i)), .val (.int (Int32.ofNat n)), .val (.int (Int32.ofNat i)), .val (.int (cs.getD i 0))]) rfl ?_
      refine own_iinc (pc' := 38) X2 dd_jdk_52_method_21_35 rfl rfl (z := (1 : Int32)) (by decide) (r := (Int32.ofNat (i + 1))) (own_inc i) (Ls' := #[.val (.ref a), .val (.int (Int32.ofNat (i + 1))), .val (.ref b), .val (.int (Int32.ofNat (i + 1))), .val (.int (Int32.ofNat n)), .val (.int (Int32.ofNat i)), .val (.int (cs.getD i 0))]) rfl ?_
      refine own_iinc (pc' := 41) X2 dd_jdk_52_method_21_38 rfl rfl (z := (1 : Int32)) (by decide) (r := (Int32.ofNat (i + 1))) (own_inc i) (Ls' := #[.val (.ref a), .val (.int (Int32.ofNat (i + 1))), .val (.ref b), .val (.int (Int32.ofNat (i + 1))), .val (.int (Int32.ofNat n)), .val (.int (Int32.ofNat (i + 1))), .val (.int (cs.getD i 0))]) rfl ?_
      refine own_goto (pc' := 3) X2 dd_jdk_52_method_21_41 (by decide) (by decide) ?_
      exact ih (i + 1) (by omega) _ _ X2 (((Keep.refl hS [b]).trans KK (allS (Or.inl (List.mem_of_getElem? (i := 0) rfl)) all0)).trans K2 (allS (Or.inl (List.mem_of_getElem? (i := 0) rfl)) all0)) A2 (by simp; omega) (Or.inr ⟨_, rfl⟩)
    · refine own_iload (pc' := 5) X0 dd_jdk_52_method_21_3 rfl rfl ?_
      refine own_iload (pc' := 7) X0 dd_jdk_52_method_21_5 rfl rfl ?_
      refine own_icmpN (pc' := 10) X0 dd_jdk_52_method_21_7 rfl ((tlt (own_i32lt (show i < n by omega) (by omega))).2.1) ?_
      refine own_aload_n (pc' := 11) X0 dd_jdk_52_method_21_10 rfl rfl rfl ?_
      refine own_iload_n (pc' := 12) X0 dd_jdk_52_method_21_11 rfl rfl ?_
      have f3 := (p_a.keep KK (ninS p_ne nin0))
      refine own_caload (pc' := 13) (i := i) (v := (.int (cs.getD i 0))) X0 f3 (own_i32 (by omega)) (own_mapI (by omega)) dd_jdk_52_method_21_12 rfl ?_
      refine own_istore (pc' := 15) X0 dd_jdk_52_method_21_13 rfl (Ls' := #[.val (.ref a), .val (.int (Int32.ofNat i)), .val (.ref b), .val (.int (Int32.ofNat i)), .val (.int (Int32.ofNat n)), .val (.int (Int32.ofNat i)), .val (.int (cs.getD i 0))]) rfl ?_
      refine own_iload (pc' := 17) X0 dd_jdk_52_method_21_15 rfl rfl ?_
      refine own_sipush (pc' := 20) X0 dd_jdk_52_method_21_17 rfl (z := (255 : Int32)) (by decide) ?_
      refine own_icmpY (pc' := 26) X0 dd_jdk_52_method_21_20 ((flt (p_f i (by omega))).2.2.2) (by decide) (by decide) ?_
      refine own_aload_n (pc' := 27) X0 dd_jdk_52_method_21_26 rfl rfl rfl ?_
      refine own_iload_n (pc' := 28) X0 dd_jdk_52_method_21_27 rfl rfl ?_
      refine own_iload (pc' := 30) X0 dd_jdk_52_method_21_28 rfl rfl ?_
      refine own_i2b (pc' := 31) X0 dd_jdk_52_method_21_30 rfl ?_
      refine own_bastore (pc' := 32) (i := i) (y := (own_b8 (cs.getD i 0))) X0 p_A (own_i32 (by omega)) (by omega) (own_narb _) n_b (List.mem_of_getElem? (i := 0) rfl) dd_jdk_52_method_21_31 rfl ?_
      intro T4 h4 X4 K4 A4
      refine own_iinc (pc' := 35) X4 dd_jdk_52_method_21_32 rfl rfl (z := (1 : Int32)) (by decide) (r := (Int32.ofNat (i + 1))) (own_inc i) (Ls' := #[.val (.ref a), .val (.int (Int32.ofNat (i + 1))), .val (.ref b), .val (.int (Int32.ofNat i)), .val (.int (Int32.ofNat n)), .val (.int (Int32.ofNat i)), .val (.int (cs.getD i 0))]) rfl ?_
      refine own_iinc (pc' := 38) X4 dd_jdk_52_method_21_35 rfl rfl (z := (1 : Int32)) (by decide) (r := (Int32.ofNat (i + 1))) (own_inc i) (Ls' := #[.val (.ref a), .val (.int (Int32.ofNat (i + 1))), .val (.ref b), .val (.int (Int32.ofNat (i + 1))), .val (.int (Int32.ofNat n)), .val (.int (Int32.ofNat i)), .val (.int (cs.getD i 0))]) rfl ?_
      refine own_iinc (pc' := 41) X4 dd_jdk_52_method_21_38 rfl rfl (z := (1 : Int32)) (by decide) (r := (Int32.ofNat (i + 1))) (own_inc i) (Ls' := #[.val (.ref a), .val (.int (Int32.ofNat (i + 1))), .val (.ref b), .val (.int (Int32.ofNat (i + 1))), .val (.int (Int32.ofNat n)), .val (.int (Int32.ofNat (i + 1))), .val (.int (cs.getD i 0))]) rfl ?_
      refine own_goto (pc' := 3) X4 dd_jdk_52_method_21_41 (by decide) (by decide) ?_
      exact ih (i + 1) (by omega) _ _ X4 (((Keep.refl hS [b]).trans KK (allS (Or.inl (List.mem_of_getElem? (i := 0) rfl)) all0)).trans K4 (allS (Or.inl (List.mem_of_getElem? (i := 0) rfl)) all0)) A4 (by simp; omega) (Or.inr ⟨_, rfl⟩)
theorem dd_jdk_52_method_21_0 : decode jdk_52_method_21_code 0 = .ok (.iconst 0, 1) := by decide +kernel
theorem dd_jdk_52_method_21_1 : decode jdk_52_method_21_code 1 = .ok (.istore 5, 2) := by decide +kernel
theorem dd_jdk_52_method_21_23 : decode jdk_52_method_21_code 23 = .ok (.iload 5, 2) := by decide +kernel
theorem dd_jdk_52_method_21_25 : decode jdk_52_method_21_code 25 = .ok (.ireturn, 1) := by decide +kernel
theorem ef_own_c5 (m : MethodId) (x0 : Addr) (x1 : Int32) (x2 : Addr) (x3 : Int32) (x4 : Int32) : entryFrame m #[(.ref x0), (.int x1), (.ref x2), (.int x3), (.int x4)] 7 = mkF m 0 #[.val (.ref x0), .val (.int x1), .val (.ref x2), .val (.int x3), .val (.int x4), .unset, .unset] [] := by first | (simp [entryFrame, mkF, argsToLocals, Value.category]; done) | rfl
set_option maxRecDepth 65536 in
set_option maxHeartbeats 40000000 in
theorem own_c5 (l : Launch) (Z : State) (a0 : Array Value) (hw : ∀ d ∈ tables_1, d.before a0 Z = true) (EWf : own_EW Z own_EL) (n0 : Nat) (a b : Addr) (ka kb : ClassId) (cs : List Int32) (vs : List Value) (n k : Nat) (h0 : Heap) (O0 : Old Z n0 h0) (p_a : own_Arr Z h0 a ka .char (cs.map Value.int)) (p_A : own_Arr Z h0 b kb .byte vs) (n_b : n0 ≤ b) (p_ne : a ≠ b) (p_l : cs.length = n) (p_n : n ≤ 10) (p_v : vs.length = n) (p_k : k < n) (p_w : (255 : Int32) < cs.getD k 0) (p_f : ∀ i, i < k → ¬ (255 : Int32) < cs.getD i 0) :
    own_Met l Z own_EL [b] false n0 (⟨"java/lang/StringUTF16", "compress", "([CI[BII)I"⟩ : MethodName) jdk_52_method_21_code 7 (some .int) ({ frames := 0, cells := 0, slots := 0, locals := 0 } : Room) #[(.ref a), (.int (0 : Int32)), (.ref b), (.int (0 : Int32)), (.int (Int32.ofNat n))] h0 (fun v h => v = some (.int (Int32.ofNat k)) ∧ Keep h0 h [b]) := by
  refine own_enter (own := "java/lang/StringUTF16") (nm := "compress") (plainFor_of_name pn_1) rfl rfl O0 EWf ?_
  have W : ∀ (k : Nat) {d : Jvm.Cond}, tables_1[k]? = some d → d.before a0 Z = true := fun k d q => hw d (List.mem_of_getElem? q)
  intro G p e s m below meth c T0 hGe X0
  rw [ef_own_c5 m a ((0 : Int32)) b ((0 : Int32)) ((Int32.ofNat n))]
  refine own_iconst (pc' := 1) X0 dd_jdk_52_method_21_0 rfl (z := (0 : Int32)) (by decide) ?_
  refine own_istore (pc' := 3) X0 dd_jdk_52_method_21_1 rfl (Ls' := #[.val (.ref a), .val (.int (0 : Int32)), .val (.ref b), .val (.int (0 : Int32)), .val (.int (Int32.ofNat n)), .val (.int (0 : Int32)), .unset]) rfl ?_
  refine own_c5_l hw EWf a b ka kb cs n k p_a n_b p_ne p_l p_n p_k p_f (fun {sa} {Ta} {ha} vs s6 Xa Ka Aa q1 q2 => ?_) k 0 (by omega) vs _ X0 (Keep.refl _ _) p_A p_v (Or.inl rfl)
  rcases q2 with rfl | ⟨q6, rfl⟩
  · refine own_iload (pc' := 5) Xa dd_jdk_52_method_21_3 rfl rfl ?_
    refine own_iload (pc' := 7) Xa dd_jdk_52_method_21_5 rfl rfl ?_
    refine own_icmpN (pc' := 10) Xa dd_jdk_52_method_21_7 rfl ((tlt (own_i32lt p_k (by omega))).2.1) ?_
    refine own_aload_n (pc' := 11) Xa dd_jdk_52_method_21_10 rfl rfl rfl ?_
    refine own_iload_n (pc' := 12) Xa dd_jdk_52_method_21_11 rfl rfl ?_
    have f1 := (p_a.keep Ka (ninS p_ne nin0))
    refine own_caload (pc' := 13) (i := k) (v := (.int (cs.getD k 0))) Xa f1 (own_i32 (by omega)) (own_mapI (by omega)) dd_jdk_52_method_21_12 rfl ?_
    refine own_istore (pc' := 15) Xa dd_jdk_52_method_21_13 rfl (Ls' := #[.val (.ref a), .val (.int (Int32.ofNat k)), .val (.ref b), .val (.int (Int32.ofNat k)), .val (.int (Int32.ofNat n)), .val (.int (Int32.ofNat k)), .val (.int (cs.getD k 0))]) rfl ?_
    refine own_iload (pc' := 17) Xa dd_jdk_52_method_21_15 rfl rfl ?_
    refine own_sipush (pc' := 20) Xa dd_jdk_52_method_21_17 rfl (z := (255 : Int32)) (by decide) ?_
    refine own_icmpN (pc' := 23) Xa dd_jdk_52_method_21_20 rfl ((tlt p_w).2.2.2) ?_
    refine own_iload (pc' := 25) Xa dd_jdk_52_method_21_23 rfl rfl ?_
    exact own_ret Xa hGe (t := .int) rfl rfl (Or.inl ⟨rfl, by simp, _, rfl⟩) dd_jdk_52_method_21_25 (by decide) (by decide) ⟨rfl, ((Keep.refl h0 [b]).trans Ka (allS (Or.inl (List.mem_of_getElem? (i := 0) rfl)) all0))⟩ nofun
  · refine own_iload (pc' := 5) Xa dd_jdk_52_method_21_3 rfl rfl ?_
    refine own_iload (pc' := 7) Xa dd_jdk_52_method_21_5 rfl rfl ?_
    refine own_icmpN (pc' := 10) Xa dd_jdk_52_method_21_7 rfl ((tlt (own_i32lt p_k (by omega))).2.1) ?_
    refine own_aload_n (pc' := 11) Xa dd_jdk_52_method_21_10 rfl rfl rfl ?_
    refine own_iload_n (pc' := 12) Xa dd_jdk_52_method_21_11 rfl rfl ?_
    have f2 := (p_a.keep Ka (ninS p_ne nin0))
    refine own_caload (pc' := 13) (i := k) (v := (.int (cs.getD k 0))) Xa f2 (own_i32 (by omega)) (own_mapI (by omega)) dd_jdk_52_method_21_12 rfl ?_
    refine own_istore (pc' := 15) Xa dd_jdk_52_method_21_13 rfl (Ls' := #[.val (.ref a), .val (.int (Int32.ofNat k)), .val (.ref b), .val (.int (Int32.ofNat k)), .val (.int (Int32.ofNat n)), .val (.int (Int32.ofNat k)), .val (.int (cs.getD k 0))]) rfl ?_
    refine own_iload (pc' := 17) Xa dd_jdk_52_method_21_15 rfl rfl ?_
    refine own_sipush (pc' := 20) Xa dd_jdk_52_method_21_17 rfl (z := (255 : Int32)) (by decide) ?_
    refine own_icmpN (pc' := 23) Xa dd_jdk_52_method_21_20 rfl ((tlt p_w).2.2.2) ?_
    refine own_iload (pc' := 25) Xa dd_jdk_52_method_21_23 rfl rfl ?_
    exact own_ret Xa hGe (t := .int) rfl rfl (Or.inl ⟨rfl, by simp, _, rfl⟩) dd_jdk_52_method_21_25 (by decide) (by decide) ⟨rfl, ((Keep.refl h0 [b]).trans Ka (allS (Or.inl (List.mem_of_getElem? (i := 0) rfl)) all0))⟩ nofun
theorem dd_jdk_52_method_16_0 : decode jdk_52_method_16_code 0 = .ok (.iload_n 2, 1) := by decide +kernel
theorem dd_jdk_52_method_16_1 : decode jdk_52_method_16_code 1 = .ok (.newarray .byte, 2) := by decide +kernel
theorem dd_jdk_52_method_16_3 : decode jdk_52_method_16_code 3 = .ok (.astore_n 3, 1) := by decide +kernel
theorem dd_jdk_52_method_16_4 : decode jdk_52_method_16_code 4 = .ok (.aload_n 0, 1) := by decide +kernel
theorem dd_jdk_52_method_16_5 : decode jdk_52_method_16_code 5 = .ok (.iload_n 1, 1) := by decide +kernel
theorem dd_jdk_52_method_16_6 : decode jdk_52_method_16_code 6 = .ok (.aload_n 3, 1) := by decide +kernel
theorem dd_jdk_52_method_16_7 : decode jdk_52_method_16_code 7 = .ok (.iconst 0, 1) := by decide +kernel
theorem dd_jdk_52_method_16_8 : decode jdk_52_method_16_code 8 = .ok (.iload_n 2, 1) := by decide +kernel
theorem dd_jdk_52_method_16_9 : decode jdk_52_method_16_code 9 = .ok (.invokestatic 115, 3) := by decide +kernel
theorem pd_4 : parseMethodDescriptor "([CI[BII)I" = some ⟨[(.array .char), .int, (.array .byte), .int, .int], some .int⟩ := by decide +kernel
theorem dd_jdk_52_method_16_12 : decode jdk_52_method_16_code 12 = .ok (.istore 4, 2) := by decide +kernel
theorem dd_jdk_52_method_16_14 : decode jdk_52_method_16_code 14 = .ok (.iload 4, 2) := by decide +kernel
theorem dd_jdk_52_method_16_16 : decode jdk_52_method_16_code 16 = .ok (.iload_n 2, 1) := by decide +kernel
theorem dd_jdk_52_method_16_17 : decode jdk_52_method_16_code 17 = .ok (.if_icmp .eq 40, 3) := by decide +kernel
theorem dd_jdk_52_method_16_20 : decode jdk_52_method_16_code 20 = .ok (.aload_n 0, 1) := by decide +kernel
theorem dd_jdk_52_method_16_21 : decode jdk_52_method_16_code 21 = .ok (.iload_n 1, 1) := by decide +kernel
theorem dd_jdk_52_method_16_22 : decode jdk_52_method_16_code 22 = .ok (.iload_n 2, 1) := by decide +kernel
theorem dd_jdk_52_method_16_23 : decode jdk_52_method_16_code 23 = .ok (.invokestatic 119, 3) := by decide +kernel
theorem pd_5 : parseMethodDescriptor "([CII)[B" = some ⟨[(.array .char), .int, .int], some (.array .byte)⟩ := by decide +kernel
theorem dd_jdk_52_method_16_26 : decode jdk_52_method_16_code 26 = .ok (.astore 5, 2) := by decide +kernel
theorem dd_jdk_52_method_16_28 : decode jdk_52_method_16_code 28 = .ok (.aload 5, 2) := by decide +kernel
theorem dd_jdk_52_method_16_30 : decode jdk_52_method_16_code 30 = .ok (.iload 4, 2) := by decide +kernel
theorem dd_jdk_52_method_16_32 : decode jdk_52_method_16_code 32 = .ok (.invokestatic 71, 3) := by decide +kernel
theorem pd_6 : parseMethodDescriptor "([BI)C" = some ⟨[(.array .byte), .int], some .char⟩ := by decide +kernel
theorem dd_jdk_52_method_16_35 : decode jdk_52_method_16_code 35 = .ok (.sipush 255, 3) := by decide +kernel
theorem dd_jdk_52_method_16_38 : decode jdk_52_method_16_code 38 = .ok (.if_icmp .gt 16, 3) := by decide +kernel
theorem dd_jdk_52_method_16_54 : decode jdk_52_method_16_code 54 = .ok (.aload 5, 2) := by decide +kernel
theorem dd_jdk_52_method_16_56 : decode jdk_52_method_16_code 56 = .ok (.areturn, 1) := by decide +kernel
theorem ef_own_c3 (m : MethodId) (x0 : Addr) (x1 : Int32) (x2 : Int32) : entryFrame m #[(.ref x0), (.int x1), (.int x2)] 6 = mkF m 0 #[.val (.ref x0), .val (.int x1), .val (.int x2), .unset, .unset, .unset] [] := by first | (simp [entryFrame, mkF, argsToLocals, Value.category]; done) | rfl
set_option maxRecDepth 65536 in
set_option maxHeartbeats 40000000 in
theorem own_c3 (l : Launch) (Z : State) (a0 : Array Value) (hw : ∀ d ∈ tables_1, d.before a0 Z = true) (EWf : own_EW Z own_EL) (n0 : Nat) (a : Addr) (ka : ClassId) (cs : List Int32) (n k : Nat) (h0 : Heap) (O0 : Old Z n0 h0) (p_a : own_Arr Z h0 a ka .char (cs.map Value.int)) (p_l : cs.length = n) (p_n : n ≤ 10) (p_k : k < n) (p_w : (255 : Int32) < cs.getD k 0) (p_f : ∀ i, i < k → ¬ (255 : Int32) < cs.getD i 0) (p_c : ∀ c ∈ cs, ¬ c < 0 ∧ ¬ (65535 : Int32) < c) (U : own_U16 Z) :
    own_Met l Z own_EL [] false n0 (⟨"java/lang/StringUTF16", "compress", "([CII)[B"⟩ : MethodName) jdk_52_method_16_code 6 (some (.array .byte)) ({ frames := 3, cells := 2, slots := 30, locals := 45 } : Room) #[(.ref a), (.int (0 : Int32)), (.int (Int32.ofNat n))] h0 (fun v h => ∃ (b : Addr) (kb : ClassId), v = some (.ref b) ∧ Keep h0 h [] ∧ h0.size ≤ b ∧ own_Arr Z h b kb .byte (StrChars.Road.wideBytes cs)) := by
  refine own_enter (own := "java/lang/StringUTF16") (nm := "compress") (plainFor_of_name pn_1) rfl rfl O0 EWf ?_
  have W : ∀ (k : Nat) {d : Jvm.Cond}, tables_1[k]? = some d → d.before a0 Z = true := fun k d q => hw d (List.mem_of_getElem? q)
  intro G p e s m below meth c T0 hGe X0
  rw [ef_own_c3 m a ((0 : Int32)) ((Int32.ofNat n))]
  refine own_iload_n (pc' := 1) X0 dd_jdk_52_method_16_0 rfl rfl ?_
  refine own_newarrayK (pc' := 3) (cells' := 1) (slots' := 10) (n := n) (cap := 10) (dv := (.int 0)) X0 (W 25 rfl) rfl rfl (own_i32 (by omega)) (by omega) dd_jdk_52_method_16_1 rfl rfl (by omega) (by decide) rfl (by decide) (by decide) ?_
  intro T1 h1 a1 k1 g1 X1 K1 A1
  have n_a1 : n0 ≤ a1 := by rw [g1]; exact own_n0 X0
  refine own_astore_n (pc' := 4) X1 dd_jdk_52_method_16_3 rfl rfl (Ls' := #[.val (.ref a), .val (.int (0 : Int32)), .val (.int (Int32.ofNat n)), .val (.ref a1), .unset, .unset]) rfl ?_
  refine own_aload_n (pc' := 5) X1 dd_jdk_52_method_16_4 rfl rfl rfl ?_
  refine own_iload_n (pc' := 6) X1 dd_jdk_52_method_16_5 rfl rfl ?_
  refine own_aload_n (pc' := 7) X1 dd_jdk_52_method_16_6 rfl rfl rfl ?_
  refine own_iconst (pc' := 8) X1 dd_jdk_52_method_16_7 rfl (z := (0 : Int32)) (by decide) ?_
  refine own_iload_n (pc' := 9) X1 dd_jdk_52_method_16_8 rfl rfl ?_
  have f2 := (p_a.keep K1 nin0)
  have ne_a_a1 : a ≠ a1 := own_ne p_a.lt (Nat.le_refl _) (Nat.le_of_eq (Eq.symm g1))
  refine own_callSM (pc' := 12) (cells' := 1) (slots' := 10) (argsL := [(.ref a), (.int (0 : Int32)), (.ref a1), (.int (0 : Int32)), (.int (Int32.ofNat n))]) (rest := []) (W := 0) (y := (⟨"java/lang/StringUTF16", "compress", "([CI[BII)I"⟩ : MethodName)) X1 (W 26 rfl) (W 27 rfl) (by decide) (own_c5 l Z a0 hw EWf n0 a a1 ka k1 cs (List.replicate n (.int 0)) n k h1 (own_old X1) f2 A1 n_a1 ne_a_a1 p_l p_n (by simp) p_k p_w p_f) (allS (List.mem_of_getElem? (i := 0) rfl) all0) (W 28 rfl) (W 23 rfl) (by decide) (by decide) rfl (lenOf pd_4 rfl) rfl rfl dd_jdk_52_method_16_9 rfl rfl rfl rfl (by decide) (by decide) ?_
  intro v3 T3 h3 s3 X3 q3 r3
  obtain ⟨rfl, K3⟩ := q3
  show G T3 (mkF m 12 #[.val (.ref a), .val (.int (0 : Int32)), .val (.int (Int32.ofNat n)), .val (.ref a1), .unset, .unset] [(.int (Int32.ofNat k))])
  refine own_istore (pc' := 14) X3 dd_jdk_52_method_16_12 rfl (Ls' := #[.val (.ref a), .val (.int (0 : Int32)), .val (.int (Int32.ofNat n)), .val (.ref a1), .val (.int (Int32.ofNat k)), .unset]) rfl ?_
  refine own_iload (pc' := 16) X3 dd_jdk_52_method_16_14 rfl rfl ?_
  refine own_iload_n (pc' := 17) X3 dd_jdk_52_method_16_16 rfl rfl ?_
  refine own_icmpN (pc' := 20) X3 dd_jdk_52_method_16_17 rfl ((feq (own_i32ne (by omega) (by omega) (by omega))).1) ?_
  refine own_aload_n (pc' := 21) X3 dd_jdk_52_method_16_20 rfl rfl rfl ?_
  refine own_iload_n (pc' := 22) X3 dd_jdk_52_method_16_21 rfl rfl ?_
  refine own_iload_n (pc' := 23) X3 dd_jdk_52_method_16_22 rfl rfl ?_
  have f4 := (f2.keep K3 (ninS ne_a_a1 nin0))
  refine own_callSM (pc' := 26) (cells' := 2) (slots' := 30) (argsL := [(.ref a), (.int (0 : Int32)), (.int (Int32.ofNat n))]) (rest := []) (W := 0) (y := (⟨"java/lang/StringUTF16", "toBytes", "([CII)[B"⟩ : MethodName)) X3 (W 138 rfl) (W 139 rfl) (by decide) (own_tb l Z a0 hw EWf n0 a ka cs n h3 (own_old X3) f4 p_l p_n U) all0 (W 140 rfl) (W 23 rfl) (by decide) (by decide) rfl (lenOf pd_5 rfl) rfl rfl dd_jdk_52_method_16_23 rfl rfl rfl rfl (by decide) (by decide) ?_
  intro v5 T5 h5 s5 X5 q5 r5
  obtain ⟨b5, k5, rfl, K5, z5, A5⟩ := q5
  show G T5 (mkF m 26 #[.val (.ref a), .val (.int (0 : Int32)), .val (.int (Int32.ofNat n)), .val (.ref a1), .val (.int (Int32.ofNat k)), .unset] [(.ref b5)])
  refine own_astore (pc' := 28) X5 dd_jdk_52_method_16_26 rfl rfl (Ls' := #[.val (.ref a), .val (.int (0 : Int32)), .val (.int (Int32.ofNat n)), .val (.ref a1), .val (.int (Int32.ofNat k)), .val (.ref b5)]) rfl ?_
  refine own_aload (pc' := 30) X5 dd_jdk_52_method_16_28 rfl rfl rfl ?_
  refine own_iload (pc' := 32) X5 dd_jdk_52_method_16_30 rfl rfl ?_
  refine own_callSM (pc' := 35) (cells' := 2) (slots' := 30) (argsL := [(.ref b5), (.int (Int32.ofNat k))]) (rest := []) (W := 0) (y := (⟨"java/lang/StringUTF16", "getChar", "([BI)C"⟩ : MethodName)) X5 (W 154 rfl) (W 155 rfl) (by decide) (own_get16 l Z a0 hw EWf n0 b5 k5 cs k h5 (own_old X5) A5 (by omega) (by omega) p_c U) all0 (W 156 rfl) (W 23 rfl) (by decide) (by decide) rfl (lenOf pd_6 rfl) rfl rfl dd_jdk_52_method_16_32 rfl rfl rfl rfl (by decide) (by decide) ?_
  intro v6 T6 h6 s6 X6 q6 r6
  obtain ⟨rfl, rfl⟩ := q6
  show G T6 (mkF m 35 #[.val (.ref a), .val (.int (0 : Int32)), .val (.int (Int32.ofNat n)), .val (.ref a1), .val (.int (Int32.ofNat k)), .val (.ref b5)] [(.int (cs.getD k 0))])
  refine own_sipush (pc' := 38) X6 dd_jdk_52_method_16_35 rfl (z := (255 : Int32)) (by decide) ?_
  refine own_icmpY (pc' := 54) X6 dd_jdk_52_method_16_38 ((tlt p_w).2.2.1) (by decide) (by decide) ?_
  refine own_aload (pc' := 56) X6 dd_jdk_52_method_16_54 rfl rfl rfl ?_
  have age_a1 : h0.size ≤ a1 := Nat.le_trans (Nat.le_refl _) (Nat.le_of_eq (Eq.symm g1))
  have age_b5 : h0.size ≤ b5 := Nat.le_trans (Nat.le_trans K1.1 (Nat.le_trans K3.1 (Nat.le_refl _))) z5
  exact own_ret X6 hGe (t := (.array .byte)) rfl rfl (Or.inr (Or.inr (Or.inr (Or.inr ⟨rfl, rfl, rfl⟩)))) dd_jdk_52_method_16_56 (by decide) (by decide) ⟨b5, k5, rfl, ((((Keep.refl h0 []).trans K1 all0).trans K3 (allS (Or.inr age_a1) all0)).trans K5 all0), age_b5, A5⟩ nofun
theorem dd_jdk_52_method_15_0 : decode jdk_52_method_15_code 0 = .ok (.iload_n 1, 1) := by decide +kernel
theorem dd_jdk_52_method_15_1 : decode jdk_52_method_15_code 1 = .ok (.aload_n 0, 1) := by decide +kernel
theorem dd_jdk_52_method_15_2 : decode jdk_52_method_15_code 2 = .ok (.arraylength, 1) := by decide +kernel
theorem dd_jdk_52_method_15_3 : decode jdk_52_method_15_code 3 = .ok (.isub, 1) := by decide +kernel
theorem dd_jdk_52_method_15_4 : decode jdk_52_method_15_code 4 = .ok (.bipush 31, 2) := by decide +kernel
theorem dd_jdk_52_method_15_6 : decode jdk_52_method_15_code 6 = .ok (.iushr, 1) := by decide +kernel
theorem dd_jdk_52_method_15_7 : decode jdk_52_method_15_code 7 = .ok (.i2b, 1) := by decide +kernel
theorem dd_jdk_52_method_15_8 : decode jdk_52_method_15_code 8 = .ok (.ireturn, 1) := by decide +kernel
theorem ef_own_cfa (m : MethodId) (x0 : Addr) (x1 : Int32) : entryFrame m #[(.ref x0), (.int x1)] 2 = mkF m 0 #[.val (.ref x0), .val (.int x1)] [] := by first | (simp [entryFrame, mkF, argsToLocals, Value.category]; done) | rfl
set_option maxRecDepth 65536 in
set_option maxHeartbeats 40000000 in
theorem own_cfa (l : Launch) (Z : State) (a0 : Array Value) (hw : ∀ d ∈ tables_1, d.before a0 Z = true) (EWf : own_EW Z own_EL) (n0 : Nat) (b : Addr) (kb : ClassId) (cs : List Int32) (n : Nat) (h0 : Heap) (O0 : Old Z n0 h0) (p_A : own_Arr Z h0 b kb .byte (StrChars.Road.wideBytes cs)) (p_l : cs.length = n) (p_1 : 1 ≤ n) (p_n : n ≤ 10) :
    own_Met l Z own_EL [] false n0 (⟨"java/lang/StringUTF16", "coderFromArrayLen", "([BI)B"⟩ : MethodName) jdk_52_method_15_code 2 (some .byte) ({ frames := 0, cells := 0, slots := 0, locals := 0 } : Room) #[(.ref b), (.int (Int32.ofNat n))] h0 (fun v h => v = some (.int 1) ∧ h0 = h) := by
  refine own_enter (own := "java/lang/StringUTF16") (nm := "coderFromArrayLen") (plainFor_of_name pn_1) rfl rfl O0 EWf ?_
  have W : ∀ (k : Nat) {d : Jvm.Cond}, tables_1[k]? = some d → d.before a0 Z = true := fun k d q => hw d (List.mem_of_getElem? q)
  intro G p e s m below meth c T0 hGe X0
  rw [ef_own_cfa m b ((Int32.ofNat n))]
  refine own_iload_n (pc' := 1) X0 dd_jdk_52_method_15_0 rfl rfl ?_
  refine own_aload_n (pc' := 2) X0 dd_jdk_52_method_15_1 rfl rfl rfl ?_
  refine own_arraylength (pc' := 3) (z := (Int32.ofNat (2 * n))) X0 p_A (by rw [own_wlen, p_l]) dd_jdk_52_method_15_2 rfl ?_
  refine own_isub (pc' := 4) X0 dd_jdk_52_method_15_3 rfl (r := ((Int32.ofNat n) - (Int32.ofNat (2 * n)))) rfl ?_
  refine own_bipush (pc' := 6) X0 dd_jdk_52_method_15_4 rfl (z := (31 : Int32)) (by decide) ?_
  refine own_iushr (pc' := 7) X0 dd_jdk_52_method_15_6 rfl (r := (1 : Int32)) (own_cfl p_1 p_n) ?_
  refine own_i2b (pc' := 8) X0 dd_jdk_52_method_15_7 rfl ?_
  exact own_ret X0 hGe (t := .byte) rfl rfl (Or.inl ⟨rfl, by simp, _, rfl⟩) dd_jdk_52_method_15_8 (by decide) (by decide) ⟨rfl, rfl⟩ nofun
theorem dd_jdk_42_method_149_27 : decode jdk_42_method_149_code 27 = .ok (.getstatic 38, 3) := by decide +kernel
theorem dd_jdk_42_method_149_30 : decode jdk_42_method_149_code 30 = .ok (.ifCond .eq 28, 3) := by decide +kernel
theorem dd_jdk_42_method_149_33 : decode jdk_42_method_149_code 33 = .ok (.aload_n 1, 1) := by decide +kernel
theorem dd_jdk_42_method_149_34 : decode jdk_42_method_149_code 34 = .ok (.iload_n 2, 1) := by decide +kernel
theorem dd_jdk_42_method_149_35 : decode jdk_42_method_149_code 35 = .ok (.iload_n 3, 1) := by decide +kernel
theorem dd_jdk_42_method_149_36 : decode jdk_42_method_149_code 36 = .ok (.invokestatic 177, 3) := by decide +kernel
theorem dd_jdk_42_method_149_39 : decode jdk_42_method_149_code 39 = .ok (.astore 5, 2) := by decide +kernel
theorem dd_jdk_42_method_149_41 : decode jdk_42_method_149_code 41 = .ok (.aload_n 0, 1) := by decide +kernel
theorem dd_jdk_42_method_149_42 : decode jdk_42_method_149_code 42 = .ok (.aload 5, 2) := by decide +kernel
theorem dd_jdk_42_method_149_44 : decode jdk_42_method_149_code 44 = .ok (.iload_n 3, 1) := by decide +kernel
theorem dd_jdk_42_method_149_45 : decode jdk_42_method_149_code 45 = .ok (.invokestatic 47, 3) := by decide +kernel
theorem pd_7 : parseMethodDescriptor "([BI)B" = some ⟨[(.array .byte), .int], some .byte⟩ := by decide +kernel
theorem dd_jdk_42_method_149_48 : decode jdk_42_method_149_code 48 = .ok (.putfield 15, 3) := by decide +kernel
theorem dd_jdk_42_method_149_51 : decode jdk_42_method_149_code 51 = .ok (.aload_n 0, 1) := by decide +kernel
theorem dd_jdk_42_method_149_52 : decode jdk_42_method_149_code 52 = .ok (.aload 5, 2) := by decide +kernel
theorem dd_jdk_42_method_149_54 : decode jdk_42_method_149_code 54 = .ok (.putfield 9, 3) := by decide +kernel
theorem dd_jdk_42_method_149_57 : decode jdk_42_method_149_code 57 = .ok (.return_, 1) := by decide +kernel
theorem ef_own_sw4 (m : MethodId) (x0 : Addr) (x1 : Addr) (x2 : Int32) (x3 : Int32) : entryFrame m #[(.ref x0), (.ref x1), (.int x2), (.int x3), .null] 6 = mkF m 0 #[.val (.ref x0), .val (.ref x1), .val (.int x2), .val (.int x3), .val .null, .unset] [] := by first | (simp [entryFrame, mkF, argsToLocals, Value.category]; done) | rfl
set_option maxRecDepth 65536 in
set_option maxHeartbeats 40000000 in
theorem own_sw4 (l : Launch) (Z : State) (a0 : Array Value) (hw : ∀ d ∈ tables_1, d.before a0 Z = true) (EWf : own_EW Z own_EL) (n0 : Nat) (x a : Addr) (ka : ClassId) (cs : List Int32) (n : Nat) (h0 : Heap) (O0 : Old Z n0 h0) (n_x : n0 ≤ x) (p_E : Exa Z h0 x "java/lang/String") (p_V : Fld Z h0 x "java/lang/String" "value" "[B" .null) (p_C : Fld Z h0 x "java/lang/String" "coder" "B" (.int 0)) (p_a : own_Arr Z h0 a ka .char (cs.map Value.int)) (p_l : cs.length = n) (p_n : n ≤ 10) (p_w : ∃ c ∈ cs, (255 : Int32) < c) (p_c : ∀ c ∈ cs, ¬ c < 0 ∧ ¬ (65535 : Int32) < c) (U : own_U16 Z) (CS : own_CS Z) :
    own_Met l Z own_EL [x] false n0 (⟨"java/lang/String", "<init>", "([CIILjava/lang/Void;)V"⟩ : MethodName) jdk_42_method_149_code 6 none ({ frames := 4, cells := 2, slots := 30, locals := 62 } : Room) #[(.ref x), (.ref a), (.int (0 : Int32)), (.int (Int32.ofNat n)), .null] h0 (fun v h => v = none ∧ Keep h0 h [x] ∧ ∃ t, own_Str Z h x t cs) := by
  refine own_enter (own := "java/lang/String") (nm := "<init>") (plainFor_of_name pn_0) rfl rfl O0 EWf ?_
  have W : ∀ (k : Nat) {d : Jvm.Cond}, tables_1[k]? = some d → d.before a0 Z = true := fun k d q => hw d (List.mem_of_getElem? q)
  intro G p e s m below meth c T0 hGe X0
  rw [ef_own_sw4 m x a ((0 : Int32)) ((Int32.ofNat n))]
  obtain ⟨k, q1, q2, q3⟩ := own_first cs p_w
  rw [p_l] at q1
  refine own_aload_n (pc' := 1) X0 dd_jdk_42_method_149_0 rfl rfl rfl ?_
  refine own_initO (pc' := 4) (W := 0) X0 (W 17 rfl) (W 18 rfl) (W 19 rfl) rfl dd_jdk_42_method_149_1 rfl (by decide) rfl (by decide) ?_
  intro T1 X1
  refine own_iload_n (pc' := 5) X1 dd_jdk_42_method_149_4 rfl rfl ?_
  refine own_ifY (pc' := 27) X1 dd_jdk_42_method_149_5 ((feq (own_i32ne (n := 0) (by omega) (by omega) (by decide))).2) (by decide) (by decide) ?_
  obtain ⟨zc, Sc, hzc⟩ := CS
  refine own_getS (pc' := 30) X1 (W 20 rfl) Via.refl (own_sta X1 Sc) dd_jdk_42_method_149_27 rfl ?_
  intro T2 X2
  refine own_ifN (pc' := 33) X2 dd_jdk_42_method_149_30 rfl ((feq hzc).1) ?_
  refine own_aload_n (pc' := 34) X2 dd_jdk_42_method_149_33 rfl rfl rfl ?_
  refine own_iload_n (pc' := 35) X2 dd_jdk_42_method_149_34 rfl rfl ?_
  refine own_iload_n (pc' := 36) X2 dd_jdk_42_method_149_35 rfl rfl ?_
  refine own_callSM (pc' := 39) (cells' := 2) (slots' := 30) (argsL := [(.ref a), (.int (0 : Int32)), (.int (Int32.ofNat n))]) (rest := []) (W := 0) (y := (⟨"java/lang/StringUTF16", "compress", "([CII)[B"⟩ : MethodName)) X2 (W 21 rfl) (W 22 rfl) (by decide) (own_c3 l Z a0 hw EWf n0 a ka cs n k h0 (own_old X2) p_a p_l p_n q1 q2 q3 p_c U) all0 (W 24 rfl) (W 23 rfl) (by decide) (by decide) rfl (lenOf pd_5 rfl) rfl rfl dd_jdk_42_method_149_36 rfl rfl rfl rfl (by decide) (by decide) ?_
  intro v3 T3 h3 s3 X3 q3 r3
  obtain ⟨b3, k3, rfl, K3, z3, A3⟩ := q3
  show G T3 (mkF m 39 #[.val (.ref x), .val (.ref a), .val (.int (0 : Int32)), .val (.int (Int32.ofNat n)), .val .null, .unset] [(.ref b3)])
  refine own_astore (pc' := 41) X3 dd_jdk_42_method_149_39 rfl rfl (Ls' := #[.val (.ref x), .val (.ref a), .val (.int (0 : Int32)), .val (.int (Int32.ofNat n)), .val .null, .val (.ref b3)]) rfl ?_
  refine own_aload_n (pc' := 42) X3 dd_jdk_42_method_149_41 rfl rfl rfl ?_
  refine own_aload (pc' := 44) X3 dd_jdk_42_method_149_42 rfl rfl rfl ?_
  refine own_iload_n (pc' := 45) X3 dd_jdk_42_method_149_44 rfl rfl ?_
  refine own_callSM (pc' := 48) (cells' := 2) (slots' := 30) (argsL := [(.ref b3), (.int (Int32.ofNat n))]) (rest := [(.ref x)]) (W := 1) (y := (⟨"java/lang/StringUTF16", "coderFromArrayLen", "([BI)B"⟩ : MethodName)) X3 (W 29 rfl) (W 30 rfl) (by decide) (own_cfa l Z a0 hw EWf n0 b3 k3 cs n h3 (own_old X3) A3 p_l (by omega) p_n) all0 (W 31 rfl) (W 23 rfl) (by decide) (by decide) rfl (lenOf pd_7 rfl) rfl rfl dd_jdk_42_method_149_45 rfl rfl rfl rfl (by decide) (by decide) ?_
  intro v4 T4 h4 s4 X4 q4 r4
  obtain ⟨rfl, rfl⟩ := q4
  show G T4 (mkF m 48 #[.val (.ref x), .val (.ref a), .val (.int (0 : Int32)), .val (.int (Int32.ofNat n)), .val .null, .val (.ref b3)] [(.int (1 : Int32)), (.ref x)])
  have f5 := (p_C.keep K3 nin0)
  have f6 := (p_E.keep K3)
  refine own_put (pc' := 51) X4 (host := "") (Or.inl (W 32 rfl)) Via.refl f5 f6 (Or.inr ⟨(W 33 rfl), rfl, rfl⟩) (W 8 rfl) (ty := .byte) (by decide) rfl rfl n_x (Or.inr (List.mem_of_getElem? (i := 0) rfl)) dd_jdk_42_method_149_48 rfl ?_
  intro T7 h7 X7 W7 K7
  have f7_ := f5.same W7
  refine own_aload_n (pc' := 52) X7 dd_jdk_42_method_149_51 rfl rfl rfl ?_
  refine own_aload (pc' := 54) X7 dd_jdk_42_method_149_52 rfl rfl rfl ?_
  have f8 := ((p_V.keep K3 nin0).other W7 (Or.inr (slot_ne (Or.inr (W 35 rfl)) (Or.inr (W 33 rfl)) (by decide) (t := (.array .byte)) (t' := .byte) (by decide) (by decide))))
  have f9 := (f6.keep K7)
  refine own_put (pc' := 57) X7 (host := "") (Or.inl (W 34 rfl)) Via.refl f8 f9 (Or.inr ⟨(W 35 rfl), rfl, rfl⟩) (W 8 rfl) (ty := (.array .byte)) (by decide) rfl rfl n_x (Or.inr (List.mem_of_getElem? (i := 0) rfl)) dd_jdk_42_method_149_54 rfl ?_
  intro T10 h10 X10 W10 K10
  have f10_ := f8.same W10
  have f11 := (f9.keep K10)
  have f12 := (f7_.other W10 (Or.inr (slot_ne (Or.inr (W 33 rfl)) (Or.inr (W 35 rfl)) (by decide) (t := .byte) (t' := (.array .byte)) (by decide) (by decide))))
  have ne_x_b3 : x ≠ b3 := own_ne p_E.lt (Nat.le_refl _) z3
  have f13 := ((A3.keep K7 (ninS (Ne.symm ne_x_b3) nin0)).keep K10 (ninS (Ne.symm ne_x_b3) nin0))
  exact own_retV X10 hGe rfl dd_jdk_42_method_149_57 (by decide) (by decide) ⟨rfl, ((((Keep.refl h0 [x]).trans K3 all0).trans K7 (allS (Or.inl (List.mem_of_getElem? (i := 0) rfl)) all0)).trans K10 (allS (Or.inl (List.mem_of_getElem? (i := 0) rfl)) all0)), b3, own_StrWide f11 f10_ f12 f13 p_w p_c (by omega)⟩
theorem ef_own_sw1 (m : MethodId) (x0 : Addr) (x1 : Addr) : entryFrame m #[(.ref x0), (.ref x1)] 2 = mkF m 0 #[.val (.ref x0), .val (.ref x1)] [] := by first | (simp [entryFrame, mkF, argsToLocals, Value.category]; done) | rfl
set_option maxRecDepth 65536 in
set_option maxHeartbeats 40000000 in
theorem own_sw1 (l : Launch) (Z : State) (a0 : Array Value) (hw : ∀ d ∈ tables_1, d.before a0 Z = true) (EWf : own_EW Z own_EL) (n0 : Nat) (x a : Addr) (ka : ClassId) (cs : List Int32) (n : Nat) (h0 : Heap) (O0 : Old Z n0 h0) (n_x : n0 ≤ x) (p_E : Exa Z h0 x "java/lang/String") (p_V : Fld Z h0 x "java/lang/String" "value" "[B" .null) (p_C : Fld Z h0 x "java/lang/String" "coder" "B" (.int 0)) (p_a : own_Arr Z h0 a ka .char (cs.map Value.int)) (p_l : cs.length = n) (p_n : n ≤ 10) (p_w : ∃ c ∈ cs, (255 : Int32) < c) (p_c : ∀ c ∈ cs, ¬ c < 0 ∧ ¬ (65535 : Int32) < c) (U : own_U16 Z) (CS : own_CS Z) :
    own_Met l Z own_EL [x] false n0 (⟨"java/lang/String", "<init>", "([C)V"⟩ : MethodName) jdk_42_method_3_code 2 none ({ frames := 5, cells := 2, slots := 30, locals := 79 } : Room) #[(.ref x), (.ref a)] h0 (fun v h => v = none ∧ Keep h0 h [x] ∧ ∃ t, own_Str Z h x t cs) := by
  refine own_enter (own := "java/lang/String") (nm := "<init>") (plainFor_of_name pn_0) rfl rfl O0 EWf ?_
  have W : ∀ (k : Nat) {d : Jvm.Cond}, tables_1[k]? = some d → d.before a0 Z = true := fun k d q => hw d (List.mem_of_getElem? q)
  intro G p e s m below meth c T0 hGe X0
  rw [ef_own_sw1 m x a]
  refine own_aload_n (pc' := 1) X0 dd_jdk_42_method_3_0 rfl rfl rfl ?_
  refine own_aload_n (pc' := 2) X0 dd_jdk_42_method_3_1 rfl rfl rfl ?_
  refine own_iconst (pc' := 3) X0 dd_jdk_42_method_3_2 rfl (z := (0 : Int32)) (by decide) ?_
  refine own_aload_n (pc' := 4) X0 dd_jdk_42_method_3_3 rfl rfl rfl ?_
  refine own_arraylength (pc' := 5) (z := (Int32.ofNat n)) X0 p_a (by rw [List.length_map, p_l]) dd_jdk_42_method_3_4 rfl ?_
  refine own_aconst_null (pc' := 6) X0 dd_jdk_42_method_3_5 rfl ?_
  refine own_callIM (pc' := 9) (cells' := 2) (slots' := 30) (argsL := [(.ref a), (.int (0 : Int32)), (.int (Int32.ofNat n)), .null]) (rest := []) (W := 0) (y := (⟨"java/lang/String", "<init>", "([CIILjava/lang/Void;)V"⟩ : MethodName)) (a := x) X0 (W 13 rfl) (W 14 rfl) rfl (by decide) (own_sw4 l Z a0 hw EWf n0 x a ka cs n h0 (own_old X0) n_x p_E p_V p_C p_a p_l p_n p_w p_c U CS) (allS (List.mem_of_getElem? (i := 0) rfl) all0) (W 16 rfl) (W 9 rfl) (by decide) (by decide) rfl (lenOf pd_0 rfl) rfl rfl dd_jdk_42_method_3_6 rfl rfl rfl rfl (by decide) (by decide) ?_
  intro v1 T1 h1 s1 X1 q1 r1
  obtain ⟨rfl, K1, t1, S1⟩ := q1
  show G T1 (mkF m 9 #[.val (.ref x), .val (.ref a)] [])
  exact own_retV X1 hGe rfl dd_jdk_42_method_3_9 (by decide) (by decide) ⟨rfl, ((Keep.refl h0 [x]).trans K1 (allS (Or.inl (List.mem_of_getElem? (i := 0) rfl)) all0)), t1, S1⟩
def own_EMP (Z : State) (e ea : Addr) : Prop := Sta Z Z.heap "java/util/ImmutableCollections" "EMPTY_LIST" "Ljava/util/ImmutableCollections$ListN;" (.ref e) ∧ Exa Z Z.heap e "java/util/ImmutableCollections$ListN" ∧ Fld Z Z.heap e "java/util/ImmutableCollections$ListN" "elements" "[Ljava/lang/Object;" (.ref ea) ∧ ∃ k, own_Arr Z Z.heap ea k (.object "java/lang/Object") []
theorem dd_jdk_40_method_36_0 : decode jdk_40_method_36_code 0 = .ok (.getstatic 90, 3) := by decide +kernel
theorem dd_jdk_40_method_36_3 : decode jdk_40_method_36_code 3 = .ok (.areturn, 1) := by decide +kernel
theorem pn_2 : plainName "java/util/List" = true := by first | (simp [plainName, overriddenIn]; done) | decide +kernel
theorem ef_own_lof (m : MethodId)  : entryFrame m #[] 0 = mkF m 0 #[] [] := by first | (simp [entryFrame, mkF, argsToLocals, Value.category]; done) | rfl
set_option maxRecDepth 65536 in
set_option maxHeartbeats 40000000 in
theorem own_lof (l : Launch) (Z : State) (a0 : Array Value) (hw : ∀ d ∈ tables_1, d.before a0 Z = true) (EWf : own_EW Z own_EL) (n0 : Nat) (em ea : Addr) (h0 : Heap) (O0 : Old Z n0 h0) (EM : own_EMP Z em ea) :
    own_Met l Z own_EL [] false n0 (⟨"java/util/List", "of", "()Ljava/util/List;"⟩ : MethodName) jdk_40_method_36_code 0 (some (.object "java/util/List")) ({ frames := 0, cells := 0, slots := 0, locals := 0 } : Room) #[] h0 (fun v h => v = some (.ref em) ∧ h0 = h) := by
  refine own_enter (own := "java/util/List") (nm := "of") (plainFor_of_name pn_2) rfl rfl O0 EWf ?_
  have W : ∀ (k : Nat) {d : Jvm.Cond}, tables_1[k]? = some d → d.before a0 Z = true := fun k d q => hw d (List.mem_of_getElem? q)
  intro G p e s m below meth c T0 hGe X0
  rw [ef_own_lof m]
  refine own_getS (pc' := 3) X0 (W 51 rfl) Via.refl (own_sta X0 EM.1) dd_jdk_40_method_36_0 rfl ?_
  intro T1 X1
  exact own_ret X1 hGe (t := (.object "java/util/List")) rfl rfl (Or.inr (Or.inr (Or.inr (Or.inr ⟨rfl, rfl, rfl⟩)))) dd_jdk_40_method_36_3 (by decide) (by decide) ⟨rfl, rfl⟩ nofun
theorem dd_jdk_71_method_1_0 : decode jdk_71_method_1_code 0 = .ok (.aload_n 0, 1) := by decide +kernel
theorem dd_jdk_71_method_1_1 : decode jdk_71_method_1_code 1 = .ok (.invokespecial 1, 3) := by decide +kernel
theorem dd_jdk_71_method_1_4 : decode jdk_71_method_1_code 4 = .ok (.return_, 1) := by decide +kernel
theorem pn_3 : plainName "java/util/AbstractMap" = true := by first | (simp [plainName, overriddenIn]; done) | decide +kernel
theorem ef_own_ami (m : MethodId) (x0 : Addr) : entryFrame m #[(.ref x0)] 1 = mkF m 0 #[.val (.ref x0)] [] := by first | (simp [entryFrame, mkF, argsToLocals, Value.category]; done) | rfl
set_option maxRecDepth 65536 in
set_option maxHeartbeats 40000000 in
theorem own_ami (l : Launch) (Z : State) (a0 : Array Value) (hw : ∀ d ∈ tables_1, d.before a0 Z = true) (EWf : own_EW Z own_EL) (n0 : Nat) (a : Addr) (h0 : Heap) (O0 : Old Z n0 h0)  :
    own_Met l Z own_EL [] false n0 (⟨"java/util/AbstractMap", "<init>", "()V"⟩ : MethodName) jdk_71_method_1_code 1 none ({ frames := 1, cells := 0, slots := 0, locals := 12 } : Room) #[(.ref a)] h0 (fun v h => v = none ∧ h0 = h) := by
  refine own_enter (own := "java/util/AbstractMap") (nm := "<init>") (plainFor_of_name pn_3) rfl rfl O0 EWf ?_
  have W : ∀ (k : Nat) {d : Jvm.Cond}, tables_1[k]? = some d → d.before a0 Z = true := fun k d q => hw d (List.mem_of_getElem? q)
  intro G p e s m below meth c T0 hGe X0
  rw [ef_own_ami m a]
  refine own_aload_n (pc' := 1) X0 dd_jdk_71_method_1_0 rfl rfl rfl ?_
  refine own_initO (pc' := 4) (W := 0) X0 (W 77 rfl) (W 18 rfl) (W 19 rfl) rfl dd_jdk_71_method_1_1 rfl (by decide) rfl (by decide) ?_
  intro T1 X1
  exact own_retV X1 hGe rfl dd_jdk_71_method_1_4 (by decide) (by decide) ⟨rfl, rfl⟩
theorem dd_jdk_69_method_7_0 : decode jdk_69_method_7_code 0 = .ok (.aload_n 0, 1) := by decide +kernel
theorem dd_jdk_69_method_7_1 : decode jdk_69_method_7_code 1 = .ok (.invokespecial 43, 3) := by decide +kernel
theorem pd_8 : parseMethodDescriptor "()V" = some ⟨[], none⟩ := by decide +kernel
theorem dd_jdk_69_method_7_4 : decode jdk_69_method_7_code 4 = .ok (.aload_n 0, 1) := by decide +kernel
theorem dd_jdk_69_method_7_5 : decode jdk_69_method_7_code 5 = .ok (.ldc 92, 2) := by decide +kernel
theorem dd_jdk_69_method_7_7 : decode jdk_69_method_7_code 7 = .ok (.putfield 81, 3) := by decide +kernel
theorem dd_jdk_69_method_7_10 : decode jdk_69_method_7_code 10 = .ok (.return_, 1) := by decide +kernel
theorem pn_4 : plainName "java/util/HashMap" = true := by first | (simp [plainName, overriddenIn]; done) | decide +kernel
theorem ef_own_hmi (m : MethodId) (x0 : Addr) : entryFrame m #[(.ref x0)] 1 = mkF m 0 #[.val (.ref x0)] [] := by first | (simp [entryFrame, mkF, argsToLocals, Value.category]; done) | rfl
set_option maxRecDepth 65536 in
set_option maxHeartbeats 40000000 in
theorem own_hmi (l : Launch) (Z : State) (a0 : Array Value) (hw : ∀ d ∈ tables_1, d.before a0 Z = true) (EWf : own_EW Z own_EL) (n0 : Nat) (a : Addr) (h0 : Heap) (O0 : Old Z n0 h0) (n_a : n0 ≤ a) (p_E : Exa Z h0 a "java/util/LinkedHashMap") (p_F : Fld Z h0 a "java/util/HashMap" "loadFactor" "F" (.float 0)) (p_G : Fld Z h0 a "java/util/LinkedHashMap" "putMode" "I" (.int (0 : Int32))) (p_H : Fld Z h0 a "java/util/LinkedHashMap" "accessOrder" "Z" (.int (0 : Int32))) :
    own_Met l Z own_EL [] false n0 (⟨"java/util/HashMap", "<init>", "()V"⟩ : MethodName) jdk_69_method_7_code 1 none ({ frames := 2, cells := 0, slots := 0, locals := 24 } : Room) #[(.ref a)] h0 (fun v h => v = none ∧ Keep h0 h [a] ∧ Fld Z h a "java/util/LinkedHashMap" "putMode" "I" (.int (0 : Int32)) ∧ Fld Z h a "java/util/LinkedHashMap" "accessOrder" "Z" (.int (0 : Int32))) := by
  refine own_enter (own := "java/util/HashMap") (nm := "<init>") (plainFor_of_name pn_4) rfl rfl O0 EWf ?_
  have W : ∀ (k : Nat) {d : Jvm.Cond}, tables_1[k]? = some d → d.before a0 Z = true := fun k d q => hw d (List.mem_of_getElem? q)
  intro G p e s m below meth c T0 hGe X0
  rw [ef_own_hmi m a]
  refine own_aload_n (pc' := 1) X0 dd_jdk_69_method_7_0 rfl rfl rfl ?_
  refine own_callIM (pc' := 4) (cells' := 0) (slots' := 0) (argsL := []) (rest := []) (W := 0) (y := (⟨"java/util/AbstractMap", "<init>", "()V"⟩ : MethodName)) (a := a) X0 (W 71 rfl) (W 72 rfl) rfl (by decide) (own_ami l Z a0 hw EWf n0 a h0 (own_old X0) ) all0 (W 76 rfl) (W 75 rfl) (by decide) (by decide) rfl (lenOf pd_8 rfl) rfl rfl dd_jdk_69_method_7_1 rfl rfl rfl rfl (by decide) (by decide) ?_
  intro v1 T1 h1 s1 X1 q1 r1
  obtain ⟨rfl, rfl⟩ := q1
  show G T1 (mkF m 4 #[.val (.ref a)] [])
  refine own_aload_n (pc' := 5) X1 dd_jdk_69_method_7_4 rfl rfl rfl ?_
  refine own_ldcF (pc' := 7) X1 (v := (1061158912 : UInt32)) (W 78 rfl) dd_jdk_69_method_7_5 rfl ?_
  refine own_put (pc' := 10) X1 (host := "") (Or.inl (W 79 rfl)) Via.refl p_F p_E (Or.inr ⟨(W 80 rfl), rfl, rfl⟩) (W 60 rfl) (ty := .float) (by decide) rfl rfl n_a (Or.inl ⟨by decide, by decide⟩) dd_jdk_69_method_7_7 rfl ?_
  intro T2 h2 X2 W2 K2
  have f2_ := p_F.same W2
  have f3 := (p_G.other W2 (Or.inr (slot_ne (Or.inl (W 82 rfl)) (Or.inr (W 80 rfl)) (by decide) (t := .int) (t' := .float) (by decide) (by decide))))
  have f4 := (p_H.other W2 (Or.inr (slot_ne (Or.inr (W 84 rfl)) (Or.inr (W 80 rfl)) (by decide) (t := .boolean) (t' := .float) (by decide) (by decide))))
  exact own_retV X2 hGe rfl dd_jdk_69_method_7_10 (by decide) (by decide) ⟨rfl, ((Keep.refl h0 [a]).trans K2 (allS (Or.inl (List.mem_of_getElem? (i := 0) rfl)) all0)), f3, f4⟩
theorem dd_jdk_94_method_16_0 : decode jdk_94_method_16_code 0 = .ok (.aload_n 0, 1) := by decide +kernel
theorem dd_jdk_94_method_16_1 : decode jdk_94_method_16_code 1 = .ok (.invokespecial 87, 3) := by decide +kernel
theorem dd_jdk_94_method_16_4 : decode jdk_94_method_16_code 4 = .ok (.aload_n 0, 1) := by decide +kernel
theorem dd_jdk_94_method_16_5 : decode jdk_94_method_16_code 5 = .ok (.iconst 0, 1) := by decide +kernel
theorem dd_jdk_94_method_16_6 : decode jdk_94_method_16_code 6 = .ok (.putfield 1, 3) := by decide +kernel
theorem dd_jdk_94_method_16_9 : decode jdk_94_method_16_code 9 = .ok (.aload_n 0, 1) := by decide +kernel
theorem dd_jdk_94_method_16_10 : decode jdk_94_method_16_code 10 = .ok (.iconst 0, 1) := by decide +kernel
theorem dd_jdk_94_method_16_11 : decode jdk_94_method_16_code 11 = .ok (.putfield 64, 3) := by decide +kernel
theorem dd_jdk_94_method_16_14 : decode jdk_94_method_16_code 14 = .ok (.return_, 1) := by decide +kernel
theorem pn_5 : plainName "java/util/LinkedHashMap" = true := by first | (simp [plainName, overriddenIn]; done) | decide +kernel
theorem ef_own_lhi (m : MethodId) (x0 : Addr) : entryFrame m #[(.ref x0)] 1 = mkF m 0 #[.val (.ref x0)] [] := by first | (simp [entryFrame, mkF, argsToLocals, Value.category]; done) | rfl
set_option maxRecDepth 65536 in
set_option maxHeartbeats 40000000 in
theorem own_lhi (l : Launch) (Z : State) (a0 : Array Value) (hw : ∀ d ∈ tables_1, d.before a0 Z = true) (EWf : own_EW Z own_EL) (n0 : Nat) (a : Addr) (h0 : Heap) (O0 : Old Z n0 h0) (n_a : n0 ≤ a) (p_E : Exa Z h0 a "java/util/LinkedHashMap") (p_F : Fld Z h0 a "java/util/HashMap" "loadFactor" "F" (.float 0)) (p_G : Fld Z h0 a "java/util/LinkedHashMap" "putMode" "I" (.int (0 : Int32))) (p_H : Fld Z h0 a "java/util/LinkedHashMap" "accessOrder" "Z" (.int (0 : Int32))) :
    own_Met l Z own_EL [] false n0 (⟨"java/util/LinkedHashMap", "<init>", "()V"⟩ : MethodName) jdk_94_method_16_code 1 none ({ frames := 3, cells := 0, slots := 0, locals := 36 } : Room) #[(.ref a)] h0 (fun v h => v = none ∧ Keep h0 h [a]) := by
  refine own_enter (own := "java/util/LinkedHashMap") (nm := "<init>") (plainFor_of_name pn_5) rfl rfl O0 EWf ?_
  have W : ∀ (k : Nat) {d : Jvm.Cond}, tables_1[k]? = some d → d.before a0 Z = true := fun k d q => hw d (List.mem_of_getElem? q)
  intro G p e s m below meth c T0 hGe X0
  rw [ef_own_lhi m a]
  refine own_aload_n (pc' := 1) X0 dd_jdk_94_method_16_0 rfl rfl rfl ?_
  refine own_callIM (pc' := 4) (cells' := 0) (slots' := 0) (argsL := []) (rest := []) (W := 0) (y := (⟨"java/util/HashMap", "<init>", "()V"⟩ : MethodName)) (a := a) X0 (W 65 rfl) (W 66 rfl) rfl (by decide) (own_hmi l Z a0 hw EWf n0 a h0 (own_old X0) n_a p_E p_F p_G p_H) all0 (W 70 rfl) (W 69 rfl) (by decide) (by decide) rfl (lenOf pd_8 rfl) rfl rfl dd_jdk_94_method_16_1 rfl rfl rfl rfl (by decide) (by decide) ?_
  intro v1 T1 h1 s1 X1 q1 r1
  obtain ⟨rfl, K1, Fa1, Fb1⟩ := q1
  show G T1 (mkF m 4 #[.val (.ref a)] [])
  refine own_aload_n (pc' := 5) X1 dd_jdk_94_method_16_4 rfl rfl rfl ?_
  refine own_iconst (pc' := 6) X1 dd_jdk_94_method_16_5 rfl (z := (0 : Int32)) (by decide) ?_
  have f2 := (p_E.keep K1)
  refine own_put (pc' := 9) X1 (host := "") (Or.inl (W 81 rfl)) Via.refl Fa1 f2 (Or.inl (W 82 rfl)) (W 60 rfl) (ty := .int) (by decide) rfl rfl n_a (Or.inl ⟨by decide, by decide⟩) dd_jdk_94_method_16_6 rfl ?_
  intro T3 h3 X3 W3 K3
  have f3_ := Fa1.same W3
  refine own_aload_n (pc' := 10) X3 dd_jdk_94_method_16_9 rfl rfl rfl ?_
  refine own_iconst (pc' := 11) X3 dd_jdk_94_method_16_10 rfl (z := (0 : Int32)) (by decide) ?_
  have f4 := (Fb1.other W3 (Or.inr (slot_ne (Or.inr (W 84 rfl)) (Or.inl (W 82 rfl)) (by decide) (t := .boolean) (t' := .int) (by decide) (by decide))))
  have f5 := (f2.keep K3)
  refine own_put (pc' := 14) X3 (host := "") (Or.inl (W 83 rfl)) Via.refl f4 f5 (Or.inr ⟨(W 84 rfl), rfl, rfl⟩) (W 60 rfl) (ty := .boolean) (by decide) rfl rfl n_a (Or.inl ⟨by decide, by decide⟩) dd_jdk_94_method_16_11 rfl ?_
  intro T6 h6 X6 W6 K6
  have f6_ := f4.same W6
  exact own_retV X6 hGe rfl dd_jdk_94_method_16_14 (by decide) (by decide) ⟨rfl, ((((Keep.refl h0 [a]).trans K1 (allS (Or.inl (List.mem_of_getElem? (i := 0) rfl)) all0)).trans K3 (allS (Or.inl (List.mem_of_getElem? (i := 0) rfl)) all0)).trans K6 (allS (Or.inl (List.mem_of_getElem? (i := 0) rfl)) all0))⟩
theorem dd_prog_21_method_1_0 : decode prog_21_method_1_code 0 = .ok (.aload_n 0, 1) := by decide +kernel
theorem dd_prog_21_method_1_1 : decode prog_21_method_1_code 1 = .ok (.invokespecial 1, 3) := by decide +kernel
theorem dd_prog_21_method_1_4 : decode prog_21_method_1_code 4 = .ok (.aload_n 0, 1) := by decide +kernel
theorem dd_prog_21_method_1_5 : decode prog_21_method_1_code 5 = .ok (.invokestatic 7, 3) := by decide +kernel
theorem pd_9 : parseMethodDescriptor "()Ljava/util/List;" = some ⟨[], some (.object "java/util/List")⟩ := by decide +kernel
theorem dd_prog_21_method_1_8 : decode prog_21_method_1_code 8 = .ok (.putfield 13, 3) := by decide +kernel
theorem dd_prog_21_method_1_11 : decode prog_21_method_1_code 11 = .ok (.aload_n 0, 1) := by decide +kernel
theorem dd_prog_21_method_1_12 : decode prog_21_method_1_code 12 = .ok (.invokestatic 7, 3) := by decide +kernel
theorem dd_prog_21_method_1_15 : decode prog_21_method_1_code 15 = .ok (.putfield 19, 3) := by decide +kernel
theorem dd_prog_21_method_1_18 : decode prog_21_method_1_code 18 = .ok (.aload_n 0, 1) := by decide +kernel
theorem dd_prog_21_method_1_19 : decode prog_21_method_1_code 19 = .ok (.invokestatic 7, 3) := by decide +kernel
theorem dd_prog_21_method_1_22 : decode prog_21_method_1_code 22 = .ok (.putfield 22, 3) := by decide +kernel
theorem dd_prog_21_method_1_25 : decode prog_21_method_1_code 25 = .ok (.aload_n 0, 1) := by decide +kernel
theorem dd_prog_21_method_1_26 : decode prog_21_method_1_code 26 = .ok (.new 25, 3) := by decide +kernel
theorem dd_prog_21_method_1_29 : decode prog_21_method_1_code 29 = .ok (.dup, 1) := by decide +kernel
theorem dd_prog_21_method_1_30 : decode prog_21_method_1_code 30 = .ok (.invokespecial 27, 3) := by decide +kernel
theorem dd_prog_21_method_1_33 : decode prog_21_method_1_code 33 = .ok (.putfield 28, 3) := by decide +kernel
theorem dd_prog_21_method_1_36 : decode prog_21_method_1_code 36 = .ok (.aload_n 0, 1) := by decide +kernel
theorem dd_prog_21_method_1_37 : decode prog_21_method_1_code 37 = .ok (.invokestatic 7, 3) := by decide +kernel
theorem dd_prog_21_method_1_40 : decode prog_21_method_1_code 40 = .ok (.putfield 32, 3) := by decide +kernel
theorem dd_prog_21_method_1_43 : decode prog_21_method_1_code 43 = .ok (.aload_n 0, 1) := by decide +kernel
theorem dd_prog_21_method_1_44 : decode prog_21_method_1_code 44 = .ok (.iconst 1, 1) := by decide +kernel
theorem dd_prog_21_method_1_45 : decode prog_21_method_1_code 45 = .ok (.putfield 35, 3) := by decide +kernel
theorem dd_prog_21_method_1_48 : decode prog_21_method_1_code 48 = .ok (.aload_n 0, 1) := by decide +kernel
theorem dd_prog_21_method_1_49 : decode prog_21_method_1_code 49 = .ok (.invokestatic 7, 3) := by decide +kernel
theorem dd_prog_21_method_1_52 : decode prog_21_method_1_code 52 = .ok (.putfield 39, 3) := by decide +kernel
theorem dd_prog_21_method_1_55 : decode prog_21_method_1_code 55 = .ok (.aload_n 0, 1) := by decide +kernel
theorem dd_prog_21_method_1_56 : decode prog_21_method_1_code 56 = .ok (.aload_n 1, 1) := by decide +kernel
theorem dd_prog_21_method_1_57 : decode prog_21_method_1_code 57 = .ok (.putfield 42, 3) := by decide +kernel
theorem dd_prog_21_method_1_60 : decode prog_21_method_1_code 60 = .ok (.aload_n 0, 1) := by decide +kernel
theorem dd_prog_21_method_1_61 : decode prog_21_method_1_code 61 = .ok (.aload_n 2, 1) := by decide +kernel
theorem dd_prog_21_method_1_62 : decode prog_21_method_1_code 62 = .ok (.putfield 46, 3) := by decide +kernel
theorem dd_prog_21_method_1_65 : decode prog_21_method_1_code 65 = .ok (.aload_n 0, 1) := by decide +kernel
theorem dd_prog_21_method_1_66 : decode prog_21_method_1_code 66 = .ok (.aload_n 3, 1) := by decide +kernel
theorem dd_prog_21_method_1_67 : decode prog_21_method_1_code 67 = .ok (.putfield 49, 3) := by decide +kernel
theorem dd_prog_21_method_1_70 : decode prog_21_method_1_code 70 = .ok (.return_, 1) := by decide +kernel
theorem pn_6 : plainName "com/example/topf/topf/core/BeanDefinition" = true := by first | (simp [plainName, overriddenIn]; done) | decide +kernel
theorem ef_own_bdi (m : MethodId) (x0 : Addr) (x1 : Addr) (x2 : Addr) : entryFrame m #[(.ref x0), (.ref x1), (.ref x2), .null] 4 = mkF m 0 #[.val (.ref x0), .val (.ref x1), .val (.ref x2), .val .null] [] := by first | (simp [entryFrame, mkF, argsToLocals, Value.category]; done) | rfl
set_option maxRecDepth 65536 in
set_option maxHeartbeats 40000000 in
theorem own_bdi (l : Launch) (Z : State) (a0 : Array Value) (hw : ∀ d ∈ tables_1, d.before a0 Z = true) (EWf : own_EW Z own_EL) (n0 : Nat) (a x1 x2 em ea : Addr) (h0 : Heap) (O0 : Old Z n0 h0) (n_a : n0 ≤ a) (p_E : Exa Z h0 a "com/example/topf/topf/core/BeanDefinition") (p_aliases : Fld Z h0 a "com/example/topf/topf/core/BeanDefinition" "aliases" "Ljava/util/List;" .null) (p_dependsOn : Fld Z h0 a "com/example/topf/topf/core/BeanDefinition" "dependsOn" "Ljava/util/List;" .null) (p_constructorArguments : Fld Z h0 a "com/example/topf/topf/core/BeanDefinition" "constructorArguments" "Ljava/util/List;" .null) (p_properties : Fld Z h0 a "com/example/topf/topf/core/BeanDefinition" "properties" "Ljava/util/Map;" .null) (p_qualifiers : Fld Z h0 a "com/example/topf/topf/core/BeanDefinition" "qualifiers" "Ljava/util/List;" .null) (p_autowireCandidate : Fld Z h0 a "com/example/topf/topf/core/BeanDefinition" "autowireCandidate" "Z" (.int 0)) (p_changeCounts : Fld Z h0 a "com/example/topf/topf/core/BeanDefinition" "changeCounts" "Ljava/util/List;" .null) (p_name : Fld Z h0 a "com/example/topf/topf/core/BeanDefinition" "name" "Ljava/lang/String;" .null) (p_className : Fld Z h0 a "com/example/topf/topf/core/BeanDefinition" "className" "Ljava/lang/String;" .null) (p_location : Fld Z h0 a "com/example/topf/topf/core/BeanDefinition" "location" "Ljava/lang/String;" .null) (p_scope : Fld Z h0 a "com/example/topf/topf/core/BeanDefinition" "scope" "Ljava/lang/String;" .null) (EM : own_EMP Z em ea) :
    own_Met l Z own_EL [] false n0 (⟨"com/example/topf/topf/core/BeanDefinition", "<init>", "(Ljava/lang/String;Ljava/lang/String;Ljava/lang/String;)V"⟩ : MethodName) prog_21_method_1_code 4 none ({ frames := 4, cells := 1, slots := 12, locals := 50 } : Room) #[(.ref a), (.ref x1), (.ref x2), .null] h0 (fun v h => v = none ∧ Keep h0 h [a] ∧ Exa Z h a "com/example/topf/topf/core/BeanDefinition" ∧ Fld Z h a "com/example/topf/topf/core/BeanDefinition" "scope" "Ljava/lang/String;" .null ∧ Fld Z h a "com/example/topf/topf/core/BeanDefinition" "changeCounts" "Ljava/util/List;" (.ref em)) := by
  refine own_enter (own := "com/example/topf/topf/core/BeanDefinition") (nm := "<init>") (plainFor_of_name pn_6) rfl rfl O0 EWf ?_
  have W : ∀ (k : Nat) {d : Jvm.Cond}, tables_1[k]? = some d → d.before a0 Z = true := fun k d q => hw d (List.mem_of_getElem? q)
  intro G p e s m below meth c T0 hGe X0
  rw [ef_own_bdi m a x1 x2]
  refine own_aload_n (pc' := 1) X0 dd_prog_21_method_1_0 rfl rfl rfl ?_
  refine own_initO (pc' := 4) (W := 0) X0 (W 46 rfl) (W 18 rfl) (W 19 rfl) rfl dd_prog_21_method_1_1 rfl (by decide) rfl (by decide) ?_
  intro T1 X1
  refine own_aload_n (pc' := 5) X1 dd_prog_21_method_1_4 rfl rfl rfl ?_
  refine own_callSM (pc' := 8) (cells' := 0) (slots' := 0) (argsL := []) (rest := [(.ref a)]) (W := 1) (y := (⟨"java/util/List", "of", "()Ljava/util/List;"⟩ : MethodName)) X1 (W 47 rfl) (W 48 rfl) (by decide) (own_lof l Z a0 hw EWf n0 em ea h0 (own_old X1) EM) all0 (W 50 rfl) (W 49 rfl) (by decide) (by decide) rfl (lenOf pd_9 rfl) rfl rfl dd_prog_21_method_1_5 rfl rfl rfl rfl (by decide) (by decide) ?_
  intro v2 T2 h2 s2 X2 q2 r2
  obtain ⟨rfl, rfl⟩ := q2
  show G T2 (mkF m 8 #[.val (.ref a), .val (.ref x1), .val (.ref x2), .val .null] [(.ref em), (.ref a)])
  refine own_put (pc' := 11) X2 (host := "") (Or.inl (W 53 rfl)) Via.refl p_aliases p_E (Or.inl (W 54 rfl)) (W 37 rfl) (ty := (.object "java/util/List")) (by decide) rfl rfl n_a (Or.inl ⟨by decide, by decide⟩) dd_prog_21_method_1_8 rfl ?_
  intro T3 h3 X3 W3 K3
  have f3_ := p_aliases.same W3
  refine own_aload_n (pc' := 12) X3 dd_prog_21_method_1_11 rfl rfl rfl ?_
  refine own_callSM (pc' := 15) (cells' := 0) (slots' := 0) (argsL := []) (rest := [(.ref a)]) (W := 1) (y := (⟨"java/util/List", "of", "()Ljava/util/List;"⟩ : MethodName)) X3 (W 47 rfl) (W 48 rfl) (by decide) (own_lof l Z a0 hw EWf n0 em ea h3 (own_old X3) EM) all0 (W 50 rfl) (W 49 rfl) (by decide) (by decide) rfl (lenOf pd_9 rfl) rfl rfl dd_prog_21_method_1_12 rfl rfl rfl rfl (by decide) (by decide) ?_
  intro v4 T4 h4 s4 X4 q4 r4
  obtain ⟨rfl, rfl⟩ := q4
  show G T4 (mkF m 15 #[.val (.ref a), .val (.ref x1), .val (.ref x2), .val .null] [(.ref em), (.ref a)])
  have f5 := (p_dependsOn.other W3 (Or.inr (slot_ne (Or.inl (W 56 rfl)) (Or.inl (W 54 rfl)) (by decide) (t := (.object "java/util/List")) (t' := (.object "java/util/List")) (by decide) (by decide))))
  have f6 := (p_E.keep K3)
  refine own_put (pc' := 18) X4 (host := "") (Or.inl (W 55 rfl)) Via.refl f5 f6 (Or.inl (W 56 rfl)) (W 37 rfl) (ty := (.object "java/util/List")) (by decide) rfl rfl n_a (Or.inl ⟨by decide, by decide⟩) dd_prog_21_method_1_15 rfl ?_
  intro T7 h7 X7 W7 K7
  have f7_ := f5.same W7
  refine own_aload_n (pc' := 19) X7 dd_prog_21_method_1_18 rfl rfl rfl ?_
  refine own_callSM (pc' := 22) (cells' := 0) (slots' := 0) (argsL := []) (rest := [(.ref a)]) (W := 1) (y := (⟨"java/util/List", "of", "()Ljava/util/List;"⟩ : MethodName)) X7 (W 47 rfl) (W 48 rfl) (by decide) (own_lof l Z a0 hw EWf n0 em ea h7 (own_old X7) EM) all0 (W 50 rfl) (W 49 rfl) (by decide) (by decide) rfl (lenOf pd_9 rfl) rfl rfl dd_prog_21_method_1_19 rfl rfl rfl rfl (by decide) (by decide) ?_
  intro v8 T8 h8 s8 X8 q8 r8
  obtain ⟨rfl, rfl⟩ := q8
  show G T8 (mkF m 22 #[.val (.ref a), .val (.ref x1), .val (.ref x2), .val .null] [(.ref em), (.ref a)])
  have f9 := ((p_constructorArguments.other W3 (Or.inr (slot_ne (Or.inl (W 58 rfl)) (Or.inl (W 54 rfl)) (by decide) (t := (.object "java/util/List")) (t' := (.object "java/util/List")) (by decide) (by decide)))).other W7 (Or.inr (slot_ne (Or.inl (W 58 rfl)) (Or.inl (W 56 rfl)) (by decide) (t := (.object "java/util/List")) (t' := (.object "java/util/List")) (by decide) (by decide))))
  have f10 := (f6.keep K7)
  refine own_put (pc' := 25) X8 (host := "") (Or.inl (W 57 rfl)) Via.refl f9 f10 (Or.inl (W 58 rfl)) (W 37 rfl) (ty := (.object "java/util/List")) (by decide) rfl rfl n_a (Or.inl ⟨by decide, by decide⟩) dd_prog_21_method_1_22 rfl ?_
  intro T11 h11 X11 W11 K11
  have f11_ := f9.same W11
  refine own_aload_n (pc' := 26) X11 dd_prog_21_method_1_25 rfl rfl rfl ?_
  refine own_new (pc' := 29) (cells' := 1) (slots' := 12) X11 (W 59 rfl) (W 60 rfl) (W 61 rfl) dd_prog_21_method_1_26 rfl rfl rfl (by decide) (by decide) ?_
  intro T12 h12 a12 g12 X12 K12 E12 D12 U12
  have n_a12 : n0 ≤ a12 := by rw [g12]; exact own_n0 X11
  have F12_loadFactor : Fld Z h12 a12 "java/util/HashMap" "loadFactor" "F" (.float 0) := D12 (Or.inr (W 80 rfl)) (ty := .float) (by decide)
  have F12_putMode : Fld Z h12 a12 "java/util/LinkedHashMap" "putMode" "I" (.int (0 : Int32)) := D12 (Or.inl (W 82 rfl)) (ty := .int) (by decide)
  have F12_accessOrder : Fld Z h12 a12 "java/util/LinkedHashMap" "accessOrder" "Z" (.int (0 : Int32)) := D12 (Or.inr (W 84 rfl)) (ty := .boolean) (by decide)
  refine own_dup (pc' := 30) X12 dd_prog_21_method_1_29 rfl rfl ?_
  refine own_callIM (pc' := 33) (cells' := 1) (slots' := 12) (argsL := []) (rest := [(.ref a12), (.ref a)]) (W := 2) (y := (⟨"java/util/LinkedHashMap", "<init>", "()V"⟩ : MethodName)) (a := a12) X12 (W 62 rfl) (W 63 rfl) rfl (by decide) (own_lhi l Z a0 hw EWf n0 a12 h12 (own_old X12) n_a12 E12 F12_loadFactor F12_putMode F12_accessOrder) all0 (W 64 rfl) (W 61 rfl) (by decide) (by decide) rfl (lenOf pd_8 rfl) rfl rfl dd_prog_21_method_1_30 rfl rfl rfl rfl (by decide) (by decide) ?_
  intro v13 T13 h13 s13 X13 q13 r13
  obtain ⟨rfl, K13⟩ := q13
  show G T13 (mkF m 33 #[.val (.ref a), .val (.ref x1), .val (.ref x2), .val .null] [(.ref a12), (.ref a)])
  have ne_a_a12 : a ≠ a12 := own_ne p_E.lt (Nat.le_trans K3.1 (Nat.le_trans K7.1 (Nat.le_trans K11.1 (Nat.le_refl _)))) (Nat.le_of_eq (Eq.symm g12))
  have f14 := (((((p_properties.other W3 (Or.inr (slot_ne (Or.inr (W 86 rfl)) (Or.inl (W 54 rfl)) (by decide) (t := (.object "java/util/Map")) (t' := (.object "java/util/List")) (by decide) (by decide)))).other W7 (Or.inr (slot_ne (Or.inr (W 86 rfl)) (Or.inl (W 56 rfl)) (by decide) (t := (.object "java/util/Map")) (t' := (.object "java/util/List")) (by decide) (by decide)))).other W11 (Or.inr (slot_ne (Or.inr (W 86 rfl)) (Or.inl (W 58 rfl)) (by decide) (t := (.object "java/util/Map")) (t' := (.object "java/util/List")) (by decide) (by decide)))).keep K12 nin0).keep K13 (ninS ne_a_a12 nin0))
  have f15 := (((f10.keep K11).keep K12).keep K13)
  refine own_put (pc' := 36) X13 (host := "") (Or.inl (W 85 rfl)) Via.refl f14 f15 (Or.inr ⟨(W 86 rfl), rfl, rfl⟩) (W 37 rfl) (ty := (.object "java/util/Map")) (by decide) rfl rfl n_a (Or.inl ⟨by decide, by decide⟩) dd_prog_21_method_1_33 rfl ?_
  intro T16 h16 X16 W16 K16
  have f16_ := f14.same W16
  refine own_aload_n (pc' := 37) X16 dd_prog_21_method_1_36 rfl rfl rfl ?_
  refine own_callSM (pc' := 40) (cells' := 1) (slots' := 12) (argsL := []) (rest := [(.ref a)]) (W := 1) (y := (⟨"java/util/List", "of", "()Ljava/util/List;"⟩ : MethodName)) X16 (W 47 rfl) (W 48 rfl) (by decide) (own_lof l Z a0 hw EWf n0 em ea h16 (own_old X16) EM) all0 (W 50 rfl) (W 49 rfl) (by decide) (by decide) rfl (lenOf pd_9 rfl) rfl rfl dd_prog_21_method_1_37 rfl rfl rfl rfl (by decide) (by decide) ?_
  intro v17 T17 h17 s17 X17 q17 r17
  obtain ⟨rfl, rfl⟩ := q17
  show G T17 (mkF m 40 #[.val (.ref a), .val (.ref x1), .val (.ref x2), .val .null] [(.ref em), (.ref a)])
  have f18 := ((((((p_qualifiers.other W3 (Or.inr (slot_ne (Or.inl (W 88 rfl)) (Or.inl (W 54 rfl)) (by decide) (t := (.object "java/util/List")) (t' := (.object "java/util/List")) (by decide) (by decide)))).other W7 (Or.inr (slot_ne (Or.inl (W 88 rfl)) (Or.inl (W 56 rfl)) (by decide) (t := (.object "java/util/List")) (t' := (.object "java/util/List")) (by decide) (by decide)))).other W11 (Or.inr (slot_ne (Or.inl (W 88 rfl)) (Or.inl (W 58 rfl)) (by decide) (t := (.object "java/util/List")) (t' := (.object "java/util/List")) (by decide) (by decide)))).keep K12 nin0).keep K13 (ninS ne_a_a12 nin0)).other W16 (Or.inr (slot_ne (Or.inl (W 88 rfl)) (Or.inr (W 86 rfl)) (by decide) (t := (.object "java/util/List")) (t' := (.object "java/util/Map")) (by decide) (by decide))))
  have f19 := (f15.keep K16)
  refine own_put (pc' := 43) X17 (host := "") (Or.inl (W 87 rfl)) Via.refl f18 f19 (Or.inl (W 88 rfl)) (W 37 rfl) (ty := (.object "java/util/List")) (by decide) rfl rfl n_a (Or.inl ⟨by decide, by decide⟩) dd_prog_21_method_1_40 rfl ?_
  intro T20 h20 X20 W20 K20
  have f20_ := f18.same W20
  refine own_aload_n (pc' := 44) X20 dd_prog_21_method_1_43 rfl rfl rfl ?_
  refine own_iconst (pc' := 45) X20 dd_prog_21_method_1_44 rfl (z := (1 : Int32)) (by decide) ?_
  have f21 := (((((((p_autowireCandidate.other W3 (Or.inr (slot_ne (Or.inl (W 90 rfl)) (Or.inl (W 54 rfl)) (by decide) (t := .boolean) (t' := (.object "java/util/List")) (by decide) (by decide)))).other W7 (Or.inr (slot_ne (Or.inl (W 90 rfl)) (Or.inl (W 56 rfl)) (by decide) (t := .boolean) (t' := (.object "java/util/List")) (by decide) (by decide)))).other W11 (Or.inr (slot_ne (Or.inl (W 90 rfl)) (Or.inl (W 58 rfl)) (by decide) (t := .boolean) (t' := (.object "java/util/List")) (by decide) (by decide)))).keep K12 nin0).keep K13 (ninS ne_a_a12 nin0)).other W16 (Or.inr (slot_ne (Or.inl (W 90 rfl)) (Or.inr (W 86 rfl)) (by decide) (t := .boolean) (t' := (.object "java/util/Map")) (by decide) (by decide)))).other W20 (Or.inr (slot_ne (Or.inl (W 90 rfl)) (Or.inl (W 88 rfl)) (by decide) (t := .boolean) (t' := (.object "java/util/List")) (by decide) (by decide))))
  have f22 := (f19.keep K20)
  refine own_put (pc' := 48) X20 (host := "") (Or.inl (W 89 rfl)) Via.refl f21 f22 (Or.inl (W 90 rfl)) (W 37 rfl) (ty := .boolean) (by decide) rfl rfl n_a (Or.inl ⟨by decide, by decide⟩) dd_prog_21_method_1_45 rfl ?_
  intro T23 h23 X23 W23 K23
  have f23_ := f21.same W23
  refine own_aload_n (pc' := 49) X23 dd_prog_21_method_1_48 rfl rfl rfl ?_
  refine own_callSM (pc' := 52) (cells' := 1) (slots' := 12) (argsL := []) (rest := [(.ref a)]) (W := 1) (y := (⟨"java/util/List", "of", "()Ljava/util/List;"⟩ : MethodName)) X23 (W 47 rfl) (W 48 rfl) (by decide) (own_lof l Z a0 hw EWf n0 em ea h23 (own_old X23) EM) all0 (W 50 rfl) (W 49 rfl) (by decide) (by decide) rfl (lenOf pd_9 rfl) rfl rfl dd_prog_21_method_1_49 rfl rfl rfl rfl (by decide) (by decide) ?_
  intro v24 T24 h24 s24 X24 q24 r24
  obtain ⟨rfl, rfl⟩ := q24
  show G T24 (mkF m 52 #[.val (.ref a), .val (.ref x1), .val (.ref x2), .val .null] [(.ref em), (.ref a)])
  have f25 := ((((((((p_changeCounts.other W3 (Or.inr (slot_ne (Or.inl (W 92 rfl)) (Or.inl (W 54 rfl)) (by decide) (t := (.object "java/util/List")) (t' := (.object "java/util/List")) (by decide) (by decide)))).other W7 (Or.inr (slot_ne (Or.inl (W 92 rfl)) (Or.inl (W 56 rfl)) (by decide) (t := (.object "java/util/List")) (t' := (.object "java/util/List")) (by decide) (by decide)))).other W11 (Or.inr (slot_ne (Or.inl (W 92 rfl)) (Or.inl (W 58 rfl)) (by decide) (t := (.object "java/util/List")) (t' := (.object "java/util/List")) (by decide) (by decide)))).keep K12 nin0).keep K13 (ninS ne_a_a12 nin0)).other W16 (Or.inr (slot_ne (Or.inl (W 92 rfl)) (Or.inr (W 86 rfl)) (by decide) (t := (.object "java/util/List")) (t' := (.object "java/util/Map")) (by decide) (by decide)))).other W20 (Or.inr (slot_ne (Or.inl (W 92 rfl)) (Or.inl (W 88 rfl)) (by decide) (t := (.object "java/util/List")) (t' := (.object "java/util/List")) (by decide) (by decide)))).other W23 (Or.inr (slot_ne (Or.inl (W 92 rfl)) (Or.inl (W 90 rfl)) (by decide) (t := (.object "java/util/List")) (t' := .boolean) (by decide) (by decide))))
  have f26 := (f22.keep K23)
  refine own_put (pc' := 55) X24 (host := "") (Or.inl (W 91 rfl)) Via.refl f25 f26 (Or.inl (W 92 rfl)) (W 37 rfl) (ty := (.object "java/util/List")) (by decide) rfl rfl n_a (Or.inl ⟨by decide, by decide⟩) dd_prog_21_method_1_52 rfl ?_
  intro T27 h27 X27 W27 K27
  have f27_ := f25.same W27
  refine own_aload_n (pc' := 56) X27 dd_prog_21_method_1_55 rfl rfl rfl ?_
  refine own_aload_n (pc' := 57) X27 dd_prog_21_method_1_56 rfl rfl rfl ?_
  have f28 := (((((((((p_name.other W3 (Or.inr (slot_ne (Or.inr (W 94 rfl)) (Or.inl (W 54 rfl)) (by decide) (t := (.object "java/lang/String")) (t' := (.object "java/util/List")) (by decide) (by decide)))).other W7 (Or.inr (slot_ne (Or.inr (W 94 rfl)) (Or.inl (W 56 rfl)) (by decide) (t := (.object "java/lang/String")) (t' := (.object "java/util/List")) (by decide) (by decide)))).other W11 (Or.inr (slot_ne (Or.inr (W 94 rfl)) (Or.inl (W 58 rfl)) (by decide) (t := (.object "java/lang/String")) (t' := (.object "java/util/List")) (by decide) (by decide)))).keep K12 nin0).keep K13 (ninS ne_a_a12 nin0)).other W16 (Or.inr (slot_ne (Or.inr (W 94 rfl)) (Or.inr (W 86 rfl)) (by decide) (t := (.object "java/lang/String")) (t' := (.object "java/util/Map")) (by decide) (by decide)))).other W20 (Or.inr (slot_ne (Or.inr (W 94 rfl)) (Or.inl (W 88 rfl)) (by decide) (t := (.object "java/lang/String")) (t' := (.object "java/util/List")) (by decide) (by decide)))).other W23 (Or.inr (slot_ne (Or.inr (W 94 rfl)) (Or.inl (W 90 rfl)) (by decide) (t := (.object "java/lang/String")) (t' := .boolean) (by decide) (by decide)))).other W27 (Or.inr (slot_ne (Or.inr (W 94 rfl)) (Or.inl (W 92 rfl)) (by decide) (t := (.object "java/lang/String")) (t' := (.object "java/util/List")) (by decide) (by decide))))
  have f29 := (f26.keep K27)
  refine own_put (pc' := 60) X27 (host := "") (Or.inl (W 93 rfl)) Via.refl f28 f29 (Or.inr ⟨(W 94 rfl), rfl, rfl⟩) (W 37 rfl) (ty := (.object "java/lang/String")) (by decide) rfl rfl n_a (Or.inl ⟨by decide, by decide⟩) dd_prog_21_method_1_57 rfl ?_
  intro T30 h30 X30 W30 K30
  have f30_ := f28.same W30
  refine own_aload_n (pc' := 61) X30 dd_prog_21_method_1_60 rfl rfl rfl ?_
  refine own_aload_n (pc' := 62) X30 dd_prog_21_method_1_61 rfl rfl rfl ?_
  have f31 := ((((((((((p_className.other W3 (Or.inr (slot_ne (Or.inl (W 96 rfl)) (Or.inl (W 54 rfl)) (by decide) (t := (.object "java/lang/String")) (t' := (.object "java/util/List")) (by decide) (by decide)))).other W7 (Or.inr (slot_ne (Or.inl (W 96 rfl)) (Or.inl (W 56 rfl)) (by decide) (t := (.object "java/lang/String")) (t' := (.object "java/util/List")) (by decide) (by decide)))).other W11 (Or.inr (slot_ne (Or.inl (W 96 rfl)) (Or.inl (W 58 rfl)) (by decide) (t := (.object "java/lang/String")) (t' := (.object "java/util/List")) (by decide) (by decide)))).keep K12 nin0).keep K13 (ninS ne_a_a12 nin0)).other W16 (Or.inr (slot_ne (Or.inl (W 96 rfl)) (Or.inr (W 86 rfl)) (by decide) (t := (.object "java/lang/String")) (t' := (.object "java/util/Map")) (by decide) (by decide)))).other W20 (Or.inr (slot_ne (Or.inl (W 96 rfl)) (Or.inl (W 88 rfl)) (by decide) (t := (.object "java/lang/String")) (t' := (.object "java/util/List")) (by decide) (by decide)))).other W23 (Or.inr (slot_ne (Or.inl (W 96 rfl)) (Or.inl (W 90 rfl)) (by decide) (t := (.object "java/lang/String")) (t' := .boolean) (by decide) (by decide)))).other W27 (Or.inr (slot_ne (Or.inl (W 96 rfl)) (Or.inl (W 92 rfl)) (by decide) (t := (.object "java/lang/String")) (t' := (.object "java/util/List")) (by decide) (by decide)))).other W30 (Or.inr (slot_ne (Or.inl (W 96 rfl)) (Or.inr (W 94 rfl)) (by decide) (t := (.object "java/lang/String")) (t' := (.object "java/lang/String")) (by decide) (by decide))))
  have f32 := (f29.keep K30)
  refine own_put (pc' := 65) X30 (host := "") (Or.inl (W 95 rfl)) Via.refl f31 f32 (Or.inl (W 96 rfl)) (W 37 rfl) (ty := (.object "java/lang/String")) (by decide) rfl rfl n_a (Or.inl ⟨by decide, by decide⟩) dd_prog_21_method_1_62 rfl ?_
  intro T33 h33 X33 W33 K33
  have f33_ := f31.same W33
  refine own_aload_n (pc' := 66) X33 dd_prog_21_method_1_65 rfl rfl rfl ?_
  refine own_aload_n (pc' := 67) X33 dd_prog_21_method_1_66 rfl rfl rfl ?_
  have f34 := (((((((((((p_location.other W3 (Or.inr (slot_ne (Or.inr (W 98 rfl)) (Or.inl (W 54 rfl)) (by decide) (t := (.object "java/lang/String")) (t' := (.object "java/util/List")) (by decide) (by decide)))).other W7 (Or.inr (slot_ne (Or.inr (W 98 rfl)) (Or.inl (W 56 rfl)) (by decide) (t := (.object "java/lang/String")) (t' := (.object "java/util/List")) (by decide) (by decide)))).other W11 (Or.inr (slot_ne (Or.inr (W 98 rfl)) (Or.inl (W 58 rfl)) (by decide) (t := (.object "java/lang/String")) (t' := (.object "java/util/List")) (by decide) (by decide)))).keep K12 nin0).keep K13 (ninS ne_a_a12 nin0)).other W16 (Or.inr (slot_ne (Or.inr (W 98 rfl)) (Or.inr (W 86 rfl)) (by decide) (t := (.object "java/lang/String")) (t' := (.object "java/util/Map")) (by decide) (by decide)))).other W20 (Or.inr (slot_ne (Or.inr (W 98 rfl)) (Or.inl (W 88 rfl)) (by decide) (t := (.object "java/lang/String")) (t' := (.object "java/util/List")) (by decide) (by decide)))).other W23 (Or.inr (slot_ne (Or.inr (W 98 rfl)) (Or.inl (W 90 rfl)) (by decide) (t := (.object "java/lang/String")) (t' := .boolean) (by decide) (by decide)))).other W27 (Or.inr (slot_ne (Or.inr (W 98 rfl)) (Or.inl (W 92 rfl)) (by decide) (t := (.object "java/lang/String")) (t' := (.object "java/util/List")) (by decide) (by decide)))).other W30 (Or.inr (slot_ne (Or.inr (W 98 rfl)) (Or.inr (W 94 rfl)) (by decide) (t := (.object "java/lang/String")) (t' := (.object "java/lang/String")) (by decide) (by decide)))).other W33 (Or.inr (slot_ne (Or.inr (W 98 rfl)) (Or.inl (W 96 rfl)) (by decide) (t := (.object "java/lang/String")) (t' := (.object "java/lang/String")) (by decide) (by decide))))
  have f35 := (f32.keep K33)
  refine own_put (pc' := 70) X33 (host := "") (Or.inl (W 97 rfl)) Via.refl f34 f35 (Or.inr ⟨(W 98 rfl), rfl, rfl⟩) (W 37 rfl) (ty := (.object "java/lang/String")) (by decide) rfl rfl n_a (Or.inl ⟨by decide, by decide⟩) dd_prog_21_method_1_67 rfl ?_
  intro T36 h36 X36 W36 K36
  have f36_ := f34.same W36
  have age_a12 : h0.size ≤ a12 := Nat.le_trans (Nat.le_trans K3.1 (Nat.le_trans K7.1 (Nat.le_trans K11.1 (Nat.le_refl _)))) (Nat.le_of_eq (Eq.symm g12))
  have f37 := (f35.keep K36)
  have f38 := ((((((((((((p_scope.other W3 (Or.inr (slot_ne (Or.inl (W 105 rfl)) (Or.inl (W 54 rfl)) (by decide) (t := (.object "java/lang/String")) (t' := (.object "java/util/List")) (by decide) (by decide)))).other W7 (Or.inr (slot_ne (Or.inl (W 105 rfl)) (Or.inl (W 56 rfl)) (by decide) (t := (.object "java/lang/String")) (t' := (.object "java/util/List")) (by decide) (by decide)))).other W11 (Or.inr (slot_ne (Or.inl (W 105 rfl)) (Or.inl (W 58 rfl)) (by decide) (t := (.object "java/lang/String")) (t' := (.object "java/util/List")) (by decide) (by decide)))).keep K12 nin0).keep K13 (ninS ne_a_a12 nin0)).other W16 (Or.inr (slot_ne (Or.inl (W 105 rfl)) (Or.inr (W 86 rfl)) (by decide) (t := (.object "java/lang/String")) (t' := (.object "java/util/Map")) (by decide) (by decide)))).other W20 (Or.inr (slot_ne (Or.inl (W 105 rfl)) (Or.inl (W 88 rfl)) (by decide) (t := (.object "java/lang/String")) (t' := (.object "java/util/List")) (by decide) (by decide)))).other W23 (Or.inr (slot_ne (Or.inl (W 105 rfl)) (Or.inl (W 90 rfl)) (by decide) (t := (.object "java/lang/String")) (t' := .boolean) (by decide) (by decide)))).other W27 (Or.inr (slot_ne (Or.inl (W 105 rfl)) (Or.inl (W 92 rfl)) (by decide) (t := (.object "java/lang/String")) (t' := (.object "java/util/List")) (by decide) (by decide)))).other W30 (Or.inr (slot_ne (Or.inl (W 105 rfl)) (Or.inr (W 94 rfl)) (by decide) (t := (.object "java/lang/String")) (t' := (.object "java/lang/String")) (by decide) (by decide)))).other W33 (Or.inr (slot_ne (Or.inl (W 105 rfl)) (Or.inl (W 96 rfl)) (by decide) (t := (.object "java/lang/String")) (t' := (.object "java/lang/String")) (by decide) (by decide)))).other W36 (Or.inr (slot_ne (Or.inl (W 105 rfl)) (Or.inr (W 98 rfl)) (by decide) (t := (.object "java/lang/String")) (t' := (.object "java/lang/String")) (by decide) (by decide))))
  have f39 := (((f27_.other W30 (Or.inr (slot_ne (Or.inl (W 92 rfl)) (Or.inr (W 94 rfl)) (by decide) (t := (.object "java/util/List")) (t' := (.object "java/lang/String")) (by decide) (by decide)))).other W33 (Or.inr (slot_ne (Or.inl (W 92 rfl)) (Or.inl (W 96 rfl)) (by decide) (t := (.object "java/util/List")) (t' := (.object "java/lang/String")) (by decide) (by decide)))).other W36 (Or.inr (slot_ne (Or.inl (W 92 rfl)) (Or.inr (W 98 rfl)) (by decide) (t := (.object "java/util/List")) (t' := (.object "java/lang/String")) (by decide) (by decide))))
  exact own_retV X36 hGe rfl dd_prog_21_method_1_70 (by decide) (by decide) ⟨rfl, (((((((((((((Keep.refl h0 [a]).trans K3 (allS (Or.inl (List.mem_of_getElem? (i := 0) rfl)) all0)).trans K7 (allS (Or.inl (List.mem_of_getElem? (i := 0) rfl)) all0)).trans K11 (allS (Or.inl (List.mem_of_getElem? (i := 0) rfl)) all0)).trans K12 all0).trans K13 (allS (Or.inr age_a12) all0)).trans K16 (allS (Or.inl (List.mem_of_getElem? (i := 0) rfl)) all0)).trans K20 (allS (Or.inl (List.mem_of_getElem? (i := 0) rfl)) all0)).trans K23 (allS (Or.inl (List.mem_of_getElem? (i := 0) rfl)) all0)).trans K27 (allS (Or.inl (List.mem_of_getElem? (i := 0) rfl)) all0)).trans K30 (allS (Or.inl (List.mem_of_getElem? (i := 0) rfl)) all0)).trans K33 (allS (Or.inl (List.mem_of_getElem? (i := 0) rfl)) all0)).trans K36 (allS (Or.inl (List.mem_of_getElem? (i := 0) rfl)) all0)), f37, f38, f39⟩
theorem dd_jdk_45_method_3_0 : decode jdk_45_method_3_code 0 = .ok (.aload_n 0, 1) := by decide +kernel
theorem dd_jdk_45_method_3_1 : decode jdk_45_method_3_code 1 = .ok (.getfield 7, 3) := by decide +kernel
theorem dd_jdk_45_method_3_4 : decode jdk_45_method_3_code 4 = .ok (.arraylength, 1) := by decide +kernel
theorem dd_jdk_45_method_3_5 : decode jdk_45_method_3_code 5 = .ok (.ireturn, 1) := by decide +kernel
theorem pn_7 : plainName "java/util/ImmutableCollections$ListN" = true := by first | (simp [plainName, overriddenIn]; done) | decide +kernel
theorem ef_own_lns (m : MethodId) (x0 : Addr) : entryFrame m #[(.ref x0)] 1 = mkF m 0 #[.val (.ref x0)] [] := by first | (simp [entryFrame, mkF, argsToLocals, Value.category]; done) | rfl
set_option maxRecDepth 65536 in
set_option maxHeartbeats 40000000 in
theorem own_lns (l : Launch) (Z : State) (a0 : Array Value) (hw : ∀ d ∈ tables_1, d.before a0 Z = true) (EWf : own_EW Z own_EL) (n0 : Nat) (em ea : Addr) (h0 : Heap) (O0 : Old Z n0 h0) (EM : own_EMP Z em ea) :
    own_Met l Z own_EL [] false n0 (⟨"java/util/ImmutableCollections$ListN", "size", "()I"⟩ : MethodName) jdk_45_method_3_code 1 (some .int) ({ frames := 0, cells := 0, slots := 0, locals := 0 } : Room) #[(.ref em)] h0 (fun v h => v = some (.int 0) ∧ h0 = h) := by
  refine own_enter (own := "java/util/ImmutableCollections$ListN") (nm := "size") (plainFor_of_name pn_7) rfl rfl O0 EWf ?_
  have W : ∀ (k : Nat) {d : Jvm.Cond}, tables_1[k]? = some d → d.before a0 Z = true := fun k d q => hw d (List.mem_of_getElem? q)
  intro G p e s m below meth c T0 hGe X0
  rw [ef_own_lns m em]
  obtain ⟨kE, AE⟩ := EM.2.2.2
  refine own_aload_n (pc' := 1) X0 dd_jdk_45_method_3_0 rfl rfl rfl ?_
  refine own_get (pc' := 4) X0 (host := "") (Or.inl (W 125 rfl)) Via.refl (EM.2.2.1.keep (own_oldK (own_old X0)) nin0) dd_jdk_45_method_3_1 rfl ?_
  intro T1 X1
  refine own_arraylength (pc' := 5) (z := (0 : Int32)) X1 (AE.keep (own_oldK (own_old X0)) nin0) rfl dd_jdk_45_method_3_4 rfl ?_
  exact own_ret X1 hGe (t := .int) rfl rfl (Or.inl ⟨rfl, by simp, _, rfl⟩) dd_jdk_45_method_3_5 (by decide) (by decide) ⟨rfl, rfl⟩ nofun
theorem dd_prog_21_method_52_0 : decode prog_21_method_52_code 0 = .ok (.iconst 0, 1) := by decide +kernel
theorem dd_prog_21_method_52_1 : decode prog_21_method_52_code 1 = .ok (.istore_n 1, 1) := by decide +kernel
theorem dd_prog_21_method_52_2 : decode prog_21_method_52_code 2 = .ok (.iload_n 1, 1) := by decide +kernel
theorem dd_prog_21_method_52_3 : decode prog_21_method_52_code 3 = .ok (.aload_n 0, 1) := by decide +kernel
theorem dd_prog_21_method_52_4 : decode prog_21_method_52_code 4 = .ok (.getfield 39, 3) := by decide +kernel
theorem dd_prog_21_method_52_7 : decode prog_21_method_52_code 7 = .ok (.invokeinterface 194 1, 5) := by decide +kernel
theorem pd_10 : parseMethodDescriptor "()I" = some ⟨[], some .int⟩ := by decide +kernel
theorem dd_prog_21_method_52_12 : decode prog_21_method_52_code 12 = .ok (.if_icmp .ge 26, 3) := by decide +kernel
theorem dd_prog_21_method_52_38 : decode prog_21_method_52_code 38 = .ok (.return_, 1) := by decide +kernel
theorem ef_own_chg (m : MethodId) (x0 : Addr) : entryFrame m #[(.ref x0)] 2 = mkF m 0 #[.val (.ref x0), .unset] [] := by first | (simp [entryFrame, mkF, argsToLocals, Value.category]; done) | rfl
set_option maxRecDepth 65536 in
set_option maxHeartbeats 40000000 in
theorem own_chg (l : Launch) (Z : State) (a0 : Array Value) (hw : ∀ d ∈ tables_1, d.before a0 Z = true) (EWf : own_EW Z own_EL) (n0 : Nat) (a em ea : Addr) (h0 : Heap) (O0 : Old Z n0 h0) (p_G : Fld Z h0 a "com/example/topf/topf/core/BeanDefinition" "changeCounts" "Ljava/util/List;" (.ref em)) (EM : own_EMP Z em ea) :
    own_Met l Z own_EL [] false n0 (⟨"com/example/topf/topf/core/BeanDefinition", "changed", "()V"⟩ : MethodName) prog_21_method_52_code 2 none ({ frames := 1, cells := 0, slots := 0, locals := 13 } : Room) #[(.ref a)] h0 (fun v h => v = none ∧ h0 = h) := by
  refine own_enter (own := "com/example/topf/topf/core/BeanDefinition") (nm := "changed") (plainFor_of_name pn_6) rfl rfl O0 EWf ?_
  have W : ∀ (k : Nat) {d : Jvm.Cond}, tables_1[k]? = some d → d.before a0 Z = true := fun k d q => hw d (List.mem_of_getElem? q)
  intro G p e s m below meth c T0 hGe X0
  rw [ef_own_chg m a]
  obtain ⟨kE, AE⟩ := EM.2.2.2
  refine own_iconst (pc' := 1) X0 dd_prog_21_method_52_0 rfl (z := (0 : Int32)) (by decide) ?_
  refine own_istore_n (pc' := 2) X0 dd_prog_21_method_52_1 rfl (Ls' := #[.val (.ref a), .val (.int (0 : Int32))]) rfl ?_
  refine own_iload_n (pc' := 3) X0 dd_prog_21_method_52_2 rfl rfl ?_
  refine own_aload_n (pc' := 4) X0 dd_prog_21_method_52_3 rfl rfl rfl ?_
  refine own_get (pc' := 7) X0 (host := "") (Or.inl (W 91 rfl)) Via.refl p_G dd_prog_21_method_52_4 rfl ?_
  intro T1 X1
  refine own_callFM (pc' := 12) (cells' := 0) (slots' := 0) (argsL := []) (rest := [(.int (0 : Int32))]) (W := 1) (y := (⟨"java/util/List", "size", "()I"⟩ : MethodName)) (z := (⟨"java/util/ImmutableCollections$ListN", "size", "()I"⟩ : MethodName)) (a := em) X1 (W 115 rfl) (W 116 rfl) (fun s' a' hZ' => mvT hZ' (W 117 rfl)) (W 118 rfl) (W 119 rfl) (W 120 rfl) (W 121 rfl) (W 122 rfl) (by decide) (EM.2.1.keep (own_oldK (own_old X0))) (own_lns l Z a0 hw EWf n0 em ea h0 (own_old X1) EM) all0 (W 124 rfl) (W 123 rfl) (by decide) (by decide) rfl (lenOf pd_10 rfl) rfl rfl dd_prog_21_method_52_7 rfl rfl rfl rfl (by decide) (by decide) ?_
  intro v2 T2 h2 s2 X2 q2 r2
  obtain ⟨rfl, rfl⟩ := q2
  show G T2 (mkF m 12 #[.val (.ref a), .val (.int (0 : Int32))] [(.int (0 : Int32)), (.int (0 : Int32))])
  refine own_icmpY (pc' := 38) X2 dd_prog_21_method_52_12 ((flt (by decide)).2.1) (by decide) (by decide) ?_
  exact own_retV X2 hGe rfl dd_prog_21_method_52_38 (by decide) (by decide) ⟨rfl, rfl⟩
theorem dd_prog_21_method_24_0 : decode prog_21_method_24_code 0 = .ok (.aload_n 0, 1) := by decide +kernel
theorem dd_prog_21_method_24_1 : decode prog_21_method_24_code 1 = .ok (.aload_n 1, 1) := by decide +kernel
theorem dd_prog_21_method_24_2 : decode prog_21_method_24_code 2 = .ok (.putfield 93, 3) := by decide +kernel
theorem dd_prog_21_method_24_5 : decode prog_21_method_24_code 5 = .ok (.aload_n 0, 1) := by decide +kernel
theorem dd_prog_21_method_24_6 : decode prog_21_method_24_code 6 = .ok (.invokevirtual 55, 3) := by decide +kernel
theorem dd_prog_21_method_24_9 : decode prog_21_method_24_code 9 = .ok (.return_, 1) := by decide +kernel
theorem ef_own_setN (m : MethodId) (x0 : Addr) : entryFrame m #[(.ref x0), .null] 2 = mkF m 0 #[.val (.ref x0), .val .null] [] := by first | (simp [entryFrame, mkF, argsToLocals, Value.category]; done) | rfl
set_option maxRecDepth 65536 in
set_option maxHeartbeats 40000000 in
theorem own_setN (l : Launch) (Z : State) (a0 : Array Value) (hw : ∀ d ∈ tables_1, d.before a0 Z = true) (EWf : own_EW Z own_EL) (n0 : Nat) (a em ea : Addr)  (h0 : Heap) (O0 : Old Z n0 h0) (n_a : n0 ≤ a) (p_E : Exa Z h0 a "com/example/topf/topf/core/BeanDefinition") (p_F : Fld Z h0 a "com/example/topf/topf/core/BeanDefinition" "scope" "Ljava/lang/String;" .null) (p_G : Fld Z h0 a "com/example/topf/topf/core/BeanDefinition" "changeCounts" "Ljava/util/List;" (.ref em)) (EM : own_EMP Z em ea) :
    own_Met l Z own_EL [] false n0 (⟨"com/example/topf/topf/core/BeanDefinition", "setScope", "(Ljava/lang/String;)V"⟩ : MethodName) prog_21_method_24_code 2 none ({ frames := 2, cells := 0, slots := 0, locals := 26 } : Room) #[(.ref a), .null] h0 (fun v h => v = none ∧ Keep h0 h [a] ∧ Exa Z h a "com/example/topf/topf/core/BeanDefinition" ∧ Fld Z h a "com/example/topf/topf/core/BeanDefinition" "scope" "Ljava/lang/String;" .null ∧ Fld Z h a "com/example/topf/topf/core/BeanDefinition" "changeCounts" "Ljava/util/List;" (.ref em)) := by
  refine own_enter (own := "com/example/topf/topf/core/BeanDefinition") (nm := "setScope") (plainFor_of_name pn_6) rfl rfl O0 EWf ?_
  have W : ∀ (k : Nat) {d : Jvm.Cond}, tables_1[k]? = some d → d.before a0 Z = true := fun k d q => hw d (List.mem_of_getElem? q)
  intro G p e s m below meth c T0 hGe X0
  rw [ef_own_setN m a]
  refine own_aload_n (pc' := 1) X0 dd_prog_21_method_24_0 rfl rfl rfl ?_
  refine own_aload_n (pc' := 2) X0 dd_prog_21_method_24_1 rfl rfl rfl ?_
  refine own_put (pc' := 5) X0 (host := "") (Or.inl (W 104 rfl)) Via.refl p_F p_E (Or.inl (W 105 rfl)) (W 37 rfl) (ty := (.object "java/lang/String")) (by decide) rfl rfl n_a (Or.inl ⟨by decide, by decide⟩) dd_prog_21_method_24_2 rfl ?_
  intro T1 h1 X1 W1 K1
  have f1_ := p_F.same W1
  refine own_aload_n (pc' := 6) X1 dd_prog_21_method_24_5 rfl rfl rfl ?_
  have f2 := (p_G.other W1 (Or.inr (slot_ne (Or.inl (W 92 rfl)) (Or.inl (W 105 rfl)) (by decide) (t := (.object "java/util/List")) (t' := (.object "java/lang/String")) (by decide) (by decide))))
  have f4 := (p_E.keep K1)
  refine own_callPM (pc' := 9) (cells' := 0) (slots' := 0) (argsL := []) (rest := []) (W := 0) (y := (⟨"com/example/topf/topf/core/BeanDefinition", "changed", "()V"⟩ : MethodName)) (a := a) X1 (W 111 rfl) (W 112 rfl) (W 113 rfl) (W 37 rfl) (by decide) f4 (own_chg l Z a0 hw EWf n0 a em ea h1 (own_old X1) f2 EM) all0 (W 114 rfl) (W 38 rfl) (by decide) (by decide) rfl (lenOf pd_8 rfl) rfl rfl dd_prog_21_method_24_6 rfl rfl rfl rfl (by decide) (by decide) ?_
  intro v3 T3 h3 s3 X3 q3 r3
  obtain ⟨rfl, rfl⟩ := q3
  show G T3 (mkF m 9 #[.val (.ref a), .val .null] [])
  exact own_retV X3 hGe rfl dd_prog_21_method_24_9 (by decide) (by decide) ⟨rfl, ((Keep.refl h0 [a]).trans K1 (allS (Or.inl (List.mem_of_getElem? (i := 0) rfl)) all0)), f4, f1_, f2⟩
theorem ef_own_setR (m : MethodId) (x0 : Addr) (x1 : Addr) : entryFrame m #[(.ref x0), (.ref x1)] 2 = mkF m 0 #[.val (.ref x0), .val (.ref x1)] [] := by first | (simp [entryFrame, mkF, argsToLocals, Value.category]; done) | rfl
set_option maxRecDepth 65536 in
set_option maxHeartbeats 40000000 in
theorem own_setR (l : Launch) (Z : State) (a0 : Array Value) (hw : ∀ d ∈ tables_1, d.before a0 Z = true) (EWf : own_EW Z own_EL) (n0 : Nat) (a em ea : Addr) (x : Addr) (h0 : Heap) (O0 : Old Z n0 h0) (n_a : n0 ≤ a) (p_E : Exa Z h0 a "com/example/topf/topf/core/BeanDefinition") (p_F : Fld Z h0 a "com/example/topf/topf/core/BeanDefinition" "scope" "Ljava/lang/String;" .null) (p_G : Fld Z h0 a "com/example/topf/topf/core/BeanDefinition" "changeCounts" "Ljava/util/List;" (.ref em)) (EM : own_EMP Z em ea) :
    own_Met l Z own_EL [] false n0 (⟨"com/example/topf/topf/core/BeanDefinition", "setScope", "(Ljava/lang/String;)V"⟩ : MethodName) prog_21_method_24_code 2 none ({ frames := 2, cells := 0, slots := 0, locals := 26 } : Room) #[(.ref a), (.ref x)] h0 (fun v h => v = none ∧ Keep h0 h [a] ∧ Exa Z h a "com/example/topf/topf/core/BeanDefinition" ∧ Fld Z h a "com/example/topf/topf/core/BeanDefinition" "scope" "Ljava/lang/String;" (.ref x) ∧ Fld Z h a "com/example/topf/topf/core/BeanDefinition" "changeCounts" "Ljava/util/List;" (.ref em)) := by
  refine own_enter (own := "com/example/topf/topf/core/BeanDefinition") (nm := "setScope") (plainFor_of_name pn_6) rfl rfl O0 EWf ?_
  have W : ∀ (k : Nat) {d : Jvm.Cond}, tables_1[k]? = some d → d.before a0 Z = true := fun k d q => hw d (List.mem_of_getElem? q)
  intro G p e s m below meth c T0 hGe X0
  rw [ef_own_setR m a x]
  refine own_aload_n (pc' := 1) X0 dd_prog_21_method_24_0 rfl rfl rfl ?_
  refine own_aload_n (pc' := 2) X0 dd_prog_21_method_24_1 rfl rfl rfl ?_
  refine own_put (pc' := 5) X0 (host := "") (Or.inl (W 104 rfl)) Via.refl p_F p_E (Or.inl (W 105 rfl)) (W 37 rfl) (ty := (.object "java/lang/String")) (by decide) rfl rfl n_a (Or.inl ⟨by decide, by decide⟩) dd_prog_21_method_24_2 rfl ?_
  intro T1 h1 X1 W1 K1
  have f1_ := p_F.same W1
  refine own_aload_n (pc' := 6) X1 dd_prog_21_method_24_5 rfl rfl rfl ?_
  have f2 := (p_G.other W1 (Or.inr (slot_ne (Or.inl (W 92 rfl)) (Or.inl (W 105 rfl)) (by decide) (t := (.object "java/util/List")) (t' := (.object "java/lang/String")) (by decide) (by decide))))
  have f4 := (p_E.keep K1)
  refine own_callPM (pc' := 9) (cells' := 0) (slots' := 0) (argsL := []) (rest := []) (W := 0) (y := (⟨"com/example/topf/topf/core/BeanDefinition", "changed", "()V"⟩ : MethodName)) (a := a) X1 (W 111 rfl) (W 112 rfl) (W 113 rfl) (W 37 rfl) (by decide) f4 (own_chg l Z a0 hw EWf n0 a em ea h1 (own_old X1) f2 EM) all0 (W 114 rfl) (W 38 rfl) (by decide) (by decide) rfl (lenOf pd_8 rfl) rfl rfl dd_prog_21_method_24_6 rfl rfl rfl rfl (by decide) (by decide) ?_
  intro v3 T3 h3 s3 X3 q3 r3
  obtain ⟨rfl, rfl⟩ := q3
  show G T3 (mkF m 9 #[.val (.ref a), .val (.ref x)] [])
  exact own_retV X3 hGe rfl dd_prog_21_method_24_9 (by decide) (by decide) ⟨rfl, ((Keep.refl h0 [a]).trans K1 (allS (Or.inl (List.mem_of_getElem? (i := 0) rfl)) all0)), f4, f1_, f2⟩
theorem dd_method_3_70 : decode method_3_code 70 = .ok (.iload_n 0, 1) := by decide +kernel
theorem dd_method_3_71 : decode method_3_code 71 = .ok (.newarray .char, 2) := by decide +kernel
theorem dd_method_3_73 : decode method_3_code 73 = .ok (.astore 5, 2) := by decide +kernel
theorem dd_method_3_75 : decode method_3_code 75 = .ok (.iload_n 0, 1) := by decide +kernel
theorem dd_method_3_76 : decode method_3_code 76 = .ok (.ifCond .le 11, 3) := by decide +kernel
theorem dd_method_3_87 : decode method_3_code 87 = .ok (.iload_n 0, 1) := by decide +kernel
theorem dd_method_3_88 : decode method_3_code 88 = .ok (.iconst 1, 1) := by decide +kernel
theorem dd_method_3_89 : decode method_3_code 89 = .ok (.if_icmp .le 11, 3) := by decide +kernel
theorem dd_method_3_100 : decode method_3_code 100 = .ok (.iload_n 0, 1) := by decide +kernel
theorem dd_method_3_101 : decode method_3_code 101 = .ok (.iconst 2, 1) := by decide +kernel
theorem dd_method_3_102 : decode method_3_code 102 = .ok (.if_icmp .le 11, 3) := by decide +kernel
theorem dd_method_3_113 : decode method_3_code 113 = .ok (.iload_n 0, 1) := by decide +kernel
theorem dd_method_3_114 : decode method_3_code 114 = .ok (.iconst 3, 1) := by decide +kernel
theorem dd_method_3_115 : decode method_3_code 115 = .ok (.if_icmp .le 11, 3) := by decide +kernel
theorem dd_method_3_126 : decode method_3_code 126 = .ok (.iload_n 0, 1) := by decide +kernel
theorem dd_method_3_127 : decode method_3_code 127 = .ok (.iconst 4, 1) := by decide +kernel
theorem dd_method_3_128 : decode method_3_code 128 = .ok (.if_icmp .le 11, 3) := by decide +kernel
theorem dd_method_3_139 : decode method_3_code 139 = .ok (.iload_n 0, 1) := by decide +kernel
theorem dd_method_3_140 : decode method_3_code 140 = .ok (.iconst 5, 1) := by decide +kernel
theorem dd_method_3_141 : decode method_3_code 141 = .ok (.if_icmp .le 11, 3) := by decide +kernel
theorem dd_method_3_152 : decode method_3_code 152 = .ok (.iload_n 0, 1) := by decide +kernel
theorem dd_method_3_153 : decode method_3_code 153 = .ok (.bipush 6, 2) := by decide +kernel
theorem dd_method_3_155 : decode method_3_code 155 = .ok (.if_icmp .le 13, 3) := by decide +kernel
theorem dd_method_3_168 : decode method_3_code 168 = .ok (.iload_n 0, 1) := by decide +kernel
theorem dd_method_3_169 : decode method_3_code 169 = .ok (.bipush 7, 2) := by decide +kernel
theorem dd_method_3_171 : decode method_3_code 171 = .ok (.if_icmp .le 13, 3) := by decide +kernel
theorem dd_method_3_184 : decode method_3_code 184 = .ok (.iload_n 0, 1) := by decide +kernel
theorem dd_method_3_185 : decode method_3_code 185 = .ok (.bipush 8, 2) := by decide +kernel
theorem dd_method_3_187 : decode method_3_code 187 = .ok (.if_icmp .le 13, 3) := by decide +kernel
theorem dd_method_3_200 : decode method_3_code 200 = .ok (.iload_n 0, 1) := by decide +kernel
theorem dd_method_3_201 : decode method_3_code 201 = .ok (.bipush 9, 2) := by decide +kernel
theorem dd_method_3_203 : decode method_3_code 203 = .ok (.if_icmp .le 13, 3) := by decide +kernel
theorem dd_method_3_216 : decode method_3_code 216 = .ok (.new 31, 3) := by decide +kernel
theorem dd_method_3_219 : decode method_3_code 219 = .ok (.dup, 1) := by decide +kernel
theorem dd_method_3_220 : decode method_3_code 220 = .ok (.aload 5, 2) := by decide +kernel
theorem dd_method_3_222 : decode method_3_code 222 = .ok (.invokespecial 40, 3) := by decide +kernel
theorem pd_11 : parseMethodDescriptor "([C)V" = some ⟨[(.array .char)], none⟩ := by decide +kernel
theorem dd_method_3_225 : decode method_3_code 225 = .ok (.areturn, 1) := by decide +kernel
theorem dd_method_3_79 : decode method_3_code 79 = .ok (.aload 5, 2) := by decide +kernel
theorem dd_method_3_81 : decode method_3_code 81 = .ok (.iconst 0, 1) := by decide +kernel
theorem dd_method_3_82 : decode method_3_code 82 = .ok (.aload 4, 2) := by decide +kernel
theorem dd_method_3_84 : decode method_3_code 84 = .ok (.iconst 0, 1) := by decide +kernel
theorem dd_method_3_85 : decode method_3_code 85 = .ok (.caload, 1) := by decide +kernel
theorem dd_method_3_86 : decode method_3_code 86 = .ok (.castore, 1) := by decide +kernel
theorem dd_method_3_92 : decode method_3_code 92 = .ok (.aload 5, 2) := by decide +kernel
theorem dd_method_3_94 : decode method_3_code 94 = .ok (.iconst 1, 1) := by decide +kernel
theorem dd_method_3_95 : decode method_3_code 95 = .ok (.aload 4, 2) := by decide +kernel
theorem dd_method_3_97 : decode method_3_code 97 = .ok (.iconst 1, 1) := by decide +kernel
theorem dd_method_3_98 : decode method_3_code 98 = .ok (.caload, 1) := by decide +kernel
theorem dd_method_3_99 : decode method_3_code 99 = .ok (.castore, 1) := by decide +kernel
theorem dd_method_3_105 : decode method_3_code 105 = .ok (.aload 5, 2) := by decide +kernel
theorem dd_method_3_107 : decode method_3_code 107 = .ok (.iconst 2, 1) := by decide +kernel
theorem dd_method_3_108 : decode method_3_code 108 = .ok (.aload 4, 2) := by decide +kernel
theorem dd_method_3_110 : decode method_3_code 110 = .ok (.iconst 2, 1) := by decide +kernel
theorem dd_method_3_111 : decode method_3_code 111 = .ok (.caload, 1) := by decide +kernel
theorem dd_method_3_112 : decode method_3_code 112 = .ok (.castore, 1) := by decide +kernel
theorem dd_method_3_118 : decode method_3_code 118 = .ok (.aload 5, 2) := by decide +kernel
theorem dd_method_3_120 : decode method_3_code 120 = .ok (.iconst 3, 1) := by decide +kernel
theorem dd_method_3_121 : decode method_3_code 121 = .ok (.aload 4, 2) := by decide +kernel
theorem dd_method_3_123 : decode method_3_code 123 = .ok (.iconst 3, 1) := by decide +kernel
theorem dd_method_3_124 : decode method_3_code 124 = .ok (.caload, 1) := by decide +kernel
theorem dd_method_3_125 : decode method_3_code 125 = .ok (.castore, 1) := by decide +kernel
theorem dd_method_3_131 : decode method_3_code 131 = .ok (.aload 5, 2) := by decide +kernel
theorem dd_method_3_133 : decode method_3_code 133 = .ok (.iconst 4, 1) := by decide +kernel
theorem dd_method_3_134 : decode method_3_code 134 = .ok (.aload 4, 2) := by decide +kernel
theorem dd_method_3_136 : decode method_3_code 136 = .ok (.iconst 4, 1) := by decide +kernel
theorem dd_method_3_137 : decode method_3_code 137 = .ok (.caload, 1) := by decide +kernel
theorem dd_method_3_138 : decode method_3_code 138 = .ok (.castore, 1) := by decide +kernel
theorem dd_method_3_144 : decode method_3_code 144 = .ok (.aload 5, 2) := by decide +kernel
theorem dd_method_3_146 : decode method_3_code 146 = .ok (.iconst 5, 1) := by decide +kernel
theorem dd_method_3_147 : decode method_3_code 147 = .ok (.aload 4, 2) := by decide +kernel
theorem dd_method_3_149 : decode method_3_code 149 = .ok (.iconst 5, 1) := by decide +kernel
theorem dd_method_3_150 : decode method_3_code 150 = .ok (.caload, 1) := by decide +kernel
theorem dd_method_3_151 : decode method_3_code 151 = .ok (.castore, 1) := by decide +kernel
theorem dd_method_3_158 : decode method_3_code 158 = .ok (.aload 5, 2) := by decide +kernel
theorem dd_method_3_160 : decode method_3_code 160 = .ok (.bipush 6, 2) := by decide +kernel
theorem dd_method_3_162 : decode method_3_code 162 = .ok (.aload 4, 2) := by decide +kernel
theorem dd_method_3_164 : decode method_3_code 164 = .ok (.bipush 6, 2) := by decide +kernel
theorem dd_method_3_166 : decode method_3_code 166 = .ok (.caload, 1) := by decide +kernel
theorem dd_method_3_167 : decode method_3_code 167 = .ok (.castore, 1) := by decide +kernel
theorem dd_method_3_174 : decode method_3_code 174 = .ok (.aload 5, 2) := by decide +kernel
theorem dd_method_3_176 : decode method_3_code 176 = .ok (.bipush 7, 2) := by decide +kernel
theorem dd_method_3_178 : decode method_3_code 178 = .ok (.aload 4, 2) := by decide +kernel
theorem dd_method_3_180 : decode method_3_code 180 = .ok (.bipush 7, 2) := by decide +kernel
theorem dd_method_3_182 : decode method_3_code 182 = .ok (.caload, 1) := by decide +kernel
theorem dd_method_3_183 : decode method_3_code 183 = .ok (.castore, 1) := by decide +kernel
theorem dd_method_3_190 : decode method_3_code 190 = .ok (.aload 5, 2) := by decide +kernel
theorem dd_method_3_192 : decode method_3_code 192 = .ok (.bipush 8, 2) := by decide +kernel
theorem dd_method_3_194 : decode method_3_code 194 = .ok (.aload 4, 2) := by decide +kernel
theorem dd_method_3_196 : decode method_3_code 196 = .ok (.bipush 8, 2) := by decide +kernel
theorem dd_method_3_198 : decode method_3_code 198 = .ok (.caload, 1) := by decide +kernel
theorem dd_method_3_199 : decode method_3_code 199 = .ok (.castore, 1) := by decide +kernel
theorem dd_method_3_206 : decode method_3_code 206 = .ok (.aload 5, 2) := by decide +kernel
theorem dd_method_3_208 : decode method_3_code 208 = .ok (.bipush 9, 2) := by decide +kernel
theorem dd_method_3_210 : decode method_3_code 210 = .ok (.aload 4, 2) := by decide +kernel
theorem dd_method_3_212 : decode method_3_code 212 = .ok (.bipush 9, 2) := by decide +kernel
theorem dd_method_3_214 : decode method_3_code 214 = .ok (.caload, 1) := by decide +kernel
theorem dd_method_3_215 : decode method_3_code 215 = .ok (.castore, 1) := by decide +kernel
set_option maxRecDepth 65536 in
set_option maxHeartbeats 40000000 in
theorem own_dr70 {G : State → JFrame → Prop} {p : Program} {l : Launch} {e : Env} {s0 s : State} {m : MethodId} {args : Array Value} {below : List Frame} {meth : Method} {c : Code} {Z : State} {a0 : Array Value} {n0 : Nat} {T0 : State} {hB : Heap} {h0 : Heap} (hw : ∀ d ∈ tables_1, d.before a0 Z = true) (EWf : own_EW Z own_EL) (n ps : Nat) (r ex b0 b1 b2 b3 b4 b5 b6 b7 b8 b9 : Int32) (a4 : Addr) (k4 : ClassId)
    (X0 : own_At G p l e ({ frames := 7, cells := 10, slots := 100, locals := 109 } : Room) s0 s own_EL [] m args below meth c Z n0 "com/example/topf/topf/core/BeanDefinitionIsSingletonPinLaw" "drawn" method_3_code 6 (some (.object "java/lang/String")) T0 h0 1 10) (hGe : G = own_Fin p e below s0 own_EL false Z n0 (fun v h => ∃ x t : Addr, v = some (.ref x) ∧ Keep hB h [] ∧ own_Str Z h x t (own_dr n ps r ex)) ({ frames := 7, cells := 10, slots := 100, locals := 109 } : Room).cells ({ frames := 7, cells := 10, slots := 100, locals := 109 } : Room).slots) (KK : Keep hB h0 []) (p_A : own_Arr Z h0 a4 k4 .char [.int b0, .int b1, .int b2, .int b3, .int b4, .int b5, .int b6, .int b7, .int b8, .int b9]) (p_b : (own_B ex).set ps r = [b0, b1, b2, b3, b4, b5, b6, b7, b8, b9]) (p_n : n ≤ 10) (o_b0 : own_ok16 b0) (o_b1 : own_ok16 b1) (o_b2 : own_ok16 b2) (o_b3 : own_ok16 b3) (o_b4 : own_ok16 b4) (o_b5 : own_ok16 b5) (o_b6 : own_ok16 b6) (o_b7 : own_ok16 b7) (o_b8 : own_ok16 b8) (o_b9 : own_ok16 b9) (U : own_U16 Z) (CS : own_CS Z) :
    G T0 (mkF m 70 #[.val (.int (Int32.ofNat n)), .val (.int (Int32.ofNat ps)), .val (.int r), .val (.int ex), .val (.ref a4), .unset] []) := by
  have W : ∀ (k : Nat) {d : Jvm.Cond}, tables_1[k]? = some d → d.before a0 Z = true := fun k d q => hw d (List.mem_of_getElem? q)
  rcases own_le10 p_n with rfl | rfl | rfl | rfl | rfl | rfl | rfl | rfl | rfl | rfl | rfl
  · show G T0 (mkF m 70 #[.val (.int (0 : Int32)), .val (.int (Int32.ofNat ps)), .val (.int r), .val (.int ex), .val (.ref a4), .unset] [])
    refine own_iload_n (pc' := 71) X0 dd_method_3_70 rfl rfl ?_
    refine own_newarray (pc' := 73) (cells' := 2) (slots' := 10) (n := 0) (cap := 0) (dv := (.int 0)) X0 (W 6 rfl) rfl rfl (by decide) (by decide) dd_method_3_71 rfl rfl (by decide) (by decide) rfl (by decide) (by decide) ?_
    intro T1 h1 a1 k1 g1 X1 K1 A1
    have n_a1 : n0 ≤ a1 := by rw [g1]; exact own_n0 X0
    have A1' : own_Arr Z h1 a1 k1 .char [] := A1
    refine own_astore (pc' := 75) X1 dd_method_3_73 rfl rfl (Ls' := #[.val (.int (0 : Int32)), .val (.int (Int32.ofNat ps)), .val (.int r), .val (.int ex), .val (.ref a4), .val (.ref a1)]) rfl ?_
    refine own_iload_n (pc' := 76) X1 dd_method_3_75 rfl rfl ?_
    refine own_ifY (pc' := 87) X1 dd_method_3_76 ((flt (by decide)).2.2.2) (by decide) (by decide) ?_
    refine own_iload_n (pc' := 88) X1 dd_method_3_87 rfl rfl ?_
    refine own_iconst (pc' := 89) X1 dd_method_3_88 rfl (z := (1 : Int32)) (by decide) ?_
    refine own_icmpY (pc' := 100) X1 dd_method_3_89 ((flt (by decide)).2.2.2) (by decide) (by decide) ?_
    refine own_iload_n (pc' := 101) X1 dd_method_3_100 rfl rfl ?_
    refine own_iconst (pc' := 102) X1 dd_method_3_101 rfl (z := (2 : Int32)) (by decide) ?_
    refine own_icmpY (pc' := 113) X1 dd_method_3_102 ((flt (by decide)).2.2.2) (by decide) (by decide) ?_
    refine own_iload_n (pc' := 114) X1 dd_method_3_113 rfl rfl ?_
    refine own_iconst (pc' := 115) X1 dd_method_3_114 rfl (z := (3 : Int32)) (by decide) ?_
    refine own_icmpY (pc' := 126) X1 dd_method_3_115 ((flt (by decide)).2.2.2) (by decide) (by decide) ?_
    refine own_iload_n (pc' := 127) X1 dd_method_3_126 rfl rfl ?_
    refine own_iconst (pc' := 128) X1 dd_method_3_127 rfl (z := (4 : Int32)) (by decide) ?_
    refine own_icmpY (pc' := 139) X1 dd_method_3_128 ((flt (by decide)).2.2.2) (by decide) (by decide) ?_
    refine own_iload_n (pc' := 140) X1 dd_method_3_139 rfl rfl ?_
    refine own_iconst (pc' := 141) X1 dd_method_3_140 rfl (z := (5 : Int32)) (by decide) ?_
    refine own_icmpY (pc' := 152) X1 dd_method_3_141 ((flt (by decide)).2.2.2) (by decide) (by decide) ?_
    refine own_iload_n (pc' := 153) X1 dd_method_3_152 rfl rfl ?_
    refine own_bipush (pc' := 155) X1 dd_method_3_153 rfl (z := (6 : Int32)) (by decide) ?_
    refine own_icmpY (pc' := 168) X1 dd_method_3_155 ((flt (by decide)).2.2.2) (by decide) (by decide) ?_
    refine own_iload_n (pc' := 169) X1 dd_method_3_168 rfl rfl ?_
    refine own_bipush (pc' := 171) X1 dd_method_3_169 rfl (z := (7 : Int32)) (by decide) ?_
    refine own_icmpY (pc' := 184) X1 dd_method_3_171 ((flt (by decide)).2.2.2) (by decide) (by decide) ?_
    refine own_iload_n (pc' := 185) X1 dd_method_3_184 rfl rfl ?_
    refine own_bipush (pc' := 187) X1 dd_method_3_185 rfl (z := (8 : Int32)) (by decide) ?_
    refine own_icmpY (pc' := 200) X1 dd_method_3_187 ((flt (by decide)).2.2.2) (by decide) (by decide) ?_
    refine own_iload_n (pc' := 201) X1 dd_method_3_200 rfl rfl ?_
    refine own_bipush (pc' := 203) X1 dd_method_3_201 rfl (z := (9 : Int32)) (by decide) ?_
    refine own_icmpY (pc' := 216) X1 dd_method_3_203 ((flt (by decide)).2.2.2) (by decide) (by decide) ?_
    refine own_newK (pc' := 219) (cells' := 3) (slots' := 14) X1 (W 7 rfl) (W 8 rfl) (W 9 rfl) dd_method_3_216 rfl rfl rfl (by decide) (by decide) ?_
    intro T2 h2 a2 g2 X2 K2 E2 D2 U2
    have n_a2 : n0 ≤ a2 := by rw [g2]; exact own_n0 X1
    have F2_coder : Fld Z h2 a2 "java/lang/String" "coder" "B" (.int (0 : Int32)) := D2 (Or.inr (W 33 rfl)) (ty := .byte) (by decide)
    have F2_value : Fld Z h2 a2 "java/lang/String" "value" "[B" .null := D2 (Or.inr (W 35 rfl)) (ty := (.array .byte)) (by decide)
    refine own_dup (pc' := 220) X2 dd_method_3_219 rfl rfl ?_
    refine own_aload (pc' := 222) X2 dd_method_3_220 rfl rfl rfl ?_
    have f3 := (A1'.keep K2 nin0)
    refine own_callIM (pc' := 225) (cells' := 7) (slots' := 22) (argsL := [(.ref a1)]) (rest := [(.ref a2)]) (W := 1) (y := (⟨"java/lang/String", "<init>", "([C)V"⟩ : MethodName)) (a := a2) X2 (W 10 rfl) (W 11 rfl) rfl (by decide) (own_sinit0 l Z a0 hw EWf n0 a2 a1 k1 h2 (own_old X2) n_a2 E2 F2_value F2_coder f3) (allS (List.mem_of_getElem? (i := 0) rfl) all0) (W 12 rfl) (W 9 rfl) (by decide) (by decide) rfl (lenOf pd_11 rfl) rfl rfl dd_method_3_222 rfl rfl rfl rfl (by decide) (by decide) ?_
    intro v4 T4 h4 s4 X4 q4 r4
    obtain ⟨rfl, K4, t4, S4⟩ := q4
    show G T4 (mkF m 225 #[.val (.int (0 : Int32)), .val (.int (Int32.ofNat ps)), .val (.int r), .val (.int ex), .val (.ref a4), .val (.ref a1)] [(.ref a2)])
    have e_ : own_dr 0 ps r ex = ([] : List Int32) := by rw [own_dr, p_b]; rfl
    have age_a2 : hB.size ≤ a2 := Nat.le_trans (Nat.le_trans KK.1 (Nat.le_trans K1.1 (Nat.le_refl _))) (Nat.le_of_eq (Eq.symm g2))
    exact own_ret X4 hGe (t := (.object "java/lang/String")) rfl rfl (Or.inr (Or.inr (Or.inr (Or.inr ⟨rfl, rfl, rfl⟩)))) dd_method_3_225 (by decide) (by decide) ⟨a2, t4, rfl, (((((Keep.refl hB []).trans KK all0).trans K1 all0).trans K2 all0).trans K4 (allS (Or.inr age_a2) all0)), by rw [e_]; exact S4⟩ nofun
  · show G T0 (mkF m 70 #[.val (.int (1 : Int32)), .val (.int (Int32.ofNat ps)), .val (.int r), .val (.int ex), .val (.ref a4), .unset] [])
    refine own_iload_n (pc' := 71) X0 dd_method_3_70 rfl rfl ?_
    refine own_newarray (pc' := 73) (cells' := 2) (slots' := 11) (n := 1) (cap := 1) (dv := (.int 0)) X0 (W 6 rfl) rfl rfl (by decide) (by decide) dd_method_3_71 rfl rfl (by decide) (by decide) rfl (by decide) (by decide) ?_
    intro T5 h5 a5 k5 g5 X5 K5 A5
    have n_a5 : n0 ≤ a5 := by rw [g5]; exact own_n0 X0
    have A5' : own_Arr Z h5 a5 k5 .char [(.int 0)] := A5
    refine own_astore (pc' := 75) X5 dd_method_3_73 rfl rfl (Ls' := #[.val (.int (1 : Int32)), .val (.int (Int32.ofNat ps)), .val (.int r), .val (.int ex), .val (.ref a4), .val (.ref a5)]) rfl ?_
    refine own_iload_n (pc' := 76) X5 dd_method_3_75 rfl rfl ?_
    refine own_ifN (pc' := 79) X5 dd_method_3_76 rfl ((tlt (by decide)).2.2.2) ?_
    refine own_aload (pc' := 81) X5 dd_method_3_79 rfl rfl rfl ?_
    refine own_iconst (pc' := 82) X5 dd_method_3_81 rfl (z := (0 : Int32)) (by decide) ?_
    refine own_aload (pc' := 84) X5 dd_method_3_82 rfl rfl rfl ?_
    refine own_iconst (pc' := 85) X5 dd_method_3_84 rfl (z := (0 : Int32)) (by decide) ?_
    have f6 := (p_A.keep K5 nin0)
    refine own_caload (pc' := 86) (i := 0) (v := (.int b0)) X5 f6 (by decide) rfl dd_method_3_85 rfl ?_
    refine own_castore (pc' := 87) (i := 0) (y := b0) X5 A5' (by decide) (Nat.le_of_ble_eq_true rfl) (own_c16id o_b0.1 o_b0.2) n_a5 dd_method_3_86 rfl ?_
    intro T7 h7 X7 K7 A7
    have A7' : own_Arr Z h7 a5 k5 .char [(.int b0)] := A7
    refine own_iload_n (pc' := 88) X7 dd_method_3_87 rfl rfl ?_
    refine own_iconst (pc' := 89) X7 dd_method_3_88 rfl (z := (1 : Int32)) (by decide) ?_
    refine own_icmpY (pc' := 100) X7 dd_method_3_89 ((flt (by decide)).2.2.2) (by decide) (by decide) ?_
    refine own_iload_n (pc' := 101) X7 dd_method_3_100 rfl rfl ?_
    refine own_iconst (pc' := 102) X7 dd_method_3_101 rfl (z := (2 : Int32)) (by decide) ?_
    refine own_icmpY (pc' := 113) X7 dd_method_3_102 ((flt (by decide)).2.2.2) (by decide) (by decide) ?_
    refine own_iload_n (pc' := 114) X7 dd_method_3_113 rfl rfl ?_
    refine own_iconst (pc' := 115) X7 dd_method_3_114 rfl (z := (3 : Int32)) (by decide) ?_
    refine own_icmpY (pc' := 126) X7 dd_method_3_115 ((flt (by decide)).2.2.2) (by decide) (by decide) ?_
    refine own_iload_n (pc' := 127) X7 dd_method_3_126 rfl rfl ?_
    refine own_iconst (pc' := 128) X7 dd_method_3_127 rfl (z := (4 : Int32)) (by decide) ?_
    refine own_icmpY (pc' := 139) X7 dd_method_3_128 ((flt (by decide)).2.2.2) (by decide) (by decide) ?_
    refine own_iload_n (pc' := 140) X7 dd_method_3_139 rfl rfl ?_
    refine own_iconst (pc' := 141) X7 dd_method_3_140 rfl (z := (5 : Int32)) (by decide) ?_
    refine own_icmpY (pc' := 152) X7 dd_method_3_141 ((flt (by decide)).2.2.2) (by decide) (by decide) ?_
    refine own_iload_n (pc' := 153) X7 dd_method_3_152 rfl rfl ?_
    refine own_bipush (pc' := 155) X7 dd_method_3_153 rfl (z := (6 : Int32)) (by decide) ?_
    refine own_icmpY (pc' := 168) X7 dd_method_3_155 ((flt (by decide)).2.2.2) (by decide) (by decide) ?_
    refine own_iload_n (pc' := 169) X7 dd_method_3_168 rfl rfl ?_
    refine own_bipush (pc' := 171) X7 dd_method_3_169 rfl (z := (7 : Int32)) (by decide) ?_
    refine own_icmpY (pc' := 184) X7 dd_method_3_171 ((flt (by decide)).2.2.2) (by decide) (by decide) ?_
    refine own_iload_n (pc' := 185) X7 dd_method_3_184 rfl rfl ?_
    refine own_bipush (pc' := 187) X7 dd_method_3_185 rfl (z := (8 : Int32)) (by decide) ?_
    refine own_icmpY (pc' := 200) X7 dd_method_3_187 ((flt (by decide)).2.2.2) (by decide) (by decide) ?_
    refine own_iload_n (pc' := 201) X7 dd_method_3_200 rfl rfl ?_
    refine own_bipush (pc' := 203) X7 dd_method_3_201 rfl (z := (9 : Int32)) (by decide) ?_
    refine own_icmpY (pc' := 216) X7 dd_method_3_203 ((flt (by decide)).2.2.2) (by decide) (by decide) ?_
    refine own_newK (pc' := 219) (cells' := 3) (slots' := 15) X7 (W 7 rfl) (W 8 rfl) (W 9 rfl) dd_method_3_216 rfl rfl rfl (by decide) (by decide) ?_
    intro T8 h8 a8 g8 X8 K8 E8 D8 U8
    have n_a8 : n0 ≤ a8 := by rw [g8]; exact own_n0 X7
    have F8_coder : Fld Z h8 a8 "java/lang/String" "coder" "B" (.int (0 : Int32)) := D8 (Or.inr (W 33 rfl)) (ty := .byte) (by decide)
    have F8_value : Fld Z h8 a8 "java/lang/String" "value" "[B" .null := D8 (Or.inr (W 35 rfl)) (ty := (.array .byte)) (by decide)
    refine own_dup (pc' := 220) X8 dd_method_3_219 rfl rfl ?_
    refine own_aload (pc' := 222) X8 dd_method_3_220 rfl rfl rfl ?_
    by_cases hA : ∀ c ∈ ([b0] : List Int32), ¬ (255 : Int32) < c
    · have f9 := (A7'.keep K8 nin0)
      refine own_strinit (pc' := 225) (cells' := 4) (slots' := 16) (W := 1) (n := 1) (cs := [b0]) X8 (fun d hd => hw d (own_in_words d hd)) CS (W 10 rfl) (W 11 rfl) (W 12 rfl) (W 8 rfl) E8 F8_value F8_coder f9 n_a8 (List.mem_of_getElem? (i := 0) rfl) rfl (by decide) (by decide) (own_aS ⟨o_b0.1, hA _ (by simp)⟩ own_a0) (by decide) (by decide) (lenOf (L := [.ref a5]) pd_11 rfl) rfl rfl dd_method_3_222 rfl rfl rfl (by decide) (by decide) ?_
      intro T10 h10 t10 X10 K10 z10 S10
      have e_ : own_dr 1 ps r ex = ([b0] : List Int32) := by rw [own_dr, p_b]; rfl
      have age_a5 : hB.size ≤ a5 := Nat.le_trans (Nat.le_trans KK.1 (Nat.le_refl _)) (Nat.le_of_eq (Eq.symm g5))
      have age_a8 : hB.size ≤ a8 := Nat.le_trans (Nat.le_trans KK.1 (Nat.le_trans K5.1 (Nat.le_trans K7.1 (Nat.le_refl _)))) (Nat.le_of_eq (Eq.symm g8))
      exact own_ret X10 hGe (t := (.object "java/lang/String")) rfl rfl (Or.inr (Or.inr (Or.inr (Or.inr ⟨rfl, rfl, rfl⟩)))) dd_method_3_225 (by decide) (by decide) ⟨a8, t10, rfl, ((((((Keep.refl hB []).trans KK all0).trans K5 all0).trans K7 (allS (Or.inr age_a5) all0)).trans K8 all0).trans K10 (allS (Or.inr age_a8) all0)), by rw [e_]; exact S10⟩ nofun
    · have f11 := (A7'.keep K8 nin0)
      refine own_callIM (pc' := 225) (cells' := 5) (slots' := 45) (argsL := [(.ref a5)]) (rest := [(.ref a8)]) (W := 1) (y := (⟨"java/lang/String", "<init>", "([C)V"⟩ : MethodName)) (a := a8) X8 (W 10 rfl) (W 11 rfl) rfl (by decide) (own_sw1 l Z a0 hw EWf n0 a8 a5 k5 ([b0] : List Int32) 1 h8 (own_old X8) n_a8 E8 F8_value F8_coder f11 rfl (by decide) (own_exw hA) (own_aS o_b0 own_a0) U CS) (allS (List.mem_of_getElem? (i := 0) rfl) all0) (W 12 rfl) (W 9 rfl) (by decide) (by decide) rfl (lenOf pd_11 rfl) rfl rfl dd_method_3_222 rfl rfl rfl rfl (by decide) (by decide) ?_
      intro v12 T12 h12 s12 X12 q12 r12
      obtain ⟨rfl, K12, t12, S12⟩ := q12
      show G T12 (mkF m 225 #[.val (.int (1 : Int32)), .val (.int (Int32.ofNat ps)), .val (.int r), .val (.int ex), .val (.ref a4), .val (.ref a5)] [(.ref a8)])
      have e_ : own_dr 1 ps r ex = ([b0] : List Int32) := by rw [own_dr, p_b]; rfl
      have age_a5 : hB.size ≤ a5 := Nat.le_trans (Nat.le_trans KK.1 (Nat.le_refl _)) (Nat.le_of_eq (Eq.symm g5))
      have age_a8 : hB.size ≤ a8 := Nat.le_trans (Nat.le_trans KK.1 (Nat.le_trans K5.1 (Nat.le_trans K7.1 (Nat.le_refl _)))) (Nat.le_of_eq (Eq.symm g8))
      exact own_ret X12 hGe (t := (.object "java/lang/String")) rfl rfl (Or.inr (Or.inr (Or.inr (Or.inr ⟨rfl, rfl, rfl⟩)))) dd_method_3_225 (by decide) (by decide) ⟨a8, t12, rfl, ((((((Keep.refl hB []).trans KK all0).trans K5 all0).trans K7 (allS (Or.inr age_a5) all0)).trans K8 all0).trans K12 (allS (Or.inr age_a8) all0)), by rw [e_]; exact S12⟩ nofun
  · show G T0 (mkF m 70 #[.val (.int (2 : Int32)), .val (.int (Int32.ofNat ps)), .val (.int r), .val (.int ex), .val (.ref a4), .unset] [])
    refine own_iload_n (pc' := 71) X0 dd_method_3_70 rfl rfl ?_
    refine own_newarray (pc' := 73) (cells' := 2) (slots' := 12) (n := 2) (cap := 2) (dv := (.int 0)) X0 (W 6 rfl) rfl rfl (by decide) (by decide) dd_method_3_71 rfl rfl (by decide) (by decide) rfl (by decide) (by decide) ?_
    intro T13 h13 a13 k13 g13 X13 K13 A13
    have n_a13 : n0 ≤ a13 := by rw [g13]; exact own_n0 X0
    have A13' : own_Arr Z h13 a13 k13 .char [(.int 0), (.int 0)] := A13
    refine own_astore (pc' := 75) X13 dd_method_3_73 rfl rfl (Ls' := #[.val (.int (2 : Int32)), .val (.int (Int32.ofNat ps)), .val (.int r), .val (.int ex), .val (.ref a4), .val (.ref a13)]) rfl ?_
    refine own_iload_n (pc' := 76) X13 dd_method_3_75 rfl rfl ?_
    refine own_ifN (pc' := 79) X13 dd_method_3_76 rfl ((tlt (by decide)).2.2.2) ?_
    refine own_aload (pc' := 81) X13 dd_method_3_79 rfl rfl rfl ?_
    refine own_iconst (pc' := 82) X13 dd_method_3_81 rfl (z := (0 : Int32)) (by decide) ?_
    refine own_aload (pc' := 84) X13 dd_method_3_82 rfl rfl rfl ?_
    refine own_iconst (pc' := 85) X13 dd_method_3_84 rfl (z := (0 : Int32)) (by decide) ?_
    have f14 := (p_A.keep K13 nin0)
    refine own_caload (pc' := 86) (i := 0) (v := (.int b0)) X13 f14 (by decide) rfl dd_method_3_85 rfl ?_
    refine own_castore (pc' := 87) (i := 0) (y := b0) X13 A13' (by decide) (Nat.le_of_ble_eq_true rfl) (own_c16id o_b0.1 o_b0.2) n_a13 dd_method_3_86 rfl ?_
    intro T15 h15 X15 K15 A15
    have A15' : own_Arr Z h15 a13 k13 .char [(.int b0), (.int 0)] := A15
    refine own_iload_n (pc' := 88) X15 dd_method_3_87 rfl rfl ?_
    refine own_iconst (pc' := 89) X15 dd_method_3_88 rfl (z := (1 : Int32)) (by decide) ?_
    refine own_icmpN (pc' := 92) X15 dd_method_3_89 rfl ((tlt (by decide)).2.2.2) ?_
    refine own_aload (pc' := 94) X15 dd_method_3_92 rfl rfl rfl ?_
    refine own_iconst (pc' := 95) X15 dd_method_3_94 rfl (z := (1 : Int32)) (by decide) ?_
    refine own_aload (pc' := 97) X15 dd_method_3_95 rfl rfl rfl ?_
    refine own_iconst (pc' := 98) X15 dd_method_3_97 rfl (z := (1 : Int32)) (by decide) ?_
    have ne_a4_a13 : a4 ≠ a13 := own_ne p_A.lt (Nat.le_refl _) (Nat.le_of_eq (Eq.symm g13))
    have f16 := (f14.keep K15 (ninS ne_a4_a13 nin0))
    refine own_caload (pc' := 99) (i := 1) (v := (.int b1)) X15 f16 (by decide) rfl dd_method_3_98 rfl ?_
    refine own_castore (pc' := 100) (i := 1) (y := b1) X15 A15' (by decide) (Nat.le_of_ble_eq_true rfl) (own_c16id o_b1.1 o_b1.2) n_a13 dd_method_3_99 rfl ?_
    intro T17 h17 X17 K17 A17
    have A17' : own_Arr Z h17 a13 k13 .char [(.int b0), (.int b1)] := A17
    refine own_iload_n (pc' := 101) X17 dd_method_3_100 rfl rfl ?_
    refine own_iconst (pc' := 102) X17 dd_method_3_101 rfl (z := (2 : Int32)) (by decide) ?_
    refine own_icmpY (pc' := 113) X17 dd_method_3_102 ((flt (by decide)).2.2.2) (by decide) (by decide) ?_
    refine own_iload_n (pc' := 114) X17 dd_method_3_113 rfl rfl ?_
    refine own_iconst (pc' := 115) X17 dd_method_3_114 rfl (z := (3 : Int32)) (by decide) ?_
    refine own_icmpY (pc' := 126) X17 dd_method_3_115 ((flt (by decide)).2.2.2) (by decide) (by decide) ?_
    refine own_iload_n (pc' := 127) X17 dd_method_3_126 rfl rfl ?_
    refine own_iconst (pc' := 128) X17 dd_method_3_127 rfl (z := (4 : Int32)) (by decide) ?_
    refine own_icmpY (pc' := 139) X17 dd_method_3_128 ((flt (by decide)).2.2.2) (by decide) (by decide) ?_
    refine own_iload_n (pc' := 140) X17 dd_method_3_139 rfl rfl ?_
    refine own_iconst (pc' := 141) X17 dd_method_3_140 rfl (z := (5 : Int32)) (by decide) ?_
    refine own_icmpY (pc' := 152) X17 dd_method_3_141 ((flt (by decide)).2.2.2) (by decide) (by decide) ?_
    refine own_iload_n (pc' := 153) X17 dd_method_3_152 rfl rfl ?_
    refine own_bipush (pc' := 155) X17 dd_method_3_153 rfl (z := (6 : Int32)) (by decide) ?_
    refine own_icmpY (pc' := 168) X17 dd_method_3_155 ((flt (by decide)).2.2.2) (by decide) (by decide) ?_
    refine own_iload_n (pc' := 169) X17 dd_method_3_168 rfl rfl ?_
    refine own_bipush (pc' := 171) X17 dd_method_3_169 rfl (z := (7 : Int32)) (by decide) ?_
    refine own_icmpY (pc' := 184) X17 dd_method_3_171 ((flt (by decide)).2.2.2) (by decide) (by decide) ?_
    refine own_iload_n (pc' := 185) X17 dd_method_3_184 rfl rfl ?_
    refine own_bipush (pc' := 187) X17 dd_method_3_185 rfl (z := (8 : Int32)) (by decide) ?_
    refine own_icmpY (pc' := 200) X17 dd_method_3_187 ((flt (by decide)).2.2.2) (by decide) (by decide) ?_
    refine own_iload_n (pc' := 201) X17 dd_method_3_200 rfl rfl ?_
    refine own_bipush (pc' := 203) X17 dd_method_3_201 rfl (z := (9 : Int32)) (by decide) ?_
    refine own_icmpY (pc' := 216) X17 dd_method_3_203 ((flt (by decide)).2.2.2) (by decide) (by decide) ?_
    refine own_newK (pc' := 219) (cells' := 3) (slots' := 16) X17 (W 7 rfl) (W 8 rfl) (W 9 rfl) dd_method_3_216 rfl rfl rfl (by decide) (by decide) ?_
    intro T18 h18 a18 g18 X18 K18 E18 D18 U18
    have n_a18 : n0 ≤ a18 := by rw [g18]; exact own_n0 X17
    have F18_coder : Fld Z h18 a18 "java/lang/String" "coder" "B" (.int (0 : Int32)) := D18 (Or.inr (W 33 rfl)) (ty := .byte) (by decide)
    have F18_value : Fld Z h18 a18 "java/lang/String" "value" "[B" .null := D18 (Or.inr (W 35 rfl)) (ty := (.array .byte)) (by decide)
    refine own_dup (pc' := 220) X18 dd_method_3_219 rfl rfl ?_
    refine own_aload (pc' := 222) X18 dd_method_3_220 rfl rfl rfl ?_
    by_cases hA : ∀ c ∈ ([b0, b1] : List Int32), ¬ (255 : Int32) < c
    · have f19 := (A17'.keep K18 nin0)
      refine own_strinit (pc' := 225) (cells' := 4) (slots' := 18) (W := 1) (n := 2) (cs := [b0, b1]) X18 (fun d hd => hw d (own_in_words d hd)) CS (W 10 rfl) (W 11 rfl) (W 12 rfl) (W 8 rfl) E18 F18_value F18_coder f19 n_a18 (List.mem_of_getElem? (i := 0) rfl) rfl (by decide) (by decide) (own_aS ⟨o_b0.1, hA _ (by simp)⟩ (own_aS ⟨o_b1.1, hA _ (by simp)⟩ own_a0)) (by decide) (by decide) (lenOf (L := [.ref a13]) pd_11 rfl) rfl rfl dd_method_3_222 rfl rfl rfl (by decide) (by decide) ?_
      intro T20 h20 t20 X20 K20 z20 S20
      have e_ : own_dr 2 ps r ex = ([b0, b1] : List Int32) := by rw [own_dr, p_b]; rfl
      have age_a13 : hB.size ≤ a13 := Nat.le_trans (Nat.le_trans KK.1 (Nat.le_refl _)) (Nat.le_of_eq (Eq.symm g13))
      have age_a18 : hB.size ≤ a18 := Nat.le_trans (Nat.le_trans KK.1 (Nat.le_trans K13.1 (Nat.le_trans K15.1 (Nat.le_trans K17.1 (Nat.le_refl _))))) (Nat.le_of_eq (Eq.symm g18))
      exact own_ret X20 hGe (t := (.object "java/lang/String")) rfl rfl (Or.inr (Or.inr (Or.inr (Or.inr ⟨rfl, rfl, rfl⟩)))) dd_method_3_225 (by decide) (by decide) ⟨a18, t20, rfl, (((((((Keep.refl hB []).trans KK all0).trans K13 all0).trans K15 (allS (Or.inr age_a13) all0)).trans K17 (allS (Or.inr age_a13) all0)).trans K18 all0).trans K20 (allS (Or.inr age_a18) all0)), by rw [e_]; exact S20⟩ nofun
    · have f21 := (A17'.keep K18 nin0)
      refine own_callIM (pc' := 225) (cells' := 5) (slots' := 46) (argsL := [(.ref a13)]) (rest := [(.ref a18)]) (W := 1) (y := (⟨"java/lang/String", "<init>", "([C)V"⟩ : MethodName)) (a := a18) X18 (W 10 rfl) (W 11 rfl) rfl (by decide) (own_sw1 l Z a0 hw EWf n0 a18 a13 k13 ([b0, b1] : List Int32) 2 h18 (own_old X18) n_a18 E18 F18_value F18_coder f21 rfl (by decide) (own_exw hA) (own_aS o_b0 (own_aS o_b1 own_a0)) U CS) (allS (List.mem_of_getElem? (i := 0) rfl) all0) (W 12 rfl) (W 9 rfl) (by decide) (by decide) rfl (lenOf pd_11 rfl) rfl rfl dd_method_3_222 rfl rfl rfl rfl (by decide) (by decide) ?_
      intro v22 T22 h22 s22 X22 q22 r22
      obtain ⟨rfl, K22, t22, S22⟩ := q22
      show G T22 (mkF m 225 #[.val (.int (2 : Int32)), .val (.int (Int32.ofNat ps)), .val (.int r), .val (.int ex), .val (.ref a4), .val (.ref a13)] [(.ref a18)])
      have e_ : own_dr 2 ps r ex = ([b0, b1] : List Int32) := by rw [own_dr, p_b]; rfl
      have age_a13 : hB.size ≤ a13 := Nat.le_trans (Nat.le_trans KK.1 (Nat.le_refl _)) (Nat.le_of_eq (Eq.symm g13))
      have age_a18 : hB.size ≤ a18 := Nat.le_trans (Nat.le_trans KK.1 (Nat.le_trans K13.1 (Nat.le_trans K15.1 (Nat.le_trans K17.1 (Nat.le_refl _))))) (Nat.le_of_eq (Eq.symm g18))
      exact own_ret X22 hGe (t := (.object "java/lang/String")) rfl rfl (Or.inr (Or.inr (Or.inr (Or.inr ⟨rfl, rfl, rfl⟩)))) dd_method_3_225 (by decide) (by decide) ⟨a18, t22, rfl, (((((((Keep.refl hB []).trans KK all0).trans K13 all0).trans K15 (allS (Or.inr age_a13) all0)).trans K17 (allS (Or.inr age_a13) all0)).trans K18 all0).trans K22 (allS (Or.inr age_a18) all0)), by rw [e_]; exact S22⟩ nofun
  · show G T0 (mkF m 70 #[.val (.int (3 : Int32)), .val (.int (Int32.ofNat ps)), .val (.int r), .val (.int ex), .val (.ref a4), .unset] [])
    refine own_iload_n (pc' := 71) X0 dd_method_3_70 rfl rfl ?_
    refine own_newarray (pc' := 73) (cells' := 2) (slots' := 13) (n := 3) (cap := 3) (dv := (.int 0)) X0 (W 6 rfl) rfl rfl (by decide) (by decide) dd_method_3_71 rfl rfl (by decide) (by decide) rfl (by decide) (by decide) ?_
    intro T23 h23 a23 k23 g23 X23 K23 A23
    have n_a23 : n0 ≤ a23 := by rw [g23]; exact own_n0 X0
    have A23' : own_Arr Z h23 a23 k23 .char [(.int 0), (.int 0), (.int 0)] := A23
    refine own_astore (pc' := 75) X23 dd_method_3_73 rfl rfl (Ls' := #[.val (.int (3 : Int32)), .val (.int (Int32.ofNat ps)), .val (.int r), .val (.int ex), .val (.ref a4), .val (.ref a23)]) rfl ?_
    refine own_iload_n (pc' := 76) X23 dd_method_3_75 rfl rfl ?_
    refine own_ifN (pc' := 79) X23 dd_method_3_76 rfl ((tlt (by decide)).2.2.2) ?_
    refine own_aload (pc' := 81) X23 dd_method_3_79 rfl rfl rfl ?_
    refine own_iconst (pc' := 82) X23 dd_method_3_81 rfl (z := (0 : Int32)) (by decide) ?_
    refine own_aload (pc' := 84) X23 dd_method_3_82 rfl rfl rfl ?_
    refine own_iconst (pc' := 85) X23 dd_method_3_84 rfl (z := (0 : Int32)) (by decide) ?_
    have f24 := (p_A.keep K23 nin0)
    refine own_caload (pc' := 86) (i := 0) (v := (.int b0)) X23 f24 (by decide) rfl dd_method_3_85 rfl ?_
    refine own_castore (pc' := 87) (i := 0) (y := b0) X23 A23' (by decide) (Nat.le_of_ble_eq_true rfl) (own_c16id o_b0.1 o_b0.2) n_a23 dd_method_3_86 rfl ?_
    intro T25 h25 X25 K25 A25
    have A25' : own_Arr Z h25 a23 k23 .char [(.int b0), (.int 0), (.int 0)] := A25
    refine own_iload_n (pc' := 88) X25 dd_method_3_87 rfl rfl ?_
    refine own_iconst (pc' := 89) X25 dd_method_3_88 rfl (z := (1 : Int32)) (by decide) ?_
    refine own_icmpN (pc' := 92) X25 dd_method_3_89 rfl ((tlt (by decide)).2.2.2) ?_
    refine own_aload (pc' := 94) X25 dd_method_3_92 rfl rfl rfl ?_
    refine own_iconst (pc' := 95) X25 dd_method_3_94 rfl (z := (1 : Int32)) (by decide) ?_
    refine own_aload (pc' := 97) X25 dd_method_3_95 rfl rfl rfl ?_
    refine own_iconst (pc' := 98) X25 dd_method_3_97 rfl (z := (1 : Int32)) (by decide) ?_
    have ne_a4_a23 : a4 ≠ a23 := own_ne p_A.lt (Nat.le_refl _) (Nat.le_of_eq (Eq.symm g23))
    have f26 := (f24.keep K25 (ninS ne_a4_a23 nin0))
    refine own_caload (pc' := 99) (i := 1) (v := (.int b1)) X25 f26 (by decide) rfl dd_method_3_98 rfl ?_
    refine own_castore (pc' := 100) (i := 1) (y := b1) X25 A25' (by decide) (Nat.le_of_ble_eq_true rfl) (own_c16id o_b1.1 o_b1.2) n_a23 dd_method_3_99 rfl ?_
    intro T27 h27 X27 K27 A27
    have A27' : own_Arr Z h27 a23 k23 .char [(.int b0), (.int b1), (.int 0)] := A27
    refine own_iload_n (pc' := 101) X27 dd_method_3_100 rfl rfl ?_
    refine own_iconst (pc' := 102) X27 dd_method_3_101 rfl (z := (2 : Int32)) (by decide) ?_
    refine own_icmpN (pc' := 105) X27 dd_method_3_102 rfl ((tlt (by decide)).2.2.2) ?_
    refine own_aload (pc' := 107) X27 dd_method_3_105 rfl rfl rfl ?_
    refine own_iconst (pc' := 108) X27 dd_method_3_107 rfl (z := (2 : Int32)) (by decide) ?_
    refine own_aload (pc' := 110) X27 dd_method_3_108 rfl rfl rfl ?_
    refine own_iconst (pc' := 111) X27 dd_method_3_110 rfl (z := (2 : Int32)) (by decide) ?_
    have f28 := (f26.keep K27 (ninS ne_a4_a23 nin0))
    refine own_caload (pc' := 112) (i := 2) (v := (.int b2)) X27 f28 (by decide) rfl dd_method_3_111 rfl ?_
    refine own_castore (pc' := 113) (i := 2) (y := b2) X27 A27' (by decide) (Nat.le_of_ble_eq_true rfl) (own_c16id o_b2.1 o_b2.2) n_a23 dd_method_3_112 rfl ?_
    intro T29 h29 X29 K29 A29
    have A29' : own_Arr Z h29 a23 k23 .char [(.int b0), (.int b1), (.int b2)] := A29
    refine own_iload_n (pc' := 114) X29 dd_method_3_113 rfl rfl ?_
    refine own_iconst (pc' := 115) X29 dd_method_3_114 rfl (z := (3 : Int32)) (by decide) ?_
    refine own_icmpY (pc' := 126) X29 dd_method_3_115 ((flt (by decide)).2.2.2) (by decide) (by decide) ?_
    refine own_iload_n (pc' := 127) X29 dd_method_3_126 rfl rfl ?_
    refine own_iconst (pc' := 128) X29 dd_method_3_127 rfl (z := (4 : Int32)) (by decide) ?_
    refine own_icmpY (pc' := 139) X29 dd_method_3_128 ((flt (by decide)).2.2.2) (by decide) (by decide) ?_
    refine own_iload_n (pc' := 140) X29 dd_method_3_139 rfl rfl ?_
    refine own_iconst (pc' := 141) X29 dd_method_3_140 rfl (z := (5 : Int32)) (by decide) ?_
    refine own_icmpY (pc' := 152) X29 dd_method_3_141 ((flt (by decide)).2.2.2) (by decide) (by decide) ?_
    refine own_iload_n (pc' := 153) X29 dd_method_3_152 rfl rfl ?_
    refine own_bipush (pc' := 155) X29 dd_method_3_153 rfl (z := (6 : Int32)) (by decide) ?_
    refine own_icmpY (pc' := 168) X29 dd_method_3_155 ((flt (by decide)).2.2.2) (by decide) (by decide) ?_
    refine own_iload_n (pc' := 169) X29 dd_method_3_168 rfl rfl ?_
    refine own_bipush (pc' := 171) X29 dd_method_3_169 rfl (z := (7 : Int32)) (by decide) ?_
    refine own_icmpY (pc' := 184) X29 dd_method_3_171 ((flt (by decide)).2.2.2) (by decide) (by decide) ?_
    refine own_iload_n (pc' := 185) X29 dd_method_3_184 rfl rfl ?_
    refine own_bipush (pc' := 187) X29 dd_method_3_185 rfl (z := (8 : Int32)) (by decide) ?_
    refine own_icmpY (pc' := 200) X29 dd_method_3_187 ((flt (by decide)).2.2.2) (by decide) (by decide) ?_
    refine own_iload_n (pc' := 201) X29 dd_method_3_200 rfl rfl ?_
    refine own_bipush (pc' := 203) X29 dd_method_3_201 rfl (z := (9 : Int32)) (by decide) ?_
    refine own_icmpY (pc' := 216) X29 dd_method_3_203 ((flt (by decide)).2.2.2) (by decide) (by decide) ?_
    refine own_newK (pc' := 219) (cells' := 3) (slots' := 17) X29 (W 7 rfl) (W 8 rfl) (W 9 rfl) dd_method_3_216 rfl rfl rfl (by decide) (by decide) ?_
    intro T30 h30 a30 g30 X30 K30 E30 D30 U30
    have n_a30 : n0 ≤ a30 := by rw [g30]; exact own_n0 X29
    have F30_coder : Fld Z h30 a30 "java/lang/String" "coder" "B" (.int (0 : Int32)) := D30 (Or.inr (W 33 rfl)) (ty := .byte) (by decide)
    have F30_value : Fld Z h30 a30 "java/lang/String" "value" "[B" .null := D30 (Or.inr (W 35 rfl)) (ty := (.array .byte)) (by decide)
    refine own_dup (pc' := 220) X30 dd_method_3_219 rfl rfl ?_
    refine own_aload (pc' := 222) X30 dd_method_3_220 rfl rfl rfl ?_
    by_cases hA : ∀ c ∈ ([b0, b1, b2] : List Int32), ¬ (255 : Int32) < c
    · have f31 := (A29'.keep K30 nin0)
      refine own_strinit (pc' := 225) (cells' := 4) (slots' := 20) (W := 1) (n := 3) (cs := [b0, b1, b2]) X30 (fun d hd => hw d (own_in_words d hd)) CS (W 10 rfl) (W 11 rfl) (W 12 rfl) (W 8 rfl) E30 F30_value F30_coder f31 n_a30 (List.mem_of_getElem? (i := 0) rfl) rfl (by decide) (by decide) (own_aS ⟨o_b0.1, hA _ (by simp)⟩ (own_aS ⟨o_b1.1, hA _ (by simp)⟩ (own_aS ⟨o_b2.1, hA _ (by simp)⟩ own_a0))) (by decide) (by decide) (lenOf (L := [.ref a23]) pd_11 rfl) rfl rfl dd_method_3_222 rfl rfl rfl (by decide) (by decide) ?_
      intro T32 h32 t32 X32 K32 z32 S32
      have e_ : own_dr 3 ps r ex = ([b0, b1, b2] : List Int32) := by rw [own_dr, p_b]; rfl
      have age_a23 : hB.size ≤ a23 := Nat.le_trans (Nat.le_trans KK.1 (Nat.le_refl _)) (Nat.le_of_eq (Eq.symm g23))
      have age_a30 : hB.size ≤ a30 := Nat.le_trans (Nat.le_trans KK.1 (Nat.le_trans K23.1 (Nat.le_trans K25.1 (Nat.le_trans K27.1 (Nat.le_trans K29.1 (Nat.le_refl _)))))) (Nat.le_of_eq (Eq.symm g30))
      exact own_ret X32 hGe (t := (.object "java/lang/String")) rfl rfl (Or.inr (Or.inr (Or.inr (Or.inr ⟨rfl, rfl, rfl⟩)))) dd_method_3_225 (by decide) (by decide) ⟨a30, t32, rfl, ((((((((Keep.refl hB []).trans KK all0).trans K23 all0).trans K25 (allS (Or.inr age_a23) all0)).trans K27 (allS (Or.inr age_a23) all0)).trans K29 (allS (Or.inr age_a23) all0)).trans K30 all0).trans K32 (allS (Or.inr age_a30) all0)), by rw [e_]; exact S32⟩ nofun
    · have f33 := (A29'.keep K30 nin0)
      refine own_callIM (pc' := 225) (cells' := 5) (slots' := 47) (argsL := [(.ref a23)]) (rest := [(.ref a30)]) (W := 1) (y := (⟨"java/lang/String", "<init>", "([C)V"⟩ : MethodName)) (a := a30) X30 (W 10 rfl) (W 11 rfl) rfl (by decide) (own_sw1 l Z a0 hw EWf n0 a30 a23 k23 ([b0, b1, b2] : List Int32) 3 h30 (own_old X30) n_a30 E30 F30_value F30_coder f33 rfl (by decide) (own_exw hA) (own_aS o_b0 (own_aS o_b1 (own_aS o_b2 own_a0))) U CS) (allS (List.mem_of_getElem? (i := 0) rfl) all0) (W 12 rfl) (W 9 rfl) (by decide) (by decide) rfl (lenOf pd_11 rfl) rfl rfl dd_method_3_222 rfl rfl rfl rfl (by decide) (by decide) ?_
      intro v34 T34 h34 s34 X34 q34 r34
      obtain ⟨rfl, K34, t34, S34⟩ := q34
      show G T34 (mkF m 225 #[.val (.int (3 : Int32)), .val (.int (Int32.ofNat ps)), .val (.int r), .val (.int ex), .val (.ref a4), .val (.ref a23)] [(.ref a30)])
      have e_ : own_dr 3 ps r ex = ([b0, b1, b2] : List Int32) := by rw [own_dr, p_b]; rfl
      have age_a23 : hB.size ≤ a23 := Nat.le_trans (Nat.le_trans KK.1 (Nat.le_refl _)) (Nat.le_of_eq (Eq.symm g23))
      have age_a30 : hB.size ≤ a30 := Nat.le_trans (Nat.le_trans KK.1 (Nat.le_trans K23.1 (Nat.le_trans K25.1 (Nat.le_trans K27.1 (Nat.le_trans K29.1 (Nat.le_refl _)))))) (Nat.le_of_eq (Eq.symm g30))
      exact own_ret X34 hGe (t := (.object "java/lang/String")) rfl rfl (Or.inr (Or.inr (Or.inr (Or.inr ⟨rfl, rfl, rfl⟩)))) dd_method_3_225 (by decide) (by decide) ⟨a30, t34, rfl, ((((((((Keep.refl hB []).trans KK all0).trans K23 all0).trans K25 (allS (Or.inr age_a23) all0)).trans K27 (allS (Or.inr age_a23) all0)).trans K29 (allS (Or.inr age_a23) all0)).trans K30 all0).trans K34 (allS (Or.inr age_a30) all0)), by rw [e_]; exact S34⟩ nofun
  · show G T0 (mkF m 70 #[.val (.int (4 : Int32)), .val (.int (Int32.ofNat ps)), .val (.int r), .val (.int ex), .val (.ref a4), .unset] [])
    refine own_iload_n (pc' := 71) X0 dd_method_3_70 rfl rfl ?_
    refine own_newarray (pc' := 73) (cells' := 2) (slots' := 14) (n := 4) (cap := 4) (dv := (.int 0)) X0 (W 6 rfl) rfl rfl (by decide) (by decide) dd_method_3_71 rfl rfl (by decide) (by decide) rfl (by decide) (by decide) ?_
    intro T35 h35 a35 k35 g35 X35 K35 A35
    have n_a35 : n0 ≤ a35 := by rw [g35]; exact own_n0 X0
    have A35' : own_Arr Z h35 a35 k35 .char [(.int 0), (.int 0), (.int 0), (.int 0)] := A35
    refine own_astore (pc' := 75) X35 dd_method_3_73 rfl rfl (Ls' := #[.val (.int (4 : Int32)), .val (.int (Int32.ofNat ps)), .val (.int r), .val (.int ex), .val (.ref a4), .val (.ref a35)]) rfl ?_
    refine own_iload_n (pc' := 76) X35 dd_method_3_75 rfl rfl ?_
    refine own_ifN (pc' := 79) X35 dd_method_3_76 rfl ((tlt (by decide)).2.2.2) ?_
    refine own_aload (pc' := 81) X35 dd_method_3_79 rfl rfl rfl ?_
    refine own_iconst (pc' := 82) X35 dd_method_3_81 rfl (z := (0 : Int32)) (by decide) ?_
    refine own_aload (pc' := 84) X35 dd_method_3_82 rfl rfl rfl ?_
    refine own_iconst (pc' := 85) X35 dd_method_3_84 rfl (z := (0 : Int32)) (by decide) ?_
    have f36 := (p_A.keep K35 nin0)
    refine own_caload (pc' := 86) (i := 0) (v := (.int b0)) X35 f36 (by decide) rfl dd_method_3_85 rfl ?_
    refine own_castore (pc' := 87) (i := 0) (y := b0) X35 A35' (by decide) (Nat.le_of_ble_eq_true rfl) (own_c16id o_b0.1 o_b0.2) n_a35 dd_method_3_86 rfl ?_
    intro T37 h37 X37 K37 A37
    have A37' : own_Arr Z h37 a35 k35 .char [(.int b0), (.int 0), (.int 0), (.int 0)] := A37
    refine own_iload_n (pc' := 88) X37 dd_method_3_87 rfl rfl ?_
    refine own_iconst (pc' := 89) X37 dd_method_3_88 rfl (z := (1 : Int32)) (by decide) ?_
    refine own_icmpN (pc' := 92) X37 dd_method_3_89 rfl ((tlt (by decide)).2.2.2) ?_
    refine own_aload (pc' := 94) X37 dd_method_3_92 rfl rfl rfl ?_
    refine own_iconst (pc' := 95) X37 dd_method_3_94 rfl (z := (1 : Int32)) (by decide) ?_
    refine own_aload (pc' := 97) X37 dd_method_3_95 rfl rfl rfl ?_
    refine own_iconst (pc' := 98) X37 dd_method_3_97 rfl (z := (1 : Int32)) (by decide) ?_
    have ne_a4_a35 : a4 ≠ a35 := own_ne p_A.lt (Nat.le_refl _) (Nat.le_of_eq (Eq.symm g35))
    have f38 := (f36.keep K37 (ninS ne_a4_a35 nin0))
    refine own_caload (pc' := 99) (i := 1) (v := (.int b1)) X37 f38 (by decide) rfl dd_method_3_98 rfl ?_
    refine own_castore (pc' := 100) (i := 1) (y := b1) X37 A37' (by decide) (Nat.le_of_ble_eq_true rfl) (own_c16id o_b1.1 o_b1.2) n_a35 dd_method_3_99 rfl ?_
    intro T39 h39 X39 K39 A39
    have A39' : own_Arr Z h39 a35 k35 .char [(.int b0), (.int b1), (.int 0), (.int 0)] := A39
    refine own_iload_n (pc' := 101) X39 dd_method_3_100 rfl rfl ?_
    refine own_iconst (pc' := 102) X39 dd_method_3_101 rfl (z := (2 : Int32)) (by decide) ?_
    refine own_icmpN (pc' := 105) X39 dd_method_3_102 rfl ((tlt (by decide)).2.2.2) ?_
    refine own_aload (pc' := 107) X39 dd_method_3_105 rfl rfl rfl ?_
    refine own_iconst (pc' := 108) X39 dd_method_3_107 rfl (z := (2 : Int32)) (by decide) ?_
    refine own_aload (pc' := 110) X39 dd_method_3_108 rfl rfl rfl ?_
    refine own_iconst (pc' := 111) X39 dd_method_3_110 rfl (z := (2 : Int32)) (by decide) ?_
    have f40 := (f38.keep K39 (ninS ne_a4_a35 nin0))
    refine own_caload (pc' := 112) (i := 2) (v := (.int b2)) X39 f40 (by decide) rfl dd_method_3_111 rfl ?_
    refine own_castore (pc' := 113) (i := 2) (y := b2) X39 A39' (by decide) (Nat.le_of_ble_eq_true rfl) (own_c16id o_b2.1 o_b2.2) n_a35 dd_method_3_112 rfl ?_
    intro T41 h41 X41 K41 A41
    have A41' : own_Arr Z h41 a35 k35 .char [(.int b0), (.int b1), (.int b2), (.int 0)] := A41
    refine own_iload_n (pc' := 114) X41 dd_method_3_113 rfl rfl ?_
    refine own_iconst (pc' := 115) X41 dd_method_3_114 rfl (z := (3 : Int32)) (by decide) ?_
    refine own_icmpN (pc' := 118) X41 dd_method_3_115 rfl ((tlt (by decide)).2.2.2) ?_
    refine own_aload (pc' := 120) X41 dd_method_3_118 rfl rfl rfl ?_
    refine own_iconst (pc' := 121) X41 dd_method_3_120 rfl (z := (3 : Int32)) (by decide) ?_
    refine own_aload (pc' := 123) X41 dd_method_3_121 rfl rfl rfl ?_
    refine own_iconst (pc' := 124) X41 dd_method_3_123 rfl (z := (3 : Int32)) (by decide) ?_
    have f42 := (f40.keep K41 (ninS ne_a4_a35 nin0))
    refine own_caload (pc' := 125) (i := 3) (v := (.int b3)) X41 f42 (by decide) rfl dd_method_3_124 rfl ?_
    refine own_castore (pc' := 126) (i := 3) (y := b3) X41 A41' (by decide) (Nat.le_of_ble_eq_true rfl) (own_c16id o_b3.1 o_b3.2) n_a35 dd_method_3_125 rfl ?_
    intro T43 h43 X43 K43 A43
    have A43' : own_Arr Z h43 a35 k35 .char [(.int b0), (.int b1), (.int b2), (.int b3)] := A43
    refine own_iload_n (pc' := 127) X43 dd_method_3_126 rfl rfl ?_
    refine own_iconst (pc' := 128) X43 dd_method_3_127 rfl (z := (4 : Int32)) (by decide) ?_
    refine own_icmpY (pc' := 139) X43 dd_method_3_128 ((flt (by decide)).2.2.2) (by decide) (by decide) ?_
    refine own_iload_n (pc' := 140) X43 dd_method_3_139 rfl rfl ?_
    refine own_iconst (pc' := 141) X43 dd_method_3_140 rfl (z := (5 : Int32)) (by decide) ?_
    refine own_icmpY (pc' := 152) X43 dd_method_3_141 ((flt (by decide)).2.2.2) (by decide) (by decide) ?_
    refine own_iload_n (pc' := 153) X43 dd_method_3_152 rfl rfl ?_
    refine own_bipush (pc' := 155) X43 dd_method_3_153 rfl (z := (6 : Int32)) (by decide) ?_
    refine own_icmpY (pc' := 168) X43 dd_method_3_155 ((flt (by decide)).2.2.2) (by decide) (by decide) ?_
    refine own_iload_n (pc' := 169) X43 dd_method_3_168 rfl rfl ?_
    refine own_bipush (pc' := 171) X43 dd_method_3_169 rfl (z := (7 : Int32)) (by decide) ?_
    refine own_icmpY (pc' := 184) X43 dd_method_3_171 ((flt (by decide)).2.2.2) (by decide) (by decide) ?_
    refine own_iload_n (pc' := 185) X43 dd_method_3_184 rfl rfl ?_
    refine own_bipush (pc' := 187) X43 dd_method_3_185 rfl (z := (8 : Int32)) (by decide) ?_
    refine own_icmpY (pc' := 200) X43 dd_method_3_187 ((flt (by decide)).2.2.2) (by decide) (by decide) ?_
    refine own_iload_n (pc' := 201) X43 dd_method_3_200 rfl rfl ?_
    refine own_bipush (pc' := 203) X43 dd_method_3_201 rfl (z := (9 : Int32)) (by decide) ?_
    refine own_icmpY (pc' := 216) X43 dd_method_3_203 ((flt (by decide)).2.2.2) (by decide) (by decide) ?_
    refine own_newK (pc' := 219) (cells' := 3) (slots' := 18) X43 (W 7 rfl) (W 8 rfl) (W 9 rfl) dd_method_3_216 rfl rfl rfl (by decide) (by decide) ?_
    intro T44 h44 a44 g44 X44 K44 E44 D44 U44
    have n_a44 : n0 ≤ a44 := by rw [g44]; exact own_n0 X43
    have F44_coder : Fld Z h44 a44 "java/lang/String" "coder" "B" (.int (0 : Int32)) := D44 (Or.inr (W 33 rfl)) (ty := .byte) (by decide)
    have F44_value : Fld Z h44 a44 "java/lang/String" "value" "[B" .null := D44 (Or.inr (W 35 rfl)) (ty := (.array .byte)) (by decide)
    refine own_dup (pc' := 220) X44 dd_method_3_219 rfl rfl ?_
    refine own_aload (pc' := 222) X44 dd_method_3_220 rfl rfl rfl ?_
    by_cases hA : ∀ c ∈ ([b0, b1, b2, b3] : List Int32), ¬ (255 : Int32) < c
    · have f45 := (A43'.keep K44 nin0)
      refine own_strinit (pc' := 225) (cells' := 4) (slots' := 22) (W := 1) (n := 4) (cs := [b0, b1, b2, b3]) X44 (fun d hd => hw d (own_in_words d hd)) CS (W 10 rfl) (W 11 rfl) (W 12 rfl) (W 8 rfl) E44 F44_value F44_coder f45 n_a44 (List.mem_of_getElem? (i := 0) rfl) rfl (by decide) (by decide) (own_aS ⟨o_b0.1, hA _ (by simp)⟩ (own_aS ⟨o_b1.1, hA _ (by simp)⟩ (own_aS ⟨o_b2.1, hA _ (by simp)⟩ (own_aS ⟨o_b3.1, hA _ (by simp)⟩ own_a0)))) (by decide) (by decide) (lenOf (L := [.ref a35]) pd_11 rfl) rfl rfl dd_method_3_222 rfl rfl rfl (by decide) (by decide) ?_
      intro T46 h46 t46 X46 K46 z46 S46
      have e_ : own_dr 4 ps r ex = ([b0, b1, b2, b3] : List Int32) := by rw [own_dr, p_b]; rfl
      have age_a35 : hB.size ≤ a35 := Nat.le_trans (Nat.le_trans KK.1 (Nat.le_refl _)) (Nat.le_of_eq (Eq.symm g35))
      have age_a44 : hB.size ≤ a44 := Nat.le_trans (Nat.le_trans KK.1 (Nat.le_trans K35.1 (Nat.le_trans K37.1 (Nat.le_trans K39.1 (Nat.le_trans K41.1 (Nat.le_trans K43.1 (Nat.le_refl _))))))) (Nat.le_of_eq (Eq.symm g44))
      exact own_ret X46 hGe (t := (.object "java/lang/String")) rfl rfl (Or.inr (Or.inr (Or.inr (Or.inr ⟨rfl, rfl, rfl⟩)))) dd_method_3_225 (by decide) (by decide) ⟨a44, t46, rfl, (((((((((Keep.refl hB []).trans KK all0).trans K35 all0).trans K37 (allS (Or.inr age_a35) all0)).trans K39 (allS (Or.inr age_a35) all0)).trans K41 (allS (Or.inr age_a35) all0)).trans K43 (allS (Or.inr age_a35) all0)).trans K44 all0).trans K46 (allS (Or.inr age_a44) all0)), by rw [e_]; exact S46⟩ nofun
    · have f47 := (A43'.keep K44 nin0)
      refine own_callIM (pc' := 225) (cells' := 5) (slots' := 48) (argsL := [(.ref a35)]) (rest := [(.ref a44)]) (W := 1) (y := (⟨"java/lang/String", "<init>", "([C)V"⟩ : MethodName)) (a := a44) X44 (W 10 rfl) (W 11 rfl) rfl (by decide) (own_sw1 l Z a0 hw EWf n0 a44 a35 k35 ([b0, b1, b2, b3] : List Int32) 4 h44 (own_old X44) n_a44 E44 F44_value F44_coder f47 rfl (by decide) (own_exw hA) (own_aS o_b0 (own_aS o_b1 (own_aS o_b2 (own_aS o_b3 own_a0)))) U CS) (allS (List.mem_of_getElem? (i := 0) rfl) all0) (W 12 rfl) (W 9 rfl) (by decide) (by decide) rfl (lenOf pd_11 rfl) rfl rfl dd_method_3_222 rfl rfl rfl rfl (by decide) (by decide) ?_
      intro v48 T48 h48 s48 X48 q48 r48
      obtain ⟨rfl, K48, t48, S48⟩ := q48
      show G T48 (mkF m 225 #[.val (.int (4 : Int32)), .val (.int (Int32.ofNat ps)), .val (.int r), .val (.int ex), .val (.ref a4), .val (.ref a35)] [(.ref a44)])
      have e_ : own_dr 4 ps r ex = ([b0, b1, b2, b3] : List Int32) := by rw [own_dr, p_b]; rfl
      have age_a35 : hB.size ≤ a35 := Nat.le_trans (Nat.le_trans KK.1 (Nat.le_refl _)) (Nat.le_of_eq (Eq.symm g35))
      have age_a44 : hB.size ≤ a44 := Nat.le_trans (Nat.le_trans KK.1 (Nat.le_trans K35.1 (Nat.le_trans K37.1 (Nat.le_trans K39.1 (Nat.le_trans K41.1 (Nat.le_trans K43.1 (Nat.le_refl _))))))) (Nat.le_of_eq (Eq.symm g44))
      exact own_ret X48 hGe (t := (.object "java/lang/String")) rfl rfl (Or.inr (Or.inr (Or.inr (Or.inr ⟨rfl, rfl, rfl⟩)))) dd_method_3_225 (by decide) (by decide) ⟨a44, t48, rfl, (((((((((Keep.refl hB []).trans KK all0).trans K35 all0).trans K37 (allS (Or.inr age_a35) all0)).trans K39 (allS (Or.inr age_a35) all0)).trans K41 (allS (Or.inr age_a35) all0)).trans K43 (allS (Or.inr age_a35) all0)).trans K44 all0).trans K48 (allS (Or.inr age_a44) all0)), by rw [e_]; exact S48⟩ nofun
  · show G T0 (mkF m 70 #[.val (.int (5 : Int32)), .val (.int (Int32.ofNat ps)), .val (.int r), .val (.int ex), .val (.ref a4), .unset] [])
    refine own_iload_n (pc' := 71) X0 dd_method_3_70 rfl rfl ?_
    refine own_newarray (pc' := 73) (cells' := 2) (slots' := 15) (n := 5) (cap := 5) (dv := (.int 0)) X0 (W 6 rfl) rfl rfl (by decide) (by decide) dd_method_3_71 rfl rfl (by decide) (by decide) rfl (by decide) (by decide) ?_
    intro T49 h49 a49 k49 g49 X49 K49 A49
    have n_a49 : n0 ≤ a49 := by rw [g49]; exact own_n0 X0
    have A49' : own_Arr Z h49 a49 k49 .char [(.int 0), (.int 0), (.int 0), (.int 0), (.int 0)] := A49
    refine own_astore (pc' := 75) X49 dd_method_3_73 rfl rfl (Ls' := #[.val (.int (5 : Int32)), .val (.int (Int32.ofNat ps)), .val (.int r), .val (.int ex), .val (.ref a4), .val (.ref a49)]) rfl ?_
    refine own_iload_n (pc' := 76) X49 dd_method_3_75 rfl rfl ?_
    refine own_ifN (pc' := 79) X49 dd_method_3_76 rfl ((tlt (by decide)).2.2.2) ?_
    refine own_aload (pc' := 81) X49 dd_method_3_79 rfl rfl rfl ?_
    refine own_iconst (pc' := 82) X49 dd_method_3_81 rfl (z := (0 : Int32)) (by decide) ?_
    refine own_aload (pc' := 84) X49 dd_method_3_82 rfl rfl rfl ?_
    refine own_iconst (pc' := 85) X49 dd_method_3_84 rfl (z := (0 : Int32)) (by decide) ?_
    have f50 := (p_A.keep K49 nin0)
    refine own_caload (pc' := 86) (i := 0) (v := (.int b0)) X49 f50 (by decide) rfl dd_method_3_85 rfl ?_
    refine own_castore (pc' := 87) (i := 0) (y := b0) X49 A49' (by decide) (Nat.le_of_ble_eq_true rfl) (own_c16id o_b0.1 o_b0.2) n_a49 dd_method_3_86 rfl ?_
    intro T51 h51 X51 K51 A51
    have A51' : own_Arr Z h51 a49 k49 .char [(.int b0), (.int 0), (.int 0), (.int 0), (.int 0)] := A51
    refine own_iload_n (pc' := 88) X51 dd_method_3_87 rfl rfl ?_
    refine own_iconst (pc' := 89) X51 dd_method_3_88 rfl (z := (1 : Int32)) (by decide) ?_
    refine own_icmpN (pc' := 92) X51 dd_method_3_89 rfl ((tlt (by decide)).2.2.2) ?_
    refine own_aload (pc' := 94) X51 dd_method_3_92 rfl rfl rfl ?_
    refine own_iconst (pc' := 95) X51 dd_method_3_94 rfl (z := (1 : Int32)) (by decide) ?_
    refine own_aload (pc' := 97) X51 dd_method_3_95 rfl rfl rfl ?_
    refine own_iconst (pc' := 98) X51 dd_method_3_97 rfl (z := (1 : Int32)) (by decide) ?_
    have ne_a4_a49 : a4 ≠ a49 := own_ne p_A.lt (Nat.le_refl _) (Nat.le_of_eq (Eq.symm g49))
    have f52 := (f50.keep K51 (ninS ne_a4_a49 nin0))
    refine own_caload (pc' := 99) (i := 1) (v := (.int b1)) X51 f52 (by decide) rfl dd_method_3_98 rfl ?_
    refine own_castore (pc' := 100) (i := 1) (y := b1) X51 A51' (by decide) (Nat.le_of_ble_eq_true rfl) (own_c16id o_b1.1 o_b1.2) n_a49 dd_method_3_99 rfl ?_
    intro T53 h53 X53 K53 A53
    have A53' : own_Arr Z h53 a49 k49 .char [(.int b0), (.int b1), (.int 0), (.int 0), (.int 0)] := A53
    refine own_iload_n (pc' := 101) X53 dd_method_3_100 rfl rfl ?_
    refine own_iconst (pc' := 102) X53 dd_method_3_101 rfl (z := (2 : Int32)) (by decide) ?_
    refine own_icmpN (pc' := 105) X53 dd_method_3_102 rfl ((tlt (by decide)).2.2.2) ?_
    refine own_aload (pc' := 107) X53 dd_method_3_105 rfl rfl rfl ?_
    refine own_iconst (pc' := 108) X53 dd_method_3_107 rfl (z := (2 : Int32)) (by decide) ?_
    refine own_aload (pc' := 110) X53 dd_method_3_108 rfl rfl rfl ?_
    refine own_iconst (pc' := 111) X53 dd_method_3_110 rfl (z := (2 : Int32)) (by decide) ?_
    have f54 := (f52.keep K53 (ninS ne_a4_a49 nin0))
    refine own_caload (pc' := 112) (i := 2) (v := (.int b2)) X53 f54 (by decide) rfl dd_method_3_111 rfl ?_
    refine own_castore (pc' := 113) (i := 2) (y := b2) X53 A53' (by decide) (Nat.le_of_ble_eq_true rfl) (own_c16id o_b2.1 o_b2.2) n_a49 dd_method_3_112 rfl ?_
    intro T55 h55 X55 K55 A55
    have A55' : own_Arr Z h55 a49 k49 .char [(.int b0), (.int b1), (.int b2), (.int 0), (.int 0)] := A55
    refine own_iload_n (pc' := 114) X55 dd_method_3_113 rfl rfl ?_
    refine own_iconst (pc' := 115) X55 dd_method_3_114 rfl (z := (3 : Int32)) (by decide) ?_
    refine own_icmpN (pc' := 118) X55 dd_method_3_115 rfl ((tlt (by decide)).2.2.2) ?_
    refine own_aload (pc' := 120) X55 dd_method_3_118 rfl rfl rfl ?_
    refine own_iconst (pc' := 121) X55 dd_method_3_120 rfl (z := (3 : Int32)) (by decide) ?_
    refine own_aload (pc' := 123) X55 dd_method_3_121 rfl rfl rfl ?_
    refine own_iconst (pc' := 124) X55 dd_method_3_123 rfl (z := (3 : Int32)) (by decide) ?_
    have f56 := (f54.keep K55 (ninS ne_a4_a49 nin0))
    refine own_caload (pc' := 125) (i := 3) (v := (.int b3)) X55 f56 (by decide) rfl dd_method_3_124 rfl ?_
    refine own_castore (pc' := 126) (i := 3) (y := b3) X55 A55' (by decide) (Nat.le_of_ble_eq_true rfl) (own_c16id o_b3.1 o_b3.2) n_a49 dd_method_3_125 rfl ?_
    intro T57 h57 X57 K57 A57
    have A57' : own_Arr Z h57 a49 k49 .char [(.int b0), (.int b1), (.int b2), (.int b3), (.int 0)] := A57
    refine own_iload_n (pc' := 127) X57 dd_method_3_126 rfl rfl ?_
    refine own_iconst (pc' := 128) X57 dd_method_3_127 rfl (z := (4 : Int32)) (by decide) ?_
    refine own_icmpN (pc' := 131) X57 dd_method_3_128 rfl ((tlt (by decide)).2.2.2) ?_
    refine own_aload (pc' := 133) X57 dd_method_3_131 rfl rfl rfl ?_
    refine own_iconst (pc' := 134) X57 dd_method_3_133 rfl (z := (4 : Int32)) (by decide) ?_
    refine own_aload (pc' := 136) X57 dd_method_3_134 rfl rfl rfl ?_
    refine own_iconst (pc' := 137) X57 dd_method_3_136 rfl (z := (4 : Int32)) (by decide) ?_
    have f58 := (f56.keep K57 (ninS ne_a4_a49 nin0))
    refine own_caload (pc' := 138) (i := 4) (v := (.int b4)) X57 f58 (by decide) rfl dd_method_3_137 rfl ?_
    refine own_castore (pc' := 139) (i := 4) (y := b4) X57 A57' (by decide) (Nat.le_of_ble_eq_true rfl) (own_c16id o_b4.1 o_b4.2) n_a49 dd_method_3_138 rfl ?_
    intro T59 h59 X59 K59 A59
    have A59' : own_Arr Z h59 a49 k49 .char [(.int b0), (.int b1), (.int b2), (.int b3), (.int b4)] := A59
    refine own_iload_n (pc' := 140) X59 dd_method_3_139 rfl rfl ?_
    refine own_iconst (pc' := 141) X59 dd_method_3_140 rfl (z := (5 : Int32)) (by decide) ?_
    refine own_icmpY (pc' := 152) X59 dd_method_3_141 ((flt (by decide)).2.2.2) (by decide) (by decide) ?_
    refine own_iload_n (pc' := 153) X59 dd_method_3_152 rfl rfl ?_
    refine own_bipush (pc' := 155) X59 dd_method_3_153 rfl (z := (6 : Int32)) (by decide) ?_
    refine own_icmpY (pc' := 168) X59 dd_method_3_155 ((flt (by decide)).2.2.2) (by decide) (by decide) ?_
    refine own_iload_n (pc' := 169) X59 dd_method_3_168 rfl rfl ?_
    refine own_bipush (pc' := 171) X59 dd_method_3_169 rfl (z := (7 : Int32)) (by decide) ?_
    refine own_icmpY (pc' := 184) X59 dd_method_3_171 ((flt (by decide)).2.2.2) (by decide) (by decide) ?_
    refine own_iload_n (pc' := 185) X59 dd_method_3_184 rfl rfl ?_
    refine own_bipush (pc' := 187) X59 dd_method_3_185 rfl (z := (8 : Int32)) (by decide) ?_
    refine own_icmpY (pc' := 200) X59 dd_method_3_187 ((flt (by decide)).2.2.2) (by decide) (by decide) ?_
    refine own_iload_n (pc' := 201) X59 dd_method_3_200 rfl rfl ?_
    refine own_bipush (pc' := 203) X59 dd_method_3_201 rfl (z := (9 : Int32)) (by decide) ?_
    refine own_icmpY (pc' := 216) X59 dd_method_3_203 ((flt (by decide)).2.2.2) (by decide) (by decide) ?_
    refine own_newK (pc' := 219) (cells' := 3) (slots' := 19) X59 (W 7 rfl) (W 8 rfl) (W 9 rfl) dd_method_3_216 rfl rfl rfl (by decide) (by decide) ?_
    intro T60 h60 a60 g60 X60 K60 E60 D60 U60
    have n_a60 : n0 ≤ a60 := by rw [g60]; exact own_n0 X59
    have F60_coder : Fld Z h60 a60 "java/lang/String" "coder" "B" (.int (0 : Int32)) := D60 (Or.inr (W 33 rfl)) (ty := .byte) (by decide)
    have F60_value : Fld Z h60 a60 "java/lang/String" "value" "[B" .null := D60 (Or.inr (W 35 rfl)) (ty := (.array .byte)) (by decide)
    refine own_dup (pc' := 220) X60 dd_method_3_219 rfl rfl ?_
    refine own_aload (pc' := 222) X60 dd_method_3_220 rfl rfl rfl ?_
    by_cases hA : ∀ c ∈ ([b0, b1, b2, b3, b4] : List Int32), ¬ (255 : Int32) < c
    · have f61 := (A59'.keep K60 nin0)
      refine own_strinit (pc' := 225) (cells' := 4) (slots' := 24) (W := 1) (n := 5) (cs := [b0, b1, b2, b3, b4]) X60 (fun d hd => hw d (own_in_words d hd)) CS (W 10 rfl) (W 11 rfl) (W 12 rfl) (W 8 rfl) E60 F60_value F60_coder f61 n_a60 (List.mem_of_getElem? (i := 0) rfl) rfl (by decide) (by decide) (own_aS ⟨o_b0.1, hA _ (by simp)⟩ (own_aS ⟨o_b1.1, hA _ (by simp)⟩ (own_aS ⟨o_b2.1, hA _ (by simp)⟩ (own_aS ⟨o_b3.1, hA _ (by simp)⟩ (own_aS ⟨o_b4.1, hA _ (by simp)⟩ own_a0))))) (by decide) (by decide) (lenOf (L := [.ref a49]) pd_11 rfl) rfl rfl dd_method_3_222 rfl rfl rfl (by decide) (by decide) ?_
      intro T62 h62 t62 X62 K62 z62 S62
      have e_ : own_dr 5 ps r ex = ([b0, b1, b2, b3, b4] : List Int32) := by rw [own_dr, p_b]; rfl
      have age_a49 : hB.size ≤ a49 := Nat.le_trans (Nat.le_trans KK.1 (Nat.le_refl _)) (Nat.le_of_eq (Eq.symm g49))
      have age_a60 : hB.size ≤ a60 := Nat.le_trans (Nat.le_trans KK.1 (Nat.le_trans K49.1 (Nat.le_trans K51.1 (Nat.le_trans K53.1 (Nat.le_trans K55.1 (Nat.le_trans K57.1 (Nat.le_trans K59.1 (Nat.le_refl _)))))))) (Nat.le_of_eq (Eq.symm g60))
      exact own_ret X62 hGe (t := (.object "java/lang/String")) rfl rfl (Or.inr (Or.inr (Or.inr (Or.inr ⟨rfl, rfl, rfl⟩)))) dd_method_3_225 (by decide) (by decide) ⟨a60, t62, rfl, ((((((((((Keep.refl hB []).trans KK all0).trans K49 all0).trans K51 (allS (Or.inr age_a49) all0)).trans K53 (allS (Or.inr age_a49) all0)).trans K55 (allS (Or.inr age_a49) all0)).trans K57 (allS (Or.inr age_a49) all0)).trans K59 (allS (Or.inr age_a49) all0)).trans K60 all0).trans K62 (allS (Or.inr age_a60) all0)), by rw [e_]; exact S62⟩ nofun
    · have f63 := (A59'.keep K60 nin0)
      refine own_callIM (pc' := 225) (cells' := 5) (slots' := 49) (argsL := [(.ref a49)]) (rest := [(.ref a60)]) (W := 1) (y := (⟨"java/lang/String", "<init>", "([C)V"⟩ : MethodName)) (a := a60) X60 (W 10 rfl) (W 11 rfl) rfl (by decide) (own_sw1 l Z a0 hw EWf n0 a60 a49 k49 ([b0, b1, b2, b3, b4] : List Int32) 5 h60 (own_old X60) n_a60 E60 F60_value F60_coder f63 rfl (by decide) (own_exw hA) (own_aS o_b0 (own_aS o_b1 (own_aS o_b2 (own_aS o_b3 (own_aS o_b4 own_a0))))) U CS) (allS (List.mem_of_getElem? (i := 0) rfl) all0) (W 12 rfl) (W 9 rfl) (by decide) (by decide) rfl (lenOf pd_11 rfl) rfl rfl dd_method_3_222 rfl rfl rfl rfl (by decide) (by decide) ?_
      intro v64 T64 h64 s64 X64 q64 r64
      obtain ⟨rfl, K64, t64, S64⟩ := q64
      show G T64 (mkF m 225 #[.val (.int (5 : Int32)), .val (.int (Int32.ofNat ps)), .val (.int r), .val (.int ex), .val (.ref a4), .val (.ref a49)] [(.ref a60)])
      have e_ : own_dr 5 ps r ex = ([b0, b1, b2, b3, b4] : List Int32) := by rw [own_dr, p_b]; rfl
      have age_a49 : hB.size ≤ a49 := Nat.le_trans (Nat.le_trans KK.1 (Nat.le_refl _)) (Nat.le_of_eq (Eq.symm g49))
      have age_a60 : hB.size ≤ a60 := Nat.le_trans (Nat.le_trans KK.1 (Nat.le_trans K49.1 (Nat.le_trans K51.1 (Nat.le_trans K53.1 (Nat.le_trans K55.1 (Nat.le_trans K57.1 (Nat.le_trans K59.1 (Nat.le_refl _)))))))) (Nat.le_of_eq (Eq.symm g60))
      exact own_ret X64 hGe (t := (.object "java/lang/String")) rfl rfl (Or.inr (Or.inr (Or.inr (Or.inr ⟨rfl, rfl, rfl⟩)))) dd_method_3_225 (by decide) (by decide) ⟨a60, t64, rfl, ((((((((((Keep.refl hB []).trans KK all0).trans K49 all0).trans K51 (allS (Or.inr age_a49) all0)).trans K53 (allS (Or.inr age_a49) all0)).trans K55 (allS (Or.inr age_a49) all0)).trans K57 (allS (Or.inr age_a49) all0)).trans K59 (allS (Or.inr age_a49) all0)).trans K60 all0).trans K64 (allS (Or.inr age_a60) all0)), by rw [e_]; exact S64⟩ nofun
  · show G T0 (mkF m 70 #[.val (.int (6 : Int32)), .val (.int (Int32.ofNat ps)), .val (.int r), .val (.int ex), .val (.ref a4), .unset] [])
    refine own_iload_n (pc' := 71) X0 dd_method_3_70 rfl rfl ?_
    refine own_newarray (pc' := 73) (cells' := 2) (slots' := 16) (n := 6) (cap := 6) (dv := (.int 0)) X0 (W 6 rfl) rfl rfl (by decide) (by decide) dd_method_3_71 rfl rfl (by decide) (by decide) rfl (by decide) (by decide) ?_
    intro T65 h65 a65 k65 g65 X65 K65 A65
    have n_a65 : n0 ≤ a65 := by rw [g65]; exact own_n0 X0
    have A65' : own_Arr Z h65 a65 k65 .char [(.int 0), (.int 0), (.int 0), (.int 0), (.int 0), (.int 0)] := A65
    refine own_astore (pc' := 75) X65 dd_method_3_73 rfl rfl (Ls' := #[.val (.int (6 : Int32)), .val (.int (Int32.ofNat ps)), .val (.int r), .val (.int ex), .val (.ref a4), .val (.ref a65)]) rfl ?_
    refine own_iload_n (pc' := 76) X65 dd_method_3_75 rfl rfl ?_
    refine own_ifN (pc' := 79) X65 dd_method_3_76 rfl ((tlt (by decide)).2.2.2) ?_
    refine own_aload (pc' := 81) X65 dd_method_3_79 rfl rfl rfl ?_
    refine own_iconst (pc' := 82) X65 dd_method_3_81 rfl (z := (0 : Int32)) (by decide) ?_
    refine own_aload (pc' := 84) X65 dd_method_3_82 rfl rfl rfl ?_
    refine own_iconst (pc' := 85) X65 dd_method_3_84 rfl (z := (0 : Int32)) (by decide) ?_
    have f66 := (p_A.keep K65 nin0)
    refine own_caload (pc' := 86) (i := 0) (v := (.int b0)) X65 f66 (by decide) rfl dd_method_3_85 rfl ?_
    refine own_castore (pc' := 87) (i := 0) (y := b0) X65 A65' (by decide) (Nat.le_of_ble_eq_true rfl) (own_c16id o_b0.1 o_b0.2) n_a65 dd_method_3_86 rfl ?_
    intro T67 h67 X67 K67 A67
    have A67' : own_Arr Z h67 a65 k65 .char [(.int b0), (.int 0), (.int 0), (.int 0), (.int 0), (.int 0)] := A67
    refine own_iload_n (pc' := 88) X67 dd_method_3_87 rfl rfl ?_
    refine own_iconst (pc' := 89) X67 dd_method_3_88 rfl (z := (1 : Int32)) (by decide) ?_
    refine own_icmpN (pc' := 92) X67 dd_method_3_89 rfl ((tlt (by decide)).2.2.2) ?_
    refine own_aload (pc' := 94) X67 dd_method_3_92 rfl rfl rfl ?_
    refine own_iconst (pc' := 95) X67 dd_method_3_94 rfl (z := (1 : Int32)) (by decide) ?_
    refine own_aload (pc' := 97) X67 dd_method_3_95 rfl rfl rfl ?_
    refine own_iconst (pc' := 98) X67 dd_method_3_97 rfl (z := (1 : Int32)) (by decide) ?_
    have ne_a4_a65 : a4 ≠ a65 := own_ne p_A.lt (Nat.le_refl _) (Nat.le_of_eq (Eq.symm g65))
    have f68 := (f66.keep K67 (ninS ne_a4_a65 nin0))
    refine own_caload (pc' := 99) (i := 1) (v := (.int b1)) X67 f68 (by decide) rfl dd_method_3_98 rfl ?_
    refine own_castore (pc' := 100) (i := 1) (y := b1) X67 A67' (by decide) (Nat.le_of_ble_eq_true rfl) (own_c16id o_b1.1 o_b1.2) n_a65 dd_method_3_99 rfl ?_
    intro T69 h69 X69 K69 A69
    have A69' : own_Arr Z h69 a65 k65 .char [(.int b0), (.int b1), (.int 0), (.int 0), (.int 0), (.int 0)] := A69
    refine own_iload_n (pc' := 101) X69 dd_method_3_100 rfl rfl ?_
    refine own_iconst (pc' := 102) X69 dd_method_3_101 rfl (z := (2 : Int32)) (by decide) ?_
    refine own_icmpN (pc' := 105) X69 dd_method_3_102 rfl ((tlt (by decide)).2.2.2) ?_
    refine own_aload (pc' := 107) X69 dd_method_3_105 rfl rfl rfl ?_
    refine own_iconst (pc' := 108) X69 dd_method_3_107 rfl (z := (2 : Int32)) (by decide) ?_
    refine own_aload (pc' := 110) X69 dd_method_3_108 rfl rfl rfl ?_
    refine own_iconst (pc' := 111) X69 dd_method_3_110 rfl (z := (2 : Int32)) (by decide) ?_
    have f70 := (f68.keep K69 (ninS ne_a4_a65 nin0))
    refine own_caload (pc' := 112) (i := 2) (v := (.int b2)) X69 f70 (by decide) rfl dd_method_3_111 rfl ?_
    refine own_castore (pc' := 113) (i := 2) (y := b2) X69 A69' (by decide) (Nat.le_of_ble_eq_true rfl) (own_c16id o_b2.1 o_b2.2) n_a65 dd_method_3_112 rfl ?_
    intro T71 h71 X71 K71 A71
    have A71' : own_Arr Z h71 a65 k65 .char [(.int b0), (.int b1), (.int b2), (.int 0), (.int 0), (.int 0)] := A71
    refine own_iload_n (pc' := 114) X71 dd_method_3_113 rfl rfl ?_
    refine own_iconst (pc' := 115) X71 dd_method_3_114 rfl (z := (3 : Int32)) (by decide) ?_
    refine own_icmpN (pc' := 118) X71 dd_method_3_115 rfl ((tlt (by decide)).2.2.2) ?_
    refine own_aload (pc' := 120) X71 dd_method_3_118 rfl rfl rfl ?_
    refine own_iconst (pc' := 121) X71 dd_method_3_120 rfl (z := (3 : Int32)) (by decide) ?_
    refine own_aload (pc' := 123) X71 dd_method_3_121 rfl rfl rfl ?_
    refine own_iconst (pc' := 124) X71 dd_method_3_123 rfl (z := (3 : Int32)) (by decide) ?_
    have f72 := (f70.keep K71 (ninS ne_a4_a65 nin0))
    refine own_caload (pc' := 125) (i := 3) (v := (.int b3)) X71 f72 (by decide) rfl dd_method_3_124 rfl ?_
    refine own_castore (pc' := 126) (i := 3) (y := b3) X71 A71' (by decide) (Nat.le_of_ble_eq_true rfl) (own_c16id o_b3.1 o_b3.2) n_a65 dd_method_3_125 rfl ?_
    intro T73 h73 X73 K73 A73
    have A73' : own_Arr Z h73 a65 k65 .char [(.int b0), (.int b1), (.int b2), (.int b3), (.int 0), (.int 0)] := A73
    refine own_iload_n (pc' := 127) X73 dd_method_3_126 rfl rfl ?_
    refine own_iconst (pc' := 128) X73 dd_method_3_127 rfl (z := (4 : Int32)) (by decide) ?_
    refine own_icmpN (pc' := 131) X73 dd_method_3_128 rfl ((tlt (by decide)).2.2.2) ?_
    refine own_aload (pc' := 133) X73 dd_method_3_131 rfl rfl rfl ?_
    refine own_iconst (pc' := 134) X73 dd_method_3_133 rfl (z := (4 : Int32)) (by decide) ?_
    refine own_aload (pc' := 136) X73 dd_method_3_134 rfl rfl rfl ?_
    refine own_iconst (pc' := 137) X73 dd_method_3_136 rfl (z := (4 : Int32)) (by decide) ?_
    have f74 := (f72.keep K73 (ninS ne_a4_a65 nin0))
    refine own_caload (pc' := 138) (i := 4) (v := (.int b4)) X73 f74 (by decide) rfl dd_method_3_137 rfl ?_
    refine own_castore (pc' := 139) (i := 4) (y := b4) X73 A73' (by decide) (Nat.le_of_ble_eq_true rfl) (own_c16id o_b4.1 o_b4.2) n_a65 dd_method_3_138 rfl ?_
    intro T75 h75 X75 K75 A75
    have A75' : own_Arr Z h75 a65 k65 .char [(.int b0), (.int b1), (.int b2), (.int b3), (.int b4), (.int 0)] := A75
    refine own_iload_n (pc' := 140) X75 dd_method_3_139 rfl rfl ?_
    refine own_iconst (pc' := 141) X75 dd_method_3_140 rfl (z := (5 : Int32)) (by decide) ?_
    refine own_icmpN (pc' := 144) X75 dd_method_3_141 rfl ((tlt (by decide)).2.2.2) ?_
    refine own_aload (pc' := 146) X75 dd_method_3_144 rfl rfl rfl ?_
    refine own_iconst (pc' := 147) X75 dd_method_3_146 rfl (z := (5 : Int32)) (by decide) ?_
    refine own_aload (pc' := 149) X75 dd_method_3_147 rfl rfl rfl ?_
    refine own_iconst (pc' := 150) X75 dd_method_3_149 rfl (z := (5 : Int32)) (by decide) ?_
    have f76 := (f74.keep K75 (ninS ne_a4_a65 nin0))
    refine own_caload (pc' := 151) (i := 5) (v := (.int b5)) X75 f76 (by decide) rfl dd_method_3_150 rfl ?_
    refine own_castore (pc' := 152) (i := 5) (y := b5) X75 A75' (by decide) (Nat.le_of_ble_eq_true rfl) (own_c16id o_b5.1 o_b5.2) n_a65 dd_method_3_151 rfl ?_
    intro T77 h77 X77 K77 A77
    have A77' : own_Arr Z h77 a65 k65 .char [(.int b0), (.int b1), (.int b2), (.int b3), (.int b4), (.int b5)] := A77
    refine own_iload_n (pc' := 153) X77 dd_method_3_152 rfl rfl ?_
    refine own_bipush (pc' := 155) X77 dd_method_3_153 rfl (z := (6 : Int32)) (by decide) ?_
    refine own_icmpY (pc' := 168) X77 dd_method_3_155 ((flt (by decide)).2.2.2) (by decide) (by decide) ?_
    refine own_iload_n (pc' := 169) X77 dd_method_3_168 rfl rfl ?_
    refine own_bipush (pc' := 171) X77 dd_method_3_169 rfl (z := (7 : Int32)) (by decide) ?_
    refine own_icmpY (pc' := 184) X77 dd_method_3_171 ((flt (by decide)).2.2.2) (by decide) (by decide) ?_
    refine own_iload_n (pc' := 185) X77 dd_method_3_184 rfl rfl ?_
    refine own_bipush (pc' := 187) X77 dd_method_3_185 rfl (z := (8 : Int32)) (by decide) ?_
    refine own_icmpY (pc' := 200) X77 dd_method_3_187 ((flt (by decide)).2.2.2) (by decide) (by decide) ?_
    refine own_iload_n (pc' := 201) X77 dd_method_3_200 rfl rfl ?_
    refine own_bipush (pc' := 203) X77 dd_method_3_201 rfl (z := (9 : Int32)) (by decide) ?_
    refine own_icmpY (pc' := 216) X77 dd_method_3_203 ((flt (by decide)).2.2.2) (by decide) (by decide) ?_
    refine own_newK (pc' := 219) (cells' := 3) (slots' := 20) X77 (W 7 rfl) (W 8 rfl) (W 9 rfl) dd_method_3_216 rfl rfl rfl (by decide) (by decide) ?_
    intro T78 h78 a78 g78 X78 K78 E78 D78 U78
    have n_a78 : n0 ≤ a78 := by rw [g78]; exact own_n0 X77
    have F78_coder : Fld Z h78 a78 "java/lang/String" "coder" "B" (.int (0 : Int32)) := D78 (Or.inr (W 33 rfl)) (ty := .byte) (by decide)
    have F78_value : Fld Z h78 a78 "java/lang/String" "value" "[B" .null := D78 (Or.inr (W 35 rfl)) (ty := (.array .byte)) (by decide)
    refine own_dup (pc' := 220) X78 dd_method_3_219 rfl rfl ?_
    refine own_aload (pc' := 222) X78 dd_method_3_220 rfl rfl rfl ?_
    by_cases hA : ∀ c ∈ ([b0, b1, b2, b3, b4, b5] : List Int32), ¬ (255 : Int32) < c
    · have f79 := (A77'.keep K78 nin0)
      refine own_strinit (pc' := 225) (cells' := 4) (slots' := 26) (W := 1) (n := 6) (cs := [b0, b1, b2, b3, b4, b5]) X78 (fun d hd => hw d (own_in_words d hd)) CS (W 10 rfl) (W 11 rfl) (W 12 rfl) (W 8 rfl) E78 F78_value F78_coder f79 n_a78 (List.mem_of_getElem? (i := 0) rfl) rfl (by decide) (by decide) (own_aS ⟨o_b0.1, hA _ (by simp)⟩ (own_aS ⟨o_b1.1, hA _ (by simp)⟩ (own_aS ⟨o_b2.1, hA _ (by simp)⟩ (own_aS ⟨o_b3.1, hA _ (by simp)⟩ (own_aS ⟨o_b4.1, hA _ (by simp)⟩ (own_aS ⟨o_b5.1, hA _ (by simp)⟩ own_a0)))))) (by decide) (by decide) (lenOf (L := [.ref a65]) pd_11 rfl) rfl rfl dd_method_3_222 rfl rfl rfl (by decide) (by decide) ?_
      intro T80 h80 t80 X80 K80 z80 S80
      have e_ : own_dr 6 ps r ex = ([b0, b1, b2, b3, b4, b5] : List Int32) := by rw [own_dr, p_b]; rfl
      have age_a65 : hB.size ≤ a65 := Nat.le_trans (Nat.le_trans KK.1 (Nat.le_refl _)) (Nat.le_of_eq (Eq.symm g65))
      have age_a78 : hB.size ≤ a78 := Nat.le_trans (Nat.le_trans KK.1 (Nat.le_trans K65.1 (Nat.le_trans K67.1 (Nat.le_trans K69.1 (Nat.le_trans K71.1 (Nat.le_trans K73.1 (Nat.le_trans K75.1 (Nat.le_trans K77.1 (Nat.le_refl _))))))))) (Nat.le_of_eq (Eq.symm g78))
      exact own_ret X80 hGe (t := (.object "java/lang/String")) rfl rfl (Or.inr (Or.inr (Or.inr (Or.inr ⟨rfl, rfl, rfl⟩)))) dd_method_3_225 (by decide) (by decide) ⟨a78, t80, rfl, (((((((((((Keep.refl hB []).trans KK all0).trans K65 all0).trans K67 (allS (Or.inr age_a65) all0)).trans K69 (allS (Or.inr age_a65) all0)).trans K71 (allS (Or.inr age_a65) all0)).trans K73 (allS (Or.inr age_a65) all0)).trans K75 (allS (Or.inr age_a65) all0)).trans K77 (allS (Or.inr age_a65) all0)).trans K78 all0).trans K80 (allS (Or.inr age_a78) all0)), by rw [e_]; exact S80⟩ nofun
    · have f81 := (A77'.keep K78 nin0)
      refine own_callIM (pc' := 225) (cells' := 5) (slots' := 50) (argsL := [(.ref a65)]) (rest := [(.ref a78)]) (W := 1) (y := (⟨"java/lang/String", "<init>", "([C)V"⟩ : MethodName)) (a := a78) X78 (W 10 rfl) (W 11 rfl) rfl (by decide) (own_sw1 l Z a0 hw EWf n0 a78 a65 k65 ([b0, b1, b2, b3, b4, b5] : List Int32) 6 h78 (own_old X78) n_a78 E78 F78_value F78_coder f81 rfl (by decide) (own_exw hA) (own_aS o_b0 (own_aS o_b1 (own_aS o_b2 (own_aS o_b3 (own_aS o_b4 (own_aS o_b5 own_a0)))))) U CS) (allS (List.mem_of_getElem? (i := 0) rfl) all0) (W 12 rfl) (W 9 rfl) (by decide) (by decide) rfl (lenOf pd_11 rfl) rfl rfl dd_method_3_222 rfl rfl rfl rfl (by decide) (by decide) ?_
      intro v82 T82 h82 s82 X82 q82 r82
      obtain ⟨rfl, K82, t82, S82⟩ := q82
      show G T82 (mkF m 225 #[.val (.int (6 : Int32)), .val (.int (Int32.ofNat ps)), .val (.int r), .val (.int ex), .val (.ref a4), .val (.ref a65)] [(.ref a78)])
      have e_ : own_dr 6 ps r ex = ([b0, b1, b2, b3, b4, b5] : List Int32) := by rw [own_dr, p_b]; rfl
      have age_a65 : hB.size ≤ a65 := Nat.le_trans (Nat.le_trans KK.1 (Nat.le_refl _)) (Nat.le_of_eq (Eq.symm g65))
      have age_a78 : hB.size ≤ a78 := Nat.le_trans (Nat.le_trans KK.1 (Nat.le_trans K65.1 (Nat.le_trans K67.1 (Nat.le_trans K69.1 (Nat.le_trans K71.1 (Nat.le_trans K73.1 (Nat.le_trans K75.1 (Nat.le_trans K77.1 (Nat.le_refl _))))))))) (Nat.le_of_eq (Eq.symm g78))
      exact own_ret X82 hGe (t := (.object "java/lang/String")) rfl rfl (Or.inr (Or.inr (Or.inr (Or.inr ⟨rfl, rfl, rfl⟩)))) dd_method_3_225 (by decide) (by decide) ⟨a78, t82, rfl, (((((((((((Keep.refl hB []).trans KK all0).trans K65 all0).trans K67 (allS (Or.inr age_a65) all0)).trans K69 (allS (Or.inr age_a65) all0)).trans K71 (allS (Or.inr age_a65) all0)).trans K73 (allS (Or.inr age_a65) all0)).trans K75 (allS (Or.inr age_a65) all0)).trans K77 (allS (Or.inr age_a65) all0)).trans K78 all0).trans K82 (allS (Or.inr age_a78) all0)), by rw [e_]; exact S82⟩ nofun
  · show G T0 (mkF m 70 #[.val (.int (7 : Int32)), .val (.int (Int32.ofNat ps)), .val (.int r), .val (.int ex), .val (.ref a4), .unset] [])
    refine own_iload_n (pc' := 71) X0 dd_method_3_70 rfl rfl ?_
    refine own_newarray (pc' := 73) (cells' := 2) (slots' := 17) (n := 7) (cap := 7) (dv := (.int 0)) X0 (W 6 rfl) rfl rfl (by decide) (by decide) dd_method_3_71 rfl rfl (by decide) (by decide) rfl (by decide) (by decide) ?_
    intro T83 h83 a83 k83 g83 X83 K83 A83
    have n_a83 : n0 ≤ a83 := by rw [g83]; exact own_n0 X0
    have A83' : own_Arr Z h83 a83 k83 .char [(.int 0), (.int 0), (.int 0), (.int 0), (.int 0), (.int 0), (.int 0)] := A83
    refine own_astore (pc' := 75) X83 dd_method_3_73 rfl rfl (Ls' := #[.val (.int (7 : Int32)), .val (.int (Int32.ofNat ps)), .val (.int r), .val (.int ex), .val (.ref a4), .val (.ref a83)]) rfl ?_
    refine own_iload_n (pc' := 76) X83 dd_method_3_75 rfl rfl ?_
    refine own_ifN (pc' := 79) X83 dd_method_3_76 rfl ((tlt (by decide)).2.2.2) ?_
    refine own_aload (pc' := 81) X83 dd_method_3_79 rfl rfl rfl ?_
    refine own_iconst (pc' := 82) X83 dd_method_3_81 rfl (z := (0 : Int32)) (by decide) ?_
    refine own_aload (pc' := 84) X83 dd_method_3_82 rfl rfl rfl ?_
    refine own_iconst (pc' := 85) X83 dd_method_3_84 rfl (z := (0 : Int32)) (by decide) ?_
    have f84 := (p_A.keep K83 nin0)
    refine own_caload (pc' := 86) (i := 0) (v := (.int b0)) X83 f84 (by decide) rfl dd_method_3_85 rfl ?_
    refine own_castore (pc' := 87) (i := 0) (y := b0) X83 A83' (by decide) (Nat.le_of_ble_eq_true rfl) (own_c16id o_b0.1 o_b0.2) n_a83 dd_method_3_86 rfl ?_
    intro T85 h85 X85 K85 A85
    have A85' : own_Arr Z h85 a83 k83 .char [(.int b0), (.int 0), (.int 0), (.int 0), (.int 0), (.int 0), (.int 0)] := A85
    refine own_iload_n (pc' := 88) X85 dd_method_3_87 rfl rfl ?_
    refine own_iconst (pc' := 89) X85 dd_method_3_88 rfl (z := (1 : Int32)) (by decide) ?_
    refine own_icmpN (pc' := 92) X85 dd_method_3_89 rfl ((tlt (by decide)).2.2.2) ?_
    refine own_aload (pc' := 94) X85 dd_method_3_92 rfl rfl rfl ?_
    refine own_iconst (pc' := 95) X85 dd_method_3_94 rfl (z := (1 : Int32)) (by decide) ?_
    refine own_aload (pc' := 97) X85 dd_method_3_95 rfl rfl rfl ?_
    refine own_iconst (pc' := 98) X85 dd_method_3_97 rfl (z := (1 : Int32)) (by decide) ?_
    have ne_a4_a83 : a4 ≠ a83 := own_ne p_A.lt (Nat.le_refl _) (Nat.le_of_eq (Eq.symm g83))
    have f86 := (f84.keep K85 (ninS ne_a4_a83 nin0))
    refine own_caload (pc' := 99) (i := 1) (v := (.int b1)) X85 f86 (by decide) rfl dd_method_3_98 rfl ?_
    refine own_castore (pc' := 100) (i := 1) (y := b1) X85 A85' (by decide) (Nat.le_of_ble_eq_true rfl) (own_c16id o_b1.1 o_b1.2) n_a83 dd_method_3_99 rfl ?_
    intro T87 h87 X87 K87 A87
    have A87' : own_Arr Z h87 a83 k83 .char [(.int b0), (.int b1), (.int 0), (.int 0), (.int 0), (.int 0), (.int 0)] := A87
    refine own_iload_n (pc' := 101) X87 dd_method_3_100 rfl rfl ?_
    refine own_iconst (pc' := 102) X87 dd_method_3_101 rfl (z := (2 : Int32)) (by decide) ?_
    refine own_icmpN (pc' := 105) X87 dd_method_3_102 rfl ((tlt (by decide)).2.2.2) ?_
    refine own_aload (pc' := 107) X87 dd_method_3_105 rfl rfl rfl ?_
    refine own_iconst (pc' := 108) X87 dd_method_3_107 rfl (z := (2 : Int32)) (by decide) ?_
    refine own_aload (pc' := 110) X87 dd_method_3_108 rfl rfl rfl ?_
    refine own_iconst (pc' := 111) X87 dd_method_3_110 rfl (z := (2 : Int32)) (by decide) ?_
    have f88 := (f86.keep K87 (ninS ne_a4_a83 nin0))
    refine own_caload (pc' := 112) (i := 2) (v := (.int b2)) X87 f88 (by decide) rfl dd_method_3_111 rfl ?_
    refine own_castore (pc' := 113) (i := 2) (y := b2) X87 A87' (by decide) (Nat.le_of_ble_eq_true rfl) (own_c16id o_b2.1 o_b2.2) n_a83 dd_method_3_112 rfl ?_
    intro T89 h89 X89 K89 A89
    have A89' : own_Arr Z h89 a83 k83 .char [(.int b0), (.int b1), (.int b2), (.int 0), (.int 0), (.int 0), (.int 0)] := A89
    refine own_iload_n (pc' := 114) X89 dd_method_3_113 rfl rfl ?_
    refine own_iconst (pc' := 115) X89 dd_method_3_114 rfl (z := (3 : Int32)) (by decide) ?_
    refine own_icmpN (pc' := 118) X89 dd_method_3_115 rfl ((tlt (by decide)).2.2.2) ?_
    refine own_aload (pc' := 120) X89 dd_method_3_118 rfl rfl rfl ?_
    refine own_iconst (pc' := 121) X89 dd_method_3_120 rfl (z := (3 : Int32)) (by decide) ?_
    refine own_aload (pc' := 123) X89 dd_method_3_121 rfl rfl rfl ?_
    refine own_iconst (pc' := 124) X89 dd_method_3_123 rfl (z := (3 : Int32)) (by decide) ?_
    have f90 := (f88.keep K89 (ninS ne_a4_a83 nin0))
    refine own_caload (pc' := 125) (i := 3) (v := (.int b3)) X89 f90 (by decide) rfl dd_method_3_124 rfl ?_
    refine own_castore (pc' := 126) (i := 3) (y := b3) X89 A89' (by decide) (Nat.le_of_ble_eq_true rfl) (own_c16id o_b3.1 o_b3.2) n_a83 dd_method_3_125 rfl ?_
    intro T91 h91 X91 K91 A91
    have A91' : own_Arr Z h91 a83 k83 .char [(.int b0), (.int b1), (.int b2), (.int b3), (.int 0), (.int 0), (.int 0)] := A91
    refine own_iload_n (pc' := 127) X91 dd_method_3_126 rfl rfl ?_
    refine own_iconst (pc' := 128) X91 dd_method_3_127 rfl (z := (4 : Int32)) (by decide) ?_
    refine own_icmpN (pc' := 131) X91 dd_method_3_128 rfl ((tlt (by decide)).2.2.2) ?_
    refine own_aload (pc' := 133) X91 dd_method_3_131 rfl rfl rfl ?_
    refine own_iconst (pc' := 134) X91 dd_method_3_133 rfl (z := (4 : Int32)) (by decide) ?_
    refine own_aload (pc' := 136) X91 dd_method_3_134 rfl rfl rfl ?_
    refine own_iconst (pc' := 137) X91 dd_method_3_136 rfl (z := (4 : Int32)) (by decide) ?_
    have f92 := (f90.keep K91 (ninS ne_a4_a83 nin0))
    refine own_caload (pc' := 138) (i := 4) (v := (.int b4)) X91 f92 (by decide) rfl dd_method_3_137 rfl ?_
    refine own_castore (pc' := 139) (i := 4) (y := b4) X91 A91' (by decide) (Nat.le_of_ble_eq_true rfl) (own_c16id o_b4.1 o_b4.2) n_a83 dd_method_3_138 rfl ?_
    intro T93 h93 X93 K93 A93
    have A93' : own_Arr Z h93 a83 k83 .char [(.int b0), (.int b1), (.int b2), (.int b3), (.int b4), (.int 0), (.int 0)] := A93
    refine own_iload_n (pc' := 140) X93 dd_method_3_139 rfl rfl ?_
    refine own_iconst (pc' := 141) X93 dd_method_3_140 rfl (z := (5 : Int32)) (by decide) ?_
    refine own_icmpN (pc' := 144) X93 dd_method_3_141 rfl ((tlt (by decide)).2.2.2) ?_
    refine own_aload (pc' := 146) X93 dd_method_3_144 rfl rfl rfl ?_
    refine own_iconst (pc' := 147) X93 dd_method_3_146 rfl (z := (5 : Int32)) (by decide) ?_
    refine own_aload (pc' := 149) X93 dd_method_3_147 rfl rfl rfl ?_
    refine own_iconst (pc' := 150) X93 dd_method_3_149 rfl (z := (5 : Int32)) (by decide) ?_
    have f94 := (f92.keep K93 (ninS ne_a4_a83 nin0))
    refine own_caload (pc' := 151) (i := 5) (v := (.int b5)) X93 f94 (by decide) rfl dd_method_3_150 rfl ?_
    refine own_castore (pc' := 152) (i := 5) (y := b5) X93 A93' (by decide) (Nat.le_of_ble_eq_true rfl) (own_c16id o_b5.1 o_b5.2) n_a83 dd_method_3_151 rfl ?_
    intro T95 h95 X95 K95 A95
    have A95' : own_Arr Z h95 a83 k83 .char [(.int b0), (.int b1), (.int b2), (.int b3), (.int b4), (.int b5), (.int 0)] := A95
    refine own_iload_n (pc' := 153) X95 dd_method_3_152 rfl rfl ?_
    refine own_bipush (pc' := 155) X95 dd_method_3_153 rfl (z := (6 : Int32)) (by decide) ?_
    refine own_icmpN (pc' := 158) X95 dd_method_3_155 rfl ((tlt (by decide)).2.2.2) ?_
    refine own_aload (pc' := 160) X95 dd_method_3_158 rfl rfl rfl ?_
    refine own_bipush (pc' := 162) X95 dd_method_3_160 rfl (z := (6 : Int32)) (by decide) ?_
    refine own_aload (pc' := 164) X95 dd_method_3_162 rfl rfl rfl ?_
    refine own_bipush (pc' := 166) X95 dd_method_3_164 rfl (z := (6 : Int32)) (by decide) ?_
    have f96 := (f94.keep K95 (ninS ne_a4_a83 nin0))
    refine own_caload (pc' := 167) (i := 6) (v := (.int b6)) X95 f96 (by decide) rfl dd_method_3_166 rfl ?_
    refine own_castore (pc' := 168) (i := 6) (y := b6) X95 A95' (by decide) (Nat.le_of_ble_eq_true rfl) (own_c16id o_b6.1 o_b6.2) n_a83 dd_method_3_167 rfl ?_
    intro T97 h97 X97 K97 A97
    have A97' : own_Arr Z h97 a83 k83 .char [(.int b0), (.int b1), (.int b2), (.int b3), (.int b4), (.int b5), (.int b6)] := A97
    refine own_iload_n (pc' := 169) X97 dd_method_3_168 rfl rfl ?_
    refine own_bipush (pc' := 171) X97 dd_method_3_169 rfl (z := (7 : Int32)) (by decide) ?_
    refine own_icmpY (pc' := 184) X97 dd_method_3_171 ((flt (by decide)).2.2.2) (by decide) (by decide) ?_
    refine own_iload_n (pc' := 185) X97 dd_method_3_184 rfl rfl ?_
    refine own_bipush (pc' := 187) X97 dd_method_3_185 rfl (z := (8 : Int32)) (by decide) ?_
    refine own_icmpY (pc' := 200) X97 dd_method_3_187 ((flt (by decide)).2.2.2) (by decide) (by decide) ?_
    refine own_iload_n (pc' := 201) X97 dd_method_3_200 rfl rfl ?_
    refine own_bipush (pc' := 203) X97 dd_method_3_201 rfl (z := (9 : Int32)) (by decide) ?_
    refine own_icmpY (pc' := 216) X97 dd_method_3_203 ((flt (by decide)).2.2.2) (by decide) (by decide) ?_
    refine own_newK (pc' := 219) (cells' := 3) (slots' := 21) X97 (W 7 rfl) (W 8 rfl) (W 9 rfl) dd_method_3_216 rfl rfl rfl (by decide) (by decide) ?_
    intro T98 h98 a98 g98 X98 K98 E98 D98 U98
    have n_a98 : n0 ≤ a98 := by rw [g98]; exact own_n0 X97
    have F98_coder : Fld Z h98 a98 "java/lang/String" "coder" "B" (.int (0 : Int32)) := D98 (Or.inr (W 33 rfl)) (ty := .byte) (by decide)
    have F98_value : Fld Z h98 a98 "java/lang/String" "value" "[B" .null := D98 (Or.inr (W 35 rfl)) (ty := (.array .byte)) (by decide)
    refine own_dup (pc' := 220) X98 dd_method_3_219 rfl rfl ?_
    refine own_aload (pc' := 222) X98 dd_method_3_220 rfl rfl rfl ?_
    by_cases hA : ∀ c ∈ ([b0, b1, b2, b3, b4, b5, b6] : List Int32), ¬ (255 : Int32) < c
    · have f99 := (A97'.keep K98 nin0)
      refine own_strinit (pc' := 225) (cells' := 4) (slots' := 28) (W := 1) (n := 7) (cs := [b0, b1, b2, b3, b4, b5, b6]) X98 (fun d hd => hw d (own_in_words d hd)) CS (W 10 rfl) (W 11 rfl) (W 12 rfl) (W 8 rfl) E98 F98_value F98_coder f99 n_a98 (List.mem_of_getElem? (i := 0) rfl) rfl (by decide) (by decide) (own_aS ⟨o_b0.1, hA _ (by simp)⟩ (own_aS ⟨o_b1.1, hA _ (by simp)⟩ (own_aS ⟨o_b2.1, hA _ (by simp)⟩ (own_aS ⟨o_b3.1, hA _ (by simp)⟩ (own_aS ⟨o_b4.1, hA _ (by simp)⟩ (own_aS ⟨o_b5.1, hA _ (by simp)⟩ (own_aS ⟨o_b6.1, hA _ (by simp)⟩ own_a0))))))) (by decide) (by decide) (lenOf (L := [.ref a83]) pd_11 rfl) rfl rfl dd_method_3_222 rfl rfl rfl (by decide) (by decide) ?_
      intro T100 h100 t100 X100 K100 z100 S100
      have e_ : own_dr 7 ps r ex = ([b0, b1, b2, b3, b4, b5, b6] : List Int32) := by rw [own_dr, p_b]; rfl
      have age_a83 : hB.size ≤ a83 := Nat.le_trans (Nat.le_trans KK.1 (Nat.le_refl _)) (Nat.le_of_eq (Eq.symm g83))
      have age_a98 : hB.size ≤ a98 := Nat.le_trans (Nat.le_trans KK.1 (Nat.le_trans K83.1 (Nat.le_trans K85.1 (Nat.le_trans K87.1 (Nat.le_trans K89.1 (Nat.le_trans K91.1 (Nat.le_trans K93.1 (Nat.le_trans K95.1 (Nat.le_trans K97.1 (Nat.le_refl _)))))))))) (Nat.le_of_eq (Eq.symm g98))
      exact own_ret X100 hGe (t := (.object "java/lang/String")) rfl rfl (Or.inr (Or.inr (Or.inr (Or.inr ⟨rfl, rfl, rfl⟩)))) dd_method_3_225 (by decide) (by decide) ⟨a98, t100, rfl, ((((((((((((Keep.refl hB []).trans KK all0).trans K83 all0).trans K85 (allS (Or.inr age_a83) all0)).trans K87 (allS (Or.inr age_a83) all0)).trans K89 (allS (Or.inr age_a83) all0)).trans K91 (allS (Or.inr age_a83) all0)).trans K93 (allS (Or.inr age_a83) all0)).trans K95 (allS (Or.inr age_a83) all0)).trans K97 (allS (Or.inr age_a83) all0)).trans K98 all0).trans K100 (allS (Or.inr age_a98) all0)), by rw [e_]; exact S100⟩ nofun
    · have f101 := (A97'.keep K98 nin0)
      refine own_callIM (pc' := 225) (cells' := 5) (slots' := 51) (argsL := [(.ref a83)]) (rest := [(.ref a98)]) (W := 1) (y := (⟨"java/lang/String", "<init>", "([C)V"⟩ : MethodName)) (a := a98) X98 (W 10 rfl) (W 11 rfl) rfl (by decide) (own_sw1 l Z a0 hw EWf n0 a98 a83 k83 ([b0, b1, b2, b3, b4, b5, b6] : List Int32) 7 h98 (own_old X98) n_a98 E98 F98_value F98_coder f101 rfl (by decide) (own_exw hA) (own_aS o_b0 (own_aS o_b1 (own_aS o_b2 (own_aS o_b3 (own_aS o_b4 (own_aS o_b5 (own_aS o_b6 own_a0))))))) U CS) (allS (List.mem_of_getElem? (i := 0) rfl) all0) (W 12 rfl) (W 9 rfl) (by decide) (by decide) rfl (lenOf pd_11 rfl) rfl rfl dd_method_3_222 rfl rfl rfl rfl (by decide) (by decide) ?_
      intro v102 T102 h102 s102 X102 q102 r102
      obtain ⟨rfl, K102, t102, S102⟩ := q102
      show G T102 (mkF m 225 #[.val (.int (7 : Int32)), .val (.int (Int32.ofNat ps)), .val (.int r), .val (.int ex), .val (.ref a4), .val (.ref a83)] [(.ref a98)])
      have e_ : own_dr 7 ps r ex = ([b0, b1, b2, b3, b4, b5, b6] : List Int32) := by rw [own_dr, p_b]; rfl
      have age_a83 : hB.size ≤ a83 := Nat.le_trans (Nat.le_trans KK.1 (Nat.le_refl _)) (Nat.le_of_eq (Eq.symm g83))
      have age_a98 : hB.size ≤ a98 := Nat.le_trans (Nat.le_trans KK.1 (Nat.le_trans K83.1 (Nat.le_trans K85.1 (Nat.le_trans K87.1 (Nat.le_trans K89.1 (Nat.le_trans K91.1 (Nat.le_trans K93.1 (Nat.le_trans K95.1 (Nat.le_trans K97.1 (Nat.le_refl _)))))))))) (Nat.le_of_eq (Eq.symm g98))
      exact own_ret X102 hGe (t := (.object "java/lang/String")) rfl rfl (Or.inr (Or.inr (Or.inr (Or.inr ⟨rfl, rfl, rfl⟩)))) dd_method_3_225 (by decide) (by decide) ⟨a98, t102, rfl, ((((((((((((Keep.refl hB []).trans KK all0).trans K83 all0).trans K85 (allS (Or.inr age_a83) all0)).trans K87 (allS (Or.inr age_a83) all0)).trans K89 (allS (Or.inr age_a83) all0)).trans K91 (allS (Or.inr age_a83) all0)).trans K93 (allS (Or.inr age_a83) all0)).trans K95 (allS (Or.inr age_a83) all0)).trans K97 (allS (Or.inr age_a83) all0)).trans K98 all0).trans K102 (allS (Or.inr age_a98) all0)), by rw [e_]; exact S102⟩ nofun
  · show G T0 (mkF m 70 #[.val (.int (8 : Int32)), .val (.int (Int32.ofNat ps)), .val (.int r), .val (.int ex), .val (.ref a4), .unset] [])
    refine own_iload_n (pc' := 71) X0 dd_method_3_70 rfl rfl ?_
    refine own_newarray (pc' := 73) (cells' := 2) (slots' := 18) (n := 8) (cap := 8) (dv := (.int 0)) X0 (W 6 rfl) rfl rfl (by decide) (by decide) dd_method_3_71 rfl rfl (by decide) (by decide) rfl (by decide) (by decide) ?_
    intro T103 h103 a103 k103 g103 X103 K103 A103
    have n_a103 : n0 ≤ a103 := by rw [g103]; exact own_n0 X0
    have A103' : own_Arr Z h103 a103 k103 .char [(.int 0), (.int 0), (.int 0), (.int 0), (.int 0), (.int 0), (.int 0), (.int 0)] := A103
    refine own_astore (pc' := 75) X103 dd_method_3_73 rfl rfl (Ls' := #[.val (.int (8 : Int32)), .val (.int (Int32.ofNat ps)), .val (.int r), .val (.int ex), .val (.ref a4), .val (.ref a103)]) rfl ?_
    refine own_iload_n (pc' := 76) X103 dd_method_3_75 rfl rfl ?_
    refine own_ifN (pc' := 79) X103 dd_method_3_76 rfl ((tlt (by decide)).2.2.2) ?_
    refine own_aload (pc' := 81) X103 dd_method_3_79 rfl rfl rfl ?_
    refine own_iconst (pc' := 82) X103 dd_method_3_81 rfl (z := (0 : Int32)) (by decide) ?_
    refine own_aload (pc' := 84) X103 dd_method_3_82 rfl rfl rfl ?_
    refine own_iconst (pc' := 85) X103 dd_method_3_84 rfl (z := (0 : Int32)) (by decide) ?_
    have f104 := (p_A.keep K103 nin0)
    refine own_caload (pc' := 86) (i := 0) (v := (.int b0)) X103 f104 (by decide) rfl dd_method_3_85 rfl ?_
    refine own_castore (pc' := 87) (i := 0) (y := b0) X103 A103' (by decide) (Nat.le_of_ble_eq_true rfl) (own_c16id o_b0.1 o_b0.2) n_a103 dd_method_3_86 rfl ?_
    intro T105 h105 X105 K105 A105
    have A105' : own_Arr Z h105 a103 k103 .char [(.int b0), (.int 0), (.int 0), (.int 0), (.int 0), (.int 0), (.int 0), (.int 0)] := A105
    refine own_iload_n (pc' := 88) X105 dd_method_3_87 rfl rfl ?_
    refine own_iconst (pc' := 89) X105 dd_method_3_88 rfl (z := (1 : Int32)) (by decide) ?_
    refine own_icmpN (pc' := 92) X105 dd_method_3_89 rfl ((tlt (by decide)).2.2.2) ?_
    refine own_aload (pc' := 94) X105 dd_method_3_92 rfl rfl rfl ?_
    refine own_iconst (pc' := 95) X105 dd_method_3_94 rfl (z := (1 : Int32)) (by decide) ?_
    refine own_aload (pc' := 97) X105 dd_method_3_95 rfl rfl rfl ?_
    refine own_iconst (pc' := 98) X105 dd_method_3_97 rfl (z := (1 : Int32)) (by decide) ?_
    have ne_a4_a103 : a4 ≠ a103 := own_ne p_A.lt (Nat.le_refl _) (Nat.le_of_eq (Eq.symm g103))
    have f106 := (f104.keep K105 (ninS ne_a4_a103 nin0))
    refine own_caload (pc' := 99) (i := 1) (v := (.int b1)) X105 f106 (by decide) rfl dd_method_3_98 rfl ?_
    refine own_castore (pc' := 100) (i := 1) (y := b1) X105 A105' (by decide) (Nat.le_of_ble_eq_true rfl) (own_c16id o_b1.1 o_b1.2) n_a103 dd_method_3_99 rfl ?_
    intro T107 h107 X107 K107 A107
    have A107' : own_Arr Z h107 a103 k103 .char [(.int b0), (.int b1), (.int 0), (.int 0), (.int 0), (.int 0), (.int 0), (.int 0)] := A107
    refine own_iload_n (pc' := 101) X107 dd_method_3_100 rfl rfl ?_
    refine own_iconst (pc' := 102) X107 dd_method_3_101 rfl (z := (2 : Int32)) (by decide) ?_
    refine own_icmpN (pc' := 105) X107 dd_method_3_102 rfl ((tlt (by decide)).2.2.2) ?_
    refine own_aload (pc' := 107) X107 dd_method_3_105 rfl rfl rfl ?_
    refine own_iconst (pc' := 108) X107 dd_method_3_107 rfl (z := (2 : Int32)) (by decide) ?_
    refine own_aload (pc' := 110) X107 dd_method_3_108 rfl rfl rfl ?_
    refine own_iconst (pc' := 111) X107 dd_method_3_110 rfl (z := (2 : Int32)) (by decide) ?_
    have f108 := (f106.keep K107 (ninS ne_a4_a103 nin0))
    refine own_caload (pc' := 112) (i := 2) (v := (.int b2)) X107 f108 (by decide) rfl dd_method_3_111 rfl ?_
    refine own_castore (pc' := 113) (i := 2) (y := b2) X107 A107' (by decide) (Nat.le_of_ble_eq_true rfl) (own_c16id o_b2.1 o_b2.2) n_a103 dd_method_3_112 rfl ?_
    intro T109 h109 X109 K109 A109
    have A109' : own_Arr Z h109 a103 k103 .char [(.int b0), (.int b1), (.int b2), (.int 0), (.int 0), (.int 0), (.int 0), (.int 0)] := A109
    refine own_iload_n (pc' := 114) X109 dd_method_3_113 rfl rfl ?_
    refine own_iconst (pc' := 115) X109 dd_method_3_114 rfl (z := (3 : Int32)) (by decide) ?_
    refine own_icmpN (pc' := 118) X109 dd_method_3_115 rfl ((tlt (by decide)).2.2.2) ?_
    refine own_aload (pc' := 120) X109 dd_method_3_118 rfl rfl rfl ?_
    refine own_iconst (pc' := 121) X109 dd_method_3_120 rfl (z := (3 : Int32)) (by decide) ?_
    refine own_aload (pc' := 123) X109 dd_method_3_121 rfl rfl rfl ?_
    refine own_iconst (pc' := 124) X109 dd_method_3_123 rfl (z := (3 : Int32)) (by decide) ?_
    have f110 := (f108.keep K109 (ninS ne_a4_a103 nin0))
    refine own_caload (pc' := 125) (i := 3) (v := (.int b3)) X109 f110 (by decide) rfl dd_method_3_124 rfl ?_
    refine own_castore (pc' := 126) (i := 3) (y := b3) X109 A109' (by decide) (Nat.le_of_ble_eq_true rfl) (own_c16id o_b3.1 o_b3.2) n_a103 dd_method_3_125 rfl ?_
    intro T111 h111 X111 K111 A111
    have A111' : own_Arr Z h111 a103 k103 .char [(.int b0), (.int b1), (.int b2), (.int b3), (.int 0), (.int 0), (.int 0), (.int 0)] := A111
    refine own_iload_n (pc' := 127) X111 dd_method_3_126 rfl rfl ?_
    refine own_iconst (pc' := 128) X111 dd_method_3_127 rfl (z := (4 : Int32)) (by decide) ?_
    refine own_icmpN (pc' := 131) X111 dd_method_3_128 rfl ((tlt (by decide)).2.2.2) ?_
    refine own_aload (pc' := 133) X111 dd_method_3_131 rfl rfl rfl ?_
    refine own_iconst (pc' := 134) X111 dd_method_3_133 rfl (z := (4 : Int32)) (by decide) ?_
    refine own_aload (pc' := 136) X111 dd_method_3_134 rfl rfl rfl ?_
    refine own_iconst (pc' := 137) X111 dd_method_3_136 rfl (z := (4 : Int32)) (by decide) ?_
    have f112 := (f110.keep K111 (ninS ne_a4_a103 nin0))
    refine own_caload (pc' := 138) (i := 4) (v := (.int b4)) X111 f112 (by decide) rfl dd_method_3_137 rfl ?_
    refine own_castore (pc' := 139) (i := 4) (y := b4) X111 A111' (by decide) (Nat.le_of_ble_eq_true rfl) (own_c16id o_b4.1 o_b4.2) n_a103 dd_method_3_138 rfl ?_
    intro T113 h113 X113 K113 A113
    have A113' : own_Arr Z h113 a103 k103 .char [(.int b0), (.int b1), (.int b2), (.int b3), (.int b4), (.int 0), (.int 0), (.int 0)] := A113
    refine own_iload_n (pc' := 140) X113 dd_method_3_139 rfl rfl ?_
    refine own_iconst (pc' := 141) X113 dd_method_3_140 rfl (z := (5 : Int32)) (by decide) ?_
    refine own_icmpN (pc' := 144) X113 dd_method_3_141 rfl ((tlt (by decide)).2.2.2) ?_
    refine own_aload (pc' := 146) X113 dd_method_3_144 rfl rfl rfl ?_
    refine own_iconst (pc' := 147) X113 dd_method_3_146 rfl (z := (5 : Int32)) (by decide) ?_
    refine own_aload (pc' := 149) X113 dd_method_3_147 rfl rfl rfl ?_
    refine own_iconst (pc' := 150) X113 dd_method_3_149 rfl (z := (5 : Int32)) (by decide) ?_
    have f114 := (f112.keep K113 (ninS ne_a4_a103 nin0))
    refine own_caload (pc' := 151) (i := 5) (v := (.int b5)) X113 f114 (by decide) rfl dd_method_3_150 rfl ?_
    refine own_castore (pc' := 152) (i := 5) (y := b5) X113 A113' (by decide) (Nat.le_of_ble_eq_true rfl) (own_c16id o_b5.1 o_b5.2) n_a103 dd_method_3_151 rfl ?_
    intro T115 h115 X115 K115 A115
    have A115' : own_Arr Z h115 a103 k103 .char [(.int b0), (.int b1), (.int b2), (.int b3), (.int b4), (.int b5), (.int 0), (.int 0)] := A115
    refine own_iload_n (pc' := 153) X115 dd_method_3_152 rfl rfl ?_
    refine own_bipush (pc' := 155) X115 dd_method_3_153 rfl (z := (6 : Int32)) (by decide) ?_
    refine own_icmpN (pc' := 158) X115 dd_method_3_155 rfl ((tlt (by decide)).2.2.2) ?_
    refine own_aload (pc' := 160) X115 dd_method_3_158 rfl rfl rfl ?_
    refine own_bipush (pc' := 162) X115 dd_method_3_160 rfl (z := (6 : Int32)) (by decide) ?_
    refine own_aload (pc' := 164) X115 dd_method_3_162 rfl rfl rfl ?_
    refine own_bipush (pc' := 166) X115 dd_method_3_164 rfl (z := (6 : Int32)) (by decide) ?_
    have f116 := (f114.keep K115 (ninS ne_a4_a103 nin0))
    refine own_caload (pc' := 167) (i := 6) (v := (.int b6)) X115 f116 (by decide) rfl dd_method_3_166 rfl ?_
    refine own_castore (pc' := 168) (i := 6) (y := b6) X115 A115' (by decide) (Nat.le_of_ble_eq_true rfl) (own_c16id o_b6.1 o_b6.2) n_a103 dd_method_3_167 rfl ?_
    intro T117 h117 X117 K117 A117
    have A117' : own_Arr Z h117 a103 k103 .char [(.int b0), (.int b1), (.int b2), (.int b3), (.int b4), (.int b5), (.int b6), (.int 0)] := A117
    refine own_iload_n (pc' := 169) X117 dd_method_3_168 rfl rfl ?_
    refine own_bipush (pc' := 171) X117 dd_method_3_169 rfl (z := (7 : Int32)) (by decide) ?_
    refine own_icmpN (pc' := 174) X117 dd_method_3_171 rfl ((tlt (by decide)).2.2.2) ?_
    refine own_aload (pc' := 176) X117 dd_method_3_174 rfl rfl rfl ?_
    refine own_bipush (pc' := 178) X117 dd_method_3_176 rfl (z := (7 : Int32)) (by decide) ?_
    refine own_aload (pc' := 180) X117 dd_method_3_178 rfl rfl rfl ?_
    refine own_bipush (pc' := 182) X117 dd_method_3_180 rfl (z := (7 : Int32)) (by decide) ?_
    have f118 := (f116.keep K117 (ninS ne_a4_a103 nin0))
    refine own_caload (pc' := 183) (i := 7) (v := (.int b7)) X117 f118 (by decide) rfl dd_method_3_182 rfl ?_
    refine own_castore (pc' := 184) (i := 7) (y := b7) X117 A117' (by decide) (Nat.le_of_ble_eq_true rfl) (own_c16id o_b7.1 o_b7.2) n_a103 dd_method_3_183 rfl ?_
    intro T119 h119 X119 K119 A119
    have A119' : own_Arr Z h119 a103 k103 .char [(.int b0), (.int b1), (.int b2), (.int b3), (.int b4), (.int b5), (.int b6), (.int b7)] := A119
    refine own_iload_n (pc' := 185) X119 dd_method_3_184 rfl rfl ?_
    refine own_bipush (pc' := 187) X119 dd_method_3_185 rfl (z := (8 : Int32)) (by decide) ?_
    refine own_icmpY (pc' := 200) X119 dd_method_3_187 ((flt (by decide)).2.2.2) (by decide) (by decide) ?_
    refine own_iload_n (pc' := 201) X119 dd_method_3_200 rfl rfl ?_
    refine own_bipush (pc' := 203) X119 dd_method_3_201 rfl (z := (9 : Int32)) (by decide) ?_
    refine own_icmpY (pc' := 216) X119 dd_method_3_203 ((flt (by decide)).2.2.2) (by decide) (by decide) ?_
    refine own_newK (pc' := 219) (cells' := 3) (slots' := 22) X119 (W 7 rfl) (W 8 rfl) (W 9 rfl) dd_method_3_216 rfl rfl rfl (by decide) (by decide) ?_
    intro T120 h120 a120 g120 X120 K120 E120 D120 U120
    have n_a120 : n0 ≤ a120 := by rw [g120]; exact own_n0 X119
    have F120_coder : Fld Z h120 a120 "java/lang/String" "coder" "B" (.int (0 : Int32)) := D120 (Or.inr (W 33 rfl)) (ty := .byte) (by decide)
    have F120_value : Fld Z h120 a120 "java/lang/String" "value" "[B" .null := D120 (Or.inr (W 35 rfl)) (ty := (.array .byte)) (by decide)
    refine own_dup (pc' := 220) X120 dd_method_3_219 rfl rfl ?_
    refine own_aload (pc' := 222) X120 dd_method_3_220 rfl rfl rfl ?_
    by_cases hA : ∀ c ∈ ([b0, b1, b2, b3, b4, b5, b6, b7] : List Int32), ¬ (255 : Int32) < c
    · have f121 := (A119'.keep K120 nin0)
      refine own_strinit (pc' := 225) (cells' := 4) (slots' := 30) (W := 1) (n := 8) (cs := [b0, b1, b2, b3, b4, b5, b6, b7]) X120 (fun d hd => hw d (own_in_words d hd)) CS (W 10 rfl) (W 11 rfl) (W 12 rfl) (W 8 rfl) E120 F120_value F120_coder f121 n_a120 (List.mem_of_getElem? (i := 0) rfl) rfl (by decide) (by decide) (own_aS ⟨o_b0.1, hA _ (by simp)⟩ (own_aS ⟨o_b1.1, hA _ (by simp)⟩ (own_aS ⟨o_b2.1, hA _ (by simp)⟩ (own_aS ⟨o_b3.1, hA _ (by simp)⟩ (own_aS ⟨o_b4.1, hA _ (by simp)⟩ (own_aS ⟨o_b5.1, hA _ (by simp)⟩ (own_aS ⟨o_b6.1, hA _ (by simp)⟩ (own_aS ⟨o_b7.1, hA _ (by simp)⟩ own_a0)))))))) (by decide) (by decide) (lenOf (L := [.ref a103]) pd_11 rfl) rfl rfl dd_method_3_222 rfl rfl rfl (by decide) (by decide) ?_
      intro T122 h122 t122 X122 K122 z122 S122
      have e_ : own_dr 8 ps r ex = ([b0, b1, b2, b3, b4, b5, b6, b7] : List Int32) := by rw [own_dr, p_b]; rfl
      have age_a103 : hB.size ≤ a103 := Nat.le_trans (Nat.le_trans KK.1 (Nat.le_refl _)) (Nat.le_of_eq (Eq.symm g103))
      have age_a120 : hB.size ≤ a120 := Nat.le_trans (Nat.le_trans KK.1 (Nat.le_trans K103.1 (Nat.le_trans K105.1 (Nat.le_trans K107.1 (Nat.le_trans K109.1 (Nat.le_trans K111.1 (Nat.le_trans K113.1 (Nat.le_trans K115.1 (Nat.le_trans K117.1 (Nat.le_trans K119.1 (Nat.le_refl _))))))))))) (Nat.le_of_eq (Eq.symm g120))
      exact own_ret X122 hGe (t := (.object "java/lang/String")) rfl rfl (Or.inr (Or.inr (Or.inr (Or.inr ⟨rfl, rfl, rfl⟩)))) dd_method_3_225 (by decide) (by decide) ⟨a120, t122, rfl, (((((((((((((Keep.refl hB []).trans KK all0).trans K103 all0).trans K105 (allS (Or.inr age_a103) all0)).trans K107 (allS (Or.inr age_a103) all0)).trans K109 (allS (Or.inr age_a103) all0)).trans K111 (allS (Or.inr age_a103) all0)).trans K113 (allS (Or.inr age_a103) all0)).trans K115 (allS (Or.inr age_a103) all0)).trans K117 (allS (Or.inr age_a103) all0)).trans K119 (allS (Or.inr age_a103) all0)).trans K120 all0).trans K122 (allS (Or.inr age_a120) all0)), by rw [e_]; exact S122⟩ nofun
    · have f123 := (A119'.keep K120 nin0)
      refine own_callIM (pc' := 225) (cells' := 5) (slots' := 52) (argsL := [(.ref a103)]) (rest := [(.ref a120)]) (W := 1) (y := (⟨"java/lang/String", "<init>", "([C)V"⟩ : MethodName)) (a := a120) X120 (W 10 rfl) (W 11 rfl) rfl (by decide) (own_sw1 l Z a0 hw EWf n0 a120 a103 k103 ([b0, b1, b2, b3, b4, b5, b6, b7] : List Int32) 8 h120 (own_old X120) n_a120 E120 F120_value F120_coder f123 rfl (by decide) (own_exw hA) (own_aS o_b0 (own_aS o_b1 (own_aS o_b2 (own_aS o_b3 (own_aS o_b4 (own_aS o_b5 (own_aS o_b6 (own_aS o_b7 own_a0)))))))) U CS) (allS (List.mem_of_getElem? (i := 0) rfl) all0) (W 12 rfl) (W 9 rfl) (by decide) (by decide) rfl (lenOf pd_11 rfl) rfl rfl dd_method_3_222 rfl rfl rfl rfl (by decide) (by decide) ?_
      intro v124 T124 h124 s124 X124 q124 r124
      obtain ⟨rfl, K124, t124, S124⟩ := q124
      show G T124 (mkF m 225 #[.val (.int (8 : Int32)), .val (.int (Int32.ofNat ps)), .val (.int r), .val (.int ex), .val (.ref a4), .val (.ref a103)] [(.ref a120)])
      have e_ : own_dr 8 ps r ex = ([b0, b1, b2, b3, b4, b5, b6, b7] : List Int32) := by rw [own_dr, p_b]; rfl
      have age_a103 : hB.size ≤ a103 := Nat.le_trans (Nat.le_trans KK.1 (Nat.le_refl _)) (Nat.le_of_eq (Eq.symm g103))
      have age_a120 : hB.size ≤ a120 := Nat.le_trans (Nat.le_trans KK.1 (Nat.le_trans K103.1 (Nat.le_trans K105.1 (Nat.le_trans K107.1 (Nat.le_trans K109.1 (Nat.le_trans K111.1 (Nat.le_trans K113.1 (Nat.le_trans K115.1 (Nat.le_trans K117.1 (Nat.le_trans K119.1 (Nat.le_refl _))))))))))) (Nat.le_of_eq (Eq.symm g120))
      exact own_ret X124 hGe (t := (.object "java/lang/String")) rfl rfl (Or.inr (Or.inr (Or.inr (Or.inr ⟨rfl, rfl, rfl⟩)))) dd_method_3_225 (by decide) (by decide) ⟨a120, t124, rfl, (((((((((((((Keep.refl hB []).trans KK all0).trans K103 all0).trans K105 (allS (Or.inr age_a103) all0)).trans K107 (allS (Or.inr age_a103) all0)).trans K109 (allS (Or.inr age_a103) all0)).trans K111 (allS (Or.inr age_a103) all0)).trans K113 (allS (Or.inr age_a103) all0)).trans K115 (allS (Or.inr age_a103) all0)).trans K117 (allS (Or.inr age_a103) all0)).trans K119 (allS (Or.inr age_a103) all0)).trans K120 all0).trans K124 (allS (Or.inr age_a120) all0)), by rw [e_]; exact S124⟩ nofun
  · show G T0 (mkF m 70 #[.val (.int (9 : Int32)), .val (.int (Int32.ofNat ps)), .val (.int r), .val (.int ex), .val (.ref a4), .unset] [])
    refine own_iload_n (pc' := 71) X0 dd_method_3_70 rfl rfl ?_
    refine own_newarray (pc' := 73) (cells' := 2) (slots' := 19) (n := 9) (cap := 9) (dv := (.int 0)) X0 (W 6 rfl) rfl rfl (by decide) (by decide) dd_method_3_71 rfl rfl (by decide) (by decide) rfl (by decide) (by decide) ?_
    intro T125 h125 a125 k125 g125 X125 K125 A125
    have n_a125 : n0 ≤ a125 := by rw [g125]; exact own_n0 X0
    have A125' : own_Arr Z h125 a125 k125 .char [(.int 0), (.int 0), (.int 0), (.int 0), (.int 0), (.int 0), (.int 0), (.int 0), (.int 0)] := A125
    refine own_astore (pc' := 75) X125 dd_method_3_73 rfl rfl (Ls' := #[.val (.int (9 : Int32)), .val (.int (Int32.ofNat ps)), .val (.int r), .val (.int ex), .val (.ref a4), .val (.ref a125)]) rfl ?_
    refine own_iload_n (pc' := 76) X125 dd_method_3_75 rfl rfl ?_
    refine own_ifN (pc' := 79) X125 dd_method_3_76 rfl ((tlt (by decide)).2.2.2) ?_
    refine own_aload (pc' := 81) X125 dd_method_3_79 rfl rfl rfl ?_
    refine own_iconst (pc' := 82) X125 dd_method_3_81 rfl (z := (0 : Int32)) (by decide) ?_
    refine own_aload (pc' := 84) X125 dd_method_3_82 rfl rfl rfl ?_
    refine own_iconst (pc' := 85) X125 dd_method_3_84 rfl (z := (0 : Int32)) (by decide) ?_
    have f126 := (p_A.keep K125 nin0)
    refine own_caload (pc' := 86) (i := 0) (v := (.int b0)) X125 f126 (by decide) rfl dd_method_3_85 rfl ?_
    refine own_castore (pc' := 87) (i := 0) (y := b0) X125 A125' (by decide) (Nat.le_of_ble_eq_true rfl) (own_c16id o_b0.1 o_b0.2) n_a125 dd_method_3_86 rfl ?_
    intro T127 h127 X127 K127 A127
    have A127' : own_Arr Z h127 a125 k125 .char [(.int b0), (.int 0), (.int 0), (.int 0), (.int 0), (.int 0), (.int 0), (.int 0), (.int 0)] := A127
    refine own_iload_n (pc' := 88) X127 dd_method_3_87 rfl rfl ?_
    refine own_iconst (pc' := 89) X127 dd_method_3_88 rfl (z := (1 : Int32)) (by decide) ?_
    refine own_icmpN (pc' := 92) X127 dd_method_3_89 rfl ((tlt (by decide)).2.2.2) ?_
    refine own_aload (pc' := 94) X127 dd_method_3_92 rfl rfl rfl ?_
    refine own_iconst (pc' := 95) X127 dd_method_3_94 rfl (z := (1 : Int32)) (by decide) ?_
    refine own_aload (pc' := 97) X127 dd_method_3_95 rfl rfl rfl ?_
    refine own_iconst (pc' := 98) X127 dd_method_3_97 rfl (z := (1 : Int32)) (by decide) ?_
    have ne_a4_a125 : a4 ≠ a125 := own_ne p_A.lt (Nat.le_refl _) (Nat.le_of_eq (Eq.symm g125))
    have f128 := (f126.keep K127 (ninS ne_a4_a125 nin0))
    refine own_caload (pc' := 99) (i := 1) (v := (.int b1)) X127 f128 (by decide) rfl dd_method_3_98 rfl ?_
    refine own_castore (pc' := 100) (i := 1) (y := b1) X127 A127' (by decide) (Nat.le_of_ble_eq_true rfl) (own_c16id o_b1.1 o_b1.2) n_a125 dd_method_3_99 rfl ?_
    intro T129 h129 X129 K129 A129
    have A129' : own_Arr Z h129 a125 k125 .char [(.int b0), (.int b1), (.int 0), (.int 0), (.int 0), (.int 0), (.int 0), (.int 0), (.int 0)] := A129
    refine own_iload_n (pc' := 101) X129 dd_method_3_100 rfl rfl ?_
    refine own_iconst (pc' := 102) X129 dd_method_3_101 rfl (z := (2 : Int32)) (by decide) ?_
    refine own_icmpN (pc' := 105) X129 dd_method_3_102 rfl ((tlt (by decide)).2.2.2) ?_
    refine own_aload (pc' := 107) X129 dd_method_3_105 rfl rfl rfl ?_
    refine own_iconst (pc' := 108) X129 dd_method_3_107 rfl (z := (2 : Int32)) (by decide) ?_
    refine own_aload (pc' := 110) X129 dd_method_3_108 rfl rfl rfl ?_
    refine own_iconst (pc' := 111) X129 dd_method_3_110 rfl (z := (2 : Int32)) (by decide) ?_
    have f130 := (f128.keep K129 (ninS ne_a4_a125 nin0))
    refine own_caload (pc' := 112) (i := 2) (v := (.int b2)) X129 f130 (by decide) rfl dd_method_3_111 rfl ?_
    refine own_castore (pc' := 113) (i := 2) (y := b2) X129 A129' (by decide) (Nat.le_of_ble_eq_true rfl) (own_c16id o_b2.1 o_b2.2) n_a125 dd_method_3_112 rfl ?_
    intro T131 h131 X131 K131 A131
    have A131' : own_Arr Z h131 a125 k125 .char [(.int b0), (.int b1), (.int b2), (.int 0), (.int 0), (.int 0), (.int 0), (.int 0), (.int 0)] := A131
    refine own_iload_n (pc' := 114) X131 dd_method_3_113 rfl rfl ?_
    refine own_iconst (pc' := 115) X131 dd_method_3_114 rfl (z := (3 : Int32)) (by decide) ?_
    refine own_icmpN (pc' := 118) X131 dd_method_3_115 rfl ((tlt (by decide)).2.2.2) ?_
    refine own_aload (pc' := 120) X131 dd_method_3_118 rfl rfl rfl ?_
    refine own_iconst (pc' := 121) X131 dd_method_3_120 rfl (z := (3 : Int32)) (by decide) ?_
    refine own_aload (pc' := 123) X131 dd_method_3_121 rfl rfl rfl ?_
    refine own_iconst (pc' := 124) X131 dd_method_3_123 rfl (z := (3 : Int32)) (by decide) ?_
    have f132 := (f130.keep K131 (ninS ne_a4_a125 nin0))
    refine own_caload (pc' := 125) (i := 3) (v := (.int b3)) X131 f132 (by decide) rfl dd_method_3_124 rfl ?_
    refine own_castore (pc' := 126) (i := 3) (y := b3) X131 A131' (by decide) (Nat.le_of_ble_eq_true rfl) (own_c16id o_b3.1 o_b3.2) n_a125 dd_method_3_125 rfl ?_
    intro T133 h133 X133 K133 A133
    have A133' : own_Arr Z h133 a125 k125 .char [(.int b0), (.int b1), (.int b2), (.int b3), (.int 0), (.int 0), (.int 0), (.int 0), (.int 0)] := A133
    refine own_iload_n (pc' := 127) X133 dd_method_3_126 rfl rfl ?_
    refine own_iconst (pc' := 128) X133 dd_method_3_127 rfl (z := (4 : Int32)) (by decide) ?_
    refine own_icmpN (pc' := 131) X133 dd_method_3_128 rfl ((tlt (by decide)).2.2.2) ?_
    refine own_aload (pc' := 133) X133 dd_method_3_131 rfl rfl rfl ?_
    refine own_iconst (pc' := 134) X133 dd_method_3_133 rfl (z := (4 : Int32)) (by decide) ?_
    refine own_aload (pc' := 136) X133 dd_method_3_134 rfl rfl rfl ?_
    refine own_iconst (pc' := 137) X133 dd_method_3_136 rfl (z := (4 : Int32)) (by decide) ?_
    have f134 := (f132.keep K133 (ninS ne_a4_a125 nin0))
    refine own_caload (pc' := 138) (i := 4) (v := (.int b4)) X133 f134 (by decide) rfl dd_method_3_137 rfl ?_
    refine own_castore (pc' := 139) (i := 4) (y := b4) X133 A133' (by decide) (Nat.le_of_ble_eq_true rfl) (own_c16id o_b4.1 o_b4.2) n_a125 dd_method_3_138 rfl ?_
    intro T135 h135 X135 K135 A135
    have A135' : own_Arr Z h135 a125 k125 .char [(.int b0), (.int b1), (.int b2), (.int b3), (.int b4), (.int 0), (.int 0), (.int 0), (.int 0)] := A135
    refine own_iload_n (pc' := 140) X135 dd_method_3_139 rfl rfl ?_
    refine own_iconst (pc' := 141) X135 dd_method_3_140 rfl (z := (5 : Int32)) (by decide) ?_
    refine own_icmpN (pc' := 144) X135 dd_method_3_141 rfl ((tlt (by decide)).2.2.2) ?_
    refine own_aload (pc' := 146) X135 dd_method_3_144 rfl rfl rfl ?_
    refine own_iconst (pc' := 147) X135 dd_method_3_146 rfl (z := (5 : Int32)) (by decide) ?_
    refine own_aload (pc' := 149) X135 dd_method_3_147 rfl rfl rfl ?_
    refine own_iconst (pc' := 150) X135 dd_method_3_149 rfl (z := (5 : Int32)) (by decide) ?_
    have f136 := (f134.keep K135 (ninS ne_a4_a125 nin0))
    refine own_caload (pc' := 151) (i := 5) (v := (.int b5)) X135 f136 (by decide) rfl dd_method_3_150 rfl ?_
    refine own_castore (pc' := 152) (i := 5) (y := b5) X135 A135' (by decide) (Nat.le_of_ble_eq_true rfl) (own_c16id o_b5.1 o_b5.2) n_a125 dd_method_3_151 rfl ?_
    intro T137 h137 X137 K137 A137
    have A137' : own_Arr Z h137 a125 k125 .char [(.int b0), (.int b1), (.int b2), (.int b3), (.int b4), (.int b5), (.int 0), (.int 0), (.int 0)] := A137
    refine own_iload_n (pc' := 153) X137 dd_method_3_152 rfl rfl ?_
    refine own_bipush (pc' := 155) X137 dd_method_3_153 rfl (z := (6 : Int32)) (by decide) ?_
    refine own_icmpN (pc' := 158) X137 dd_method_3_155 rfl ((tlt (by decide)).2.2.2) ?_
    refine own_aload (pc' := 160) X137 dd_method_3_158 rfl rfl rfl ?_
    refine own_bipush (pc' := 162) X137 dd_method_3_160 rfl (z := (6 : Int32)) (by decide) ?_
    refine own_aload (pc' := 164) X137 dd_method_3_162 rfl rfl rfl ?_
    refine own_bipush (pc' := 166) X137 dd_method_3_164 rfl (z := (6 : Int32)) (by decide) ?_
    have f138 := (f136.keep K137 (ninS ne_a4_a125 nin0))
    refine own_caload (pc' := 167) (i := 6) (v := (.int b6)) X137 f138 (by decide) rfl dd_method_3_166 rfl ?_
    refine own_castore (pc' := 168) (i := 6) (y := b6) X137 A137' (by decide) (Nat.le_of_ble_eq_true rfl) (own_c16id o_b6.1 o_b6.2) n_a125 dd_method_3_167 rfl ?_
    intro T139 h139 X139 K139 A139
    have A139' : own_Arr Z h139 a125 k125 .char [(.int b0), (.int b1), (.int b2), (.int b3), (.int b4), (.int b5), (.int b6), (.int 0), (.int 0)] := A139
    refine own_iload_n (pc' := 169) X139 dd_method_3_168 rfl rfl ?_
    refine own_bipush (pc' := 171) X139 dd_method_3_169 rfl (z := (7 : Int32)) (by decide) ?_
    refine own_icmpN (pc' := 174) X139 dd_method_3_171 rfl ((tlt (by decide)).2.2.2) ?_
    refine own_aload (pc' := 176) X139 dd_method_3_174 rfl rfl rfl ?_
    refine own_bipush (pc' := 178) X139 dd_method_3_176 rfl (z := (7 : Int32)) (by decide) ?_
    refine own_aload (pc' := 180) X139 dd_method_3_178 rfl rfl rfl ?_
    refine own_bipush (pc' := 182) X139 dd_method_3_180 rfl (z := (7 : Int32)) (by decide) ?_
    have f140 := (f138.keep K139 (ninS ne_a4_a125 nin0))
    refine own_caload (pc' := 183) (i := 7) (v := (.int b7)) X139 f140 (by decide) rfl dd_method_3_182 rfl ?_
    refine own_castore (pc' := 184) (i := 7) (y := b7) X139 A139' (by decide) (Nat.le_of_ble_eq_true rfl) (own_c16id o_b7.1 o_b7.2) n_a125 dd_method_3_183 rfl ?_
    intro T141 h141 X141 K141 A141
    have A141' : own_Arr Z h141 a125 k125 .char [(.int b0), (.int b1), (.int b2), (.int b3), (.int b4), (.int b5), (.int b6), (.int b7), (.int 0)] := A141
    refine own_iload_n (pc' := 185) X141 dd_method_3_184 rfl rfl ?_
    refine own_bipush (pc' := 187) X141 dd_method_3_185 rfl (z := (8 : Int32)) (by decide) ?_
    refine own_icmpN (pc' := 190) X141 dd_method_3_187 rfl ((tlt (by decide)).2.2.2) ?_
    refine own_aload (pc' := 192) X141 dd_method_3_190 rfl rfl rfl ?_
    refine own_bipush (pc' := 194) X141 dd_method_3_192 rfl (z := (8 : Int32)) (by decide) ?_
    refine own_aload (pc' := 196) X141 dd_method_3_194 rfl rfl rfl ?_
    refine own_bipush (pc' := 198) X141 dd_method_3_196 rfl (z := (8 : Int32)) (by decide) ?_
    have f142 := (f140.keep K141 (ninS ne_a4_a125 nin0))
    refine own_caload (pc' := 199) (i := 8) (v := (.int b8)) X141 f142 (by decide) rfl dd_method_3_198 rfl ?_
    refine own_castore (pc' := 200) (i := 8) (y := b8) X141 A141' (by decide) (Nat.le_of_ble_eq_true rfl) (own_c16id o_b8.1 o_b8.2) n_a125 dd_method_3_199 rfl ?_
    intro T143 h143 X143 K143 A143
    have A143' : own_Arr Z h143 a125 k125 .char [(.int b0), (.int b1), (.int b2), (.int b3), (.int b4), (.int b5), (.int b6), (.int b7), (.int b8)] := A143
    refine own_iload_n (pc' := 201) X143 dd_method_3_200 rfl rfl ?_
    refine own_bipush (pc' := 203) X143 dd_method_3_201 rfl (z := (9 : Int32)) (by decide) ?_
    refine own_icmpY (pc' := 216) X143 dd_method_3_203 ((flt (by decide)).2.2.2) (by decide) (by decide) ?_
    refine own_newK (pc' := 219) (cells' := 3) (slots' := 23) X143 (W 7 rfl) (W 8 rfl) (W 9 rfl) dd_method_3_216 rfl rfl rfl (by decide) (by decide) ?_
    intro T144 h144 a144 g144 X144 K144 E144 D144 U144
    have n_a144 : n0 ≤ a144 := by rw [g144]; exact own_n0 X143
    have F144_coder : Fld Z h144 a144 "java/lang/String" "coder" "B" (.int (0 : Int32)) := D144 (Or.inr (W 33 rfl)) (ty := .byte) (by decide)
    have F144_value : Fld Z h144 a144 "java/lang/String" "value" "[B" .null := D144 (Or.inr (W 35 rfl)) (ty := (.array .byte)) (by decide)
    refine own_dup (pc' := 220) X144 dd_method_3_219 rfl rfl ?_
    refine own_aload (pc' := 222) X144 dd_method_3_220 rfl rfl rfl ?_
    by_cases hA : ∀ c ∈ ([b0, b1, b2, b3, b4, b5, b6, b7, b8] : List Int32), ¬ (255 : Int32) < c
    · have f145 := (A143'.keep K144 nin0)
      refine own_strinit (pc' := 225) (cells' := 4) (slots' := 32) (W := 1) (n := 9) (cs := [b0, b1, b2, b3, b4, b5, b6, b7, b8]) X144 (fun d hd => hw d (own_in_words d hd)) CS (W 10 rfl) (W 11 rfl) (W 12 rfl) (W 8 rfl) E144 F144_value F144_coder f145 n_a144 (List.mem_of_getElem? (i := 0) rfl) rfl (by decide) (by decide) (own_aS ⟨o_b0.1, hA _ (by simp)⟩ (own_aS ⟨o_b1.1, hA _ (by simp)⟩ (own_aS ⟨o_b2.1, hA _ (by simp)⟩ (own_aS ⟨o_b3.1, hA _ (by simp)⟩ (own_aS ⟨o_b4.1, hA _ (by simp)⟩ (own_aS ⟨o_b5.1, hA _ (by simp)⟩ (own_aS ⟨o_b6.1, hA _ (by simp)⟩ (own_aS ⟨o_b7.1, hA _ (by simp)⟩ (own_aS ⟨o_b8.1, hA _ (by simp)⟩ own_a0))))))))) (by decide) (by decide) (lenOf (L := [.ref a125]) pd_11 rfl) rfl rfl dd_method_3_222 rfl rfl rfl (by decide) (by decide) ?_
      intro T146 h146 t146 X146 K146 z146 S146
      have e_ : own_dr 9 ps r ex = ([b0, b1, b2, b3, b4, b5, b6, b7, b8] : List Int32) := by rw [own_dr, p_b]; rfl
      have age_a125 : hB.size ≤ a125 := Nat.le_trans (Nat.le_trans KK.1 (Nat.le_refl _)) (Nat.le_of_eq (Eq.symm g125))
      have age_a144 : hB.size ≤ a144 := Nat.le_trans (Nat.le_trans KK.1 (Nat.le_trans K125.1 (Nat.le_trans K127.1 (Nat.le_trans K129.1 (Nat.le_trans K131.1 (Nat.le_trans K133.1 (Nat.le_trans K135.1 (Nat.le_trans K137.1 (Nat.le_trans K139.1 (Nat.le_trans K141.1 (Nat.le_trans K143.1 (Nat.le_refl _)))))))))))) (Nat.le_of_eq (Eq.symm g144))
      exact own_ret X146 hGe (t := (.object "java/lang/String")) rfl rfl (Or.inr (Or.inr (Or.inr (Or.inr ⟨rfl, rfl, rfl⟩)))) dd_method_3_225 (by decide) (by decide) ⟨a144, t146, rfl, ((((((((((((((Keep.refl hB []).trans KK all0).trans K125 all0).trans K127 (allS (Or.inr age_a125) all0)).trans K129 (allS (Or.inr age_a125) all0)).trans K131 (allS (Or.inr age_a125) all0)).trans K133 (allS (Or.inr age_a125) all0)).trans K135 (allS (Or.inr age_a125) all0)).trans K137 (allS (Or.inr age_a125) all0)).trans K139 (allS (Or.inr age_a125) all0)).trans K141 (allS (Or.inr age_a125) all0)).trans K143 (allS (Or.inr age_a125) all0)).trans K144 all0).trans K146 (allS (Or.inr age_a144) all0)), by rw [e_]; exact S146⟩ nofun
    · have f147 := (A143'.keep K144 nin0)
      refine own_callIM (pc' := 225) (cells' := 5) (slots' := 53) (argsL := [(.ref a125)]) (rest := [(.ref a144)]) (W := 1) (y := (⟨"java/lang/String", "<init>", "([C)V"⟩ : MethodName)) (a := a144) X144 (W 10 rfl) (W 11 rfl) rfl (by decide) (own_sw1 l Z a0 hw EWf n0 a144 a125 k125 ([b0, b1, b2, b3, b4, b5, b6, b7, b8] : List Int32) 9 h144 (own_old X144) n_a144 E144 F144_value F144_coder f147 rfl (by decide) (own_exw hA) (own_aS o_b0 (own_aS o_b1 (own_aS o_b2 (own_aS o_b3 (own_aS o_b4 (own_aS o_b5 (own_aS o_b6 (own_aS o_b7 (own_aS o_b8 own_a0))))))))) U CS) (allS (List.mem_of_getElem? (i := 0) rfl) all0) (W 12 rfl) (W 9 rfl) (by decide) (by decide) rfl (lenOf pd_11 rfl) rfl rfl dd_method_3_222 rfl rfl rfl rfl (by decide) (by decide) ?_
      intro v148 T148 h148 s148 X148 q148 r148
      obtain ⟨rfl, K148, t148, S148⟩ := q148
      show G T148 (mkF m 225 #[.val (.int (9 : Int32)), .val (.int (Int32.ofNat ps)), .val (.int r), .val (.int ex), .val (.ref a4), .val (.ref a125)] [(.ref a144)])
      have e_ : own_dr 9 ps r ex = ([b0, b1, b2, b3, b4, b5, b6, b7, b8] : List Int32) := by rw [own_dr, p_b]; rfl
      have age_a125 : hB.size ≤ a125 := Nat.le_trans (Nat.le_trans KK.1 (Nat.le_refl _)) (Nat.le_of_eq (Eq.symm g125))
      have age_a144 : hB.size ≤ a144 := Nat.le_trans (Nat.le_trans KK.1 (Nat.le_trans K125.1 (Nat.le_trans K127.1 (Nat.le_trans K129.1 (Nat.le_trans K131.1 (Nat.le_trans K133.1 (Nat.le_trans K135.1 (Nat.le_trans K137.1 (Nat.le_trans K139.1 (Nat.le_trans K141.1 (Nat.le_trans K143.1 (Nat.le_refl _)))))))))))) (Nat.le_of_eq (Eq.symm g144))
      exact own_ret X148 hGe (t := (.object "java/lang/String")) rfl rfl (Or.inr (Or.inr (Or.inr (Or.inr ⟨rfl, rfl, rfl⟩)))) dd_method_3_225 (by decide) (by decide) ⟨a144, t148, rfl, ((((((((((((((Keep.refl hB []).trans KK all0).trans K125 all0).trans K127 (allS (Or.inr age_a125) all0)).trans K129 (allS (Or.inr age_a125) all0)).trans K131 (allS (Or.inr age_a125) all0)).trans K133 (allS (Or.inr age_a125) all0)).trans K135 (allS (Or.inr age_a125) all0)).trans K137 (allS (Or.inr age_a125) all0)).trans K139 (allS (Or.inr age_a125) all0)).trans K141 (allS (Or.inr age_a125) all0)).trans K143 (allS (Or.inr age_a125) all0)).trans K144 all0).trans K148 (allS (Or.inr age_a144) all0)), by rw [e_]; exact S148⟩ nofun
  · show G T0 (mkF m 70 #[.val (.int (10 : Int32)), .val (.int (Int32.ofNat ps)), .val (.int r), .val (.int ex), .val (.ref a4), .unset] [])
    refine own_iload_n (pc' := 71) X0 dd_method_3_70 rfl rfl ?_
    refine own_newarray (pc' := 73) (cells' := 2) (slots' := 20) (n := 10) (cap := 10) (dv := (.int 0)) X0 (W 6 rfl) rfl rfl (by decide) (by decide) dd_method_3_71 rfl rfl (by decide) (by decide) rfl (by decide) (by decide) ?_
    intro T149 h149 a149 k149 g149 X149 K149 A149
    have n_a149 : n0 ≤ a149 := by rw [g149]; exact own_n0 X0
    have A149' : own_Arr Z h149 a149 k149 .char [(.int 0), (.int 0), (.int 0), (.int 0), (.int 0), (.int 0), (.int 0), (.int 0), (.int 0), (.int 0)] := A149
    refine own_astore (pc' := 75) X149 dd_method_3_73 rfl rfl (Ls' := #[.val (.int (10 : Int32)), .val (.int (Int32.ofNat ps)), .val (.int r), .val (.int ex), .val (.ref a4), .val (.ref a149)]) rfl ?_
    refine own_iload_n (pc' := 76) X149 dd_method_3_75 rfl rfl ?_
    refine own_ifN (pc' := 79) X149 dd_method_3_76 rfl ((tlt (by decide)).2.2.2) ?_
    refine own_aload (pc' := 81) X149 dd_method_3_79 rfl rfl rfl ?_
    refine own_iconst (pc' := 82) X149 dd_method_3_81 rfl (z := (0 : Int32)) (by decide) ?_
    refine own_aload (pc' := 84) X149 dd_method_3_82 rfl rfl rfl ?_
    refine own_iconst (pc' := 85) X149 dd_method_3_84 rfl (z := (0 : Int32)) (by decide) ?_
    have f150 := (p_A.keep K149 nin0)
    refine own_caload (pc' := 86) (i := 0) (v := (.int b0)) X149 f150 (by decide) rfl dd_method_3_85 rfl ?_
    refine own_castore (pc' := 87) (i := 0) (y := b0) X149 A149' (by decide) (Nat.le_of_ble_eq_true rfl) (own_c16id o_b0.1 o_b0.2) n_a149 dd_method_3_86 rfl ?_
    intro T151 h151 X151 K151 A151
    have A151' : own_Arr Z h151 a149 k149 .char [(.int b0), (.int 0), (.int 0), (.int 0), (.int 0), (.int 0), (.int 0), (.int 0), (.int 0), (.int 0)] := A151
    refine own_iload_n (pc' := 88) X151 dd_method_3_87 rfl rfl ?_
    refine own_iconst (pc' := 89) X151 dd_method_3_88 rfl (z := (1 : Int32)) (by decide) ?_
    refine own_icmpN (pc' := 92) X151 dd_method_3_89 rfl ((tlt (by decide)).2.2.2) ?_
    refine own_aload (pc' := 94) X151 dd_method_3_92 rfl rfl rfl ?_
    refine own_iconst (pc' := 95) X151 dd_method_3_94 rfl (z := (1 : Int32)) (by decide) ?_
    refine own_aload (pc' := 97) X151 dd_method_3_95 rfl rfl rfl ?_
    refine own_iconst (pc' := 98) X151 dd_method_3_97 rfl (z := (1 : Int32)) (by decide) ?_
    have ne_a4_a149 : a4 ≠ a149 := own_ne p_A.lt (Nat.le_refl _) (Nat.le_of_eq (Eq.symm g149))
    have f152 := (f150.keep K151 (ninS ne_a4_a149 nin0))
    refine own_caload (pc' := 99) (i := 1) (v := (.int b1)) X151 f152 (by decide) rfl dd_method_3_98 rfl ?_
    refine own_castore (pc' := 100) (i := 1) (y := b1) X151 A151' (by decide) (Nat.le_of_ble_eq_true rfl) (own_c16id o_b1.1 o_b1.2) n_a149 dd_method_3_99 rfl ?_
    intro T153 h153 X153 K153 A153
    have A153' : own_Arr Z h153 a149 k149 .char [(.int b0), (.int b1), (.int 0), (.int 0), (.int 0), (.int 0), (.int 0), (.int 0), (.int 0), (.int 0)] := A153
    refine own_iload_n (pc' := 101) X153 dd_method_3_100 rfl rfl ?_
    refine own_iconst (pc' := 102) X153 dd_method_3_101 rfl (z := (2 : Int32)) (by decide) ?_
    refine own_icmpN (pc' := 105) X153 dd_method_3_102 rfl ((tlt (by decide)).2.2.2) ?_
    refine own_aload (pc' := 107) X153 dd_method_3_105 rfl rfl rfl ?_
    refine own_iconst (pc' := 108) X153 dd_method_3_107 rfl (z := (2 : Int32)) (by decide) ?_
    refine own_aload (pc' := 110) X153 dd_method_3_108 rfl rfl rfl ?_
    refine own_iconst (pc' := 111) X153 dd_method_3_110 rfl (z := (2 : Int32)) (by decide) ?_
    have f154 := (f152.keep K153 (ninS ne_a4_a149 nin0))
    refine own_caload (pc' := 112) (i := 2) (v := (.int b2)) X153 f154 (by decide) rfl dd_method_3_111 rfl ?_
    refine own_castore (pc' := 113) (i := 2) (y := b2) X153 A153' (by decide) (Nat.le_of_ble_eq_true rfl) (own_c16id o_b2.1 o_b2.2) n_a149 dd_method_3_112 rfl ?_
    intro T155 h155 X155 K155 A155
    have A155' : own_Arr Z h155 a149 k149 .char [(.int b0), (.int b1), (.int b2), (.int 0), (.int 0), (.int 0), (.int 0), (.int 0), (.int 0), (.int 0)] := A155
    refine own_iload_n (pc' := 114) X155 dd_method_3_113 rfl rfl ?_
    refine own_iconst (pc' := 115) X155 dd_method_3_114 rfl (z := (3 : Int32)) (by decide) ?_
    refine own_icmpN (pc' := 118) X155 dd_method_3_115 rfl ((tlt (by decide)).2.2.2) ?_
    refine own_aload (pc' := 120) X155 dd_method_3_118 rfl rfl rfl ?_
    refine own_iconst (pc' := 121) X155 dd_method_3_120 rfl (z := (3 : Int32)) (by decide) ?_
    refine own_aload (pc' := 123) X155 dd_method_3_121 rfl rfl rfl ?_
    refine own_iconst (pc' := 124) X155 dd_method_3_123 rfl (z := (3 : Int32)) (by decide) ?_
    have f156 := (f154.keep K155 (ninS ne_a4_a149 nin0))
    refine own_caload (pc' := 125) (i := 3) (v := (.int b3)) X155 f156 (by decide) rfl dd_method_3_124 rfl ?_
    refine own_castore (pc' := 126) (i := 3) (y := b3) X155 A155' (by decide) (Nat.le_of_ble_eq_true rfl) (own_c16id o_b3.1 o_b3.2) n_a149 dd_method_3_125 rfl ?_
    intro T157 h157 X157 K157 A157
    have A157' : own_Arr Z h157 a149 k149 .char [(.int b0), (.int b1), (.int b2), (.int b3), (.int 0), (.int 0), (.int 0), (.int 0), (.int 0), (.int 0)] := A157
    refine own_iload_n (pc' := 127) X157 dd_method_3_126 rfl rfl ?_
    refine own_iconst (pc' := 128) X157 dd_method_3_127 rfl (z := (4 : Int32)) (by decide) ?_
    refine own_icmpN (pc' := 131) X157 dd_method_3_128 rfl ((tlt (by decide)).2.2.2) ?_
    refine own_aload (pc' := 133) X157 dd_method_3_131 rfl rfl rfl ?_
    refine own_iconst (pc' := 134) X157 dd_method_3_133 rfl (z := (4 : Int32)) (by decide) ?_
    refine own_aload (pc' := 136) X157 dd_method_3_134 rfl rfl rfl ?_
    refine own_iconst (pc' := 137) X157 dd_method_3_136 rfl (z := (4 : Int32)) (by decide) ?_
    have f158 := (f156.keep K157 (ninS ne_a4_a149 nin0))
    refine own_caload (pc' := 138) (i := 4) (v := (.int b4)) X157 f158 (by decide) rfl dd_method_3_137 rfl ?_
    refine own_castore (pc' := 139) (i := 4) (y := b4) X157 A157' (by decide) (Nat.le_of_ble_eq_true rfl) (own_c16id o_b4.1 o_b4.2) n_a149 dd_method_3_138 rfl ?_
    intro T159 h159 X159 K159 A159
    have A159' : own_Arr Z h159 a149 k149 .char [(.int b0), (.int b1), (.int b2), (.int b3), (.int b4), (.int 0), (.int 0), (.int 0), (.int 0), (.int 0)] := A159
    refine own_iload_n (pc' := 140) X159 dd_method_3_139 rfl rfl ?_
    refine own_iconst (pc' := 141) X159 dd_method_3_140 rfl (z := (5 : Int32)) (by decide) ?_
    refine own_icmpN (pc' := 144) X159 dd_method_3_141 rfl ((tlt (by decide)).2.2.2) ?_
    refine own_aload (pc' := 146) X159 dd_method_3_144 rfl rfl rfl ?_
    refine own_iconst (pc' := 147) X159 dd_method_3_146 rfl (z := (5 : Int32)) (by decide) ?_
    refine own_aload (pc' := 149) X159 dd_method_3_147 rfl rfl rfl ?_
    refine own_iconst (pc' := 150) X159 dd_method_3_149 rfl (z := (5 : Int32)) (by decide) ?_
    have f160 := (f158.keep K159 (ninS ne_a4_a149 nin0))
    refine own_caload (pc' := 151) (i := 5) (v := (.int b5)) X159 f160 (by decide) rfl dd_method_3_150 rfl ?_
    refine own_castore (pc' := 152) (i := 5) (y := b5) X159 A159' (by decide) (Nat.le_of_ble_eq_true rfl) (own_c16id o_b5.1 o_b5.2) n_a149 dd_method_3_151 rfl ?_
    intro T161 h161 X161 K161 A161
    have A161' : own_Arr Z h161 a149 k149 .char [(.int b0), (.int b1), (.int b2), (.int b3), (.int b4), (.int b5), (.int 0), (.int 0), (.int 0), (.int 0)] := A161
    refine own_iload_n (pc' := 153) X161 dd_method_3_152 rfl rfl ?_
    refine own_bipush (pc' := 155) X161 dd_method_3_153 rfl (z := (6 : Int32)) (by decide) ?_
    refine own_icmpN (pc' := 158) X161 dd_method_3_155 rfl ((tlt (by decide)).2.2.2) ?_
    refine own_aload (pc' := 160) X161 dd_method_3_158 rfl rfl rfl ?_
    refine own_bipush (pc' := 162) X161 dd_method_3_160 rfl (z := (6 : Int32)) (by decide) ?_
    refine own_aload (pc' := 164) X161 dd_method_3_162 rfl rfl rfl ?_
    refine own_bipush (pc' := 166) X161 dd_method_3_164 rfl (z := (6 : Int32)) (by decide) ?_
    have f162 := (f160.keep K161 (ninS ne_a4_a149 nin0))
    refine own_caload (pc' := 167) (i := 6) (v := (.int b6)) X161 f162 (by decide) rfl dd_method_3_166 rfl ?_
    refine own_castore (pc' := 168) (i := 6) (y := b6) X161 A161' (by decide) (Nat.le_of_ble_eq_true rfl) (own_c16id o_b6.1 o_b6.2) n_a149 dd_method_3_167 rfl ?_
    intro T163 h163 X163 K163 A163
    have A163' : own_Arr Z h163 a149 k149 .char [(.int b0), (.int b1), (.int b2), (.int b3), (.int b4), (.int b5), (.int b6), (.int 0), (.int 0), (.int 0)] := A163
    refine own_iload_n (pc' := 169) X163 dd_method_3_168 rfl rfl ?_
    refine own_bipush (pc' := 171) X163 dd_method_3_169 rfl (z := (7 : Int32)) (by decide) ?_
    refine own_icmpN (pc' := 174) X163 dd_method_3_171 rfl ((tlt (by decide)).2.2.2) ?_
    refine own_aload (pc' := 176) X163 dd_method_3_174 rfl rfl rfl ?_
    refine own_bipush (pc' := 178) X163 dd_method_3_176 rfl (z := (7 : Int32)) (by decide) ?_
    refine own_aload (pc' := 180) X163 dd_method_3_178 rfl rfl rfl ?_
    refine own_bipush (pc' := 182) X163 dd_method_3_180 rfl (z := (7 : Int32)) (by decide) ?_
    have f164 := (f162.keep K163 (ninS ne_a4_a149 nin0))
    refine own_caload (pc' := 183) (i := 7) (v := (.int b7)) X163 f164 (by decide) rfl dd_method_3_182 rfl ?_
    refine own_castore (pc' := 184) (i := 7) (y := b7) X163 A163' (by decide) (Nat.le_of_ble_eq_true rfl) (own_c16id o_b7.1 o_b7.2) n_a149 dd_method_3_183 rfl ?_
    intro T165 h165 X165 K165 A165
    have A165' : own_Arr Z h165 a149 k149 .char [(.int b0), (.int b1), (.int b2), (.int b3), (.int b4), (.int b5), (.int b6), (.int b7), (.int 0), (.int 0)] := A165
    refine own_iload_n (pc' := 185) X165 dd_method_3_184 rfl rfl ?_
    refine own_bipush (pc' := 187) X165 dd_method_3_185 rfl (z := (8 : Int32)) (by decide) ?_
    refine own_icmpN (pc' := 190) X165 dd_method_3_187 rfl ((tlt (by decide)).2.2.2) ?_
    refine own_aload (pc' := 192) X165 dd_method_3_190 rfl rfl rfl ?_
    refine own_bipush (pc' := 194) X165 dd_method_3_192 rfl (z := (8 : Int32)) (by decide) ?_
    refine own_aload (pc' := 196) X165 dd_method_3_194 rfl rfl rfl ?_
    refine own_bipush (pc' := 198) X165 dd_method_3_196 rfl (z := (8 : Int32)) (by decide) ?_
    have f166 := (f164.keep K165 (ninS ne_a4_a149 nin0))
    refine own_caload (pc' := 199) (i := 8) (v := (.int b8)) X165 f166 (by decide) rfl dd_method_3_198 rfl ?_
    refine own_castore (pc' := 200) (i := 8) (y := b8) X165 A165' (by decide) (Nat.le_of_ble_eq_true rfl) (own_c16id o_b8.1 o_b8.2) n_a149 dd_method_3_199 rfl ?_
    intro T167 h167 X167 K167 A167
    have A167' : own_Arr Z h167 a149 k149 .char [(.int b0), (.int b1), (.int b2), (.int b3), (.int b4), (.int b5), (.int b6), (.int b7), (.int b8), (.int 0)] := A167
    refine own_iload_n (pc' := 201) X167 dd_method_3_200 rfl rfl ?_
    refine own_bipush (pc' := 203) X167 dd_method_3_201 rfl (z := (9 : Int32)) (by decide) ?_
    refine own_icmpN (pc' := 206) X167 dd_method_3_203 rfl ((tlt (by decide)).2.2.2) ?_
    refine own_aload (pc' := 208) X167 dd_method_3_206 rfl rfl rfl ?_
    refine own_bipush (pc' := 210) X167 dd_method_3_208 rfl (z := (9 : Int32)) (by decide) ?_
    refine own_aload (pc' := 212) X167 dd_method_3_210 rfl rfl rfl ?_
    refine own_bipush (pc' := 214) X167 dd_method_3_212 rfl (z := (9 : Int32)) (by decide) ?_
    have f168 := (f166.keep K167 (ninS ne_a4_a149 nin0))
    refine own_caload (pc' := 215) (i := 9) (v := (.int b9)) X167 f168 (by decide) rfl dd_method_3_214 rfl ?_
    refine own_castore (pc' := 216) (i := 9) (y := b9) X167 A167' (by decide) (Nat.le_of_ble_eq_true rfl) (own_c16id o_b9.1 o_b9.2) n_a149 dd_method_3_215 rfl ?_
    intro T169 h169 X169 K169 A169
    have A169' : own_Arr Z h169 a149 k149 .char [(.int b0), (.int b1), (.int b2), (.int b3), (.int b4), (.int b5), (.int b6), (.int b7), (.int b8), (.int b9)] := A169
    refine own_newK (pc' := 219) (cells' := 3) (slots' := 24) X169 (W 7 rfl) (W 8 rfl) (W 9 rfl) dd_method_3_216 rfl rfl rfl (by decide) (by decide) ?_
    intro T170 h170 a170 g170 X170 K170 E170 D170 U170
    have n_a170 : n0 ≤ a170 := by rw [g170]; exact own_n0 X169
    have F170_coder : Fld Z h170 a170 "java/lang/String" "coder" "B" (.int (0 : Int32)) := D170 (Or.inr (W 33 rfl)) (ty := .byte) (by decide)
    have F170_value : Fld Z h170 a170 "java/lang/String" "value" "[B" .null := D170 (Or.inr (W 35 rfl)) (ty := (.array .byte)) (by decide)
    refine own_dup (pc' := 220) X170 dd_method_3_219 rfl rfl ?_
    refine own_aload (pc' := 222) X170 dd_method_3_220 rfl rfl rfl ?_
    by_cases hA : ∀ c ∈ ([b0, b1, b2, b3, b4, b5, b6, b7, b8, b9] : List Int32), ¬ (255 : Int32) < c
    · have f171 := (A169'.keep K170 nin0)
      refine own_strinit (pc' := 225) (cells' := 4) (slots' := 34) (W := 1) (n := 10) (cs := [b0, b1, b2, b3, b4, b5, b6, b7, b8, b9]) X170 (fun d hd => hw d (own_in_words d hd)) CS (W 10 rfl) (W 11 rfl) (W 12 rfl) (W 8 rfl) E170 F170_value F170_coder f171 n_a170 (List.mem_of_getElem? (i := 0) rfl) rfl (by decide) (by decide) (own_aS ⟨o_b0.1, hA _ (by simp)⟩ (own_aS ⟨o_b1.1, hA _ (by simp)⟩ (own_aS ⟨o_b2.1, hA _ (by simp)⟩ (own_aS ⟨o_b3.1, hA _ (by simp)⟩ (own_aS ⟨o_b4.1, hA _ (by simp)⟩ (own_aS ⟨o_b5.1, hA _ (by simp)⟩ (own_aS ⟨o_b6.1, hA _ (by simp)⟩ (own_aS ⟨o_b7.1, hA _ (by simp)⟩ (own_aS ⟨o_b8.1, hA _ (by simp)⟩ (own_aS ⟨o_b9.1, hA _ (by simp)⟩ own_a0)))))))))) (by decide) (by decide) (lenOf (L := [.ref a149]) pd_11 rfl) rfl rfl dd_method_3_222 rfl rfl rfl (by decide) (by decide) ?_
      intro T172 h172 t172 X172 K172 z172 S172
      have e_ : own_dr 10 ps r ex = ([b0, b1, b2, b3, b4, b5, b6, b7, b8, b9] : List Int32) := by rw [own_dr, p_b]; rfl
      have age_a149 : hB.size ≤ a149 := Nat.le_trans (Nat.le_trans KK.1 (Nat.le_refl _)) (Nat.le_of_eq (Eq.symm g149))
      have age_a170 : hB.size ≤ a170 := Nat.le_trans (Nat.le_trans KK.1 (Nat.le_trans K149.1 (Nat.le_trans K151.1 (Nat.le_trans K153.1 (Nat.le_trans K155.1 (Nat.le_trans K157.1 (Nat.le_trans K159.1 (Nat.le_trans K161.1 (Nat.le_trans K163.1 (Nat.le_trans K165.1 (Nat.le_trans K167.1 (Nat.le_trans K169.1 (Nat.le_refl _))))))))))))) (Nat.le_of_eq (Eq.symm g170))
      exact own_ret X172 hGe (t := (.object "java/lang/String")) rfl rfl (Or.inr (Or.inr (Or.inr (Or.inr ⟨rfl, rfl, rfl⟩)))) dd_method_3_225 (by decide) (by decide) ⟨a170, t172, rfl, (((((((((((((((Keep.refl hB []).trans KK all0).trans K149 all0).trans K151 (allS (Or.inr age_a149) all0)).trans K153 (allS (Or.inr age_a149) all0)).trans K155 (allS (Or.inr age_a149) all0)).trans K157 (allS (Or.inr age_a149) all0)).trans K159 (allS (Or.inr age_a149) all0)).trans K161 (allS (Or.inr age_a149) all0)).trans K163 (allS (Or.inr age_a149) all0)).trans K165 (allS (Or.inr age_a149) all0)).trans K167 (allS (Or.inr age_a149) all0)).trans K169 (allS (Or.inr age_a149) all0)).trans K170 all0).trans K172 (allS (Or.inr age_a170) all0)), by rw [e_]; exact S172⟩ nofun
    · have f173 := (A169'.keep K170 nin0)
      refine own_callIM (pc' := 225) (cells' := 5) (slots' := 54) (argsL := [(.ref a149)]) (rest := [(.ref a170)]) (W := 1) (y := (⟨"java/lang/String", "<init>", "([C)V"⟩ : MethodName)) (a := a170) X170 (W 10 rfl) (W 11 rfl) rfl (by decide) (own_sw1 l Z a0 hw EWf n0 a170 a149 k149 ([b0, b1, b2, b3, b4, b5, b6, b7, b8, b9] : List Int32) 10 h170 (own_old X170) n_a170 E170 F170_value F170_coder f173 rfl (by decide) (own_exw hA) (own_aS o_b0 (own_aS o_b1 (own_aS o_b2 (own_aS o_b3 (own_aS o_b4 (own_aS o_b5 (own_aS o_b6 (own_aS o_b7 (own_aS o_b8 (own_aS o_b9 own_a0)))))))))) U CS) (allS (List.mem_of_getElem? (i := 0) rfl) all0) (W 12 rfl) (W 9 rfl) (by decide) (by decide) rfl (lenOf pd_11 rfl) rfl rfl dd_method_3_222 rfl rfl rfl rfl (by decide) (by decide) ?_
      intro v174 T174 h174 s174 X174 q174 r174
      obtain ⟨rfl, K174, t174, S174⟩ := q174
      show G T174 (mkF m 225 #[.val (.int (10 : Int32)), .val (.int (Int32.ofNat ps)), .val (.int r), .val (.int ex), .val (.ref a4), .val (.ref a149)] [(.ref a170)])
      have e_ : own_dr 10 ps r ex = ([b0, b1, b2, b3, b4, b5, b6, b7, b8, b9] : List Int32) := by rw [own_dr, p_b]; rfl
      have age_a149 : hB.size ≤ a149 := Nat.le_trans (Nat.le_trans KK.1 (Nat.le_refl _)) (Nat.le_of_eq (Eq.symm g149))
      have age_a170 : hB.size ≤ a170 := Nat.le_trans (Nat.le_trans KK.1 (Nat.le_trans K149.1 (Nat.le_trans K151.1 (Nat.le_trans K153.1 (Nat.le_trans K155.1 (Nat.le_trans K157.1 (Nat.le_trans K159.1 (Nat.le_trans K161.1 (Nat.le_trans K163.1 (Nat.le_trans K165.1 (Nat.le_trans K167.1 (Nat.le_trans K169.1 (Nat.le_refl _))))))))))))) (Nat.le_of_eq (Eq.symm g170))
      exact own_ret X174 hGe (t := (.object "java/lang/String")) rfl rfl (Or.inr (Or.inr (Or.inr (Or.inr ⟨rfl, rfl, rfl⟩)))) dd_method_3_225 (by decide) (by decide) ⟨a170, t174, rfl, (((((((((((((((Keep.refl hB []).trans KK all0).trans K149 all0).trans K151 (allS (Or.inr age_a149) all0)).trans K153 (allS (Or.inr age_a149) all0)).trans K155 (allS (Or.inr age_a149) all0)).trans K157 (allS (Or.inr age_a149) all0)).trans K159 (allS (Or.inr age_a149) all0)).trans K161 (allS (Or.inr age_a149) all0)).trans K163 (allS (Or.inr age_a149) all0)).trans K165 (allS (Or.inr age_a149) all0)).trans K167 (allS (Or.inr age_a149) all0)).trans K169 (allS (Or.inr age_a149) all0)).trans K170 all0).trans K174 (allS (Or.inr age_a170) all0)), by rw [e_]; exact S174⟩ nofun
theorem dd_method_3_0 : decode method_3_code 0 = .ok (.bipush 10, 2) := by decide +kernel
theorem dd_method_3_2 : decode method_3_code 2 = .ok (.newarray .char, 2) := by decide +kernel
theorem dd_method_3_4 : decode method_3_code 4 = .ok (.dup, 1) := by decide +kernel
theorem dd_method_3_5 : decode method_3_code 5 = .ok (.iconst 0, 1) := by decide +kernel
theorem dd_method_3_6 : decode method_3_code 6 = .ok (.bipush 115, 2) := by decide +kernel
theorem dd_method_3_8 : decode method_3_code 8 = .ok (.castore, 1) := by decide +kernel
theorem dd_method_3_9 : decode method_3_code 9 = .ok (.dup, 1) := by decide +kernel
theorem dd_method_3_10 : decode method_3_code 10 = .ok (.iconst 1, 1) := by decide +kernel
theorem dd_method_3_11 : decode method_3_code 11 = .ok (.bipush 105, 2) := by decide +kernel
theorem dd_method_3_13 : decode method_3_code 13 = .ok (.castore, 1) := by decide +kernel
theorem dd_method_3_14 : decode method_3_code 14 = .ok (.dup, 1) := by decide +kernel
theorem dd_method_3_15 : decode method_3_code 15 = .ok (.iconst 2, 1) := by decide +kernel
theorem dd_method_3_16 : decode method_3_code 16 = .ok (.bipush 110, 2) := by decide +kernel
theorem dd_method_3_18 : decode method_3_code 18 = .ok (.castore, 1) := by decide +kernel
theorem dd_method_3_19 : decode method_3_code 19 = .ok (.dup, 1) := by decide +kernel
theorem dd_method_3_20 : decode method_3_code 20 = .ok (.iconst 3, 1) := by decide +kernel
theorem dd_method_3_21 : decode method_3_code 21 = .ok (.bipush 103, 2) := by decide +kernel
theorem dd_method_3_23 : decode method_3_code 23 = .ok (.castore, 1) := by decide +kernel
theorem dd_method_3_24 : decode method_3_code 24 = .ok (.dup, 1) := by decide +kernel
theorem dd_method_3_25 : decode method_3_code 25 = .ok (.iconst 4, 1) := by decide +kernel
theorem dd_method_3_26 : decode method_3_code 26 = .ok (.bipush 108, 2) := by decide +kernel
theorem dd_method_3_28 : decode method_3_code 28 = .ok (.castore, 1) := by decide +kernel
theorem dd_method_3_29 : decode method_3_code 29 = .ok (.dup, 1) := by decide +kernel
theorem dd_method_3_30 : decode method_3_code 30 = .ok (.iconst 5, 1) := by decide +kernel
theorem dd_method_3_31 : decode method_3_code 31 = .ok (.bipush 101, 2) := by decide +kernel
theorem dd_method_3_33 : decode method_3_code 33 = .ok (.castore, 1) := by decide +kernel
theorem dd_method_3_34 : decode method_3_code 34 = .ok (.dup, 1) := by decide +kernel
theorem dd_method_3_35 : decode method_3_code 35 = .ok (.bipush 6, 2) := by decide +kernel
theorem dd_method_3_37 : decode method_3_code 37 = .ok (.bipush 116, 2) := by decide +kernel
theorem dd_method_3_39 : decode method_3_code 39 = .ok (.castore, 1) := by decide +kernel
theorem dd_method_3_40 : decode method_3_code 40 = .ok (.dup, 1) := by decide +kernel
theorem dd_method_3_41 : decode method_3_code 41 = .ok (.bipush 7, 2) := by decide +kernel
theorem dd_method_3_43 : decode method_3_code 43 = .ok (.bipush 111, 2) := by decide +kernel
theorem dd_method_3_45 : decode method_3_code 45 = .ok (.castore, 1) := by decide +kernel
theorem dd_method_3_46 : decode method_3_code 46 = .ok (.dup, 1) := by decide +kernel
theorem dd_method_3_47 : decode method_3_code 47 = .ok (.bipush 8, 2) := by decide +kernel
theorem dd_method_3_49 : decode method_3_code 49 = .ok (.bipush 110, 2) := by decide +kernel
theorem dd_method_3_51 : decode method_3_code 51 = .ok (.castore, 1) := by decide +kernel
theorem dd_method_3_52 : decode method_3_code 52 = .ok (.dup, 1) := by decide +kernel
theorem dd_method_3_53 : decode method_3_code 53 = .ok (.bipush 9, 2) := by decide +kernel
theorem dd_method_3_55 : decode method_3_code 55 = .ok (.iload_n 3, 1) := by decide +kernel
theorem dd_method_3_56 : decode method_3_code 56 = .ok (.castore, 1) := by decide +kernel
theorem dd_method_3_57 : decode method_3_code 57 = .ok (.astore 4, 2) := by decide +kernel
theorem dd_method_3_59 : decode method_3_code 59 = .ok (.iload_n 1, 1) := by decide +kernel
theorem dd_method_3_60 : decode method_3_code 60 = .ok (.bipush 10, 2) := by decide +kernel
theorem dd_method_3_62 : decode method_3_code 62 = .ok (.if_icmp .ge 8, 3) := by decide +kernel
theorem dd_method_3_65 : decode method_3_code 65 = .ok (.aload 4, 2) := by decide +kernel
theorem dd_method_3_67 : decode method_3_code 67 = .ok (.iload_n 1, 1) := by decide +kernel
theorem dd_method_3_68 : decode method_3_code 68 = .ok (.iload_n 2, 1) := by decide +kernel
theorem dd_method_3_69 : decode method_3_code 69 = .ok (.castore, 1) := by decide +kernel
theorem pn_8 : plainName "com/example/topf/topf/core/BeanDefinitionIsSingletonPinLaw" = true := by first | (simp [plainName, overriddenIn]; done) | decide +kernel
theorem ef_own_drawn (m : MethodId) (x0 : Int32) (x1 : Int32) (x2 : Int32) (x3 : Int32) : entryFrame m #[(.int x0), (.int x1), (.int x2), (.int x3)] 6 = mkF m 0 #[.val (.int x0), .val (.int x1), .val (.int x2), .val (.int x3), .unset, .unset] [] := by first | (simp [entryFrame, mkF, argsToLocals, Value.category]; done) | rfl
set_option maxRecDepth 65536 in
set_option maxHeartbeats 40000000 in
theorem own_drawn (l : Launch) (Z : State) (a0 : Array Value) (hw : ∀ d ∈ tables_1, d.before a0 Z = true) (EWf : own_EW Z own_EL) (n0 : Nat) (n ps : Nat) (r ex : Int32) (h0 : Heap) (O0 : Old Z n0 h0) (p_n : n ≤ 10) (p_p : ps ≤ 10) (o_r : own_ok16 r) (o_x : own_ok16 ex) (U : own_U16 Z) (CS : own_CS Z) :
    own_Met l Z own_EL [] false n0 (⟨"com/example/topf/topf/core/BeanDefinitionIsSingletonPinLaw", "drawn", "(IICC)Ljava/lang/String;"⟩ : MethodName) method_3_code 6 (some (.object "java/lang/String")) ({ frames := 7, cells := 10, slots := 100, locals := 109 } : Room) #[(.int (Int32.ofNat n)), (.int (Int32.ofNat ps)), (.int r), (.int ex)] h0 (fun v h => ∃ x t : Addr, v = some (.ref x) ∧ Keep h0 h [] ∧ own_Str Z h x t (own_dr n ps r ex)) := by
  refine own_enter (own := "com/example/topf/topf/core/BeanDefinitionIsSingletonPinLaw") (nm := "drawn") (plainFor_of_name pn_8) rfl rfl O0 EWf ?_
  have W : ∀ (k : Nat) {d : Jvm.Cond}, tables_1[k]? = some d → d.before a0 Z = true := fun k d q => hw d (List.mem_of_getElem? q)
  intro G p e s m below meth c T0 hGe X0
  rw [ef_own_drawn m ((Int32.ofNat n)) ((Int32.ofNat ps)) r ex]
  refine own_bipush (pc' := 2) X0 dd_method_3_0 rfl (z := (10 : Int32)) (by decide) ?_
  refine own_newarray (pc' := 4) (cells' := 1) (slots' := 10) (n := 10) (cap := 10) (dv := (.int 0)) X0 (W 6 rfl) rfl rfl (by decide) (by decide) dd_method_3_2 rfl rfl (by decide) (by decide) rfl (by decide) (by decide) ?_
  intro T1 h1 a1 k1 g1 X1 K1 A1
  have n_a1 : n0 ≤ a1 := by rw [g1]; exact own_n0 X0
  have A1' : own_Arr Z h1 a1 k1 .char [(.int 0), (.int 0), (.int 0), (.int 0), (.int 0), (.int 0), (.int 0), (.int 0), (.int 0), (.int 0)] := A1
  refine own_dup (pc' := 5) X1 dd_method_3_4 rfl rfl ?_
  refine own_iconst (pc' := 6) X1 dd_method_3_5 rfl (z := (0 : Int32)) (by decide) ?_
  refine own_bipush (pc' := 8) X1 dd_method_3_6 rfl (z := (115 : Int32)) (by decide) ?_
  refine own_castore (pc' := 9) (i := 0) (y := (115 : Int32)) X1 A1' (by decide) (Nat.le_of_ble_eq_true rfl) (by decide) n_a1 dd_method_3_8 rfl ?_
  intro T2 h2 X2 K2 A2
  have A2' : own_Arr Z h2 a1 k1 .char [(.int (115 : Int32)), (.int 0), (.int 0), (.int 0), (.int 0), (.int 0), (.int 0), (.int 0), (.int 0), (.int 0)] := A2
  refine own_dup (pc' := 10) X2 dd_method_3_9 rfl rfl ?_
  refine own_iconst (pc' := 11) X2 dd_method_3_10 rfl (z := (1 : Int32)) (by decide) ?_
  refine own_bipush (pc' := 13) X2 dd_method_3_11 rfl (z := (105 : Int32)) (by decide) ?_
  refine own_castore (pc' := 14) (i := 1) (y := (105 : Int32)) X2 A2' (by decide) (Nat.le_of_ble_eq_true rfl) (by decide) n_a1 dd_method_3_13 rfl ?_
  intro T3 h3 X3 K3 A3
  have A3' : own_Arr Z h3 a1 k1 .char [(.int (115 : Int32)), (.int (105 : Int32)), (.int 0), (.int 0), (.int 0), (.int 0), (.int 0), (.int 0), (.int 0), (.int 0)] := A3
  refine own_dup (pc' := 15) X3 dd_method_3_14 rfl rfl ?_
  refine own_iconst (pc' := 16) X3 dd_method_3_15 rfl (z := (2 : Int32)) (by decide) ?_
  refine own_bipush (pc' := 18) X3 dd_method_3_16 rfl (z := (110 : Int32)) (by decide) ?_
  refine own_castore (pc' := 19) (i := 2) (y := (110 : Int32)) X3 A3' (by decide) (Nat.le_of_ble_eq_true rfl) (by decide) n_a1 dd_method_3_18 rfl ?_
  intro T4 h4 X4 K4 A4
  have A4' : own_Arr Z h4 a1 k1 .char [(.int (115 : Int32)), (.int (105 : Int32)), (.int (110 : Int32)), (.int 0), (.int 0), (.int 0), (.int 0), (.int 0), (.int 0), (.int 0)] := A4
  refine own_dup (pc' := 20) X4 dd_method_3_19 rfl rfl ?_
  refine own_iconst (pc' := 21) X4 dd_method_3_20 rfl (z := (3 : Int32)) (by decide) ?_
  refine own_bipush (pc' := 23) X4 dd_method_3_21 rfl (z := (103 : Int32)) (by decide) ?_
  refine own_castore (pc' := 24) (i := 3) (y := (103 : Int32)) X4 A4' (by decide) (Nat.le_of_ble_eq_true rfl) (by decide) n_a1 dd_method_3_23 rfl ?_
  intro T5 h5 X5 K5 A5
  have A5' : own_Arr Z h5 a1 k1 .char [(.int (115 : Int32)), (.int (105 : Int32)), (.int (110 : Int32)), (.int (103 : Int32)), (.int 0), (.int 0), (.int 0), (.int 0), (.int 0), (.int 0)] := A5
  refine own_dup (pc' := 25) X5 dd_method_3_24 rfl rfl ?_
  refine own_iconst (pc' := 26) X5 dd_method_3_25 rfl (z := (4 : Int32)) (by decide) ?_
  refine own_bipush (pc' := 28) X5 dd_method_3_26 rfl (z := (108 : Int32)) (by decide) ?_
  refine own_castore (pc' := 29) (i := 4) (y := (108 : Int32)) X5 A5' (by decide) (Nat.le_of_ble_eq_true rfl) (by decide) n_a1 dd_method_3_28 rfl ?_
  intro T6 h6 X6 K6 A6
  have A6' : own_Arr Z h6 a1 k1 .char [(.int (115 : Int32)), (.int (105 : Int32)), (.int (110 : Int32)), (.int (103 : Int32)), (.int (108 : Int32)), (.int 0), (.int 0), (.int 0), (.int 0), (.int 0)] := A6
  refine own_dup (pc' := 30) X6 dd_method_3_29 rfl rfl ?_
  refine own_iconst (pc' := 31) X6 dd_method_3_30 rfl (z := (5 : Int32)) (by decide) ?_
  refine own_bipush (pc' := 33) X6 dd_method_3_31 rfl (z := (101 : Int32)) (by decide) ?_
  refine own_castore (pc' := 34) (i := 5) (y := (101 : Int32)) X6 A6' (by decide) (Nat.le_of_ble_eq_true rfl) (by decide) n_a1 dd_method_3_33 rfl ?_
  intro T7 h7 X7 K7 A7
  have A7' : own_Arr Z h7 a1 k1 .char [(.int (115 : Int32)), (.int (105 : Int32)), (.int (110 : Int32)), (.int (103 : Int32)), (.int (108 : Int32)), (.int (101 : Int32)), (.int 0), (.int 0), (.int 0), (.int 0)] := A7
  refine own_dup (pc' := 35) X7 dd_method_3_34 rfl rfl ?_
  refine own_bipush (pc' := 37) X7 dd_method_3_35 rfl (z := (6 : Int32)) (by decide) ?_
  refine own_bipush (pc' := 39) X7 dd_method_3_37 rfl (z := (116 : Int32)) (by decide) ?_
  refine own_castore (pc' := 40) (i := 6) (y := (116 : Int32)) X7 A7' (by decide) (Nat.le_of_ble_eq_true rfl) (by decide) n_a1 dd_method_3_39 rfl ?_
  intro T8 h8 X8 K8 A8
  have A8' : own_Arr Z h8 a1 k1 .char [(.int (115 : Int32)), (.int (105 : Int32)), (.int (110 : Int32)), (.int (103 : Int32)), (.int (108 : Int32)), (.int (101 : Int32)), (.int (116 : Int32)), (.int 0), (.int 0), (.int 0)] := A8
  refine own_dup (pc' := 41) X8 dd_method_3_40 rfl rfl ?_
  refine own_bipush (pc' := 43) X8 dd_method_3_41 rfl (z := (7 : Int32)) (by decide) ?_
  refine own_bipush (pc' := 45) X8 dd_method_3_43 rfl (z := (111 : Int32)) (by decide) ?_
  refine own_castore (pc' := 46) (i := 7) (y := (111 : Int32)) X8 A8' (by decide) (Nat.le_of_ble_eq_true rfl) (by decide) n_a1 dd_method_3_45 rfl ?_
  intro T9 h9 X9 K9 A9
  have A9' : own_Arr Z h9 a1 k1 .char [(.int (115 : Int32)), (.int (105 : Int32)), (.int (110 : Int32)), (.int (103 : Int32)), (.int (108 : Int32)), (.int (101 : Int32)), (.int (116 : Int32)), (.int (111 : Int32)), (.int 0), (.int 0)] := A9
  refine own_dup (pc' := 47) X9 dd_method_3_46 rfl rfl ?_
  refine own_bipush (pc' := 49) X9 dd_method_3_47 rfl (z := (8 : Int32)) (by decide) ?_
  refine own_bipush (pc' := 51) X9 dd_method_3_49 rfl (z := (110 : Int32)) (by decide) ?_
  refine own_castore (pc' := 52) (i := 8) (y := (110 : Int32)) X9 A9' (by decide) (Nat.le_of_ble_eq_true rfl) (by decide) n_a1 dd_method_3_51 rfl ?_
  intro T10 h10 X10 K10 A10
  have A10' : own_Arr Z h10 a1 k1 .char [(.int (115 : Int32)), (.int (105 : Int32)), (.int (110 : Int32)), (.int (103 : Int32)), (.int (108 : Int32)), (.int (101 : Int32)), (.int (116 : Int32)), (.int (111 : Int32)), (.int (110 : Int32)), (.int 0)] := A10
  refine own_dup (pc' := 53) X10 dd_method_3_52 rfl rfl ?_
  refine own_bipush (pc' := 55) X10 dd_method_3_53 rfl (z := (9 : Int32)) (by decide) ?_
  refine own_iload_n (pc' := 56) X10 dd_method_3_55 rfl rfl ?_
  refine own_castore (pc' := 57) (i := 9) (y := ex) X10 A10' (by decide) (Nat.le_of_ble_eq_true rfl) (own_c16id o_x.1 o_x.2) n_a1 dd_method_3_56 rfl ?_
  intro T11 h11 X11 K11 A11
  have A11' : own_Arr Z h11 a1 k1 .char [(.int (115 : Int32)), (.int (105 : Int32)), (.int (110 : Int32)), (.int (103 : Int32)), (.int (108 : Int32)), (.int (101 : Int32)), (.int (116 : Int32)), (.int (111 : Int32)), (.int (110 : Int32)), (.int ex)] := A11
  obtain ⟨b0, b1, b2, b3, b4, b5, b6, b7, b8, b9, p_b⟩ := own_ten ((own_B ex).set ps r) (by simp [own_B])
  have oA := own_Bok (p := ps) o_r o_x
  rw [p_b] at oA
  refine own_astore (pc' := 59) X11 dd_method_3_57 rfl rfl (Ls' := #[.val (.int (Int32.ofNat n)), .val (.int (Int32.ofNat ps)), .val (.int r), .val (.int ex), .val (.ref a1), .unset]) rfl ?_
  refine own_iload_n (pc' := 60) X11 dd_method_3_59 rfl rfl ?_
  refine own_bipush (pc' := 62) X11 dd_method_3_60 rfl (z := (10 : Int32)) (by decide) ?_
  by_cases h62 : (Int32.ofNat ps) < (10 : Int32)
  · refine own_icmpN (pc' := 65) X11 dd_method_3_62 rfl ((tlt h62).2.1) ?_
    refine own_aload (pc' := 67) X11 dd_method_3_65 rfl rfl rfl ?_
    refine own_iload_n (pc' := 68) X11 dd_method_3_67 rfl rfl ?_
    refine own_iload_n (pc' := 69) X11 dd_method_3_68 rfl rfl ?_
    have e9 : ps < 10 := Classical.byContradiction fun q => own_i32le (n := 10) (show 10 ≤ ps by omega) (by omega) h62
    refine own_castore (pc' := 70) (i := ps) (y := r) X11 A11' (own_i32 (by omega)) (by simp; omega) (own_c16id o_r.1 o_r.2) n_a1 dd_method_3_69 rfl ?_
    intro T12 h12 X12 K12 A12
    have A' : own_Arr Z h12 a1 k1 .char [.int b0, .int b1, .int b2, .int b3, .int b4, .int b5, .int b6, .int b7, .int b8, .int b9] := by have e7 := A12; have e8 := congrArg (List.map Value.int) p_b; rw [List.map_set] at e8; exact (show _ = [Value.int b0, Value.int b1, Value.int b2, Value.int b3, Value.int b4, Value.int b5, Value.int b6, Value.int b7, Value.int b8, Value.int b9] from e8) ▸ e7
    have age_a1 : h0.size ≤ a1 := Nat.le_trans (Nat.le_refl _) (Nat.le_of_eq (Eq.symm g1))
    exact own_dr70 hw EWf n ps r ex b0 b1 b2 b3 b4 b5 b6 b7 b8 b9 a1 k1 (own_mono X12 (by decide : 1 ≤ 1) (by decide : 10 ≤ 10) all0) hGe (((((((((((((Keep.refl h0 []).trans K1 all0).trans K2 (allS (Or.inr age_a1) all0)).trans K3 (allS (Or.inr age_a1) all0)).trans K4 (allS (Or.inr age_a1) all0)).trans K5 (allS (Or.inr age_a1) all0)).trans K6 (allS (Or.inr age_a1) all0)).trans K7 (allS (Or.inr age_a1) all0)).trans K8 (allS (Or.inr age_a1) all0)).trans K9 (allS (Or.inr age_a1) all0)).trans K10 (allS (Or.inr age_a1) all0)).trans K11 (allS (Or.inr age_a1) all0)).trans K12 (allS (Or.inr age_a1) all0)) A' p_b p_n (oA _ (by simp)) (oA _ (by simp)) (oA _ (by simp)) (oA _ (by simp)) (oA _ (by simp)) (oA _ (by simp)) (oA _ (by simp)) (oA _ (by simp)) (oA _ (by simp)) (oA _ (by simp)) U CS
  · refine own_icmpY (pc' := 70) X11 dd_method_3_62 ((flt h62).2.1) (by decide) (by decide) ?_
    have A' : own_Arr Z h11 a1 k1 .char [.int b0, .int b1, .int b2, .int b3, .int b4, .int b5, .int b6, .int b7, .int b8, .int b9] := by have e9 : ps = 10 := Classical.byContradiction fun q => h62 (own_i32lt (n := 10) (show ps < 10 by omega) (by decide)); subst e9; have e8 : own_B ex = [b0, b1, b2, b3, b4, b5, b6, b7, b8, b9] := p_b; have e7 := A11'; simp only [own_B, List.cons.injEq, and_true] at e8; obtain ⟨rfl, rfl, rfl, rfl, rfl, rfl, rfl, rfl, rfl, rfl⟩ := e8; exact e7
    have age_a1 : h0.size ≤ a1 := Nat.le_trans (Nat.le_refl _) (Nat.le_of_eq (Eq.symm g1))
    exact own_dr70 hw EWf n ps r ex b0 b1 b2 b3 b4 b5 b6 b7 b8 b9 a1 k1 (own_mono X11 (by decide : 1 ≤ 1) (by decide : 10 ≤ 10) all0) hGe ((((((((((((Keep.refl h0 []).trans K1 all0).trans K2 (allS (Or.inr age_a1) all0)).trans K3 (allS (Or.inr age_a1) all0)).trans K4 (allS (Or.inr age_a1) all0)).trans K5 (allS (Or.inr age_a1) all0)).trans K6 (allS (Or.inr age_a1) all0)).trans K7 (allS (Or.inr age_a1) all0)).trans K8 (allS (Or.inr age_a1) all0)).trans K9 (allS (Or.inr age_a1) all0)).trans K10 (allS (Or.inr age_a1) all0)).trans K11 (allS (Or.inr age_a1) all0)) A' p_b p_n (oA _ (by simp)) (oA _ (by simp)) (oA _ (by simp)) (oA _ (by simp)) (oA _ (by simp)) (oA _ (by simp)) (oA _ (by simp)) (oA _ (by simp)) (oA _ (by simp)) (oA _ (by simp)) U CS
theorem dd_prog_21_method_25_0 : decode prog_21_method_25_code 0 = .ok (.aload_n 0, 1) := by decide +kernel
theorem dd_prog_21_method_25_1 : decode prog_21_method_25_code 1 = .ok (.getfield 93, 3) := by decide +kernel
theorem dd_prog_21_method_25_4 : decode prog_21_method_25_code 4 = .ok (.ifnull 15, 3) := by decide +kernel
theorem dd_prog_21_method_25_19 : decode prog_21_method_25_code 19 = .ok (.iconst 1, 1) := by decide +kernel
theorem dd_prog_21_method_25_20 : decode prog_21_method_25_code 20 = .ok (.goto 4, 3) := by decide +kernel
theorem dd_prog_21_method_25_24 : decode prog_21_method_25_code 24 = .ok (.ireturn, 1) := by decide +kernel
theorem ef_own_isN (m : MethodId) (x0 : Addr) : entryFrame m #[(.ref x0)] 1 = mkF m 0 #[.val (.ref x0)] [] := by first | (simp [entryFrame, mkF, argsToLocals, Value.category]; done) | rfl
set_option maxRecDepth 65536 in
set_option maxHeartbeats 40000000 in
theorem own_isN (l : Launch) (Z : State) (a0 : Array Value) (hw : ∀ d ∈ tables_1, d.before a0 Z = true) (EWf : own_EW Z own_EL) (n0 : Nat) (a : Addr) (h0 : Heap) (O0 : Old Z n0 h0) (p_F : Fld Z h0 a "com/example/topf/topf/core/BeanDefinition" "scope" "Ljava/lang/String;" .null) :
    own_Met l Z own_EL [] false n0 (⟨"com/example/topf/topf/core/BeanDefinition", "isSingleton", "()Z"⟩ : MethodName) prog_21_method_25_code 1 (some .boolean) ({ frames := 0, cells := 0, slots := 0, locals := 0 } : Room) #[(.ref a)] h0 (fun v h => v = some (.int 1) ∧ h0 = h) := by
  refine own_enter (own := "com/example/topf/topf/core/BeanDefinition") (nm := "isSingleton") (plainFor_of_name pn_6) rfl rfl O0 EWf ?_
  have W : ∀ (k : Nat) {d : Jvm.Cond}, tables_1[k]? = some d → d.before a0 Z = true := fun k d q => hw d (List.mem_of_getElem? q)
  intro G p e s m below meth c T0 hGe X0
  rw [ef_own_isN m a]
  refine own_aload_n (pc' := 1) X0 dd_prog_21_method_25_0 rfl rfl rfl ?_
  refine own_get (pc' := 4) X0 (host := "") (Or.inl (W 104 rfl)) Via.refl p_F dd_prog_21_method_25_1 rfl ?_
  intro T1 X1
  refine own_ifnullY (pc' := 19) X1 dd_prog_21_method_25_4 (by decide) (by decide) ?_
  refine own_iconst (pc' := 20) X1 dd_prog_21_method_25_19 rfl (z := (1 : Int32)) (by decide) ?_
  refine own_goto (pc' := 24) X1 dd_prog_21_method_25_20 (by decide) (by decide) ?_
  exact own_ret X1 hGe (t := .boolean) rfl rfl (Or.inl ⟨rfl, by simp, _, rfl⟩) dd_prog_21_method_25_24 (by decide) (by decide) ⟨rfl, rfl⟩ nofun
theorem dd_prog_21_method_25_7 : decode prog_21_method_25_code 7 = .ok (.ldc 96, 2) := by decide +kernel
theorem dd_prog_21_method_25_9 : decode prog_21_method_25_code 9 = .ok (.aload_n 0, 1) := by decide +kernel
theorem dd_prog_21_method_25_10 : decode prog_21_method_25_code 10 = .ok (.getfield 93, 3) := by decide +kernel
theorem dd_prog_21_method_25_13 : decode prog_21_method_25_code 13 = .ok (.invokevirtual 98, 3) := by decide +kernel
theorem pd_12 : parseMethodDescriptor "(Ljava/lang/Object;)Z" = some ⟨[(.object "java/lang/Object")], some .boolean⟩ := by decide +kernel
theorem dd_prog_21_method_25_16 : decode prog_21_method_25_code 16 = .ok (.ifCond .eq 7, 3) := by decide +kernel
theorem dd_prog_21_method_25_23 : decode prog_21_method_25_code 23 = .ok (.iconst 0, 1) := by decide +kernel
theorem ef_own_isS (m : MethodId) (x0 : Addr) : entryFrame m #[(.ref x0)] 1 = mkF m 0 #[.val (.ref x0)] [] := by first | (simp [entryFrame, mkF, argsToLocals, Value.category]; done) | rfl
set_option maxRecDepth 65536 in
set_option maxHeartbeats 40000000 in
theorem own_isS (l : Launch) (Z : State) (a0 : Array Value) (hw : ∀ d ∈ tables_1, d.before a0 Z = true) (EWf : own_EW Z own_EL) (n0 : Nat) (a x t : Addr) (cs : List Int32) (h0 : Heap) (O0 : Old Z n0 h0) (p_F : Fld Z h0 a "com/example/topf/topf/core/BeanDefinition" "scope" "Ljava/lang/String;" (.ref x)) (p_S : own_Str Z h0 x t cs) (CS : own_CS Z) :
    own_Met l Z own_EL [] false n0 (⟨"com/example/topf/topf/core/BeanDefinition", "isSingleton", "()Z"⟩ : MethodName) prog_21_method_25_code 1 (some .boolean) ({ frames := 2, cells := 2, slots := 40, locals := 28 } : Room) #[(.ref a)] h0 (fun v h => v = some (.int (if own_sg = cs then 1 else 0)) ∧ Keep h0 h []) := by
  refine own_enter (own := "com/example/topf/topf/core/BeanDefinition") (nm := "isSingleton") (plainFor_of_name pn_6) rfl rfl O0 EWf ?_
  have W : ∀ (k : Nat) {d : Jvm.Cond}, tables_1[k]? = some d → d.before a0 Z = true := fun k d q => hw d (List.mem_of_getElem? q)
  intro G p e s m below meth c T0 hGe X0
  rw [ef_own_isS m a]
  refine own_aload_n (pc' := 1) X0 dd_prog_21_method_25_0 rfl rfl rfl ?_
  refine own_get (pc' := 4) X0 (host := "") (Or.inl (W 104 rfl)) Via.refl p_F dd_prog_21_method_25_1 rfl ?_
  intro T1 X1
  refine own_ifnullN (pc' := 7) X1 dd_prog_21_method_25_4 rfl ?_
  refine own_ldcR (pc' := 9) (cells' := 2) (slots' := 40) (n := 36) (text := "singleton") (vs := [(.int 115), (.int 105), (.int 110), (.int 103), (.int 108), (.int 101), (.int 116), (.int 111), (.int 110)]) X1 (W 127 rfl) (fun d hd => hw d (own_in_atoms d hd)) (List.mem_of_getElem? (i := 0) rfl) ⟨by decide, by decide⟩ (by decide) (by decide) (by decide) dd_prog_21_method_25_7 rfl rfl rfl (by decide) (by decide) ?_
  intro T2 h2 s2 a2 b2 k2 X2 K2 E2 Fc2 Fv2 A2 N2
  have S3 := own_StrLit (cs := own_sg) E2 Fv2 Fc2 A2 (by decide) (by decide) (by decide)
  refine own_aload_n (pc' := 10) X2 dd_prog_21_method_25_9 rfl rfl rfl ?_
  have f4 := (p_F.keep K2 nin0)
  refine own_get (pc' := 13) X2 (host := "") (Or.inl (W 104 rfl)) Via.refl f4 dd_prog_21_method_25_10 rfl ?_
  intro T5 X5
  have f6 := (p_S.keep K2 nin0 nin0)
  refine own_streq (pc' := 16) (W := 0) X5 (fun d hd => hw d (own_in_wordsEq d hd)) CS (W 128 rfl) (W 129 rfl) (W 131 rfl) (W 130 rfl) (W 8 rfl) S3 f6 (by decide) (by decide) (lenOf (L := [.ref x]) pd_12 rfl) rfl rfl dd_prog_21_method_25_13 rfl (by decide) (by decide) ?_
  intro T7 X7
  by_cases hc : own_sg = cs
  · rw [if_pos hc]
    refine own_ifN (pc' := 19) X7 dd_prog_21_method_25_16 rfl ((feq (by decide)).1) ?_
    refine own_iconst (pc' := 20) X7 dd_prog_21_method_25_19 rfl (z := (1 : Int32)) (by decide) ?_
    refine own_goto (pc' := 24) X7 dd_prog_21_method_25_20 (by decide) (by decide) ?_
    exact own_ret X7 hGe (t := .boolean) rfl rfl (Or.inl ⟨rfl, by simp, _, rfl⟩) dd_prog_21_method_25_24 (by decide) (by decide) ⟨by rw [if_pos hc], ((Keep.refl h0 []).trans K2 all0)⟩ nofun
  · rw [if_neg hc]
    refine own_ifY (pc' := 23) X7 dd_prog_21_method_25_16 ((teq rfl).1) (by decide) (by decide) ?_
    refine own_iconst (pc' := 24) X7 dd_prog_21_method_25_23 rfl (z := (0 : Int32)) (by decide) ?_
    exact own_ret X7 hGe (t := .boolean) rfl rfl (Or.inl ⟨rfl, by simp, _, rfl⟩) dd_prog_21_method_25_24 (by decide) (by decide) ⟨by rw [if_neg hc], ((Keep.refl h0 []).trans K2 all0)⟩ nofun
theorem pd_13 : parseMethodDescriptor "(IICC)Ljava/lang/String;" = some ⟨[.int, .int, .char, .char], some (.object "java/lang/String")⟩ := by decide +kernel
theorem pd_14 : parseMethodDescriptor "(Ljava/lang/String;Ljava/lang/String;Ljava/lang/String;)V" = some ⟨[(.object "java/lang/String"), (.object "java/lang/String"), (.object "java/lang/String")], none⟩ := by decide +kernel
theorem pd_15 : parseMethodDescriptor "()Z" = some ⟨[], some .boolean⟩ := by decide +kernel
set_option maxRecDepth 65536 in
set_option maxHeartbeats 40000000 in
theorem own_165 {G : State → JFrame → Prop} {p : Program} {l : Launch} {e : Env} {s0 s : State} {m : MethodId} {args : Array Value} {below : List Frame} {meth : Method} {c : Code} {Z : State} {a0 : Array Value} {n0 : Nat} {T0 : State} {h0 : Heap} (hw : ∀ d ∈ tables_1, d.before a0 Z = true) (EWf : own_EW Z own_EL) (i0 i1 i2 i3 : Int32) (n ps : Nat) (sl r ex : Int32) (d x t : Addr) (z : Int32)
    (X0 : own_At G p l e room_1 s0 s own_EL [] m args below meth c Z n0 "com/example/topf/topf/core/BeanDefinitionIsSingletonPinLaw" "law" code maxLocals ret T0 h0 18 203) (hGe : G = own_Fin p e below s0 own_EL false Z n0 (fun v h => v = some (.int 1)) room_1.cells room_1.slots) (p_E : Exa Z h0 d "com/example/topf/topf/core/BeanDefinition") (p_F : Fld Z h0 d "com/example/topf/topf/core/BeanDefinition" "scope" "Ljava/lang/String;" (.ref x)) (p_S : own_Str Z h0 x t (own_dr n ps r ex)) (p_z : z = (if own_sg = own_dr n ps r ex then (1 : Int32) else 0)) (CS : own_CS Z) :
    G T0 (mkF m 165 #[.val (.int i0), .val (.int i1), .val (.int i2), .val (.int i3), .val (.int sl), .val (.int (Int32.ofNat ps)), .val (.int (Int32.ofNat n)), .val (.int r), .val (.int ex), .val (.ref x), .val (.ref d), .unset] [(.int z)]) := by
  have W : ∀ (k : Nat) {d : Jvm.Cond}, tables_1[k]? = some d → d.before a0 Z = true := fun k d q => hw d (List.mem_of_getElem? q)
  refine own_istore (pc' := 167) X0 at_165 rfl (Ls' := #[.val (.int i0), .val (.int i1), .val (.int i2), .val (.int i3), .val (.int sl), .val (.int (Int32.ofNat ps)), .val (.int (Int32.ofNat n)), .val (.int r), .val (.int ex), .val (.ref x), .val (.ref d), .val (.int z)]) rfl ?_
  refine own_aload (pc' := 169) X0 at_167 rfl rfl rfl ?_
  refine own_callVM (pc' := 172) (cells' := 20) (slots' := 243) (argsL := []) (rest := []) (W := 0) (y := (⟨"com/example/topf/topf/core/BeanDefinition", "isSingleton", "()Z"⟩ : MethodName)) (z := (⟨"com/example/topf/topf/core/BeanDefinition", "isSingleton", "()Z"⟩ : MethodName)) (a := d) X0 (W 99 rfl) (W 100 rfl) (fun s' hZ' => notFace_of_selects (args := #[]) (mvT hZ' (W 102 rfl))) (W 102 rfl) (W 101 rfl) (by decide) p_E (own_isS l Z a0 hw EWf n0 d x t (own_dr n ps r ex) h0 (own_old X0) p_F p_S CS) all0 (W 103 rfl) (W 38 rfl) (by decide) (by decide) rfl (lenOf pd_15 rfl) rfl rfl at_169 rfl rfl rfl rfl (by decide) (by decide) ?_
  intro v1 T1 h1 s1 X1 q1 r1
  obtain ⟨rfl, K1⟩ := q1
  show G T1 (mkF m 172 #[.val (.int i0), .val (.int i1), .val (.int i2), .val (.int i3), .val (.int sl), .val (.int (Int32.ofNat ps)), .val (.int (Int32.ofNat n)), .val (.int r), .val (.int ex), .val (.ref x), .val (.ref d), .val (.int z)] [(.int (if own_sg = own_dr n ps r ex then (1 : Int32) else 0))])
  refine own_iload (pc' := 174) X1 at_172 rfl rfl ?_
  refine own_icmpN (pc' := 177) X1 at_174 rfl ((teq (Eq.symm p_z)).2) ?_
  refine own_iconst (pc' := 178) X1 at_177 rfl (z := (1 : Int32)) (by decide) ?_
  refine own_goto (pc' := 182) X1 at_178 (by decide) (by decide) ?_
  exact own_ret X1 hGe (t := .boolean) rfl rfl (Or.inl ⟨rfl, by simp, _, rfl⟩) at_182 (by decide) (by decide) rfl nofun
theorem pd_16 : parseMethodDescriptor "(Ljava/lang/String;)V" = some ⟨[(.object "java/lang/String")], none⟩ := by decide +kernel
theorem pd_17 : parseMethodDescriptor "(I)C" = some ⟨[.int], some .char⟩ := by decide +kernel
theorem ef_own_law (m : MethodId) (x0 : Int32) (x1 : Int32) (x2 : Int32) (x3 : Int32) : entryFrame m #[(.int x0), (.int x1), (.int x2), (.int x3)] maxLocals = mkF m 0 #[.val (.int x0), .val (.int x1), .val (.int x2), .val (.int x3), .unset, .unset, .unset, .unset, .unset, .unset, .unset, .unset] [] := by first | (simp [entryFrame, mkF, argsToLocals, Value.category, maxLocals]; done) | rfl
set_option maxRecDepth 65536 in
set_option maxHeartbeats 40000000 in
theorem own_law (l : Launch) (Z : State) (a0 : Array Value) (hw : ∀ d ∈ tables_1, d.before a0 Z = true) (EWf : own_EW Z own_EL) (n0 : Nat) (i0 i1 i2 i3 : Int32) (em ea : Addr) (h0 : Heap) (O0 : Old Z n0 h0) (CS : own_CS Z) (SF : own_SF Z) (U : own_U16 Z) (EM : own_EMP Z em ea) :
    own_Met l Z own_EL [] false n0 x code maxLocals ret room_1 #[(.int i0), (.int i1), (.int i2), (.int i3)] h0 (fun v h => v = some (.int 1)) := by
  refine own_enter (own := "com/example/topf/topf/core/BeanDefinitionIsSingletonPinLaw") (nm := "law") (plainFor_of_name pn_8) rfl rfl O0 EWf ?_
  have W : ∀ (k : Nat) {d : Jvm.Cond}, tables_1[k]? = some d → d.before a0 Z = true := fun k d q => hw d (List.mem_of_getElem? q)
  intro G p e s m below meth c T0 hGe X0
  rw [ef_own_law m i0 i1 i2 i3]
  refine own_iload_n (pc' := 1) X0 at_0 rfl rfl ?_
  refine own_iconst (pc' := 2) X0 at_1 rfl (z := (3 : Int32)) (by decide) ?_
  refine own_iand (pc' := 3) X0 at_2 rfl (r := (i0 &&& (3 : Int32))) rfl ?_
  refine own_istore (pc' := 5) X0 at_3 rfl (Ls' := #[.val (.int i0), .val (.int i1), .val (.int i2), .val (.int i3), .val (.int (i0 &&& (3 : Int32))), .unset, .unset, .unset, .unset, .unset, .unset, .unset]) rfl ?_
  refine own_iload_n (pc' := 6) X0 at_5 rfl rfl ?_
  refine own_ldcI (pc' := 8) X0 (v := (2147483647 : Int32)) (W 0 rfl) at_6 rfl ?_
  refine own_iand (pc' := 9) X0 at_8 rfl (r := (i1 &&& (2147483647 : Int32))) rfl ?_
  refine own_bipush (pc' := 11) X0 at_9 rfl (z := (11 : Int32)) (by decide) ?_
  refine own_irem (pc' := 12) X0 at_11 rfl (by decide) ?_
  obtain ⟨p', p_p, e_p⟩ := own_11 i1
  rw [e_p]
  refine own_istore (pc' := 14) X0 at_12 rfl (Ls' := #[.val (.int i0), .val (.int i1), .val (.int i2), .val (.int i3), .val (.int (i0 &&& (3 : Int32))), .val (.int (Int32.ofNat p')), .unset, .unset, .unset, .unset, .unset, .unset]) rfl ?_
  refine own_iload_n (pc' := 15) X0 at_14 rfl rfl ?_
  refine own_ldcI (pc' := 17) X0 (v := (2147483647 : Int32)) (W 0 rfl) at_15 rfl ?_
  refine own_iand (pc' := 18) X0 at_17 rfl (r := (i3 &&& (2147483647 : Int32))) rfl ?_
  refine own_bipush (pc' := 20) X0 at_18 rfl (z := (11 : Int32)) (by decide) ?_
  refine own_irem (pc' := 21) X0 at_20 rfl (by decide) ?_
  obtain ⟨n', p_n, e_n⟩ := own_11 i3
  rw [e_n]
  refine own_istore (pc' := 23) X0 at_21 rfl (Ls' := #[.val (.int i0), .val (.int i1), .val (.int i2), .val (.int i3), .val (.int (i0 &&& (3 : Int32))), .val (.int (Int32.ofNat p')), .val (.int (Int32.ofNat n')), .unset, .unset, .unset, .unset, .unset]) rfl ?_
  refine own_iload_n (pc' := 24) X0 at_23 rfl rfl ?_
  refine own_ldcI (pc' := 26) X0 (v := (65535 : Int32)) (W 1 rfl) at_24 rfl ?_
  refine own_iand (pc' := 27) X0 at_26 rfl (r := (i2 &&& (65535 : Int32))) rfl ?_
  refine own_i2c (pc' := 28) X0 at_27 rfl ?_
  have o_r := own_r16 (i2 &&& (65535 : Int32))
  generalize (own_c16 (i2 &&& (65535 : Int32))) = r at o_r ⊢
  refine own_istore (pc' := 30) X0 at_28 rfl (Ls' := #[.val (.int i0), .val (.int i1), .val (.int i2), .val (.int i3), .val (.int (i0 &&& (3 : Int32))), .val (.int (Int32.ofNat p')), .val (.int (Int32.ofNat n')), .val (.int r), .unset, .unset, .unset, .unset]) rfl ?_
  refine own_iload_n (pc' := 31) X0 at_30 rfl rfl ?_
  refine own_bipush (pc' := 33) X0 at_31 rfl (z := (16 : Int32)) (by decide) ?_
  refine own_iushr (pc' := 34) X0 at_33 rfl (r := (own_ushr i2 (16 : Int32))) rfl ?_
  refine own_ldcI (pc' := 36) X0 (v := (65535 : Int32)) (W 1 rfl) at_34 rfl ?_
  refine own_iand (pc' := 37) X0 at_36 rfl (r := ((own_ushr i2 (16 : Int32)) &&& (65535 : Int32))) rfl ?_
  refine own_i2c (pc' := 38) X0 at_37 rfl ?_
  have o_x := own_r16 ((own_ushr i2 (16 : Int32)) &&& (65535 : Int32))
  generalize (own_c16 ((own_ushr i2 (16 : Int32)) &&& (65535 : Int32))) = ex at o_x ⊢
  refine own_istore (pc' := 40) X0 at_38 rfl (Ls' := #[.val (.int i0), .val (.int i1), .val (.int i2), .val (.int i3), .val (.int (i0 &&& (3 : Int32))), .val (.int (Int32.ofNat p')), .val (.int (Int32.ofNat n')), .val (.int r), .val (.int ex), .unset, .unset, .unset]) rfl ?_
  refine own_iload (pc' := 42) X0 at_40 rfl rfl ?_
  refine own_iload (pc' := 44) X0 at_42 rfl rfl ?_
  refine own_iload (pc' := 46) X0 at_44 rfl rfl ?_
  refine own_iload (pc' := 48) X0 at_46 rfl rfl ?_
  refine own_callSM (pc' := 51) (cells' := 10) (slots' := 100) (argsL := [(.int (Int32.ofNat n')), (.int (Int32.ofNat p')), (.int r), (.int ex)]) (rest := []) (W := 0) (y := (⟨"com/example/topf/topf/core/BeanDefinitionIsSingletonPinLaw", "drawn", "(IICC)Ljava/lang/String;"⟩ : MethodName)) X0 (W 2 rfl) (W 3 rfl) (by decide) (own_drawn l Z a0 hw EWf n0 n' p' r ex h0 (own_old X0) p_n p_p o_r o_x U CS) all0 (W 5 rfl) (W 4 rfl) (by decide) (by decide) rfl (lenOf pd_13 rfl) rfl rfl at_48 rfl rfl rfl rfl (by decide) (by decide) ?_
  intro v1 T1 h1 s1 X1 q1 r1
  obtain ⟨x1, t1, rfl, K1, S1⟩ := q1
  show G T1 (mkF m 51 #[.val (.int i0), .val (.int i1), .val (.int i2), .val (.int i3), .val (.int (i0 &&& (3 : Int32))), .val (.int (Int32.ofNat p')), .val (.int (Int32.ofNat n')), .val (.int r), .val (.int ex), .unset, .unset, .unset] [(.ref x1)])
  refine own_astore (pc' := 53) X1 at_51 rfl rfl (Ls' := #[.val (.int i0), .val (.int i1), .val (.int i2), .val (.int i3), .val (.int (i0 &&& (3 : Int32))), .val (.int (Int32.ofNat p')), .val (.int (Int32.ofNat n')), .val (.int r), .val (.int ex), .val (.ref x1), .unset, .unset]) rfl ?_
  refine own_new (pc' := 56) (cells' := 11) (slots' := 127) X1 (W 36 rfl) (W 37 rfl) (W 38 rfl) at_53 rfl rfl rfl (by decide) (by decide) ?_
  intro T2 h2 a2 g2 X2 K2 E2 D2 U2
  have n_a2 : n0 ≤ a2 := by rw [g2]; exact own_n0 X1
  have F2_aliases : Fld Z h2 a2 "com/example/topf/topf/core/BeanDefinition" "aliases" "Ljava/util/List;" .null := D2 (Or.inl (W 54 rfl)) (ty := (.object "java/util/List")) (by decide)
  have F2_dependsOn : Fld Z h2 a2 "com/example/topf/topf/core/BeanDefinition" "dependsOn" "Ljava/util/List;" .null := D2 (Or.inl (W 56 rfl)) (ty := (.object "java/util/List")) (by decide)
  have F2_constructorArguments : Fld Z h2 a2 "com/example/topf/topf/core/BeanDefinition" "constructorArguments" "Ljava/util/List;" .null := D2 (Or.inl (W 58 rfl)) (ty := (.object "java/util/List")) (by decide)
  have F2_properties : Fld Z h2 a2 "com/example/topf/topf/core/BeanDefinition" "properties" "Ljava/util/Map;" .null := D2 (Or.inr (W 86 rfl)) (ty := (.object "java/util/Map")) (by decide)
  have F2_qualifiers : Fld Z h2 a2 "com/example/topf/topf/core/BeanDefinition" "qualifiers" "Ljava/util/List;" .null := D2 (Or.inl (W 88 rfl)) (ty := (.object "java/util/List")) (by decide)
  have F2_autowireCandidate : Fld Z h2 a2 "com/example/topf/topf/core/BeanDefinition" "autowireCandidate" "Z" (.int (0 : Int32)) := D2 (Or.inl (W 90 rfl)) (ty := .boolean) (by decide)
  have F2_changeCounts : Fld Z h2 a2 "com/example/topf/topf/core/BeanDefinition" "changeCounts" "Ljava/util/List;" .null := D2 (Or.inl (W 92 rfl)) (ty := (.object "java/util/List")) (by decide)
  have F2_name : Fld Z h2 a2 "com/example/topf/topf/core/BeanDefinition" "name" "Ljava/lang/String;" .null := D2 (Or.inr (W 94 rfl)) (ty := (.object "java/lang/String")) (by decide)
  have F2_className : Fld Z h2 a2 "com/example/topf/topf/core/BeanDefinition" "className" "Ljava/lang/String;" .null := D2 (Or.inl (W 96 rfl)) (ty := (.object "java/lang/String")) (by decide)
  have F2_location : Fld Z h2 a2 "com/example/topf/topf/core/BeanDefinition" "location" "Ljava/lang/String;" .null := D2 (Or.inr (W 98 rfl)) (ty := (.object "java/lang/String")) (by decide)
  have F2_scope : Fld Z h2 a2 "com/example/topf/topf/core/BeanDefinition" "scope" "Ljava/lang/String;" .null := D2 (Or.inl (W 105 rfl)) (ty := (.object "java/lang/String")) (by decide)
  refine own_dup (pc' := 57) X2 at_56 rfl rfl ?_
  refine own_ldcO (pc' := 59) (cells' := 13) (slots' := 135) (n := 4) (text := "b") X2 (W 39 rfl) (fun d hd => hw d (own_in_atoms d hd)) (by decide) (by decide) at_57 rfl rfl rfl (by decide) (by decide) ?_
  intro T3 h3 s3 a3 X3 K3
  refine own_ldcO (pc' := 61) (cells' := 15) (slots' := 151) (n := 12) (text := "x.Y") X3 (W 42 rfl) (fun d hd => hw d (own_in_atoms d hd)) (by decide) (by decide) at_59 rfl rfl rfl (by decide) (by decide) ?_
  intro T4 h4 s4 a4 X4 K4
  refine own_aconst_null (pc' := 62) X4 at_61 rfl ?_
  have f5 := ((F2_aliases.keep K3 nin0).keep K4 nin0)
  have f6 := ((F2_dependsOn.keep K3 nin0).keep K4 nin0)
  have f7 := ((F2_constructorArguments.keep K3 nin0).keep K4 nin0)
  have f8 := ((F2_properties.keep K3 nin0).keep K4 nin0)
  have f9 := ((F2_qualifiers.keep K3 nin0).keep K4 nin0)
  have f10 := ((F2_autowireCandidate.keep K3 nin0).keep K4 nin0)
  have f11 := ((F2_changeCounts.keep K3 nin0).keep K4 nin0)
  have f12 := ((F2_name.keep K3 nin0).keep K4 nin0)
  have f13 := ((F2_className.keep K3 nin0).keep K4 nin0)
  have f14 := ((F2_location.keep K3 nin0).keep K4 nin0)
  have f15 := ((F2_scope.keep K3 nin0).keep K4 nin0)
  have f16 := ((E2.keep K3).keep K4)
  refine own_callIM (pc' := 65) (cells' := 16) (slots' := 163) (argsL := [(.ref a3), (.ref a4), .null]) (rest := [(.ref a2)]) (W := 1) (y := (⟨"com/example/topf/topf/core/BeanDefinition", "<init>", "(Ljava/lang/String;Ljava/lang/String;Ljava/lang/String;)V"⟩ : MethodName)) (a := a2) X4 (W 43 rfl) (W 44 rfl) rfl (by decide) (own_bdi l Z a0 hw EWf n0 a2 a3 a4 em ea h4 (own_old X4) n_a2 f16 f5 f6 f7 f8 f9 f10 f11 f12 f13 f14 f15 EM) all0 (W 45 rfl) (W 38 rfl) (by decide) (by decide) rfl (lenOf pd_14 rfl) rfl rfl at_62 rfl rfl rfl rfl (by decide) (by decide) ?_
  intro v17 T17 h17 s17 X17 q17 r17
  obtain ⟨rfl, K17, E17, F17, G17⟩ := q17
  show G T17 (mkF m 65 #[.val (.int i0), .val (.int i1), .val (.int i2), .val (.int i3), .val (.int (i0 &&& (3 : Int32))), .val (.int (Int32.ofNat p')), .val (.int (Int32.ofNat n')), .val (.int r), .val (.int ex), .val (.ref x1), .unset, .unset] [(.ref a2)])
  refine own_astore (pc' := 67) X17 at_65 rfl rfl (Ls' := #[.val (.int i0), .val (.int i1), .val (.int i2), .val (.int i3), .val (.int (i0 &&& (3 : Int32))), .val (.int (Int32.ofNat p')), .val (.int (Int32.ofNat n')), .val (.int r), .val (.int ex), .val (.ref x1), .val (.ref a2), .unset]) rfl ?_
  rcases own_4 i0 with e4 | e4 | e4 | e4
  · rw [e4]
    show G T17 (mkF m 67 #[.val (.int i0), .val (.int i1), .val (.int i2), .val (.int i3), .val (.int (0 : Int32)), .val (.int (Int32.ofNat p')), .val (.int (Int32.ofNat n')), .val (.int r), .val (.int ex), .val (.ref x1), .val (.ref a2), .unset] [])
    refine own_iload (pc' := 69) X17 at_67 rfl rfl ?_
    refine own_iconst (pc' := 70) X17 at_69 rfl (z := (1 : Int32)) (by decide) ?_
    refine own_icmpY (pc' := 82) X17 at_70 ((feq (by decide)).2) (by decide) (by decide) ?_
    refine own_iload (pc' := 84) X17 at_82 rfl rfl ?_
    refine own_iconst (pc' := 85) X17 at_84 rfl (z := (2 : Int32)) (by decide) ?_
    refine own_icmpY (pc' := 98) X17 at_85 ((feq (by decide)).2) (by decide) (by decide) ?_
    refine own_iload (pc' := 100) X17 at_98 rfl rfl ?_
    refine own_iconst (pc' := 101) X17 at_100 rfl (z := (3 : Int32)) (by decide) ?_
    refine own_icmpY (pc' := 117) X17 at_101 ((feq (by decide)).2) (by decide) (by decide) ?_
    refine own_iload (pc' := 119) X17 at_117 rfl rfl ?_
    refine own_ifY (pc' := 128) X17 at_119 ((teq rfl).1) (by decide) (by decide) ?_
    refine own_iconst (pc' := 129) X17 at_128 rfl (z := (1 : Int32)) (by decide) ?_
    refine own_istore (pc' := 131) X17 at_129 rfl (Ls' := #[.val (.int i0), .val (.int i1), .val (.int i2), .val (.int i3), .val (.int (0 : Int32)), .val (.int (Int32.ofNat p')), .val (.int (Int32.ofNat n')), .val (.int r), .val (.int ex), .val (.ref x1), .val (.ref a2), .val (.int (1 : Int32))]) rfl ?_
    refine own_goto (pc' := 167) X17 at_131 (by decide) (by decide) ?_
    refine own_aload (pc' := 169) X17 at_167 rfl rfl rfl ?_
    refine own_callVM (pc' := 172) (cells' := 16) (slots' := 163) (argsL := []) (rest := []) (W := 0) (y := (⟨"com/example/topf/topf/core/BeanDefinition", "isSingleton", "()Z"⟩ : MethodName)) (z := (⟨"com/example/topf/topf/core/BeanDefinition", "isSingleton", "()Z"⟩ : MethodName)) (a := a2) X17 (W 99 rfl) (W 100 rfl) (fun s' hZ' => notFace_of_selects (args := #[]) (mvT hZ' (W 102 rfl))) (W 102 rfl) (W 101 rfl) (by decide) E17 (own_isN l Z a0 hw EWf n0 a2 h17 (own_old X17) F17) all0 (W 103 rfl) (W 38 rfl) (by decide) (by decide) rfl (lenOf pd_15 rfl) rfl rfl at_169 rfl rfl rfl rfl (by decide) (by decide) ?_
    intro v18 T18 h18 s18 X18 q18 r18
    obtain ⟨rfl, rfl⟩ := q18
    show G T18 (mkF m 172 #[.val (.int i0), .val (.int i1), .val (.int i2), .val (.int i3), .val (.int (0 : Int32)), .val (.int (Int32.ofNat p')), .val (.int (Int32.ofNat n')), .val (.int r), .val (.int ex), .val (.ref x1), .val (.ref a2), .val (.int (1 : Int32))] [(.int (1 : Int32))])
    refine own_iload (pc' := 174) X18 at_172 rfl rfl ?_
    refine own_icmpN (pc' := 177) X18 at_174 rfl ((teq rfl).2) ?_
    refine own_iconst (pc' := 178) X18 at_177 rfl (z := (1 : Int32)) (by decide) ?_
    refine own_goto (pc' := 182) X18 at_178 (by decide) (by decide) ?_
    exact own_ret X18 hGe (t := .boolean) rfl rfl (Or.inl ⟨rfl, by simp, _, rfl⟩) at_182 (by decide) (by decide) rfl nofun
  · rw [e4]
    show G T17 (mkF m 67 #[.val (.int i0), .val (.int i1), .val (.int i2), .val (.int i3), .val (.int (1 : Int32)), .val (.int (Int32.ofNat p')), .val (.int (Int32.ofNat n')), .val (.int r), .val (.int ex), .val (.ref x1), .val (.ref a2), .unset] [])
    refine own_iload (pc' := 69) X17 at_67 rfl rfl ?_
    refine own_iconst (pc' := 70) X17 at_69 rfl (z := (1 : Int32)) (by decide) ?_
    refine own_icmpN (pc' := 73) X17 at_70 rfl ((teq rfl).2) ?_
    refine own_aload (pc' := 75) X17 at_73 rfl rfl rfl ?_
    refine own_aconst_null (pc' := 76) X17 at_75 rfl ?_
    refine own_callVM (pc' := 79) (cells' := 16) (slots' := 163) (argsL := [.null]) (rest := []) (W := 0) (y := (⟨"com/example/topf/topf/core/BeanDefinition", "setScope", "(Ljava/lang/String;)V"⟩ : MethodName)) (z := (⟨"com/example/topf/topf/core/BeanDefinition", "setScope", "(Ljava/lang/String;)V"⟩ : MethodName)) (a := a2) X17 (W 106 rfl) (W 107 rfl) (fun s' hZ' => notFace_of_selects (args := #[]) (mvT hZ' (W 109 rfl))) (W 109 rfl) (W 108 rfl) (by decide) E17 (own_setN l Z a0 hw EWf n0 a2 em ea  h17 (own_old X17) n_a2 E17 F17 G17 EM) all0 (W 110 rfl) (W 38 rfl) (by decide) (by decide) rfl (lenOf pd_16 rfl) rfl rfl at_76 rfl rfl rfl rfl (by decide) (by decide) ?_
    intro v19 T19 h19 s19 X19 q19 r19
    obtain ⟨rfl, K19, E19, F19, G19⟩ := q19
    show G T19 (mkF m 79 #[.val (.int i0), .val (.int i1), .val (.int i2), .val (.int i3), .val (.int (1 : Int32)), .val (.int (Int32.ofNat p')), .val (.int (Int32.ofNat n')), .val (.int r), .val (.int ex), .val (.ref x1), .val (.ref a2), .unset] [])
    refine own_goto (pc' := 117) X19 at_79 (by decide) (by decide) ?_
    refine own_iload (pc' := 119) X19 at_117 rfl rfl ?_
    refine own_ifN (pc' := 122) X19 at_119 rfl ((feq (by decide)).1) ?_
    refine own_iload (pc' := 124) X19 at_122 rfl rfl ?_
    refine own_iconst (pc' := 125) X19 at_124 rfl (z := (1 : Int32)) (by decide) ?_
    refine own_icmpN (pc' := 128) X19 at_125 rfl ((teq rfl).2) ?_
    refine own_iconst (pc' := 129) X19 at_128 rfl (z := (1 : Int32)) (by decide) ?_
    refine own_istore (pc' := 131) X19 at_129 rfl (Ls' := #[.val (.int i0), .val (.int i1), .val (.int i2), .val (.int i3), .val (.int (1 : Int32)), .val (.int (Int32.ofNat p')), .val (.int (Int32.ofNat n')), .val (.int r), .val (.int ex), .val (.ref x1), .val (.ref a2), .val (.int (1 : Int32))]) rfl ?_
    refine own_goto (pc' := 167) X19 at_131 (by decide) (by decide) ?_
    refine own_aload (pc' := 169) X19 at_167 rfl rfl rfl ?_
    refine own_callVM (pc' := 172) (cells' := 16) (slots' := 163) (argsL := []) (rest := []) (W := 0) (y := (⟨"com/example/topf/topf/core/BeanDefinition", "isSingleton", "()Z"⟩ : MethodName)) (z := (⟨"com/example/topf/topf/core/BeanDefinition", "isSingleton", "()Z"⟩ : MethodName)) (a := a2) X19 (W 99 rfl) (W 100 rfl) (fun s' hZ' => notFace_of_selects (args := #[]) (mvT hZ' (W 102 rfl))) (W 102 rfl) (W 101 rfl) (by decide) E19 (own_isN l Z a0 hw EWf n0 a2 h19 (own_old X19) F19) all0 (W 103 rfl) (W 38 rfl) (by decide) (by decide) rfl (lenOf pd_15 rfl) rfl rfl at_169 rfl rfl rfl rfl (by decide) (by decide) ?_
    intro v20 T20 h20 s20 X20 q20 r20
    obtain ⟨rfl, rfl⟩ := q20
    show G T20 (mkF m 172 #[.val (.int i0), .val (.int i1), .val (.int i2), .val (.int i3), .val (.int (1 : Int32)), .val (.int (Int32.ofNat p')), .val (.int (Int32.ofNat n')), .val (.int r), .val (.int ex), .val (.ref x1), .val (.ref a2), .val (.int (1 : Int32))] [(.int (1 : Int32))])
    refine own_iload (pc' := 174) X20 at_172 rfl rfl ?_
    refine own_icmpN (pc' := 177) X20 at_174 rfl ((teq rfl).2) ?_
    refine own_iconst (pc' := 178) X20 at_177 rfl (z := (1 : Int32)) (by decide) ?_
    refine own_goto (pc' := 182) X20 at_178 (by decide) (by decide) ?_
    exact own_ret X20 hGe (t := .boolean) rfl rfl (Or.inl ⟨rfl, by simp, _, rfl⟩) at_182 (by decide) (by decide) rfl nofun
  · rw [e4]
    show G T17 (mkF m 67 #[.val (.int i0), .val (.int i1), .val (.int i2), .val (.int i3), .val (.int (2 : Int32)), .val (.int (Int32.ofNat p')), .val (.int (Int32.ofNat n')), .val (.int r), .val (.int ex), .val (.ref x1), .val (.ref a2), .unset] [])
    refine own_iload (pc' := 69) X17 at_67 rfl rfl ?_
    refine own_iconst (pc' := 70) X17 at_69 rfl (z := (1 : Int32)) (by decide) ?_
    refine own_icmpY (pc' := 82) X17 at_70 ((feq (by decide)).2) (by decide) (by decide) ?_
    refine own_iload (pc' := 84) X17 at_82 rfl rfl ?_
    refine own_iconst (pc' := 85) X17 at_84 rfl (z := (2 : Int32)) (by decide) ?_
    refine own_icmpN (pc' := 88) X17 at_85 rfl ((teq rfl).2) ?_
    refine own_aload (pc' := 90) X17 at_88 rfl rfl rfl ?_
    refine own_aload (pc' := 92) X17 at_90 rfl rfl rfl ?_
    refine own_callVM (pc' := 95) (cells' := 16) (slots' := 163) (argsL := [(.ref x1)]) (rest := []) (W := 0) (y := (⟨"com/example/topf/topf/core/BeanDefinition", "setScope", "(Ljava/lang/String;)V"⟩ : MethodName)) (z := (⟨"com/example/topf/topf/core/BeanDefinition", "setScope", "(Ljava/lang/String;)V"⟩ : MethodName)) (a := a2) X17 (W 106 rfl) (W 107 rfl) (fun s' hZ' => notFace_of_selects (args := #[]) (mvT hZ' (W 109 rfl))) (W 109 rfl) (W 108 rfl) (by decide) E17 (own_setR l Z a0 hw EWf n0 a2 em ea x1 h17 (own_old X17) n_a2 E17 F17 G17 EM) all0 (W 110 rfl) (W 38 rfl) (by decide) (by decide) rfl (lenOf pd_16 rfl) rfl rfl at_92 rfl rfl rfl rfl (by decide) (by decide) ?_
    intro v21 T21 h21 s21 X21 q21 r21
    obtain ⟨rfl, K21, E21, F21, G21⟩ := q21
    show G T21 (mkF m 95 #[.val (.int i0), .val (.int i1), .val (.int i2), .val (.int i3), .val (.int (2 : Int32)), .val (.int (Int32.ofNat p')), .val (.int (Int32.ofNat n')), .val (.int r), .val (.int ex), .val (.ref x1), .val (.ref a2), .unset] [])
    refine own_goto (pc' := 117) X21 at_95 (by decide) (by decide) ?_
    refine own_iload (pc' := 119) X21 at_117 rfl rfl ?_
    refine own_ifN (pc' := 122) X21 at_119 rfl ((feq (by decide)).1) ?_
    refine own_iload (pc' := 124) X21 at_122 rfl rfl ?_
    refine own_iconst (pc' := 125) X21 at_124 rfl (z := (1 : Int32)) (by decide) ?_
    refine own_icmpY (pc' := 134) X21 at_125 ((feq (by decide)).2) (by decide) (by decide) ?_
    refine own_iload (pc' := 136) X21 at_134 rfl rfl ?_
    refine own_bipush (pc' := 138) X21 at_136 rfl (z := (9 : Int32)) (by decide) ?_
    by_cases h138 : (Int32.ofNat n') = (9 : Int32)
    · refine own_icmpN (pc' := 141) X21 at_138 rfl ((teq h138).2) ?_
      have e_9 : n' = 9 := Classical.byContradiction fun q => own_i32ne (n := 9) q (by omega) (by decide) h138
      refine own_iload (pc' := 143) X21 at_141 rfl rfl ?_
      refine own_bipush (pc' := 145) X21 at_143 rfl (z := (9 : Int32)) (by decide) ?_
      by_cases h145 : (Int32.ofNat p') < (9 : Int32)
      · refine own_icmpN (pc' := 148) X21 at_145 rfl ((tlt h145).2.1) ?_
        have l_9 : p' < 9 := Classical.byContradiction fun q => own_i32le (n := 9) (show 9 ≤ p' by omega) (by omega) h145
        refine own_iload (pc' := 150) X21 at_148 rfl rfl ?_
        refine own_ldcR (pc' := 152) (cells' := 18) (slots' := 203) (n := 36) (text := "singleton") (vs := [(.int 115), (.int 105), (.int 110), (.int 103), (.int 108), (.int 101), (.int 116), (.int 111), (.int 110)]) X21 (W 158 rfl) (fun d hd => hw d (own_in_atoms d hd)) (List.mem_of_getElem? (i := 1) rfl) ⟨by decide, by decide⟩ (by decide) (by decide) (by decide) at_150 rfl rfl rfl (by decide) (by decide) ?_
        intro T22 h22 s22 a22 b22 k22 X22 K22 E22 Fc22 Fv22 A22 N22
        have S23 := own_StrLit (cs := own_sg) E22 Fv22 Fc22 A22 (by decide) (by decide) (by decide)
        refine own_iload (pc' := 154) X22 at_152 rfl rfl ?_
        refine own_strchar (pc' := 157) (W := 1) (i' := p') (ch := (own_sg.getD p' 0)) X22 (fun d hd => hw d (own_in_wordsChN d hd)) CS SF (W 159 rfl) (W 160 rfl) (W 162 rfl) (W 161 rfl) (W 8 rfl) S23 (by decide) (own_sgi l_9) rfl (by decide) (by decide) (lenOf (L := [.int (Int32.ofNat p')]) pd_17 rfl) rfl rfl at_154 rfl (by decide) (by decide) ?_
        intro T24 X24
        by_cases h157 : r = (own_sg.getD p' 0)
        · refine own_icmpN (pc' := 160) X24 at_157 rfl ((teq h157).2) ?_
          refine own_iconst (pc' := 161) X24 at_160 rfl (z := (1 : Int32)) (by decide) ?_
          refine own_goto (pc' := 165) X24 at_161 (by decide) (by decide) ?_
          have f25 := (E21.keep K22)
          have f26 := (F21.keep K22 nin0)
          have ne_x1_a2 : x1 ≠ a2 := own_ne S1.lt (Nat.le_refl _) (Nat.le_of_eq (Eq.symm g2))
          have ne_t1_a2 : t1 ≠ a2 := own_ne S1.ltt (Nat.le_refl _) (Nat.le_of_eq (Eq.symm g2))
          have f27 := ((((((S1.keep K2 nin0 nin0).keep K3 nin0 nin0).keep K4 nin0 nin0).keep K17 (ninS ne_x1_a2 nin0) (ninS ne_t1_a2 nin0)).keep K21 (ninS ne_x1_a2 nin0) (ninS ne_t1_a2 nin0)).keep K22 nin0 nin0)
          exact own_165 hw EWf i0 i1 i2 i3 n' p' (2 : Int32) r ex a2 x1 t1 (1 : Int32) (own_mono X24 (by decide : 18 ≤ 18) (by decide : 203 ≤ 203) all0) hGe f25 f26 f27 (by rw [if_pos ((own_iff p_n p_p).mpr ⟨e_9, Or.inr h157⟩)]) CS
        · refine own_icmpY (pc' := 164) X24 at_157 ((feq h157).2) (by decide) (by decide) ?_
          refine own_iconst (pc' := 165) X24 at_164 rfl (z := (0 : Int32)) (by decide) ?_
          have f28 := (E21.keep K22)
          have f29 := (F21.keep K22 nin0)
          have ne_x1_a2 : x1 ≠ a2 := own_ne S1.lt (Nat.le_refl _) (Nat.le_of_eq (Eq.symm g2))
          have ne_t1_a2 : t1 ≠ a2 := own_ne S1.ltt (Nat.le_refl _) (Nat.le_of_eq (Eq.symm g2))
          have f30 := ((((((S1.keep K2 nin0 nin0).keep K3 nin0 nin0).keep K4 nin0 nin0).keep K17 (ninS ne_x1_a2 nin0) (ninS ne_t1_a2 nin0)).keep K21 (ninS ne_x1_a2 nin0) (ninS ne_t1_a2 nin0)).keep K22 nin0 nin0)
          exact own_165 hw EWf i0 i1 i2 i3 n' p' (2 : Int32) r ex a2 x1 t1 (0 : Int32) (own_mono X24 (by decide : 18 ≤ 18) (by decide : 203 ≤ 203) all0) hGe f28 f29 f30 (by rw [if_neg (fun z => (fun ⟨_, y⟩ => y.elim (fun y => by omega) h157) ((own_iff p_n p_p).mp z))]) CS
      · refine own_icmpY (pc' := 160) X21 at_145 ((flt h145).2.1) (by decide) (by decide) ?_
        refine own_iconst (pc' := 161) X21 at_160 rfl (z := (1 : Int32)) (by decide) ?_
        refine own_goto (pc' := 165) X21 at_161 (by decide) (by decide) ?_
        have ne_x1_a2 : x1 ≠ a2 := own_ne S1.lt (Nat.le_refl _) (Nat.le_of_eq (Eq.symm g2))
        have ne_t1_a2 : t1 ≠ a2 := own_ne S1.ltt (Nat.le_refl _) (Nat.le_of_eq (Eq.symm g2))
        have f31 := (((((S1.keep K2 nin0 nin0).keep K3 nin0 nin0).keep K4 nin0 nin0).keep K17 (ninS ne_x1_a2 nin0) (ninS ne_t1_a2 nin0)).keep K21 (ninS ne_x1_a2 nin0) (ninS ne_t1_a2 nin0))
        exact own_165 hw EWf i0 i1 i2 i3 n' p' (2 : Int32) r ex a2 x1 t1 (1 : Int32) (own_mono X21 (by decide : 16 ≤ 18) (by decide : 163 ≤ 203) all0) hGe E21 F21 f31 (by rw [if_pos ((own_iff p_n p_p).mpr ⟨e_9, Or.inl (Nat.le_of_not_lt fun q => h145 (own_i32lt (n := 9) q (by decide)))⟩)]) CS
    · refine own_icmpY (pc' := 164) X21 at_138 ((feq h138).2) (by decide) (by decide) ?_
      refine own_iconst (pc' := 165) X21 at_164 rfl (z := (0 : Int32)) (by decide) ?_
      have ne_x1_a2 : x1 ≠ a2 := own_ne S1.lt (Nat.le_refl _) (Nat.le_of_eq (Eq.symm g2))
      have ne_t1_a2 : t1 ≠ a2 := own_ne S1.ltt (Nat.le_refl _) (Nat.le_of_eq (Eq.symm g2))
      have f32 := (((((S1.keep K2 nin0 nin0).keep K3 nin0 nin0).keep K4 nin0 nin0).keep K17 (ninS ne_x1_a2 nin0) (ninS ne_t1_a2 nin0)).keep K21 (ninS ne_x1_a2 nin0) (ninS ne_t1_a2 nin0))
      exact own_165 hw EWf i0 i1 i2 i3 n' p' (2 : Int32) r ex a2 x1 t1 (0 : Int32) (own_mono X21 (by decide : 16 ≤ 18) (by decide : 163 ≤ 203) all0) hGe E21 F21 f32 (by rw [if_neg (fun z => (fun ⟨y, _⟩ => h138 (by rw [y]; rfl)) ((own_iff p_n p_p).mp z))]) CS
  · rw [e4]
    show G T17 (mkF m 67 #[.val (.int i0), .val (.int i1), .val (.int i2), .val (.int i3), .val (.int (3 : Int32)), .val (.int (Int32.ofNat p')), .val (.int (Int32.ofNat n')), .val (.int r), .val (.int ex), .val (.ref x1), .val (.ref a2), .unset] [])
    refine own_iload (pc' := 69) X17 at_67 rfl rfl ?_
    refine own_iconst (pc' := 70) X17 at_69 rfl (z := (1 : Int32)) (by decide) ?_
    refine own_icmpY (pc' := 82) X17 at_70 ((feq (by decide)).2) (by decide) (by decide) ?_
    refine own_iload (pc' := 84) X17 at_82 rfl rfl ?_
    refine own_iconst (pc' := 85) X17 at_84 rfl (z := (2 : Int32)) (by decide) ?_
    refine own_icmpY (pc' := 98) X17 at_85 ((feq (by decide)).2) (by decide) (by decide) ?_
    refine own_iload (pc' := 100) X17 at_98 rfl rfl ?_
    refine own_iconst (pc' := 101) X17 at_100 rfl (z := (3 : Int32)) (by decide) ?_
    refine own_icmpN (pc' := 104) X17 at_101 rfl ((teq rfl).2) ?_
    refine own_aload (pc' := 106) X17 at_104 rfl rfl rfl ?_
    refine own_aconst_null (pc' := 107) X17 at_106 rfl ?_
    refine own_callVM (pc' := 110) (cells' := 16) (slots' := 163) (argsL := [.null]) (rest := []) (W := 0) (y := (⟨"com/example/topf/topf/core/BeanDefinition", "setScope", "(Ljava/lang/String;)V"⟩ : MethodName)) (z := (⟨"com/example/topf/topf/core/BeanDefinition", "setScope", "(Ljava/lang/String;)V"⟩ : MethodName)) (a := a2) X17 (W 106 rfl) (W 107 rfl) (fun s' hZ' => notFace_of_selects (args := #[]) (mvT hZ' (W 109 rfl))) (W 109 rfl) (W 108 rfl) (by decide) E17 (own_setN l Z a0 hw EWf n0 a2 em ea  h17 (own_old X17) n_a2 E17 F17 G17 EM) all0 (W 110 rfl) (W 38 rfl) (by decide) (by decide) rfl (lenOf pd_16 rfl) rfl rfl at_107 rfl rfl rfl rfl (by decide) (by decide) ?_
    intro v33 T33 h33 s33 X33 q33 r33
    obtain ⟨rfl, K33, E33, F33, G33⟩ := q33
    show G T33 (mkF m 110 #[.val (.int i0), .val (.int i1), .val (.int i2), .val (.int i3), .val (.int (3 : Int32)), .val (.int (Int32.ofNat p')), .val (.int (Int32.ofNat n')), .val (.int r), .val (.int ex), .val (.ref x1), .val (.ref a2), .unset] [])
    refine own_aload (pc' := 112) X33 at_110 rfl rfl rfl ?_
    refine own_aload (pc' := 114) X33 at_112 rfl rfl rfl ?_
    refine own_callVM (pc' := 117) (cells' := 16) (slots' := 163) (argsL := [(.ref x1)]) (rest := []) (W := 0) (y := (⟨"com/example/topf/topf/core/BeanDefinition", "setScope", "(Ljava/lang/String;)V"⟩ : MethodName)) (z := (⟨"com/example/topf/topf/core/BeanDefinition", "setScope", "(Ljava/lang/String;)V"⟩ : MethodName)) (a := a2) X33 (W 106 rfl) (W 107 rfl) (fun s' hZ' => notFace_of_selects (args := #[]) (mvT hZ' (W 109 rfl))) (W 109 rfl) (W 108 rfl) (by decide) E33 (own_setR l Z a0 hw EWf n0 a2 em ea x1 h33 (own_old X33) n_a2 E33 F33 G33 EM) all0 (W 110 rfl) (W 38 rfl) (by decide) (by decide) rfl (lenOf pd_16 rfl) rfl rfl at_114 rfl rfl rfl rfl (by decide) (by decide) ?_
    intro v34 T34 h34 s34 X34 q34 r34
    obtain ⟨rfl, K34, E34, F34, G34⟩ := q34
    show G T34 (mkF m 117 #[.val (.int i0), .val (.int i1), .val (.int i2), .val (.int i3), .val (.int (3 : Int32)), .val (.int (Int32.ofNat p')), .val (.int (Int32.ofNat n')), .val (.int r), .val (.int ex), .val (.ref x1), .val (.ref a2), .unset] [])
    refine own_iload (pc' := 119) X34 at_117 rfl rfl ?_
    refine own_ifN (pc' := 122) X34 at_119 rfl ((feq (by decide)).1) ?_
    refine own_iload (pc' := 124) X34 at_122 rfl rfl ?_
    refine own_iconst (pc' := 125) X34 at_124 rfl (z := (1 : Int32)) (by decide) ?_
    refine own_icmpY (pc' := 134) X34 at_125 ((feq (by decide)).2) (by decide) (by decide) ?_
    refine own_iload (pc' := 136) X34 at_134 rfl rfl ?_
    refine own_bipush (pc' := 138) X34 at_136 rfl (z := (9 : Int32)) (by decide) ?_
    by_cases h138 : (Int32.ofNat n') = (9 : Int32)
    · refine own_icmpN (pc' := 141) X34 at_138 rfl ((teq h138).2) ?_
      have e_9 : n' = 9 := Classical.byContradiction fun q => own_i32ne (n := 9) q (by omega) (by decide) h138
      refine own_iload (pc' := 143) X34 at_141 rfl rfl ?_
      refine own_bipush (pc' := 145) X34 at_143 rfl (z := (9 : Int32)) (by decide) ?_
      by_cases h145 : (Int32.ofNat p') < (9 : Int32)
      · refine own_icmpN (pc' := 148) X34 at_145 rfl ((tlt h145).2.1) ?_
        have l_9 : p' < 9 := Classical.byContradiction fun q => own_i32le (n := 9) (show 9 ≤ p' by omega) (by omega) h145
        refine own_iload (pc' := 150) X34 at_148 rfl rfl ?_
        refine own_ldcR (pc' := 152) (cells' := 18) (slots' := 203) (n := 36) (text := "singleton") (vs := [(.int 115), (.int 105), (.int 110), (.int 103), (.int 108), (.int 101), (.int 116), (.int 111), (.int 110)]) X34 (W 158 rfl) (fun d hd => hw d (own_in_atoms d hd)) (List.mem_of_getElem? (i := 1) rfl) ⟨by decide, by decide⟩ (by decide) (by decide) (by decide) at_150 rfl rfl rfl (by decide) (by decide) ?_
        intro T35 h35 s35 a35 b35 k35 X35 K35 E35 Fc35 Fv35 A35 N35
        have S36 := own_StrLit (cs := own_sg) E35 Fv35 Fc35 A35 (by decide) (by decide) (by decide)
        refine own_iload (pc' := 154) X35 at_152 rfl rfl ?_
        refine own_strchar (pc' := 157) (W := 1) (i' := p') (ch := (own_sg.getD p' 0)) X35 (fun d hd => hw d (own_in_wordsChN d hd)) CS SF (W 159 rfl) (W 160 rfl) (W 162 rfl) (W 161 rfl) (W 8 rfl) S36 (by decide) (own_sgi l_9) rfl (by decide) (by decide) (lenOf (L := [.int (Int32.ofNat p')]) pd_17 rfl) rfl rfl at_154 rfl (by decide) (by decide) ?_
        intro T37 X37
        by_cases h157 : r = (own_sg.getD p' 0)
        · refine own_icmpN (pc' := 160) X37 at_157 rfl ((teq h157).2) ?_
          refine own_iconst (pc' := 161) X37 at_160 rfl (z := (1 : Int32)) (by decide) ?_
          refine own_goto (pc' := 165) X37 at_161 (by decide) (by decide) ?_
          have f38 := (E34.keep K35)
          have f39 := (F34.keep K35 nin0)
          have ne_x1_a2 : x1 ≠ a2 := own_ne S1.lt (Nat.le_refl _) (Nat.le_of_eq (Eq.symm g2))
          have ne_t1_a2 : t1 ≠ a2 := own_ne S1.ltt (Nat.le_refl _) (Nat.le_of_eq (Eq.symm g2))
          have f40 := (((((((S1.keep K2 nin0 nin0).keep K3 nin0 nin0).keep K4 nin0 nin0).keep K17 (ninS ne_x1_a2 nin0) (ninS ne_t1_a2 nin0)).keep K33 (ninS ne_x1_a2 nin0) (ninS ne_t1_a2 nin0)).keep K34 (ninS ne_x1_a2 nin0) (ninS ne_t1_a2 nin0)).keep K35 nin0 nin0)
          exact own_165 hw EWf i0 i1 i2 i3 n' p' (3 : Int32) r ex a2 x1 t1 (1 : Int32) (own_mono X37 (by decide : 18 ≤ 18) (by decide : 203 ≤ 203) all0) hGe f38 f39 f40 (by rw [if_pos ((own_iff p_n p_p).mpr ⟨e_9, Or.inr h157⟩)]) CS
        · refine own_icmpY (pc' := 164) X37 at_157 ((feq h157).2) (by decide) (by decide) ?_
          refine own_iconst (pc' := 165) X37 at_164 rfl (z := (0 : Int32)) (by decide) ?_
          have f41 := (E34.keep K35)
          have f42 := (F34.keep K35 nin0)
          have ne_x1_a2 : x1 ≠ a2 := own_ne S1.lt (Nat.le_refl _) (Nat.le_of_eq (Eq.symm g2))
          have ne_t1_a2 : t1 ≠ a2 := own_ne S1.ltt (Nat.le_refl _) (Nat.le_of_eq (Eq.symm g2))
          have f43 := (((((((S1.keep K2 nin0 nin0).keep K3 nin0 nin0).keep K4 nin0 nin0).keep K17 (ninS ne_x1_a2 nin0) (ninS ne_t1_a2 nin0)).keep K33 (ninS ne_x1_a2 nin0) (ninS ne_t1_a2 nin0)).keep K34 (ninS ne_x1_a2 nin0) (ninS ne_t1_a2 nin0)).keep K35 nin0 nin0)
          exact own_165 hw EWf i0 i1 i2 i3 n' p' (3 : Int32) r ex a2 x1 t1 (0 : Int32) (own_mono X37 (by decide : 18 ≤ 18) (by decide : 203 ≤ 203) all0) hGe f41 f42 f43 (by rw [if_neg (fun z => (fun ⟨_, y⟩ => y.elim (fun y => by omega) h157) ((own_iff p_n p_p).mp z))]) CS
      · refine own_icmpY (pc' := 160) X34 at_145 ((flt h145).2.1) (by decide) (by decide) ?_
        refine own_iconst (pc' := 161) X34 at_160 rfl (z := (1 : Int32)) (by decide) ?_
        refine own_goto (pc' := 165) X34 at_161 (by decide) (by decide) ?_
        have ne_x1_a2 : x1 ≠ a2 := own_ne S1.lt (Nat.le_refl _) (Nat.le_of_eq (Eq.symm g2))
        have ne_t1_a2 : t1 ≠ a2 := own_ne S1.ltt (Nat.le_refl _) (Nat.le_of_eq (Eq.symm g2))
        have f44 := ((((((S1.keep K2 nin0 nin0).keep K3 nin0 nin0).keep K4 nin0 nin0).keep K17 (ninS ne_x1_a2 nin0) (ninS ne_t1_a2 nin0)).keep K33 (ninS ne_x1_a2 nin0) (ninS ne_t1_a2 nin0)).keep K34 (ninS ne_x1_a2 nin0) (ninS ne_t1_a2 nin0))
        exact own_165 hw EWf i0 i1 i2 i3 n' p' (3 : Int32) r ex a2 x1 t1 (1 : Int32) (own_mono X34 (by decide : 16 ≤ 18) (by decide : 163 ≤ 203) all0) hGe E34 F34 f44 (by rw [if_pos ((own_iff p_n p_p).mpr ⟨e_9, Or.inl (Nat.le_of_not_lt fun q => h145 (own_i32lt (n := 9) q (by decide)))⟩)]) CS
    · refine own_icmpY (pc' := 164) X34 at_138 ((feq h138).2) (by decide) (by decide) ?_
      refine own_iconst (pc' := 165) X34 at_164 rfl (z := (0 : Int32)) (by decide) ?_
      have ne_x1_a2 : x1 ≠ a2 := own_ne S1.lt (Nat.le_refl _) (Nat.le_of_eq (Eq.symm g2))
      have ne_t1_a2 : t1 ≠ a2 := own_ne S1.ltt (Nat.le_refl _) (Nat.le_of_eq (Eq.symm g2))
      have f45 := ((((((S1.keep K2 nin0 nin0).keep K3 nin0 nin0).keep K4 nin0 nin0).keep K17 (ninS ne_x1_a2 nin0) (ninS ne_t1_a2 nin0)).keep K33 (ninS ne_x1_a2 nin0) (ninS ne_t1_a2 nin0)).keep K34 (ninS ne_x1_a2 nin0) (ninS ne_t1_a2 nin0))
      exact own_165 hw EWf i0 i1 i2 i3 n' p' (3 : Int32) r ex a2 x1 t1 (0 : Int32) (own_mono X34 (by decide : 16 ≤ 18) (by decide : 163 ≤ 203) all0) hGe E34 F34 f45 (by rw [if_neg (fun z => (fun ⟨y, _⟩ => h138 (by rw [y]; rfl)) ((own_iff p_n p_p).mp z))]) CS
set_option maxRecDepth 65536 in
set_option maxHeartbeats 40000000 in
theorem comes_1 {Post : Tables → Env → Array Value → State → Outcome → State → Prop} (hpost : ∀ tb e args s v u, (limb_1_1.after args s (.returned v) u = true ∧ limb_1_2.after args s (.returned v) u = true ∧ True) → ReturnedEndW s (.returned v) u (Jvm.fieldLocs frame_1_writes args s ++ Jvm.arrayLocs frame_1_arrays args s ++ Jvm.staticLocs frame_1_statics s) 32 5440 → Post tb e args s (.returned v) u) :
    ArmFor flags0 classFile x code maxLocals ret World_1 tables_1 room_1 Calls_1 rest_1 Pre_1 Post := by
  intro l hfl _ _ p e ha hc hk s m args below hf hA hF happ hP
  obtain ⟨hcalls, hrest, hpre⟩ := hP
  obtain ⟨-, -, -, hnamed, -, -, -, hat⟩ := (Spec.applies_iff hf).mp happ
  obtain ⟨hg, hn⟩ := and_e (Cond.before_iff.mp (show (Jvm.Cond.and given_1 narrow_1).before args s = true from hpre))
  obtain ⟨h1, g0⟩ := and_e hg
  obtain ⟨b0, g1⟩ := and_e g0
  obtain ⟨b1, g2⟩ := and_e g1
  obtain ⟨b2, g3⟩ := and_e g2
  have b3 := g3
  obtain ⟨w0, w1, w2, w3, rfl⟩ : ∃ w0 w1 w2 w3 : Value, args = #[w0, w1, w2, w3] := by
    have hs : args.size = 4 := by simpa [Cond.value, given_1] using h1
    obtain ⟨L⟩ := args
    match L, hs with
    | [w0, w1, w2, w3], _ => exact ⟨w0, w1, w2, w3, rfl⟩
  have hw := fun d (hd : d ∈ tables_1) => atoms_spec (ws := Jvm.Cond.code x code maxLocals ret :: tables_1) hat d (List.mem_cons_of_mem _ hd)
  obtain ⟨hsets, hown0⟩ := atoms_of _ (rest_1_c_eq ▸ (show rest_1_c.before _ s = true from hrest))
  have hfit : Fit s := fun {y c} hc i hi => by
    obtain ⟨ha, rfl⟩ := Array.getElem?_eq_some_iff.mp hc
    have q := List.all_eq_true.mp ((Array.all_eq_true_iff_forall_mem.mp hF) _ (Array.getElem_mem ha)) i (List.mem_range.mpr hi)
    simpa [Array.getElem?_eq_getElem hi] using q
  obtain ⟨i0, e0⟩ := is_v b0
  obtain rfl : w0 = (.int i0) := Option.some.inj e0
  obtain ⟨i1, e1⟩ := is_v b1
  obtain rfl : w1 = (.int i1) := Option.some.inj e1
  obtain ⟨i2, e2⟩ := is_v b2
  obtain rfl : w2 = (.int i2) := Option.some.inj e2
  obtain ⟨i3, e3⟩ := is_v b3
  obtain rfl : w3 = (.int i3) := Option.some.inj e3
  obtain ⟨zc, ec⟩ := is_v (Cond.before_iff.mp (hsets _ (List.mem_of_getElem? (i := 1) rfl)))
  have CS : own_CS s := ⟨zc, Sta.start ec (Or.inl (hsets _ (List.mem_of_getElem? (i := 0) rfl))), gotF (Cond.eq_ints ec (Term.int_eval (0))) (not_v (Cond.before_iff.mp (hsets _ (List.mem_of_getElem? (i := 2) rfl))))⟩
  obtain ⟨vf, evf, hvf⟩ := isR_v (Cond.before_iff.mp (hsets _ (List.mem_of_getElem? (i := 8) rfl)))
  have SF : own_SF s := ⟨vf, Sta.start evf (Or.inl (hsets _ (List.mem_of_getElem? (i := 7) rfl))), hvf⟩
  have u1 : Sta s s.heap "java/lang/StringUTF16" "$assertionsDisabled" "Z" (.int 1) := Sta.start (own_eqv (Cond.before_iff.mp (hsets _ (List.mem_of_getElem? (i := 19) rfl)))) (Or.inl (hsets _ (List.mem_of_getElem? (i := 18) rfl)))
  have u2 : Sta s s.heap "java/lang/StringUTF16" "HI_BYTE_SHIFT" "I" (.int 0) := Sta.start (own_eqv (Cond.before_iff.mp (hsets _ (List.mem_of_getElem? (i := 22) rfl)))) (Or.inl (hsets _ (List.mem_of_getElem? (i := 21) rfl)))
  have u3 : Sta s s.heap "java/lang/StringUTF16" "LO_BYTE_SHIFT" "I" (.int 8) := Sta.start (own_eqv (Cond.before_iff.mp (hsets _ (List.mem_of_getElem? (i := 25) rfl)))) (Or.inl (hsets _ (List.mem_of_getElem? (i := 24) rfl)))
  have U : own_U16 s := ⟨u1, u2, u3⟩
  obtain ⟨em, evE, exE⟩ := own_exa (hsets _ (List.mem_of_getElem? (i := 11) rfl))
  have stE := Sta.start evE (Or.inl (hsets _ (List.mem_of_getElem? (i := 10) rfl)))
  obtain ⟨ea, kA, fE, arE⟩ := own_arr0 evE (hsets _ (List.mem_of_getElem? (i := 12) rfl)) (hsets _ (List.mem_of_getElem? (i := 14) rfl))
  have EM : own_EMP s em ea := ⟨stE, exE, fE, kA, arE⟩
  have EW0 : EW s _ own_EL := (EW.cons (hw _ (List.mem_of_getElem? (i := 127) rfl)) (by decide) (EW.cons (hw _ (List.mem_of_getElem? (i := 158) rfl)) (by decide) (EW.cons (hw _ (List.mem_of_getElem? (i := 157) rfl)) (by decide) EW.nil)))
  have EWf : own_EW s own_EL := ⟨_, EW0⟩
  have hsf : own_Sf s own_EL [] s.vm s.heap := ⟨CHv.start EW0 (own_allP (own_held (hcalls.1 _ (List.mem_of_getElem? (i := 0) rfl))) (own_allP (own_held (hcalls.1 _ (List.mem_of_getElem? (i := 3) rfl))) (own_allP (own_held (hcalls.1 _ (List.mem_of_getElem? (i := 4) rfl))) own_allN))) (own_cw (hsets _ (List.mem_of_getElem? (i := 2) rfl))) (hw _ (List.mem_of_getElem? (i := 25) rfl)) (hw _ (List.mem_of_getElem? (i := 8) rfl)), all0⟩
  obtain ⟨n, o, h1, h2, h3, _, L, rfl, ⟨rfl, N, -⟩, -, -, hq⟩ := own_law l s _ hw EWf s.heap.size i0 i1 i2 i3 em ea s.heap (Old.start s) CS SF U EM tables_1 p e ha hc hk s m _ below hf ((Spec.applies_iff_loose hf).mp happ).1 ⟨rfl, State.Warmed39.refl s, rfl, hsf⟩ trivial
  refine ⟨n, _, h1, h2, h3, hpost _ _ _ _ _ _ ⟨Cond.after_iff.mpr rfl, Cond.after_iff.mpr (eq_i res_at (Term.int_eval (1)) rfl), trivial⟩ ⟨hq.1, hq.2.1, hq.2.2.1, (hq.2.2.2.sift fun y hy => Or.inr (N y hy)).mono (by decide) (by decide)⟩⟩
theorem main_1_1 : Claimed_1_1 := comes_1 fun _ _ _ _ _ _ h hF => ⟨h.1, hF⟩
theorem main_1_2 : Claimed_1_2 := comes_1 fun _ _ _ _ _ _ h hF => ⟨h.2.1, hF⟩
end Jvm.Pilot.@@N@@
namespace Jvm.Pilot.@@N@@
open Jvm Jvm.ClassFile Sem Op Lib Jvm.Free Jvm.Stand Jvm.Pilot.@@N@@.Jvm.D
/-! MADE BY PROGRAM (witnessworld.py) out of the Statement's table words and the real class files: 36 classes; the members and pool entries that the words name. The judged class is class 1, her method 1. -/
namespace start1
open Jvm.ClassFile
def u (s : String) : CpInfo := .utf8 (stringToUtf16 s)
/-- a pool by its gaps: so many unusable entries, then the entry; so many at the end -/
def gap : Nat → List CpInfo → List CpInfo
  | 0, r => r
  | n + 1, r => .unusable :: gap n r
def poolList (es : List (Nat × CpInfo)) (last : Nat) : List CpInfo := es.foldr (fun e r => gap e.1 (e.2 :: r)) (gap last [])
def pool (es : List (Nat × CpInfo)) (last : Nat) : Array CpInfo := ⟨poolList es last⟩
def fileOf (pool : Array CpInfo) (this : Nat) (attrs : Array Attribute := #[]) (ms : Array MethodInfo := #[]) (fl : Nat := 33) (sup : Nat := 0) (ifs : Array Nat := #[]) (fds : Array FieldInfo := #[]) : ClassFile where
  minorVersion := 0
  majorVersion := 65
  constantPool := pool
  accessFlags := fl
  thisClass := this
  superClass := sup
  interfaces := ifs
  fields := fds
  methods := ms
  attributes := attrs
def plain (name : String) (sup : Option ClassId) : Class where
  name := name
  kind := .ordinary
  loader := none
  accessFlags := 33
  super := sup
  interfaces := #[]
  cf := none
  fields := #[]
  methods := #[]
  instanceTypes := #[]
  staticTypes := #[]
  resolved := #[]
  callSites := []
  init := .initialized
  statics := none
  mirror := none

def pool0 : Array CpInfo := pool [(5, u "<init>"), (0, u "()V"), (1, .class_ 10), (1, u "java/lang/Object")] 113

def k0c0 : Code := { maxStack := 0, maxLocals := 1, code := object_method_1_code, exceptionTable := #[], attributes := #[] }
def k0m0 : Method := { name := "<init>", desc := "()V", sig := { parameters := [], returnType := none }, accessFlags := 1, code := some k0c0 }
/-- java/lang/Object -/
def k0 : Class := { plain "java/lang/Object" none with
  accessFlags := 33
  interfaces := #[]
  cf := some (fileOf pool0 8 #[] #[{ accessFlags := 1, nameIndex := 5, descriptorIndex := 6, attributes := #[] }] 33 0 #[] #[])
  fields := #[]
  methods := #[k0m0]
  instanceTypes := #[]
  staticTypes := #[]
  resolved := Array.replicate 124 none
  statics := none }

def pool1 : Array CpInfo := pool [(2, .class_ 4), (1, u "java/lang/Object"), (0, u "<init>"), (0, u "()V"), (0, .integer 2147483647), (0, .integer 65535), (0, .methodref 10 11), (0, .class_ 12), (0, .nameAndType 13 14), (0, u "com/example/topf/topf/core/BeanDefinitionIsSingletonPinLaw"), (0, u "drawn"), (0, u "(IICC)Ljava/lang/String;"), (0, .class_ 16), (0, u "com/example/topf/topf/core/BeanDefinition"), (0, .string 18), (0, u "b"), (0, .string 20), (0, u "x.Y"), (0, .methodref 15 22), (0, .nameAndType 5 23), (0, u "(Ljava/lang/String;Ljava/lang/String;Ljava/lang/String;)V"), (0, .methodref 15 25), (0, .nameAndType 26 27), (0, u "setScope"), (0, u "(Ljava/lang/String;)V"), (0, .string 29), (0, u "singleton"), (0, .methodref 31 32), (0, .class_ 33), (0, .nameAndType 34 35), (0, u "java/lang/String"), (0, u "charAt"), (0, u "(I)C"), (0, .methodref 15 37), (0, .nameAndType 38 39), (0, u "isSingleton"), (0, u "()Z"), (0, .methodref 31 41), (0, .nameAndType 5 42), (0, u "([C)V"), (2, u "law"), (0, u "(IIII)Z")] 5

def k1m0 : Method := { name := "<init>", desc := "()V", sig := { parameters := [], returnType := none }, accessFlags := 1, code := none }
def k1c1 : Code := { maxStack := 5, maxLocals := 12, code := code, exceptionTable := #[], attributes := #[] }
def k1m1 : Method := { name := "law", desc := "(IIII)Z", sig := { parameters := [.int, .int, .int, .int], returnType := some .boolean }, accessFlags := 9, code := some k1c1 }
def k1c2 : Code := { maxStack := 4, maxLocals := 6, code := method_3_code, exceptionTable := #[], attributes := #[] }
def k1m2 : Method := { name := "drawn", desc := "(IICC)Ljava/lang/String;", sig := { parameters := [.int, .int, .char, .char], returnType := some (.object "java/lang/String") }, accessFlags := 10, code := some k1c2 }
/-- com/example/topf/topf/core/BeanDefinitionIsSingletonPinLaw -/
def k1 : Class := { plain "com/example/topf/topf/core/BeanDefinitionIsSingletonPinLaw" (some 0) with
  accessFlags := 49
  interfaces := #[]
  cf := some (fileOf pool1 10 #[] #[{ accessFlags := 1, nameIndex := 5, descriptorIndex := 6, attributes := #[] }, { accessFlags := 9, nameIndex := 45, descriptorIndex := 46, attributes := #[] }, { accessFlags := 10, nameIndex := 13, descriptorIndex := 14, attributes := #[] }] 49 2 #[] #[])
  fields := #[]
  methods := #[k1m0, k1m1, k1m2]
  instanceTypes := #[]
  staticTypes := #[]
  resolved := Array.replicate 52 none
  statics := none }

def pool2 : Array CpInfo := pool [(1, .class_ 2), (0, u "java/io/Serializable"), (0, .class_ 4), (0, u "java/lang/Object")] 2

/-- java/io/Serializable -/
def k2 : Class := { plain "java/io/Serializable" (some 0) with
  accessFlags := 1537
  interfaces := #[]
  cf := some (fileOf pool2 1 #[] #[] 1537 3 #[] #[])
  fields := #[]
  methods := #[]
  instanceTypes := #[]
  staticTypes := #[]
  resolved := Array.replicate 7 none
  statics := none }

def pool3 : Array CpInfo := pool [(1, .class_ 2), (0, u "java/lang/Comparable"), (0, .class_ 4), (0, u "java/lang/Object")] 7

/-- java/lang/Comparable -/
def k3 : Class := { plain "java/lang/Comparable" (some 0) with
  accessFlags := 1537
  interfaces := #[]
  cf := some (fileOf pool3 1 #[] #[] 1537 3 #[] #[])
  fields := #[]
  methods := #[]
  instanceTypes := #[]
  staticTypes := #[]
  resolved := Array.replicate 12 none
  statics := none }

def pool4 : Array CpInfo := pool [(2, .class_ 4), (1, u "java/lang/CharSequence"), (42, .class_ 48), (0, u "java/lang/CharSequence$1CodePointIterator"), (10, .class_ 60), (0, u "java/lang/CharSequence$1CharIterator"), (5, .class_ 67), (0, u "java/lang/Object")] 63

/-- java/lang/CharSequence -/
def k4 : Class := { plain "java/lang/CharSequence" (some 0) with
  accessFlags := 1537
  interfaces := #[]
  cf := some (fileOf pool4 2 #[.nestMembers #[47, 59]] #[] 1537 66 #[] #[])
  fields := #[]
  methods := #[]
  instanceTypes := #[]
  staticTypes := #[]
  resolved := Array.replicate 131 none
  statics := none }

def pool5 : Array CpInfo := pool [(1, .class_ 2), (0, u "java/lang/constant/Constable"), (0, .class_ 4), (0, u "java/lang/Object")] 6

/-- java/lang/constant/Constable -/
def k5 : Class := { plain "java/lang/constant/Constable" (some 0) with
  accessFlags := 1537
  interfaces := #[]
  cf := some (fileOf pool5 1 #[] #[] 1537 3 #[] #[])
  fields := #[]
  methods := #[]
  instanceTypes := #[]
  staticTypes := #[]
  resolved := Array.replicate 11 none
  statics := none }

def pool6 : Array CpInfo := pool [(1, .class_ 2), (0, u "java/lang/constant/ConstantDesc"), (0, .class_ 4), (0, u "java/lang/Object")] 32

/-- java/lang/constant/ConstantDesc -/
def k6 : Class := { plain "java/lang/constant/ConstantDesc" (some 0) with
  accessFlags := 1537
  interfaces := #[]
  cf := some (fileOf pool6 1 #[] #[] 1537 3 #[] #[])
  fields := #[]
  methods := #[]
  instanceTypes := #[]
  staticTypes := #[]
  resolved := Array.replicate 37 none
  statics := none }

def pool7 : Array CpInfo := pool [(1, .methodref 2 3), (0, .class_ 4), (0, .nameAndType 5 6), (0, u "java/lang/Object"), (0, u "<init>"), (0, u "()V"), (0, .string 8), (0, u ""), (0, .fieldref 10 11), (0, .class_ 12), (0, .nameAndType 13 14), (0, u "java/lang/String"), (0, u "value"), (0, u "[B"), (0, .fieldref 10 16), (0, .nameAndType 17 18), (0, u "coder"), (0, u "B"), (2, u "hash"), (0, u "I"), (2, u "hashIsZero"), (0, u "Z"), (0, .methodref 10 28), (0, .nameAndType 5 29), (0, u "([CIILjava/lang/Void;)V"), (8, .fieldref 10 39), (0, .nameAndType 40 26), (0, u "COMPACT_STRINGS"), (1, .class_ 44), (1, u "java/lang/StringUTF16"), (0, u "compress"), (1, .methodref 42 48), (0, .nameAndType 49 50), (0, u "coderFromArrayLen"), (0, u "([BI)B"), (56, .class_ 109), (1, u "java/lang/StringLatin1"), (32, u "()Z"), (34, .methodref 42 178), (0, .nameAndType 45 179), (0, u "([CII)[B"), (183, u "([BI)C"), (27, u "(II)V"), (35, u "(I)C"), (64, .methodref 10 493), (0, .nameAndType 494 142), (0, u "isLatin1"), (0, .methodref 107 496), (0, .nameAndType 497 363), (0, u "charAt"), (3, u "checkIndex"), (39, .methodref 107 542), (0, .nameAndType 543 544), (0, u "equals"), (0, u "([B[B)Z"), (28, u "(Ljava/lang/Object;)Z"), (1, .class_ 576), (0, u "java/lang/CharSequence"), (22, u "CASE_INSENSITIVE_ORDER"), (0, u "Ljava/util/Comparator;"), (409, u "([C)V"), (42, .fieldref 1054 1055), (0, .class_ 1056), (0, .nameAndType 1057 1058), (0, u "jdk/internal/util/Preconditions"), (0, u "SIOOBE_FORMATTER"), (0, u "Ljava/util/function/BiFunction;"), (0, .methodref 1054 1060), (0, .nameAndType 501 1061), (0, u "(IILjava/util/function/BiFunction;)I"), (39, u "serialPersistentFields"), (0, u "[Ljava/io/ObjectStreamField;"), (0, .class_ 1104), (0, u "java/lang/String$CaseInsensitiveComparator"), (1, .class_ 1107), (0, u "java/io/Serializable"), (0, .class_ 1109), (0, u "java/lang/Comparable"), (0, .class_ 1111), (0, u "java/lang/constant/Constable"), (0, .class_ 1113), (0, u "java/lang/constant/ConstantDesc"), (2, u "serialVersionUID"), (0, u "J"), (3, u "REPL"), (0, u "C"), (2, u "LATIN1"), (1, u "UTF16")] 323

def k7m0 : Method := { name := "<init>", desc := "()V", sig := { parameters := [], returnType := none }, accessFlags := 1, code := none }
def k7c1 : Code := { maxStack := 5, maxLocals := 2, code := jdk_42_method_3_code, exceptionTable := #[], attributes := #[] }
def k7m1 : Method := { name := "<init>", desc := "([C)V", sig := { parameters := [(.array .char)], returnType := none }, accessFlags := 1, code := some k7c1 }
def k7c2 : Code := { maxStack := 2, maxLocals := 2, code := jdk_42_method_56_code, exceptionTable := #[], attributes := #[] }
def k7m2 : Method := { name := "charAt", desc := "(I)C", sig := { parameters := [.int], returnType := some .char }, accessFlags := 1, code := some k7c2 }
def k7c3 : Code := { maxStack := 2, maxLocals := 3, code := jdk_42_method_66_code, exceptionTable := #[], attributes := #[] }
def k7m3 : Method := { name := "equals", desc := "(Ljava/lang/Object;)Z", sig := { parameters := [(.object "java/lang/Object")], returnType := some .boolean }, accessFlags := 1, code := some k7c3 }
def k7c4 : Code := { maxStack := 4, maxLocals := 6, code := jdk_42_method_149_code, exceptionTable := #[], attributes := #[] }
def k7m4 : Method := { name := "<init>", desc := "([CIILjava/lang/Void;)V", sig := { parameters := [(.array .char), .int, .int, (.object "java/lang/Void")], returnType := none }, accessFlags := 2, code := some k7c4 }
def k7c5 : Code := { maxStack := 1, maxLocals := 1, code := jdk_42_method_154_code, exceptionTable := #[], attributes := #[] }
def k7m5 : Method := { name := "isLatin1", desc := "()Z", sig := { parameters := [], returnType := some .boolean }, accessFlags := 0, code := some k7c5 }
def k7c6 : Code := { maxStack := 3, maxLocals := 2, code := jdk_42_method_155_code, exceptionTable := #[], attributes := #[] }
def k7m6 : Method := { name := "checkIndex", desc := "(II)V", sig := { parameters := [.int, .int], returnType := none }, accessFlags := 8, code := some k7c6 }
/-- java/lang/String -/
def k7 : Class := { plain "java/lang/String" (some 0) with
  accessFlags := 49
  interfaces := #[2, 3, 4, 5, 6]
  cf := some (fileOf pool7 10 #[.nestMembers #[1103]] #[{ accessFlags := 1, nameIndex := 5, descriptorIndex := 6, attributes := #[] }, { accessFlags := 1, nameIndex := 5, descriptorIndex := 1010, attributes := #[] }, { accessFlags := 1, nameIndex := 497, descriptorIndex := 427, attributes := #[] }, { accessFlags := 1, nameIndex := 543, descriptorIndex := 573, attributes := #[] }, { accessFlags := 2, nameIndex := 5, descriptorIndex := 29, attributes := #[] }, { accessFlags := 0, nameIndex := 494, descriptorIndex := 142, attributes := #[] }, { accessFlags := 8, nameIndex := 501, descriptorIndex := 391, attributes := #[] }] 49 2 #[1106, 1108, 575, 1110, 1112] #[{ accessFlags := 18, nameIndex := 13, descriptorIndex := 14, attributes := #[] }, { accessFlags := 18, nameIndex := 17, descriptorIndex := 18, attributes := #[] }, { accessFlags := 2, nameIndex := 21, descriptorIndex := 22, attributes := #[] }, { accessFlags := 2, nameIndex := 25, descriptorIndex := 26, attributes := #[] }, { accessFlags := 26, nameIndex := 1116, descriptorIndex := 1117, attributes := #[] }, { accessFlags := 24, nameIndex := 40, descriptorIndex := 26, attributes := #[] }, { accessFlags := 26, nameIndex := 1101, descriptorIndex := 1102, attributes := #[] }, { accessFlags := 26, nameIndex := 1121, descriptorIndex := 1122, attributes := #[] }, { accessFlags := 25, nameIndex := 599, descriptorIndex := 600, attributes := #[] }, { accessFlags := 24, nameIndex := 1125, descriptorIndex := 18, attributes := #[] }, { accessFlags := 24, nameIndex := 1127, descriptorIndex := 18, attributes := #[] }])
  fields := #[{ name := "value", type := (.array .byte), accessFlags := 18, slot := 0, constantValue := 0 }, { name := "coder", type := .byte, accessFlags := 18, slot := 1, constantValue := 0 }, { name := "hash", type := .int, accessFlags := 2, slot := 2, constantValue := 0 }, { name := "hashIsZero", type := .boolean, accessFlags := 2, slot := 3, constantValue := 0 }, { name := "serialVersionUID", type := .long, accessFlags := 26, slot := 0, constantValue := 0 }, { name := "COMPACT_STRINGS", type := .boolean, accessFlags := 24, slot := 1, constantValue := 0 }, { name := "serialPersistentFields", type := (.array (.object "java/io/ObjectStreamField")), accessFlags := 26, slot := 2, constantValue := 0 }, { name := "REPL", type := .char, accessFlags := 26, slot := 3, constantValue := 0 }, { name := "CASE_INSENSITIVE_ORDER", type := (.object "java/util/Comparator"), accessFlags := 25, slot := 4, constantValue := 0 }, { name := "LATIN1", type := .byte, accessFlags := 24, slot := 5, constantValue := 0 }, { name := "UTF16", type := .byte, accessFlags := 24, slot := 6, constantValue := 0 }]
  methods := #[k7m0, k7m1, k7m2, k7m3, k7m4, k7m5, k7m6]
  instanceTypes := #[(.array .byte), .byte, .int, .boolean]
  staticTypes := #[.long, .boolean, (.array (.object "java/io/ObjectStreamField")), .char, (.object "java/util/Comparator"), .byte, .byte]
  resolved := Array.replicate 1451 none
  statics := some 0 }

def pool8 : Array CpInfo := pool [(6, .class_ 8), (1, u "java/lang/Object"), (0, u "<init>"), (0, u "()V"), (0, .methodref 12 13), (0, .class_ 14), (0, .nameAndType 15 16), (0, u "java/lang/StringUTF16"), (0, u "newBytesLength"), (0, u "(I)I"), (3, .integer 1073741823), (23, .fieldref 12 45), (0, .nameAndType 46 47), (0, u "$assertionsDisabled"), (0, u "Z"), (11, .fieldref 12 60), (0, .nameAndType 61 62), (0, u "HI_BYTE_SHIFT"), (0, u "I"), (0, .fieldref 12 64), (0, .nameAndType 65 62), (0, u "LO_BYTE_SHIFT"), (5, .methodref 12 72), (0, .nameAndType 73 74), (0, u "getChar"), (0, u "([BI)C"), (32, .methodref 12 108), (0, .nameAndType 109 110), (0, u "newBytesFor"), (0, u "(I)[B"), (0, .methodref 12 112), (0, .nameAndType 113 114), (0, u "putChar"), (0, u "([BII)V"), (0, .methodref 12 116), (0, .nameAndType 117 118), (0, u "compress"), (0, u "([CI[BII)I"), (0, .methodref 12 120), (0, .nameAndType 121 122), (0, u "toBytes"), (0, u "([CII)[B"), (138, u "coderFromArrayLen"), (0, u "([BI)B"), (106, .class_ 371), (1, u "java/lang/StringUTF16$LinesSpliterator"), (58, u "MAX_LENGTH"), (196, .class_ 628), (0, u "java/lang/StringUTF16$CodePointsSpliterator"), (0, .class_ 630), (0, u "java/lang/StringUTF16$CharsSpliterator")] 4

def k8m0 : Method := { name := "<init>", desc := "()V", sig := { parameters := [], returnType := none }, accessFlags := 0, code := none }
def k8c1 : Code := { maxStack := 1, maxLocals := 1, code := jdk_52_method_2_code, exceptionTable := #[], attributes := #[] }
def k8m1 : Method := { name := "newBytesFor", desc := "(I)[B", sig := { parameters := [.int], returnType := some (.array .byte) }, accessFlags := 9, code := some k8c1 }
def k8c2 : Code := { maxStack := 4, maxLocals := 1, code := jdk_52_method_3_code, exceptionTable := #[], attributes := #[] }
def k8m2 : Method := { name := "newBytesLength", desc := "(I)I", sig := { parameters := [.int], returnType := some .int }, accessFlags := 9, code := some k8c2 }
def k8c3 : Code := { maxStack := 4, maxLocals := 3, code := jdk_52_method_4_code, exceptionTable := #[], attributes := #[] }
def k8m3 : Method := { name := "putChar", desc := "([BII)V", sig := { parameters := [(.array .byte), .int, .int], returnType := none }, accessFlags := 8, code := some k8c3 }
def k8c4 : Code := { maxStack := 3, maxLocals := 2, code := jdk_52_method_5_code, exceptionTable := #[], attributes := #[] }
def k8m4 : Method := { name := "getChar", desc := "([BI)C", sig := { parameters := [(.array .byte), .int], returnType := some .char }, accessFlags := 8, code := some k8c4 }
def k8c5 : Code := { maxStack := 4, maxLocals := 5, code := jdk_52_method_14_code, exceptionTable := #[], attributes := #[] }
def k8m5 : Method := { name := "toBytes", desc := "([CII)[B", sig := { parameters := [(.array .char), .int, .int], returnType := some (.array .byte) }, accessFlags := 9, code := some k8c5 }
def k8c6 : Code := { maxStack := 2, maxLocals := 2, code := jdk_52_method_15_code, exceptionTable := #[], attributes := #[] }
def k8m6 : Method := { name := "coderFromArrayLen", desc := "([BI)B", sig := { parameters := [(.array .byte), .int], returnType := some .byte }, accessFlags := 8, code := some k8c6 }
def k8c7 : Code := { maxStack := 5, maxLocals := 6, code := jdk_52_method_16_code, exceptionTable := #[], attributes := #[] }
def k8m7 : Method := { name := "compress", desc := "([CII)[B", sig := { parameters := [(.array .char), .int, .int], returnType := some (.array .byte) }, accessFlags := 9, code := some k8c7 }
def k8c8 : Code := { maxStack := 3, maxLocals := 7, code := jdk_52_method_21_code, exceptionTable := #[], attributes := #[] }
def k8m8 : Method := { name := "compress", desc := "([CI[BII)I", sig := { parameters := [(.array .char), .int, (.array .byte), .int, .int], returnType := some .int }, accessFlags := 9, code := some k8c8 }
/-- java/lang/StringUTF16 -/
def k8 : Class := { plain "java/lang/StringUTF16" (some 0) with
  accessFlags := 48
  interfaces := #[]
  cf := some (fileOf pool8 12 #[.nestMembers #[627, 629, 369]] #[{ accessFlags := 0, nameIndex := 9, descriptorIndex := 10, attributes := #[] }, { accessFlags := 9, nameIndex := 109, descriptorIndex := 110, attributes := #[] }, { accessFlags := 9, nameIndex := 15, descriptorIndex := 16, attributes := #[] }, { accessFlags := 8, nameIndex := 113, descriptorIndex := 114, attributes := #[] }, { accessFlags := 8, nameIndex := 73, descriptorIndex := 74, attributes := #[] }, { accessFlags := 9, nameIndex := 121, descriptorIndex := 122, attributes := #[] }, { accessFlags := 8, nameIndex := 261, descriptorIndex := 262, attributes := #[] }, { accessFlags := 9, nameIndex := 117, descriptorIndex := 122, attributes := #[] }, { accessFlags := 9, nameIndex := 117, descriptorIndex := 118, attributes := #[] }] 48 6 #[] #[{ accessFlags := 26, nameIndex := 61, descriptorIndex := 62, attributes := #[] }, { accessFlags := 26, nameIndex := 65, descriptorIndex := 62, attributes := #[] }, { accessFlags := 24, nameIndex := 430, descriptorIndex := 62, attributes := #[] }, { accessFlags := 4120, nameIndex := 46, descriptorIndex := 47, attributes := #[] }])
  fields := #[{ name := "HI_BYTE_SHIFT", type := .int, accessFlags := 26, slot := 0, constantValue := 0 }, { name := "LO_BYTE_SHIFT", type := .int, accessFlags := 26, slot := 1, constantValue := 0 }, { name := "MAX_LENGTH", type := .int, accessFlags := 24, slot := 2, constantValue := 0 }, { name := "$assertionsDisabled", type := .boolean, accessFlags := 4120, slot := 3, constantValue := 0 }]
  methods := #[k8m0, k8m1, k8m2, k8m3, k8m4, k8m5, k8m6, k8m7, k8m8]
  instanceTypes := #[]
  staticTypes := #[.int, .int, .int, .boolean]
  resolved := Array.replicate 635 none
  statics := some 1 }

def pool9 : Array CpInfo := pool [(1, .methodref 2 3), (0, .class_ 4), (0, .nameAndType 5 6), (0, u "java/lang/Object"), (0, u "<init>"), (0, u "()V"), (0, .interfaceMethodref 8 9), (0, .class_ 10), (0, .nameAndType 11 12), (0, u "java/util/List"), (0, u "of"), (0, u "()Ljava/util/List;"), (0, .fieldref 14 15), (0, .class_ 16), (0, .nameAndType 17 18), (0, u "com/example/topf/topf/core/BeanDefinition"), (0, u "aliases"), (0, u "Ljava/util/List;"), (0, .fieldref 14 20), (0, .nameAndType 21 18), (0, u "dependsOn"), (0, .fieldref 14 23), (0, .nameAndType 24 18), (0, u "constructorArguments"), (0, .class_ 26), (0, u "java/util/LinkedHashMap"), (0, .methodref 25 3), (0, .fieldref 14 29), (0, .nameAndType 30 31), (0, u "properties"), (0, u "Ljava/util/Map;"), (0, .fieldref 14 33), (0, .nameAndType 34 18), (0, u "qualifiers"), (0, .fieldref 14 36), (0, .nameAndType 37 38), (0, u "autowireCandidate"), (0, u "Z"), (0, .fieldref 14 40), (0, .nameAndType 41 18), (0, u "changeCounts"), (0, .fieldref 14 43), (0, .nameAndType 44 45), (0, u "name"), (0, u "Ljava/lang/String;"), (0, .fieldref 14 47), (0, .nameAndType 48 45), (0, u "className"), (0, .fieldref 14 50), (0, .nameAndType 51 45), (0, u "location"), (2, u "parentName"), (0, .methodref 14 56), (0, .nameAndType 57 6), (0, u "changed"), (2, u "factoryBeanName"), (2, u "factoryMethodName"), (2, u "value"), (0, u "Lcom/example/topf/topf/core/DefinedValue;"), (2, u "abstractDefinition"), (2, u "primary"), (2, u "autowire"), (0, u "Lcom/example/topf/topf/core/Autowire;"), (15, .fieldref 14 94), (0, .nameAndType 95 45), (0, u "scope"), (0, .string 97), (0, u "singleton"), (0, .methodref 99 100), (0, .class_ 101), (0, .nameAndType 102 103), (0, u "java/lang/String"), (0, u "equals"), (0, u "(Ljava/lang/Object;)Z"), (8, u "lazyInit"), (2, u "initMethod"), (2, u "initMethodGiven"), (2, u "defaultInitMethod"), (2, u "destroyMethod"), (2, u "destroyMethodGiven"), (2, u "defaultDestroyMethod"), (2, u "inheritedValues"), (0, u "Lcom/example/topf/topf/core/DefinitionValues;"), (59, .interfaceMethodref 8 195), (0, .nameAndType 196 197), (0, u "size"), (0, u "()I"), (33, u "()Z"), (43, u "lastRecipe"), (0, u "Lcom/example/topf/topf/core/Recipe;"), (8, u "(Ljava/lang/String;Ljava/lang/String;Ljava/lang/String;)V"), (50, u "SINGLETON"), (1, u "PROTOTYPE"), (0, u "INFERRED_DESTROY_METHOD"), (14, u "(Ljava/lang/String;)V"), (20, u "setScope"), (0, u "isSingleton")] 104

def k9c0 : Code := { maxStack := 3, maxLocals := 4, code := prog_21_method_1_code, exceptionTable := #[], attributes := #[] }
def k9m0 : Method := { name := "<init>", desc := "(Ljava/lang/String;Ljava/lang/String;Ljava/lang/String;)V", sig := { parameters := [(.object "java/lang/String"), (.object "java/lang/String"), (.object "java/lang/String")], returnType := none }, accessFlags := 1, code := some k9c0 }
def k9c1 : Code := { maxStack := 2, maxLocals := 2, code := prog_21_method_24_code, exceptionTable := #[], attributes := #[] }
def k9m1 : Method := { name := "setScope", desc := "(Ljava/lang/String;)V", sig := { parameters := [(.object "java/lang/String")], returnType := none }, accessFlags := 1, code := some k9c1 }
def k9c2 : Code := { maxStack := 2, maxLocals := 1, code := prog_21_method_25_code, exceptionTable := #[], attributes := #[] }
def k9m2 : Method := { name := "isSingleton", desc := "()Z", sig := { parameters := [], returnType := some .boolean }, accessFlags := 1, code := some k9c2 }
def k9c3 : Code := { maxStack := 2, maxLocals := 2, code := prog_21_method_52_code, exceptionTable := #[], attributes := #[] }
def k9m3 : Method := { name := "changed", desc := "()V", sig := { parameters := [], returnType := none }, accessFlags := 2, code := some k9c3 }
/-- com/example/topf/topf/core/BeanDefinition -/
def k9 : Class := { plain "com/example/topf/topf/core/BeanDefinition" (some 0) with
  accessFlags := 33
  interfaces := #[]
  cf := some (fileOf pool9 14 #[] #[{ accessFlags := 1, nameIndex := 5, descriptorIndex := 285, attributes := #[] }, { accessFlags := 1, nameIndex := 375, descriptorIndex := 354, attributes := #[] }, { accessFlags := 1, nameIndex := 376, descriptorIndex := 231, attributes := #[] }, { accessFlags := 2, nameIndex := 57, descriptorIndex := 6, attributes := #[] }] 33 2 #[] #[{ accessFlags := 25, nameIndex := 336, descriptorIndex := 45, attributes := #[] }, { accessFlags := 25, nameIndex := 338, descriptorIndex := 45, attributes := #[] }, { accessFlags := 25, nameIndex := 339, descriptorIndex := 45, attributes := #[] }, { accessFlags := 18, nameIndex := 44, descriptorIndex := 45, attributes := #[] }, { accessFlags := 2, nameIndex := 48, descriptorIndex := 45, attributes := #[] }, { accessFlags := 18, nameIndex := 51, descriptorIndex := 45, attributes := #[] }, { accessFlags := 2, nameIndex := 17, descriptorIndex := 18, attributes := #[] }, { accessFlags := 2, nameIndex := 21, descriptorIndex := 18, attributes := #[] }, { accessFlags := 2, nameIndex := 24, descriptorIndex := 18, attributes := #[] }, { accessFlags := 18, nameIndex := 30, descriptorIndex := 31, attributes := #[] }, { accessFlags := 2, nameIndex := 34, descriptorIndex := 18, attributes := #[] }, { accessFlags := 2, nameIndex := 66, descriptorIndex := 67, attributes := #[] }, { accessFlags := 2, nameIndex := 54, descriptorIndex := 45, attributes := #[] }, { accessFlags := 2, nameIndex := 60, descriptorIndex := 45, attributes := #[] }, { accessFlags := 2, nameIndex := 63, descriptorIndex := 45, attributes := #[] }, { accessFlags := 2, nameIndex := 70, descriptorIndex := 38, attributes := #[] }, { accessFlags := 2, nameIndex := 73, descriptorIndex := 38, attributes := #[] }, { accessFlags := 2, nameIndex := 37, descriptorIndex := 38, attributes := #[] }, { accessFlags := 2, nameIndex := 76, descriptorIndex := 77, attributes := #[] }, { accessFlags := 2, nameIndex := 95, descriptorIndex := 45, attributes := #[] }, { accessFlags := 2, nameIndex := 112, descriptorIndex := 38, attributes := #[] }, { accessFlags := 2, nameIndex := 115, descriptorIndex := 45, attributes := #[] }, { accessFlags := 2, nameIndex := 118, descriptorIndex := 38, attributes := #[] }, { accessFlags := 2, nameIndex := 121, descriptorIndex := 45, attributes := #[] }, { accessFlags := 2, nameIndex := 124, descriptorIndex := 45, attributes := #[] }, { accessFlags := 2, nameIndex := 127, descriptorIndex := 38, attributes := #[] }, { accessFlags := 2, nameIndex := 130, descriptorIndex := 45, attributes := #[] }, { accessFlags := 2, nameIndex := 41, descriptorIndex := 18, attributes := #[] }, { accessFlags := 66, nameIndex := 275, descriptorIndex := 276, attributes := #[] }, { accessFlags := 2, nameIndex := 133, descriptorIndex := 134, attributes := #[] }])
  fields := #[{ name := "SINGLETON", type := (.object "java/lang/String"), accessFlags := 25, slot := 0, constantValue := 0 }, { name := "PROTOTYPE", type := (.object "java/lang/String"), accessFlags := 25, slot := 1, constantValue := 0 }, { name := "INFERRED_DESTROY_METHOD", type := (.object "java/lang/String"), accessFlags := 25, slot := 2, constantValue := 0 }, { name := "name", type := (.object "java/lang/String"), accessFlags := 18, slot := 0, constantValue := 0 }, { name := "className", type := (.object "java/lang/String"), accessFlags := 2, slot := 1, constantValue := 0 }, { name := "location", type := (.object "java/lang/String"), accessFlags := 18, slot := 2, constantValue := 0 }, { name := "aliases", type := (.object "java/util/List"), accessFlags := 2, slot := 3, constantValue := 0 }, { name := "dependsOn", type := (.object "java/util/List"), accessFlags := 2, slot := 4, constantValue := 0 }, { name := "constructorArguments", type := (.object "java/util/List"), accessFlags := 2, slot := 5, constantValue := 0 }, { name := "properties", type := (.object "java/util/Map"), accessFlags := 18, slot := 6, constantValue := 0 }, { name := "qualifiers", type := (.object "java/util/List"), accessFlags := 2, slot := 7, constantValue := 0 }, { name := "value", type := (.object "com/example/topf/topf/core/DefinedValue"), accessFlags := 2, slot := 8, constantValue := 0 }, { name := "parentName", type := (.object "java/lang/String"), accessFlags := 2, slot := 9, constantValue := 0 }, { name := "factoryBeanName", type := (.object "java/lang/String"), accessFlags := 2, slot := 10, constantValue := 0 }, { name := "factoryMethodName", type := (.object "java/lang/String"), accessFlags := 2, slot := 11, constantValue := 0 }, { name := "abstractDefinition", type := .boolean, accessFlags := 2, slot := 12, constantValue := 0 }, { name := "primary", type := .boolean, accessFlags := 2, slot := 13, constantValue := 0 }, { name := "autowireCandidate", type := .boolean, accessFlags := 2, slot := 14, constantValue := 0 }, { name := "autowire", type := (.object "com/example/topf/topf/core/Autowire"), accessFlags := 2, slot := 15, constantValue := 0 }, { name := "scope", type := (.object "java/lang/String"), accessFlags := 2, slot := 16, constantValue := 0 }, { name := "lazyInit", type := .boolean, accessFlags := 2, slot := 17, constantValue := 0 }, { name := "initMethod", type := (.object "java/lang/String"), accessFlags := 2, slot := 18, constantValue := 0 }, { name := "initMethodGiven", type := .boolean, accessFlags := 2, slot := 19, constantValue := 0 }, { name := "defaultInitMethod", type := (.object "java/lang/String"), accessFlags := 2, slot := 20, constantValue := 0 }, { name := "destroyMethod", type := (.object "java/lang/String"), accessFlags := 2, slot := 21, constantValue := 0 }, { name := "destroyMethodGiven", type := .boolean, accessFlags := 2, slot := 22, constantValue := 0 }, { name := "defaultDestroyMethod", type := (.object "java/lang/String"), accessFlags := 2, slot := 23, constantValue := 0 }, { name := "changeCounts", type := (.object "java/util/List"), accessFlags := 2, slot := 24, constantValue := 0 }, { name := "lastRecipe", type := (.object "com/example/topf/topf/core/Recipe"), accessFlags := 66, slot := 25, constantValue := 0 }, { name := "inheritedValues", type := (.object "com/example/topf/topf/core/DefinitionValues"), accessFlags := 2, slot := 26, constantValue := 0 }]
  methods := #[k9m0, k9m1, k9m2, k9m3]
  instanceTypes := #[(.object "java/lang/String"), (.object "java/lang/String"), (.object "java/lang/String"), (.object "java/util/List"), (.object "java/util/List"), (.object "java/util/List"), (.object "java/util/Map"), (.object "java/util/List"), (.object "com/example/topf/topf/core/DefinedValue"), (.object "java/lang/String"), (.object "java/lang/String"), (.object "java/lang/String"), .boolean, .boolean, .boolean, (.object "com/example/topf/topf/core/Autowire"), (.object "java/lang/String"), .boolean, (.object "java/lang/String"), .boolean, (.object "java/lang/String"), (.object "java/lang/String"), .boolean, (.object "java/lang/String"), (.object "java/util/List"), (.object "com/example/topf/topf/core/Recipe"), (.object "com/example/topf/topf/core/DefinitionValues")]
  staticTypes := #[(.object "java/lang/String"), (.object "java/lang/String"), (.object "java/lang/String")]
  resolved := Array.replicate 481 none
  statics := none }

def pool10 : Array CpInfo := pool [(8, .class_ 10), (1, u "java/lang/Iterable"), (24, .class_ 36), (0, u "java/lang/Object")] 25

/-- java/lang/Iterable -/
def k10 : Class := { plain "java/lang/Iterable" (some 0) with
  accessFlags := 1537
  interfaces := #[]
  cf := some (fileOf pool10 8 #[] #[] 1537 35 #[] #[])
  fields := #[]
  methods := #[]
  instanceTypes := #[]
  staticTypes := #[]
  resolved := Array.replicate 62 none
  statics := none }

def pool11 : Array CpInfo := pool [(10, .class_ 12), (1, u "java/util/Collection"), (47, .class_ 61), (0, u "java/lang/Object"), (0, .class_ 63), (0, u "java/lang/Iterable")] 51

/-- java/util/Collection -/
def k11 : Class := { plain "java/util/Collection" (some 0) with
  accessFlags := 1537
  interfaces := #[10]
  cf := some (fileOf pool11 10 #[] #[] 1537 60 #[62] #[])
  fields := #[]
  methods := #[]
  instanceTypes := #[]
  staticTypes := #[]
  resolved := Array.replicate 115 none
  statics := none }

def pool12 : Array CpInfo := pool [(8, .class_ 10), (1, u "java/util/SequencedCollection"), (15, .class_ 27), (0, u "java/lang/Object"), (0, .class_ 29), (0, u "java/util/Collection")] 27

/-- java/util/SequencedCollection -/
def k12 : Class := { plain "java/util/SequencedCollection" (some 0) with
  accessFlags := 1537
  interfaces := #[11]
  cf := some (fileOf pool12 8 #[] #[] 1537 26 #[28] #[])
  fields := #[]
  methods := #[]
  instanceTypes := #[]
  staticTypes := #[]
  resolved := Array.replicate 57 none
  statics := none }

def pool13 : Array CpInfo := pool [(8, .class_ 10), (1, u "java/util/List"), (68, u "size"), (0, u "()I"), (7, u "of"), (1, .fieldref 91 92), (0, .class_ 93), (0, .nameAndType 94 95), (0, u "java/util/ImmutableCollections"), (0, u "EMPTY_LIST"), (0, u "Ljava/util/ImmutableCollections$ListN;"), (7, .class_ 104), (0, u "java/lang/Object"), (14, u "()Ljava/util/List;"), (0, .class_ 121), (0, u "java/util/SequencedCollection")] 129

def k13m0 : Method := { name := "size", desc := "()I", sig := { parameters := [], returnType := some .int }, accessFlags := 1025, code := none }
def k13c1 : Code := { maxStack := 1, maxLocals := 0, code := jdk_40_method_36_code, exceptionTable := #[], attributes := #[] }
def k13m1 : Method := { name := "of", desc := "()Ljava/util/List;", sig := { parameters := [], returnType := some (.object "java/util/List") }, accessFlags := 9, code := some k13c1 }
/-- java/util/List -/
def k13 : Class := { plain "java/util/List" (some 0) with
  accessFlags := 1537
  interfaces := #[12]
  cf := some (fileOf pool13 8 #[] #[{ accessFlags := 1025, nameIndex := 79, descriptorIndex := 80, attributes := #[] }, { accessFlags := 9, nameIndex := 88, descriptorIndex := 119, attributes := #[] }] 1537 103 #[120] #[])
  fields := #[]
  methods := #[k13m0, k13m1]
  instanceTypes := #[]
  staticTypes := #[]
  resolved := Array.replicate 251 none
  statics := none }

def pool14 : Array CpInfo := pool [(2, .class_ 4), (1, u "java/lang/Object"), (0, u "<init>"), (0, u "()V"), (3, .class_ 11), (0, u "java/util/ImmutableCollections$List12"), (0, .class_ 13), (0, u "java/util/ImmutableCollections$ListN"), (3, u "Z"), (29, .class_ 49), (1, u "java/util/ImmutableCollections"), (0, u "$assertionsDisabled"), (5, u "[Ljava/lang/Object;"), (5, u "EMPTY_LIST"), (0, u "Ljava/util/ImmutableCollections$ListN;"), (8, u "EMPTY_LIST_NULLS"), (22, u "SALT32L"), (0, u "J"), (2, u "REVERSE"), (6, u "archivedObjects"), (2, u "EMPTY"), (0, u "Ljava/lang/Object;"), (0, .class_ 112), (0, u "java/util/ImmutableCollections$SetN"), (5, u "EMPTY_SET"), (0, u "Ljava/util/ImmutableCollections$SetN;"), (0, .class_ 121), (0, u "java/util/ImmutableCollections$MapN"), (3, u "EMPTY_MAP"), (0, u "Ljava/util/ImmutableCollections$MapN;"), (4, u "EXPAND_FACTOR"), (0, u "I"), (36, .class_ 170), (0, u "java/util/ImmutableCollections$MapN$MapNIterator"), (0, .class_ 172), (0, u "java/util/ImmutableCollections$MapN$1"), (0, .class_ 174), (0, u "java/util/ImmutableCollections$Map1"), (0, .class_ 176), (0, u "java/util/ImmutableCollections$AbstractImmutableMap"), (0, .class_ 178), (0, u "java/util/ImmutableCollections$SetN$SetNIterator"), (0, .class_ 180), (0, u "java/util/ImmutableCollections$Set12"), (0, .class_ 182), (0, u "java/util/ImmutableCollections$Set12$1"), (0, .class_ 184), (0, u "java/util/ImmutableCollections$AbstractImmutableSet"), (0, .class_ 186), (0, u "java/util/ImmutableCollections$SubList"), (0, .class_ 188), (0, u "java/util/ImmutableCollections$ListItr"), (0, .class_ 190), (0, u "java/util/ImmutableCollections$AbstractImmutableList"), (0, .class_ 192), (0, u "java/util/ImmutableCollections$AbstractImmutableCollection"), (0, .class_ 194), (0, u "java/util/ImmutableCollections$Access"), (0, .class_ 196), (0, u "java/util/ImmutableCollections$Access$1")] 16

def k14m0 : Method := { name := "<init>", desc := "()V", sig := { parameters := [], returnType := none }, accessFlags := 2, code := none }
/-- java/util/ImmutableCollections -/
def k14 : Class := { plain "java/util/ImmutableCollections" (some 0) with
  accessFlags := 32
  interfaces := #[]
  cf := some (fileOf pool14 47 #[.nestMembers #[120, 169, 171, 173, 175, 111, 177, 179, 181, 183, 12, 10, 185, 187, 189, 191, 193, 195]] #[{ accessFlags := 2, nameIndex := 5, descriptorIndex := 6, attributes := #[] }] 32 2 #[] #[{ accessFlags := 26, nameIndex := 95, descriptorIndex := 96, attributes := #[] }, { accessFlags := 26, nameIndex := 99, descriptorIndex := 17, attributes := #[] }, { accessFlags := 10, nameIndex := 106, descriptorIndex := 56, attributes := #[] }, { accessFlags := 26, nameIndex := 109, descriptorIndex := 110, attributes := #[] }, { accessFlags := 24, nameIndex := 62, descriptorIndex := 63, attributes := #[] }, { accessFlags := 24, nameIndex := 72, descriptorIndex := 63, attributes := #[] }, { accessFlags := 24, nameIndex := 118, descriptorIndex := 119, attributes := #[] }, { accessFlags := 24, nameIndex := 125, descriptorIndex := 126, attributes := #[] }, { accessFlags := 24, nameIndex := 131, descriptorIndex := 132, attributes := #[] }, { accessFlags := 4120, nameIndex := 50, descriptorIndex := 17, attributes := #[] }])
  fields := #[{ name := "SALT32L", type := .long, accessFlags := 26, slot := 0, constantValue := 0 }, { name := "REVERSE", type := .boolean, accessFlags := 26, slot := 1, constantValue := 0 }, { name := "archivedObjects", type := (.array (.object "java/lang/Object")), accessFlags := 10, slot := 2, constantValue := 0 }, { name := "EMPTY", type := (.object "java/lang/Object"), accessFlags := 26, slot := 3, constantValue := 0 }, { name := "EMPTY_LIST", type := (.object "java/util/ImmutableCollections$ListN"), accessFlags := 24, slot := 4, constantValue := 0 }, { name := "EMPTY_LIST_NULLS", type := (.object "java/util/ImmutableCollections$ListN"), accessFlags := 24, slot := 5, constantValue := 0 }, { name := "EMPTY_SET", type := (.object "java/util/ImmutableCollections$SetN"), accessFlags := 24, slot := 6, constantValue := 0 }, { name := "EMPTY_MAP", type := (.object "java/util/ImmutableCollections$MapN"), accessFlags := 24, slot := 7, constantValue := 0 }, { name := "EXPAND_FACTOR", type := .int, accessFlags := 24, slot := 8, constantValue := 0 }, { name := "$assertionsDisabled", type := .boolean, accessFlags := 4120, slot := 9, constantValue := 0 }]
  methods := #[k14m0]
  instanceTypes := #[]
  staticTypes := #[.long, .boolean, (.array (.object "java/lang/Object")), (.object "java/lang/Object"), (.object "java/util/ImmutableCollections$ListN"), (.object "java/util/ImmutableCollections$ListN"), (.object "java/util/ImmutableCollections$SetN"), (.object "java/util/ImmutableCollections$MapN"), .int, .boolean]
  resolved := Array.replicate 213 none
  statics := some 2 }

def pool15 : Array CpInfo := pool [(2, .class_ 4), (1, u "java/util/Map"), (31, .class_ 37), (0, u "java/util/Map$Entry"), (55, .class_ 94), (0, u "java/lang/Object")] 168

/-- java/util/Map -/
def k15 : Class := { plain "java/util/Map" (some 0) with
  accessFlags := 1537
  interfaces := #[]
  cf := some (fileOf pool15 2 #[.nestMembers #[36]] #[] 1537 93 #[] #[])
  fields := #[]
  methods := #[]
  instanceTypes := #[]
  staticTypes := #[]
  resolved := Array.replicate 263 none
  statics := none }

def pool16 : Array CpInfo := pool [(1, .methodref 2 3), (0, .class_ 4), (0, .nameAndType 5 6), (0, u "java/lang/Object"), (0, u "<init>"), (0, u "()V"), (1, .class_ 10), (1, u "java/util/AbstractMap"), (42, .class_ 54), (0, u "java/util/Map"), (9, u "keySet"), (0, u "Ljava/util/Set;"), (0, .class_ 67), (0, u "java/util/AbstractMap$1"), (5, u "values"), (0, u "Ljava/util/Collection;"), (0, .class_ 76), (0, u "java/util/AbstractMap$2"), (104, .class_ 182), (0, u "java/util/AbstractMap$ViewCollection"), (0, .class_ 184), (0, u "java/util/AbstractMap$SimpleImmutableEntry"), (0, .class_ 186), (0, u "java/util/AbstractMap$SimpleEntry"), (0, .class_ 188), (0, u "java/util/AbstractMap$2$1"), (0, .class_ 190), (0, u "java/util/AbstractMap$1$1")] 5

def k16c0 : Code := { maxStack := 1, maxLocals := 1, code := jdk_71_method_1_code, exceptionTable := #[], attributes := #[] }
def k16m0 : Method := { name := "<init>", desc := "()V", sig := { parameters := [], returnType := none }, accessFlags := 4, code := some k16c0 }
/-- java/util/AbstractMap -/
def k16 : Class := { plain "java/util/AbstractMap" (some 0) with
  accessFlags := 1057
  interfaces := #[15]
  cf := some (fileOf pool16 8 #[.nestMembers #[181, 183, 185, 75, 187, 66, 189]] #[{ accessFlags := 4, nameIndex := 5, descriptorIndex := 6, attributes := #[] }] 1057 2 #[53] #[{ accessFlags := 128, nameIndex := 64, descriptorIndex := 65, attributes := #[] }, { accessFlags := 128, nameIndex := 73, descriptorIndex := 74, attributes := #[] }])
  fields := #[{ name := "keySet", type := (.object "java/util/Set"), accessFlags := 128, slot := 0, constantValue := 0 }, { name := "values", type := (.object "java/util/Collection"), accessFlags := 128, slot := 1, constantValue := 0 }]
  methods := #[k16m0]
  instanceTypes := #[(.object "java/util/Set"), (.object "java/util/Collection")]
  staticTypes := #[]
  resolved := Array.replicate 196 none
  statics := none }

def pool17 : Array CpInfo := pool [(1, .class_ 2), (0, u "java/lang/Cloneable"), (0, .class_ 4), (0, u "java/lang/Object")] 2

/-- java/lang/Cloneable -/
def k17 : Class := { plain "java/lang/Cloneable" (some 0) with
  accessFlags := 1537
  interfaces := #[]
  cf := some (fileOf pool17 1 #[] #[] 1537 3 #[] #[])
  fields := #[]
  methods := #[]
  instanceTypes := #[]
  staticTypes := #[]
  resolved := Array.replicate 7 none
  statics := none }

def pool18 : Array CpInfo := pool [(40, .class_ 41), (0, u "java/util/HashMap"), (1, .methodref 44 45), (0, .class_ 46), (0, .nameAndType 47 48), (0, u "java/util/AbstractMap"), (0, u "<init>"), (0, u "()V"), (32, .fieldref 40 82), (0, .nameAndType 83 84), (0, u "loadFactor"), (0, u "F"), (5, u "threshold"), (0, u "I"), (0, .float 1061158912), (8, .class_ 103), (1, u "java/util/Map"), (0, u "size"), (2, u "table"), (0, u "[Ljava/util/HashMap$Node;"), (14, u "entrySet"), (39, .class_ 165), (1, u "java/util/HashMap$Node"), (14, .class_ 181), (0, u "java/util/HashMap$TreeNode"), (22, u "modCount"), (37, u "Ljava/util/Set;"), (0, .class_ 244), (0, u "java/util/HashMap$KeySet"), (18, .class_ 264), (0, u "java/util/HashMap$Values"), (3, .class_ 269), (0, u "java/util/HashMap$EntrySet"), (76, .class_ 348), (1, u "java/util/HashMap$UnsafeHolder"), (43, .class_ 393), (0, u "java/lang/Cloneable"), (0, .class_ 395), (0, u "java/io/Serializable"), (0, u "serialVersionUID"), (0, u "J"), (3, u "DEFAULT_INITIAL_CAPACITY"), (1, u "MAXIMUM_CAPACITY"), (0, u "DEFAULT_LOAD_FACTOR"), (0, u "TREEIFY_THRESHOLD"), (1, u "UNTREEIFY_THRESHOLD"), (1, u "MIN_TREEIFY_CAPACITY"), (186, .class_ 597), (0, u "java/util/HashMap$EntrySpliterator"), (0, .class_ 599), (0, u "java/util/HashMap$ValueSpliterator"), (0, .class_ 601), (0, u "java/util/HashMap$KeySpliterator"), (0, .class_ 603), (0, u "java/util/HashMap$HashMapSpliterator"), (0, .class_ 605), (0, u "java/util/HashMap$EntryIterator"), (0, .class_ 607), (0, u "java/util/HashMap$ValueIterator"), (0, .class_ 609), (0, u "java/util/HashMap$KeyIterator"), (0, .class_ 611), (0, u "java/util/HashMap$HashIterator")] 17

def k18c0 : Code := { maxStack := 2, maxLocals := 1, code := jdk_69_method_7_code, exceptionTable := #[], attributes := #[] }
def k18m0 : Method := { name := "<init>", desc := "()V", sig := { parameters := [], returnType := none }, accessFlags := 1, code := some k18c0 }
/-- java/util/HashMap -/
def k18 : Class := { plain "java/util/HashMap" (some 16) with
  accessFlags := 33
  interfaces := #[15, 17, 2]
  cf := some (fileOf pool18 40 #[.nestMembers #[180, 596, 598, 600, 602, 604, 606, 608, 610, 346, 268, 263, 243, 163]] #[{ accessFlags := 1, nameIndex := 47, descriptorIndex := 48, attributes := #[] }] 33 44 #[101, 392, 394] #[{ accessFlags := 26, nameIndex := 396, descriptorIndex := 397, attributes := #[] }, { accessFlags := 24, nameIndex := 401, descriptorIndex := 91, attributes := #[] }, { accessFlags := 24, nameIndex := 403, descriptorIndex := 91, attributes := #[] }, { accessFlags := 24, nameIndex := 404, descriptorIndex := 84, attributes := #[] }, { accessFlags := 24, nameIndex := 405, descriptorIndex := 91, attributes := #[] }, { accessFlags := 24, nameIndex := 407, descriptorIndex := 91, attributes := #[] }, { accessFlags := 24, nameIndex := 409, descriptorIndex := 91, attributes := #[] }, { accessFlags := 128, nameIndex := 107, descriptorIndex := 108, attributes := #[] }, { accessFlags := 128, nameIndex := 123, descriptorIndex := 242, attributes := #[] }, { accessFlags := 128, nameIndex := 104, descriptorIndex := 91, attributes := #[] }, { accessFlags := 128, nameIndex := 204, descriptorIndex := 91, attributes := #[] }, { accessFlags := 0, nameIndex := 90, descriptorIndex := 91, attributes := #[] }, { accessFlags := 16, nameIndex := 83, descriptorIndex := 84, attributes := #[] }])
  fields := #[{ name := "serialVersionUID", type := .long, accessFlags := 26, slot := 0, constantValue := 0 }, { name := "DEFAULT_INITIAL_CAPACITY", type := .int, accessFlags := 24, slot := 1, constantValue := 0 }, { name := "MAXIMUM_CAPACITY", type := .int, accessFlags := 24, slot := 2, constantValue := 0 }, { name := "DEFAULT_LOAD_FACTOR", type := .float, accessFlags := 24, slot := 3, constantValue := 0 }, { name := "TREEIFY_THRESHOLD", type := .int, accessFlags := 24, slot := 4, constantValue := 0 }, { name := "UNTREEIFY_THRESHOLD", type := .int, accessFlags := 24, slot := 5, constantValue := 0 }, { name := "MIN_TREEIFY_CAPACITY", type := .int, accessFlags := 24, slot := 6, constantValue := 0 }, { name := "table", type := (.array (.object "java/util/HashMap$Node")), accessFlags := 128, slot := 2, constantValue := 0 }, { name := "entrySet", type := (.object "java/util/Set"), accessFlags := 128, slot := 3, constantValue := 0 }, { name := "size", type := .int, accessFlags := 128, slot := 4, constantValue := 0 }, { name := "modCount", type := .int, accessFlags := 128, slot := 5, constantValue := 0 }, { name := "threshold", type := .int, accessFlags := 0, slot := 6, constantValue := 0 }, { name := "loadFactor", type := .float, accessFlags := 16, slot := 7, constantValue := 0 }]
  methods := #[k18m0]
  instanceTypes := #[(.object "java/util/Set"), (.object "java/util/Collection"), (.array (.object "java/util/HashMap$Node")), (.object "java/util/Set"), .int, .int, .int, .float]
  staticTypes := #[.long, .int, .int, .float, .int, .int, .int]
  resolved := Array.replicate 629 none
  statics := none }

def pool19 : Array CpInfo := pool [(2, .class_ 4), (1, u "java/util/SequencedMap"), (38, .class_ 44), (0, u "java/util/SequencedMap$1SeqKeySet"), (3, .class_ 49), (0, u "java/util/SequencedMap$1SeqValues"), (1, .class_ 52), (0, u "java/util/SequencedMap$1SeqEntrySet"), (1, .class_ 55), (0, u "java/lang/Object"), (0, .class_ 57), (0, u "java/util/Map")] 48

/-- java/util/SequencedMap -/
def k19 : Class := { plain "java/util/SequencedMap" (some 0) with
  accessFlags := 1537
  interfaces := #[15]
  cf := some (fileOf pool19 2 #[.nestMembers #[51, 48, 43]] #[] 1537 54 #[56] #[])
  fields := #[]
  methods := #[]
  instanceTypes := #[]
  staticTypes := #[]
  resolved := Array.replicate 106 none
  statics := none }

def pool20 : Array CpInfo := pool [(1, .fieldref 2 3), (0, .class_ 4), (0, .nameAndType 5 6), (0, u "java/util/LinkedHashMap"), (0, u "putMode"), (0, u "I"), (2, u "head"), (0, u "Ljava/util/LinkedHashMap$Entry;"), (2, u "tail"), (1, .class_ 17), (1, u "java/util/LinkedHashMap$Entry"), (5, .class_ 25), (1, u "java/util/HashMap"), (1, u "()V"), (2, u "<init>"), (33, .fieldref 2 65), (0, .nameAndType 66 67), (0, u "accessOrder"), (0, u "Z"), (19, .methodref 23 88), (0, .nameAndType 30 27), (32, .class_ 122), (0, u "java/util/LinkedHashMap$LinkedKeySet"), (20, .class_ 144), (0, u "java/util/LinkedHashMap$LinkedValues"), (9, .class_ 155), (0, u "java/util/LinkedHashMap$LinkedEntrySet"), (44, .class_ 201), (0, u "java/util/LinkedHashMap$ReversedLinkedHashMapView"), (3, .class_ 206), (0, u "java/util/SequencedMap"), (0, u "serialVersionUID"), (0, u "J"), (5, u "PUT_NORM"), (1, u "PUT_FIRST"), (1, u "PUT_LAST"), (143, .class_ 363), (0, u "java/util/LinkedHashMap$LinkedEntryIterator"), (0, .class_ 365), (0, u "java/util/LinkedHashMap$LinkedValueIterator"), (0, .class_ 367), (0, u "java/util/LinkedHashMap$LinkedKeyIterator"), (0, .class_ 369), (0, u "java/util/LinkedHashMap$LinkedHashIterator")] 16

def k20c0 : Code := { maxStack := 2, maxLocals := 1, code := jdk_94_method_16_code, exceptionTable := #[], attributes := #[] }
def k20m0 : Method := { name := "<init>", desc := "()V", sig := { parameters := [], returnType := none }, accessFlags := 1, code := some k20c0 }
/-- java/util/LinkedHashMap -/
def k20 : Class := { plain "java/util/LinkedHashMap" (some 18) with
  accessFlags := 33
  interfaces := #[19]
  cf := some (fileOf pool20 2 #[.nestMembers #[200, 362, 364, 366, 368, 154, 143, 121, 15]] #[{ accessFlags := 1, nameIndex := 30, descriptorIndex := 27, attributes := #[] }] 33 23 #[205] #[{ accessFlags := 26, nameIndex := 207, descriptorIndex := 208, attributes := #[] }, { accessFlags := 128, nameIndex := 9, descriptorIndex := 10, attributes := #[] }, { accessFlags := 128, nameIndex := 13, descriptorIndex := 10, attributes := #[] }, { accessFlags := 16, nameIndex := 66, descriptorIndex := 67, attributes := #[] }, { accessFlags := 24, nameIndex := 214, descriptorIndex := 6, attributes := #[] }, { accessFlags := 24, nameIndex := 216, descriptorIndex := 6, attributes := #[] }, { accessFlags := 24, nameIndex := 218, descriptorIndex := 6, attributes := #[] }, { accessFlags := 128, nameIndex := 5, descriptorIndex := 6, attributes := #[] }])
  fields := #[{ name := "serialVersionUID", type := .long, accessFlags := 26, slot := 0, constantValue := 0 }, { name := "head", type := (.object "java/util/LinkedHashMap$Entry"), accessFlags := 128, slot := 8, constantValue := 0 }, { name := "tail", type := (.object "java/util/LinkedHashMap$Entry"), accessFlags := 128, slot := 9, constantValue := 0 }, { name := "accessOrder", type := .boolean, accessFlags := 16, slot := 10, constantValue := 0 }, { name := "PUT_NORM", type := .int, accessFlags := 24, slot := 1, constantValue := 0 }, { name := "PUT_FIRST", type := .int, accessFlags := 24, slot := 2, constantValue := 0 }, { name := "PUT_LAST", type := .int, accessFlags := 24, slot := 3, constantValue := 0 }, { name := "putMode", type := .int, accessFlags := 128, slot := 11, constantValue := 0 }]
  methods := #[k20m0]
  instanceTypes := #[(.object "java/util/Set"), (.object "java/util/Collection"), (.array (.object "java/util/HashMap$Node")), (.object "java/util/Set"), .int, .int, .int, .float, (.object "java/util/LinkedHashMap$Entry"), (.object "java/util/LinkedHashMap$Entry"), .boolean, .int]
  staticTypes := #[.long, .int, .int, .int]
  resolved := Array.replicate 386 none
  statics := none }

def pool21 : Array CpInfo := pool [(2, .class_ 4), (1, u "java/lang/Object"), (0, u "<init>"), (0, u "()V"), (1, .class_ 10), (1, u "java/util/AbstractCollection"), (66, .class_ 78), (0, u "java/util/Collection")] 81

def k21m0 : Method := { name := "<init>", desc := "()V", sig := { parameters := [], returnType := none }, accessFlags := 4, code := none }
/-- java/util/AbstractCollection -/
def k21 : Class := { plain "java/util/AbstractCollection" (some 0) with
  accessFlags := 1057
  interfaces := #[11]
  cf := some (fileOf pool21 8 #[] #[{ accessFlags := 4, nameIndex := 5, descriptorIndex := 6, attributes := #[] }] 1057 2 #[77] #[])
  fields := #[]
  methods := #[k21m0]
  instanceTypes := #[]
  staticTypes := #[]
  resolved := Array.replicate 160 none
  statics := none }

def pool22 : Array CpInfo := pool [(2, .class_ 4), (1, u "java/util/AbstractCollection"), (0, u "<init>"), (0, u "()V"), (1, .class_ 10), (1, u "java/util/ImmutableCollections"), (2, .class_ 14), (0, u "java/util/ImmutableCollections$AbstractImmutableCollection")] 41

def k22m0 : Method := { name := "<init>", desc := "()V", sig := { parameters := [], returnType := none }, accessFlags := 0, code := none }
/-- java/util/ImmutableCollections$AbstractImmutableCollection -/
def k22 : Class := { plain "java/util/ImmutableCollections$AbstractImmutableCollection" (some 21) with
  accessFlags := 1056
  interfaces := #[]
  cf := some (fileOf pool22 13 #[.nestHost 8] #[{ accessFlags := 0, nameIndex := 5, descriptorIndex := 6, attributes := #[] }] 1056 2 #[] #[])
  fields := #[]
  methods := #[k22m0]
  instanceTypes := #[]
  staticTypes := #[]
  resolved := Array.replicate 56 none
  statics := none }

def pool23 : Array CpInfo := pool [(1, .class_ 2), (0, u "java/util/RandomAccess"), (0, .class_ 4), (0, u "java/lang/Object")] 2

/-- java/util/RandomAccess -/
def k23 : Class := { plain "java/util/RandomAccess" (some 0) with
  accessFlags := 1537
  interfaces := #[]
  cf := some (fileOf pool23 1 #[] #[] 1537 3 #[] #[])
  fields := #[]
  methods := #[]
  instanceTypes := #[]
  staticTypes := #[]
  resolved := Array.replicate 7 none
  statics := none }

def pool24 : Array CpInfo := pool [(2, .class_ 4), (1, u "java/util/ImmutableCollections$AbstractImmutableCollection"), (0, u "<init>"), (0, u "()V"), (1, .class_ 10), (1, u "java/util/ImmutableCollections"), (3, .class_ 16), (1, u "java/util/ImmutableCollections$AbstractImmutableList"), (60, .class_ 78), (0, u "java/util/List"), (45, .class_ 125), (0, u "java/util/RandomAccess")] 70

def k24m0 : Method := { name := "<init>", desc := "()V", sig := { parameters := [], returnType := none }, accessFlags := 0, code := none }
/-- java/util/ImmutableCollections$AbstractImmutableList -/
def k24 : Class := { plain "java/util/ImmutableCollections$AbstractImmutableList" (some 22) with
  accessFlags := 1056
  interfaces := #[13, 23]
  cf := some (fileOf pool24 14 #[.nestHost 8] #[{ accessFlags := 0, nameIndex := 5, descriptorIndex := 6, attributes := #[] }] 1056 2 #[77, 124] #[])
  fields := #[]
  methods := #[k24m0]
  instanceTypes := #[]
  staticTypes := #[]
  resolved := Array.replicate 196 none
  statics := none }

def pool25 : Array CpInfo := pool [(2, .class_ 4), (1, u "java/util/ImmutableCollections$AbstractImmutableList"), (2, .fieldref 8 9), (0, .class_ 10), (0, .nameAndType 11 12), (0, u "java/util/ImmutableCollections$ListN"), (0, u "elements"), (0, u "[Ljava/lang/Object;"), (2, u "allowNulls"), (0, u "Z"), (42, .class_ 60), (0, u "java/io/Serializable"), (16, u "size"), (0, u "()I"), (35, .class_ 115), (0, u "java/util/ImmutableCollections")] 3

def k25c0 : Code := { maxStack := 1, maxLocals := 1, code := jdk_45_method_3_code, exceptionTable := #[], attributes := #[] }
def k25m0 : Method := { name := "size", desc := "()I", sig := { parameters := [], returnType := some .int }, accessFlags := 1, code := some k25c0 }
/-- java/util/ImmutableCollections$ListN -/
def k25 : Class := { plain "java/util/ImmutableCollections$ListN" (some 24) with
  accessFlags := 48
  interfaces := #[2]
  cf := some (fileOf pool25 8 #[.nestHost 114] #[{ accessFlags := 1, nameIndex := 77, descriptorIndex := 78, attributes := #[] }] 48 2 #[59] #[{ accessFlags := 18, nameIndex := 11, descriptorIndex := 12, attributes := #[] }, { accessFlags := 18, nameIndex := 15, descriptorIndex := 16, attributes := #[] }])
  fields := #[{ name := "elements", type := (.array (.object "java/lang/Object")), accessFlags := 18, slot := 0, constantValue := 0 }, { name := "allowNulls", type := .boolean, accessFlags := 18, slot := 1, constantValue := 0 }]
  methods := #[k25m0]
  instanceTypes := #[(.array (.object "java/lang/Object")), .boolean]
  staticTypes := #[]
  resolved := Array.replicate 119 none
  statics := none }

def pool26 : Array CpInfo := pool [(1, .class_ 2), (0, u "java/lang/String"), (1, .class_ 6), (1, u "java/lang/Object"), (0, u "<init>"), (0, u "()V"), (0, .methodref 1 10), (0, .nameAndType 11 12), (0, u "checkIndex"), (0, u "(II)V"), (1, .class_ 16), (1, u "java/lang/StringLatin1"), (36, u "([BI)C"), (67, u "$assertionsDisabled"), (0, u "Z"), (98, .class_ 223), (1, u "java/lang/StringLatin1$LinesSpliterator"), (28, u "charAt"), (28, u "equals"), (0, u "([B[B)Z"), (107, .class_ 391), (0, u "java/lang/StringLatin1$CharsSpliterator")] 3

def k26m0 : Method := { name := "<init>", desc := "()V", sig := { parameters := [], returnType := none }, accessFlags := 0, code := none }
def k26c1 : Code := { maxStack := 2, maxLocals := 2, code := jdk_43_method_2_code, exceptionTable := #[], attributes := #[] }
def k26m1 : Method := { name := "charAt", desc := "([BI)C", sig := { parameters := [(.array .byte), .int], returnType := some .char }, accessFlags := 9, code := some k26c1 }
def k26c2 : Code := { maxStack := 3, maxLocals := 3, code := jdk_43_method_13_code, exceptionTable := #[], attributes := #[] }
def k26m2 : Method := { name := "equals", desc := "([B[B)Z", sig := { parameters := [(.array .byte), (.array .byte)], returnType := some .boolean }, accessFlags := 9, code := some k26c2 }
/-- java/lang/StringLatin1 -/
def k26 : Class := { plain "java/lang/StringLatin1" (some 0) with
  accessFlags := 48
  interfaces := #[]
  cf := some (fileOf pool26 14 #[.nestMembers #[390, 221]] #[{ accessFlags := 0, nameIndex := 7, descriptorIndex := 8, attributes := #[] }, { accessFlags := 9, nameIndex := 252, descriptorIndex := 53, attributes := #[] }, { accessFlags := 9, nameIndex := 281, descriptorIndex := 282, attributes := #[] }] 48 4 #[] #[{ accessFlags := 4120, nameIndex := 121, descriptorIndex := 122, attributes := #[] }])
  fields := #[{ name := "$assertionsDisabled", type := .boolean, accessFlags := 4120, slot := 0, constantValue := 0 }]
  methods := #[k26m0, k26m1, k26m2]
  instanceTypes := #[]
  staticTypes := #[.boolean]
  resolved := Array.replicate 395 none
  statics := none }

def pool27 : Array CpInfo := pool [(2, .class_ 4), (1, u "java/lang/Object"), (0, u "<init>"), (0, u "()V"), (17, .class_ 26), (1, u "jdk/internal/util/Preconditions"), (6, u "checkIndex"), (21, .class_ 56), (0, u "jdk/internal/util/Preconditions$4"), (57, .class_ 115), (0, u "jdk/internal/util/Preconditions$1"), (7, u "SIOOBE_FORMATTER"), (0, u "Ljava/util/function/BiFunction;"), (0, .class_ 126), (0, u "jdk/internal/util/Preconditions$2"), (3, u "AIOOBE_FORMATTER"), (0, .class_ 132), (0, u "jdk/internal/util/Preconditions$3"), (3, u "IOOBE_FORMATTER"), (41, u "(IILjava/util/function/BiFunction;)I")] 15

def k27m0 : Method := { name := "<init>", desc := "()V", sig := { parameters := [], returnType := none }, accessFlags := 1, code := none }
def k27c1 : Code := { maxStack := 3, maxLocals := 3, code := jdk_41_method_11_code, exceptionTable := #[], attributes := #[] }
def k27m1 : Method := { name := "checkIndex", desc := "(IILjava/util/function/BiFunction;)I", sig := { parameters := [.int, .int, (.object "java/util/function/BiFunction")], returnType := some .int }, accessFlags := 9, code := some k27c1 }
/-- jdk/internal/util/Preconditions -/
def k27 : Class := { plain "jdk/internal/util/Preconditions" (some 0) with
  accessFlags := 33
  interfaces := #[]
  cf := some (fileOf pool27 24 #[.nestMembers #[55, 131, 125, 114]] #[{ accessFlags := 1, nameIndex := 5, descriptorIndex := 6, attributes := #[] }, { accessFlags := 9, nameIndex := 33, descriptorIndex := 178, attributes := #[] }] 33 2 #[] #[{ accessFlags := 25, nameIndex := 123, descriptorIndex := 124, attributes := #[] }, { accessFlags := 25, nameIndex := 130, descriptorIndex := 124, attributes := #[] }, { accessFlags := 25, nameIndex := 136, descriptorIndex := 124, attributes := #[] }])
  fields := #[{ name := "SIOOBE_FORMATTER", type := (.object "java/util/function/BiFunction"), accessFlags := 25, slot := 0, constantValue := 0 }, { name := "AIOOBE_FORMATTER", type := (.object "java/util/function/BiFunction"), accessFlags := 25, slot := 1, constantValue := 0 }, { name := "IOOBE_FORMATTER", type := (.object "java/util/function/BiFunction"), accessFlags := 25, slot := 2, constantValue := 0 }]
  methods := #[k27m0, k27m1]
  instanceTypes := #[]
  staticTypes := #[(.object "java/util/function/BiFunction"), (.object "java/util/function/BiFunction"), (.object "java/util/function/BiFunction")]
  resolved := Array.replicate 194 none
  statics := some 3 }

def pool28 : Array CpInfo := pool [(9, u "<init>"), (6, .class_ 18), (1, u "java/lang/Object"), (0, u "()V"), (1, .class_ 23), (1, u "jdk/internal/util/ArraysSupport"), (0, u "LOG2_ARRAY_LONG_INDEX_SCALE"), (0, u "I"), (2, u "U"), (0, u "Ljdk/internal/misc/Unsafe;"), (8, u "BIG_ENDIAN"), (0, u "Z"), (8, u "LOG2_BYTE_BIT_SIZE"), (4, u "LOG2_ARRAY_INT_INDEX_SCALE"), (54, u "JLA"), (0, u "Ljdk/internal/access/JavaLangAccess;"), (11, u "LOG2_ARRAY_BOOLEAN_INDEX_SCALE"), (9, u "LOG2_ARRAY_BYTE_INDEX_SCALE"), (5, u "LOG2_ARRAY_CHAR_INDEX_SCALE"), (5, u "LOG2_ARRAY_SHORT_INDEX_SCALE"), (18, u "LOG2_ARRAY_FLOAT_INDEX_SCALE"), (24, u "LOG2_ARRAY_DOUBLE_INDEX_SCALE"), (89, u "T_BOOLEAN"), (2, u "T_CHAR"), (1, u "T_FLOAT"), (1, u "T_DOUBLE"), (1, u "T_BYTE"), (1, u "T_SHORT"), (1, u "T_INT"), (1, u "T_LONG"), (1, u "SOFT_MAX_ARRAY_LENGTH")] 83

def k28m0 : Method := { name := "<init>", desc := "()V", sig := { parameters := [], returnType := none }, accessFlags := 2, code := none }
/-- jdk/internal/util/ArraysSupport -/
def k28 : Class := { plain "jdk/internal/util/ArraysSupport" (some 0) with
  accessFlags := 33
  interfaces := #[]
  cf := some (fileOf pool28 21 #[] #[{ accessFlags := 2, nameIndex := 9, descriptorIndex := 19, attributes := #[] }] 33 16 #[] #[{ accessFlags := 24, nameIndex := 28, descriptorIndex := 29, attributes := #[] }, { accessFlags := 26, nameIndex := 38, descriptorIndex := 39, attributes := #[] }, { accessFlags := 25, nameIndex := 121, descriptorIndex := 25, attributes := #[] }, { accessFlags := 25, nameIndex := 131, descriptorIndex := 25, attributes := #[] }, { accessFlags := 25, nameIndex := 137, descriptorIndex := 25, attributes := #[] }, { accessFlags := 25, nameIndex := 143, descriptorIndex := 25, attributes := #[] }, { accessFlags := 25, nameIndex := 53, descriptorIndex := 25, attributes := #[] }, { accessFlags := 25, nameIndex := 24, descriptorIndex := 25, attributes := #[] }, { accessFlags := 25, nameIndex := 162, descriptorIndex := 25, attributes := #[] }, { accessFlags := 25, nameIndex := 187, descriptorIndex := 25, attributes := #[] }, { accessFlags := 26, nameIndex := 48, descriptorIndex := 25, attributes := #[] }, { accessFlags := 25, nameIndex := 277, descriptorIndex := 25, attributes := #[] }, { accessFlags := 25, nameIndex := 280, descriptorIndex := 25, attributes := #[] }, { accessFlags := 25, nameIndex := 282, descriptorIndex := 25, attributes := #[] }, { accessFlags := 25, nameIndex := 284, descriptorIndex := 25, attributes := #[] }, { accessFlags := 25, nameIndex := 286, descriptorIndex := 25, attributes := #[] }, { accessFlags := 25, nameIndex := 288, descriptorIndex := 25, attributes := #[] }, { accessFlags := 25, nameIndex := 290, descriptorIndex := 25, attributes := #[] }, { accessFlags := 25, nameIndex := 292, descriptorIndex := 25, attributes := #[] }, { accessFlags := 26, nameIndex := 108, descriptorIndex := 109, attributes := #[] }, { accessFlags := 25, nameIndex := 294, descriptorIndex := 25, attributes := #[] }])
  fields := #[{ name := "U", type := (.object "jdk/internal/misc/Unsafe"), accessFlags := 24, slot := 0, constantValue := 0 }, { name := "BIG_ENDIAN", type := .boolean, accessFlags := 26, slot := 1, constantValue := 0 }, { name := "LOG2_ARRAY_BOOLEAN_INDEX_SCALE", type := .int, accessFlags := 25, slot := 2, constantValue := 0 }, { name := "LOG2_ARRAY_BYTE_INDEX_SCALE", type := .int, accessFlags := 25, slot := 3, constantValue := 0 }, { name := "LOG2_ARRAY_CHAR_INDEX_SCALE", type := .int, accessFlags := 25, slot := 4, constantValue := 0 }, { name := "LOG2_ARRAY_SHORT_INDEX_SCALE", type := .int, accessFlags := 25, slot := 5, constantValue := 0 }, { name := "LOG2_ARRAY_INT_INDEX_SCALE", type := .int, accessFlags := 25, slot := 6, constantValue := 0 }, { name := "LOG2_ARRAY_LONG_INDEX_SCALE", type := .int, accessFlags := 25, slot := 7, constantValue := 0 }, { name := "LOG2_ARRAY_FLOAT_INDEX_SCALE", type := .int, accessFlags := 25, slot := 8, constantValue := 0 }, { name := "LOG2_ARRAY_DOUBLE_INDEX_SCALE", type := .int, accessFlags := 25, slot := 9, constantValue := 0 }, { name := "LOG2_BYTE_BIT_SIZE", type := .int, accessFlags := 26, slot := 10, constantValue := 0 }, { name := "T_BOOLEAN", type := .int, accessFlags := 25, slot := 11, constantValue := 0 }, { name := "T_CHAR", type := .int, accessFlags := 25, slot := 12, constantValue := 0 }, { name := "T_FLOAT", type := .int, accessFlags := 25, slot := 13, constantValue := 0 }, { name := "T_DOUBLE", type := .int, accessFlags := 25, slot := 14, constantValue := 0 }, { name := "T_BYTE", type := .int, accessFlags := 25, slot := 15, constantValue := 0 }, { name := "T_SHORT", type := .int, accessFlags := 25, slot := 16, constantValue := 0 }, { name := "T_INT", type := .int, accessFlags := 25, slot := 17, constantValue := 0 }, { name := "T_LONG", type := .int, accessFlags := 25, slot := 18, constantValue := 0 }, { name := "JLA", type := (.object "jdk/internal/access/JavaLangAccess"), accessFlags := 26, slot := 19, constantValue := 0 }, { name := "SOFT_MAX_ARRAY_LENGTH", type := .int, accessFlags := 25, slot := 20, constantValue := 0 }]
  methods := #[k28m0]
  instanceTypes := #[]
  staticTypes := #[(.object "jdk/internal/misc/Unsafe"), .boolean, .int, .int, .int, .int, .int, .int, .int, .int, .int, .int, .int, .int, .int, .int, .int, .int, .int, (.object "jdk/internal/access/JavaLangAccess"), .int]
  resolved := Array.replicate 378 none
  statics := none }

/-- the primitive byte -/
def k29 : Class := { plain "byte" none with kind := .primitive 'B', accessFlags := 0x411 }
/-- [B -/
def k30 : Class := { plain "[B" (some 0) with kind := .array 29 .byte, interfaces := #[17, 2], accessFlags := 1041 }

/-- the primitive char -/
def k31 : Class := { plain "char" none with kind := .primitive 'C', accessFlags := 0x411 }
/-- [C -/
def k32 : Class := { plain "[C" (some 0) with kind := .array 31 .char, interfaces := #[17, 2], accessFlags := 1041 }

/-- the primitive int -/
def k33 : Class := { plain "int" none with kind := .primitive 'I', accessFlags := 0x411 }
/-- [I -/
def k34 : Class := { plain "[I" (some 0) with kind := .array 33 .int, interfaces := #[17, 2], accessFlags := 1041 }

/-- [Ljava/lang/Object; -/
def k35 : Class := { plain "[Ljava/lang/Object;" (some 0) with kind := .array 0 (.object "java/lang/Object"), interfaces := #[17, 2], accessFlags := 1041 }

def heap : Heap := #[{ cls := 7, slots := #[.long 0, .int 1, .null, .int 0, .null, .int 0, .int 0], vm := .statics 7 },
  { cls := 8, slots := #[.int 0, .int 8, .int 0, .int 1], vm := .statics 8 },
  { cls := 14, slots := #[.long 0, .int 0, .null, .null, .ref 5, .null, .null, .null, .int 0, .int 0], vm := .statics 14 },
  { cls := 27, slots := #[.null, .null, .null], vm := .statics 27 },
  { cls := 35, slots := #[], vm := .none },
  { cls := 25, slots := #[.ref 4, .int 0], vm := .none }]
def classes : Array Class := #[k0, k1, k2, k3, k4, k5, k6, k7, k8, k9, k10, k11, k12, k13, k14, k15, k16, k17, k18, k19, k20, k21, k22, k23, k24, k25, k26, k27, k28, k29, k30, k31, k32, k33, k34, k35]
def interned : List (Array UInt16 × Addr) := []
def slotsUsed : Nat := 26
def theMethod : MethodId := ⟨1, 1⟩
def args0 : Array Value := #[.int 1, .int 2, .int 3, .int 4]
def aboutOver (below : List Frame) : State where
  vm := { classes := classes, interned := interned.toArray }
  heap := heap
  slotsUsed := slotsUsed
  threads := #[{ frames := .invoking theMethod args0 :: below }]
def below0 : List Frame := [.native { method := ⟨0, 0⟩, args := #[] }]
def about1 : State := aboutOver below0
def p0 : Program := .bare "" "" ""
def e0 : Env := launch0.env 0 0 0
theorem w_frames : about1.frames = Frame.invoking theMethod args0 :: below0 := rfl
set_option maxRecDepth 65536 in
theorem w_args : argsFit about1.vm theMethod args0 = true := by decide +kernel
set_option maxRecDepth 65536 in
theorem w_heap : heapFits about1 = true := by decide +kernel
set_option maxRecDepth 65536 in
theorem w_runnable : about1.curStatus? = some .runnable := by decide +kernel
set_option maxRecDepth 65536 in
theorem w_alone : about1.alone = true := by decide +kernel
set_option maxRecDepth 65536 in
theorem w_named : about1.methodNamed? x = some theMethod := by decide +kernel
set_option maxRecDepth 65536 in
theorem w_hears : about1.hears theMethod below0 = true := by decide +kernel
set_option maxRecDepth 65536 in
theorem w_ripe : about1.ripe theMethod args0 below0 = true := by decide +kernel
theorem w_running : about1.status = .running := rfl
set_option maxRecDepth 65536 in
theorem w_room : about1.hasRoom e0.platform room_1 = true :=
  launch0.hasRoom_least _ room_1 (by decide +kernel) (by decide +kernel) (by decide +kernel) (by decide +kernel) (by decide +kernel) (by decide +kernel)
theorem allAtoms_all (ts : List Jvm.Cond) (a : Array Jvm.Value) (st : Jvm.State) : (allAtoms ts).before a st = ts.all (fun c => c.before a st) := by
  induction ts with
  | nil => rfl
  | cons c t ih =>
    show (Jvm.Cond.and c (allAtoms t)).before a st = _
    rw [Jvm.Cond.before_and, ih, List.all_cons]
def words1 : List Jvm.Cond := Jvm.Cond.code x code maxLocals ret :: tables_1
/-- a 'code' word, met by the world's own term for the bytes: nothing is compared byte by byte -/
theorem code_word {y : MethodName} {bytes : ByteArray} {mx : Nat} {rt : Option FieldType} {a : Array Value} {s : State} {m : MethodId} {meth : Method} {c : Code} (h1 : s.methodNamed? y = some m) (h2 : s.vm.method? m = some meth) (h3 : meth.code = some c) (h4 : c.code = bytes)
    (h5 : (c.maxLocals == mx && c.exceptionTable.isEmpty && decide (c.maxStack ≤ mostOperands) && decide (meth.sig.returnType = rt) && !meth.locks && decide (parseMethodDescriptor y.desc = some meth.sig)) = true) : (Jvm.Cond.code y bytes mx rt).before a s = true := by
  simp only [Bool.and_eq_true, beq_iff_eq, Bool.not_eq_true', decide_eq_true_eq] at h5
  obtain ⟨⟨⟨⟨⟨g1, g2⟩, g3⟩, g4⟩, g5⟩, g6⟩ := h5
  simp [Cond.before, Cond.holds, Cond.value, h1, h2, h3, h4, g1, g2, g3, g4, g5, g6]
def isCode : Jvm.Cond → Bool
  | .code _ _ _ _ => true
  | _ => false
theorem all_split {L : List Jvm.Cond} {P : Jvm.Cond → Bool} (h1 : L.all (fun c => isCode c || P c) = true) (h2 : ∀ c ∈ L.filter isCode, P c = true) : L.all P = true := by
  refine List.all_eq_true.mpr fun c hc => ?_
  have h := List.all_eq_true.mp h1 c hc
  rcases Bool.eq_false_or_eq_true (isCode c) with hi | hi
  · exact h2 c (List.mem_filter.mpr ⟨hc, hi⟩)
  · simpa [hi] using h
set_option maxRecDepth 65536 in
theorem w_c0 : (Jvm.Cond.code x code maxLocals ret).before args0 about1 = true := code_word (m := ⟨1, 1⟩) (meth := k1m1) (c := k1c1) (by decide +kernel) rfl rfl rfl (by decide +kernel)
set_option maxRecDepth 65536 in
theorem w_c1 : (Jvm.Cond.code ({ cls := "com/example/topf/topf/core/BeanDefinitionIsSingletonPinLaw", name := "drawn", desc := "(IICC)Ljava/lang/String;" } : Jvm.MethodName) method_3_code (6 : Nat) (Option.some (Jvm.ClassFile.FieldType.object "java/lang/String"))).before args0 about1 = true := code_word (m := ⟨1, 2⟩) (meth := k1m2) (c := k1c2) (by decide +kernel) rfl rfl rfl (by decide +kernel)
set_option maxRecDepth 65536 in
theorem w_c2 : (Jvm.Cond.code ({ cls := "java/lang/String", name := "<init>", desc := "([C)V" } : Jvm.MethodName) jdk_42_method_3_code (2 : Nat) (Option.none : Option Jvm.ClassFile.FieldType)).before args0 about1 = true := code_word (m := ⟨7, 1⟩) (meth := k7m1) (c := k7c1) (by decide +kernel) rfl rfl rfl (by decide +kernel)
set_option maxRecDepth 65536 in
theorem w_c3 : (Jvm.Cond.code ({ cls := "java/lang/String", name := "<init>", desc := "([CIILjava/lang/Void;)V" } : Jvm.MethodName) jdk_42_method_149_code (6 : Nat) (Option.none : Option Jvm.ClassFile.FieldType)).before args0 about1 = true := code_word (m := ⟨7, 4⟩) (meth := k7m4) (c := k7c4) (by decide +kernel) rfl rfl rfl (by decide +kernel)
set_option maxRecDepth 65536 in
theorem w_c4 : (Jvm.Cond.code ({ cls := "java/lang/Object", name := "<init>", desc := "()V" } : Jvm.MethodName) object_method_1_code (1 : Nat) (Option.none : Option Jvm.ClassFile.FieldType)).before args0 about1 = true := code_word (m := ⟨0, 0⟩) (meth := k0m0) (c := k0c0) (by decide +kernel) rfl rfl rfl (by decide +kernel)
set_option maxRecDepth 65536 in
theorem w_c5 : (Jvm.Cond.code ({ cls := "java/lang/StringUTF16", name := "compress", desc := "([CII)[B" } : Jvm.MethodName) jdk_52_method_16_code (6 : Nat) (Option.some (Jvm.ClassFile.FieldType.array Jvm.ClassFile.FieldType.byte))).before args0 about1 = true := code_word (m := ⟨8, 7⟩) (meth := k8m7) (c := k8c7) (by decide +kernel) rfl rfl rfl (by decide +kernel)
set_option maxRecDepth 65536 in
theorem w_c6 : (Jvm.Cond.code ({ cls := "java/lang/StringUTF16", name := "compress", desc := "([CI[BII)I" } : Jvm.MethodName) jdk_52_method_21_code (7 : Nat) (Option.some Jvm.ClassFile.FieldType.int)).before args0 about1 = true := code_word (m := ⟨8, 8⟩) (meth := k8m8) (c := k8c8) (by decide +kernel) rfl rfl rfl (by decide +kernel)
set_option maxRecDepth 65536 in
theorem w_c7 : (Jvm.Cond.code ({ cls := "java/lang/StringUTF16", name := "coderFromArrayLen", desc := "([BI)B" } : Jvm.MethodName) jdk_52_method_15_code (2 : Nat) (Option.some Jvm.ClassFile.FieldType.byte)).before args0 about1 = true := code_word (m := ⟨8, 6⟩) (meth := k8m6) (c := k8c6) (by decide +kernel) rfl rfl rfl (by decide +kernel)
set_option maxRecDepth 65536 in
theorem w_c8 : (Jvm.Cond.code ({ cls := "com/example/topf/topf/core/BeanDefinition", name := "<init>", desc := "(Ljava/lang/String;Ljava/lang/String;Ljava/lang/String;)V" } : Jvm.MethodName) prog_21_method_1_code (4 : Nat) (Option.none : Option Jvm.ClassFile.FieldType)).before args0 about1 = true := code_word (m := ⟨9, 0⟩) (meth := k9m0) (c := k9c0) (by decide +kernel) rfl rfl rfl (by decide +kernel)
set_option maxRecDepth 65536 in
theorem w_c9 : (Jvm.Cond.code ({ cls := "java/util/List", name := "of", desc := "()Ljava/util/List;" } : Jvm.MethodName) jdk_40_method_36_code (0 : Nat) (Option.some (Jvm.ClassFile.FieldType.object "java/util/List"))).before args0 about1 = true := code_word (m := ⟨13, 1⟩) (meth := k13m1) (c := k13c1) (by decide +kernel) rfl rfl rfl (by decide +kernel)
set_option maxRecDepth 65536 in
theorem w_c10 : (Jvm.Cond.code ({ cls := "java/util/LinkedHashMap", name := "<init>", desc := "()V" } : Jvm.MethodName) jdk_94_method_16_code (1 : Nat) (Option.none : Option Jvm.ClassFile.FieldType)).before args0 about1 = true := code_word (m := ⟨20, 0⟩) (meth := k20m0) (c := k20c0) (by decide +kernel) rfl rfl rfl (by decide +kernel)
set_option maxRecDepth 65536 in
theorem w_c11 : (Jvm.Cond.code ({ cls := "java/util/HashMap", name := "<init>", desc := "()V" } : Jvm.MethodName) jdk_69_method_7_code (1 : Nat) (Option.none : Option Jvm.ClassFile.FieldType)).before args0 about1 = true := code_word (m := ⟨18, 0⟩) (meth := k18m0) (c := k18c0) (by decide +kernel) rfl rfl rfl (by decide +kernel)
set_option maxRecDepth 65536 in
theorem w_c12 : (Jvm.Cond.code ({ cls := "java/util/AbstractMap", name := "<init>", desc := "()V" } : Jvm.MethodName) jdk_71_method_1_code (1 : Nat) (Option.none : Option Jvm.ClassFile.FieldType)).before args0 about1 = true := code_word (m := ⟨16, 0⟩) (meth := k16m0) (c := k16c0) (by decide +kernel) rfl rfl rfl (by decide +kernel)
set_option maxRecDepth 65536 in
theorem w_c13 : (Jvm.Cond.code ({ cls := "com/example/topf/topf/core/BeanDefinition", name := "isSingleton", desc := "()Z" } : Jvm.MethodName) prog_21_method_25_code (1 : Nat) (Option.some Jvm.ClassFile.FieldType.boolean)).before args0 about1 = true := code_word (m := ⟨9, 2⟩) (meth := k9m2) (c := k9c2) (by decide +kernel) rfl rfl rfl (by decide +kernel)
set_option maxRecDepth 65536 in
theorem w_c14 : (Jvm.Cond.code ({ cls := "com/example/topf/topf/core/BeanDefinition", name := "setScope", desc := "(Ljava/lang/String;)V" } : Jvm.MethodName) prog_21_method_24_code (2 : Nat) (Option.none : Option Jvm.ClassFile.FieldType)).before args0 about1 = true := code_word (m := ⟨9, 1⟩) (meth := k9m1) (c := k9c1) (by decide +kernel) rfl rfl rfl (by decide +kernel)
set_option maxRecDepth 65536 in
theorem w_c15 : (Jvm.Cond.code ({ cls := "com/example/topf/topf/core/BeanDefinition", name := "changed", desc := "()V" } : Jvm.MethodName) prog_21_method_52_code (2 : Nat) (Option.none : Option Jvm.ClassFile.FieldType)).before args0 about1 = true := code_word (m := ⟨9, 3⟩) (meth := k9m3) (c := k9c3) (by decide +kernel) rfl rfl rfl (by decide +kernel)
set_option maxRecDepth 65536 in
theorem w_c16 : (Jvm.Cond.code ({ cls := "java/util/ImmutableCollections$ListN", name := "size", desc := "()I" } : Jvm.MethodName) jdk_45_method_3_code (1 : Nat) (Option.some Jvm.ClassFile.FieldType.int)).before args0 about1 = true := code_word (m := ⟨25, 0⟩) (meth := k25m0) (c := k25c0) (by decide +kernel) rfl rfl rfl (by decide +kernel)
set_option maxRecDepth 65536 in
theorem w_c17 : (Jvm.Cond.code ({ cls := "java/lang/String", name := "equals", desc := "(Ljava/lang/Object;)Z" } : Jvm.MethodName) jdk_42_method_66_code (3 : Nat) (Option.some Jvm.ClassFile.FieldType.boolean)).before args0 about1 = true := code_word (m := ⟨7, 3⟩) (meth := k7m3) (c := k7c3) (by decide +kernel) rfl rfl rfl (by decide +kernel)
set_option maxRecDepth 65536 in
theorem w_c18 : (Jvm.Cond.code ({ cls := "java/lang/StringLatin1", name := "equals", desc := "([B[B)Z" } : Jvm.MethodName) jdk_43_method_13_code (3 : Nat) (Option.some Jvm.ClassFile.FieldType.boolean)).before args0 about1 = true := code_word (m := ⟨26, 2⟩) (meth := k26m2) (c := k26c2) (by decide +kernel) rfl rfl rfl (by decide +kernel)
set_option maxRecDepth 65536 in
theorem w_c19 : (Jvm.Cond.code ({ cls := "java/lang/StringUTF16", name := "toBytes", desc := "([CII)[B" } : Jvm.MethodName) jdk_52_method_14_code (5 : Nat) (Option.some (Jvm.ClassFile.FieldType.array Jvm.ClassFile.FieldType.byte))).before args0 about1 = true := code_word (m := ⟨8, 5⟩) (meth := k8m5) (c := k8c5) (by decide +kernel) rfl rfl rfl (by decide +kernel)
set_option maxRecDepth 65536 in
theorem w_c20 : (Jvm.Cond.code ({ cls := "java/lang/StringUTF16", name := "newBytesFor", desc := "(I)[B" } : Jvm.MethodName) jdk_52_method_2_code (1 : Nat) (Option.some (Jvm.ClassFile.FieldType.array Jvm.ClassFile.FieldType.byte))).before args0 about1 = true := code_word (m := ⟨8, 1⟩) (meth := k8m1) (c := k8c1) (by decide +kernel) rfl rfl rfl (by decide +kernel)
set_option maxRecDepth 65536 in
theorem w_c21 : (Jvm.Cond.code ({ cls := "java/lang/StringUTF16", name := "newBytesLength", desc := "(I)I" } : Jvm.MethodName) jdk_52_method_3_code (1 : Nat) (Option.some Jvm.ClassFile.FieldType.int)).before args0 about1 = true := code_word (m := ⟨8, 2⟩) (meth := k8m2) (c := k8c2) (by decide +kernel) rfl rfl rfl (by decide +kernel)
set_option maxRecDepth 65536 in
theorem w_c22 : (Jvm.Cond.code ({ cls := "java/lang/StringUTF16", name := "putChar", desc := "([BII)V" } : Jvm.MethodName) jdk_52_method_4_code (3 : Nat) (Option.none : Option Jvm.ClassFile.FieldType)).before args0 about1 = true := code_word (m := ⟨8, 3⟩) (meth := k8m3) (c := k8c3) (by decide +kernel) rfl rfl rfl (by decide +kernel)
set_option maxRecDepth 65536 in
theorem w_c23 : (Jvm.Cond.code ({ cls := "java/lang/StringUTF16", name := "getChar", desc := "([BI)C" } : Jvm.MethodName) jdk_52_method_5_code (2 : Nat) (Option.some Jvm.ClassFile.FieldType.char)).before args0 about1 = true := code_word (m := ⟨8, 4⟩) (meth := k8m4) (c := k8c4) (by decide +kernel) rfl rfl rfl (by decide +kernel)
set_option maxRecDepth 65536 in
theorem w_c24 : (Jvm.Cond.code ({ cls := "java/lang/String", name := "charAt", desc := "(I)C" } : Jvm.MethodName) jdk_42_method_56_code (2 : Nat) (Option.some Jvm.ClassFile.FieldType.char)).before args0 about1 = true := code_word (m := ⟨7, 2⟩) (meth := k7m2) (c := k7c2) (by decide +kernel) rfl rfl rfl (by decide +kernel)
set_option maxRecDepth 65536 in
theorem w_c25 : (Jvm.Cond.code ({ cls := "java/lang/String", name := "isLatin1", desc := "()Z" } : Jvm.MethodName) jdk_42_method_154_code (1 : Nat) (Option.some Jvm.ClassFile.FieldType.boolean)).before args0 about1 = true := code_word (m := ⟨7, 5⟩) (meth := k7m5) (c := k7c5) (by decide +kernel) rfl rfl rfl (by decide +kernel)
set_option maxRecDepth 65536 in
theorem w_c26 : (Jvm.Cond.code ({ cls := "java/lang/StringLatin1", name := "charAt", desc := "([BI)C" } : Jvm.MethodName) jdk_43_method_2_code (2 : Nat) (Option.some Jvm.ClassFile.FieldType.char)).before args0 about1 = true := code_word (m := ⟨26, 1⟩) (meth := k26m1) (c := k26c1) (by decide +kernel) rfl rfl rfl (by decide +kernel)
set_option maxRecDepth 65536 in
theorem w_c27 : (Jvm.Cond.code ({ cls := "java/lang/String", name := "checkIndex", desc := "(II)V" } : Jvm.MethodName) jdk_42_method_155_code (2 : Nat) (Option.none : Option Jvm.ClassFile.FieldType)).before args0 about1 = true := code_word (m := ⟨7, 6⟩) (meth := k7m6) (c := k7c6) (by decide +kernel) rfl rfl rfl (by decide +kernel)
set_option maxRecDepth 65536 in
theorem w_c28 : (Jvm.Cond.code ({ cls := "jdk/internal/util/Preconditions", name := "checkIndex", desc := "(IILjava/util/function/BiFunction;)I" } : Jvm.MethodName) jdk_41_method_11_code (3 : Nat) (Option.some Jvm.ClassFile.FieldType.int)).before args0 about1 = true := code_word (m := ⟨27, 1⟩) (meth := k27m1) (c := k27c1) (by decide +kernel) rfl rfl rfl (by decide +kernel)
def codes1 : List Jvm.Cond := [Jvm.Cond.code x code maxLocals ret, Jvm.Cond.code ({ cls := "com/example/topf/topf/core/BeanDefinitionIsSingletonPinLaw", name := "drawn", desc := "(IICC)Ljava/lang/String;" } : Jvm.MethodName) method_3_code (6 : Nat) (Option.some (Jvm.ClassFile.FieldType.object "java/lang/String")), Jvm.Cond.code ({ cls := "java/lang/String", name := "<init>", desc := "([C)V" } : Jvm.MethodName) jdk_42_method_3_code (2 : Nat) (Option.none : Option Jvm.ClassFile.FieldType), Jvm.Cond.code ({ cls := "java/lang/String", name := "<init>", desc := "([CIILjava/lang/Void;)V" } : Jvm.MethodName) jdk_42_method_149_code (6 : Nat) (Option.none : Option Jvm.ClassFile.FieldType), Jvm.Cond.code ({ cls := "java/lang/Object", name := "<init>", desc := "()V" } : Jvm.MethodName) object_method_1_code (1 : Nat) (Option.none : Option Jvm.ClassFile.FieldType), Jvm.Cond.code ({ cls := "java/lang/StringUTF16", name := "compress", desc := "([CII)[B" } : Jvm.MethodName) jdk_52_method_16_code (6 : Nat) (Option.some (Jvm.ClassFile.FieldType.array Jvm.ClassFile.FieldType.byte)), Jvm.Cond.code ({ cls := "java/lang/StringUTF16", name := "compress", desc := "([CI[BII)I" } : Jvm.MethodName) jdk_52_method_21_code (7 : Nat) (Option.some Jvm.ClassFile.FieldType.int), Jvm.Cond.code ({ cls := "java/lang/StringUTF16", name := "coderFromArrayLen", desc := "([BI)B" } : Jvm.MethodName) jdk_52_method_15_code (2 : Nat) (Option.some Jvm.ClassFile.FieldType.byte), Jvm.Cond.code ({ cls := "com/example/topf/topf/core/BeanDefinition", name := "<init>", desc := "(Ljava/lang/String;Ljava/lang/String;Ljava/lang/String;)V" } : Jvm.MethodName) prog_21_method_1_code (4 : Nat) (Option.none : Option Jvm.ClassFile.FieldType), Jvm.Cond.code ({ cls := "java/util/List", name := "of", desc := "()Ljava/util/List;" } : Jvm.MethodName) jdk_40_method_36_code (0 : Nat) (Option.some (Jvm.ClassFile.FieldType.object "java/util/List")), Jvm.Cond.code ({ cls := "java/util/LinkedHashMap", name := "<init>", desc := "()V" } : Jvm.MethodName) jdk_94_method_16_code (1 : Nat) (Option.none : Option Jvm.ClassFile.FieldType), Jvm.Cond.code ({ cls := "java/util/HashMap", name := "<init>", desc := "()V" } : Jvm.MethodName) jdk_69_method_7_code (1 : Nat) (Option.none : Option Jvm.ClassFile.FieldType), Jvm.Cond.code ({ cls := "java/util/AbstractMap", name := "<init>", desc := "()V" } : Jvm.MethodName) jdk_71_method_1_code (1 : Nat) (Option.none : Option Jvm.ClassFile.FieldType), Jvm.Cond.code ({ cls := "com/example/topf/topf/core/BeanDefinition", name := "isSingleton", desc := "()Z" } : Jvm.MethodName) prog_21_method_25_code (1 : Nat) (Option.some Jvm.ClassFile.FieldType.boolean), Jvm.Cond.code ({ cls := "com/example/topf/topf/core/BeanDefinition", name := "setScope", desc := "(Ljava/lang/String;)V" } : Jvm.MethodName) prog_21_method_24_code (2 : Nat) (Option.none : Option Jvm.ClassFile.FieldType), Jvm.Cond.code ({ cls := "com/example/topf/topf/core/BeanDefinition", name := "changed", desc := "()V" } : Jvm.MethodName) prog_21_method_52_code (2 : Nat) (Option.none : Option Jvm.ClassFile.FieldType), Jvm.Cond.code ({ cls := "java/util/ImmutableCollections$ListN", name := "size", desc := "()I" } : Jvm.MethodName) jdk_45_method_3_code (1 : Nat) (Option.some Jvm.ClassFile.FieldType.int), Jvm.Cond.code ({ cls := "java/lang/String", name := "equals", desc := "(Ljava/lang/Object;)Z" } : Jvm.MethodName) jdk_42_method_66_code (3 : Nat) (Option.some Jvm.ClassFile.FieldType.boolean), Jvm.Cond.code ({ cls := "java/lang/StringLatin1", name := "equals", desc := "([B[B)Z" } : Jvm.MethodName) jdk_43_method_13_code (3 : Nat) (Option.some Jvm.ClassFile.FieldType.boolean), Jvm.Cond.code ({ cls := "java/lang/StringUTF16", name := "toBytes", desc := "([CII)[B" } : Jvm.MethodName) jdk_52_method_14_code (5 : Nat) (Option.some (Jvm.ClassFile.FieldType.array Jvm.ClassFile.FieldType.byte)), Jvm.Cond.code ({ cls := "java/lang/StringUTF16", name := "newBytesFor", desc := "(I)[B" } : Jvm.MethodName) jdk_52_method_2_code (1 : Nat) (Option.some (Jvm.ClassFile.FieldType.array Jvm.ClassFile.FieldType.byte)), Jvm.Cond.code ({ cls := "java/lang/StringUTF16", name := "newBytesLength", desc := "(I)I" } : Jvm.MethodName) jdk_52_method_3_code (1 : Nat) (Option.some Jvm.ClassFile.FieldType.int), Jvm.Cond.code ({ cls := "java/lang/StringUTF16", name := "putChar", desc := "([BII)V" } : Jvm.MethodName) jdk_52_method_4_code (3 : Nat) (Option.none : Option Jvm.ClassFile.FieldType), Jvm.Cond.code ({ cls := "java/lang/StringUTF16", name := "getChar", desc := "([BI)C" } : Jvm.MethodName) jdk_52_method_5_code (2 : Nat) (Option.some Jvm.ClassFile.FieldType.char), Jvm.Cond.code ({ cls := "java/lang/String", name := "charAt", desc := "(I)C" } : Jvm.MethodName) jdk_42_method_56_code (2 : Nat) (Option.some Jvm.ClassFile.FieldType.char), Jvm.Cond.code ({ cls := "java/lang/String", name := "isLatin1", desc := "()Z" } : Jvm.MethodName) jdk_42_method_154_code (1 : Nat) (Option.some Jvm.ClassFile.FieldType.boolean), Jvm.Cond.code ({ cls := "java/lang/StringLatin1", name := "charAt", desc := "([BI)C" } : Jvm.MethodName) jdk_43_method_2_code (2 : Nat) (Option.some Jvm.ClassFile.FieldType.char), Jvm.Cond.code ({ cls := "java/lang/String", name := "checkIndex", desc := "(II)V" } : Jvm.MethodName) jdk_42_method_155_code (2 : Nat) (Option.none : Option Jvm.ClassFile.FieldType), Jvm.Cond.code ({ cls := "jdk/internal/util/Preconditions", name := "checkIndex", desc := "(IILjava/util/function/BiFunction;)I" } : Jvm.MethodName) jdk_41_method_11_code (3 : Nat) (Option.some Jvm.ClassFile.FieldType.int)]
set_option maxRecDepth 65536 in
theorem codes_eq : words1.filter isCode = codes1 := rfl
theorem w_codes : ∀ c ∈ words1.filter isCode, c.before args0 about1 = true := by
  rw [codes_eq]
  intro c hc
  simp only [codes1, List.mem_cons, List.not_mem_nil, or_false] at hc
  rcases hc with rfl | rfl | rfl | rfl | rfl | rfl | rfl | rfl | rfl | rfl | rfl | rfl | rfl | rfl | rfl | rfl | rfl | rfl | rfl | rfl | rfl | rfl | rfl | rfl | rfl | rfl | rfl | rfl | rfl
  · exact w_c0
  · exact w_c1
  · exact w_c2
  · exact w_c3
  · exact w_c4
  · exact w_c5
  · exact w_c6
  · exact w_c7
  · exact w_c8
  · exact w_c9
  · exact w_c10
  · exact w_c11
  · exact w_c12
  · exact w_c13
  · exact w_c14
  · exact w_c15
  · exact w_c16
  · exact w_c17
  · exact w_c18
  · exact w_c19
  · exact w_c20
  · exact w_c21
  · exact w_c22
  · exact w_c23
  · exact w_c24
  · exact w_c25
  · exact w_c26
  · exact w_c27
  · exact w_c28
set_option maxRecDepth 65536 in
theorem w_t1 : (words1.take 24).all (fun c => isCode c || c.before args0 about1) = true := by decide +kernel
set_option maxRecDepth 65536 in
theorem w_t2 : ((words1.drop 24).take 24).all (fun c => isCode c || c.before args0 about1) = true := by decide +kernel
set_option maxRecDepth 65536 in
theorem w_t3 : (((words1.drop 24).drop 24).take 24).all (fun c => isCode c || c.before args0 about1) = true := by decide +kernel
set_option maxRecDepth 65536 in
theorem w_t4 : ((((words1.drop 24).drop 24).drop 24).take 24).all (fun c => isCode c || c.before args0 about1) = true := by decide +kernel
set_option maxRecDepth 65536 in
theorem w_t5 : (((((words1.drop 24).drop 24).drop 24).drop 24).take 24).all (fun c => isCode c || c.before args0 about1) = true := by decide +kernel
set_option maxRecDepth 65536 in
theorem w_t6 : ((((((words1.drop 24).drop 24).drop 24).drop 24).drop 24).take 24).all (fun c => isCode c || c.before args0 about1) = true := by decide +kernel
set_option maxRecDepth 65536 in
theorem w_t7 : (((((((words1.drop 24).drop 24).drop 24).drop 24).drop 24).drop 24).take 24).all (fun c => isCode c || c.before args0 about1) = true := by decide +kernel
set_option maxRecDepth 65536 in
theorem w_t8 : (((((((words1.drop 24).drop 24).drop 24).drop 24).drop 24).drop 24).drop 24).all (fun c => isCode c || c.before args0 about1) = true := by decide +kernel
theorem w_tables : (allAtoms (Jvm.Cond.code x code maxLocals ret :: tables_1)).before args0 about1 = true := by
  rw [allAtoms_all]
  show words1.all (fun c => c.before args0 about1) = true
  refine all_split ?_ w_codes
  rw [← List.take_append_drop 24 words1, List.all_append, w_t1, ← List.take_append_drop 24 (words1.drop 24), List.all_append, w_t2, ← List.take_append_drop 24 ((words1.drop 24).drop 24), List.all_append, w_t3, ← List.take_append_drop 24 (((words1.drop 24).drop 24).drop 24), List.all_append, w_t4, ← List.take_append_drop 24 ((((words1.drop 24).drop 24).drop 24).drop 24), List.all_append, w_t5, ← List.take_append_drop 24 (((((words1.drop 24).drop 24).drop 24).drop 24).drop 24), List.all_append, w_t6, ← List.take_append_drop 24 ((((((words1.drop 24).drop 24).drop 24).drop 24).drop 24).drop 24), List.all_append, w_t7, w_t8]
  rfl
set_option maxRecDepth 65536 in
theorem w_rest : rest_1_c.before args0 about1 = true := by decide +kernel
set_option maxRecDepth 65536 in
theorem w_case : (Jvm.Cond.and given_1 narrow_1).before args0 about1 = true := by decide +kernel
set_option maxRecDepth 65536 in
theorem w_consts : constsHeld consts_1 about1 := Jvm.Lit.constsHeldB_iff.mp (by decide +kernel)
theorem w_applies : (headSpec (Jvm.Cond.code x code maxLocals ret :: tables_1) room_1).applies x e0.platform about1 = true :=
  (Spec.applies_iff w_frames).mpr ⟨w_running, w_runnable, w_alone, w_named, w_hears, w_ripe, w_room, w_tables⟩
theorem atStart : AtStart classFile x code maxLocals ret World_1 tables_1 room_1 Calls_1 rest_1 Pre_1 launch0 p0 e0 about1 theMethod args0 below0 :=
  ⟨lists_1, trivial, launch0.admits_env _ _ _, launch0.least_env, fairChoices_fair.cas, fairChoices_fair.clock, w_frames, w_args, w_heap, w_applies, ⟨w_consts, trivial⟩, w_rest, w_case⟩
end start1
theorem witness_1 : WitnessClaimed_1 := ⟨start1.p0, start1.e0, start1.about1, start1.theMethod, start1.args0, start1.below0, start1.atStart⟩
end Jvm.Pilot.@@N@@
